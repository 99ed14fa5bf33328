import Derived.Test.YbulkedvmDoorW3
import Derived.Shelf.Bin.BEUint64
import Derived.Sort.Grow
namespace Go.Proofs.YbulkedvmDoor
open Go Go.RowKit Go.Lib
set_option maxRecDepth 100000

/-- THE WORLD HAS DRAWN AND LAID BLOCKS, NO MORE. -/
def Gr (w w' : World) : Prop := ∃ q os, w' = Sort.grow (w.drewN q) os

set_option maxHeartbeats 2000000 in
theorem be64 (g o n c : Nat) (b0 b1 b2 b3 b4 b5 b6 b7 : UInt8) (w : World) (hn : 8 ≤ n)
    (c0 : w.cell? ⟨g, o, none⟩ = some (.int .u8 b0.toNat)) (c1 : w.cell? ⟨g, o + 1, none⟩ = some (.int .u8 b1.toNat)) (c2 : w.cell? ⟨g, o + 2, none⟩ = some (.int .u8 b2.toNat)) (c3 : w.cell? ⟨g, o + 3, none⟩ = some (.int .u8 b3.toNat)) (c4 : w.cell? ⟨g, o + 4, none⟩ = some (.int .u8 b4.toNat)) (c5 : w.cell? ⟨g, o + 5, none⟩ = some (.int .u8 b5.toNat)) (c6 : w.cell? ⟨g, o + 6, none⟩ = some (.int .u8 b6.toNat)) (c7 : w.cell? ⟨g, o + 7, none⟩ = some (.int .u8 b7.toNat)) :
    Calls Ybad.prog 19 #[.agg #[], .slice (some ⟨g, o, none⟩) n c] w fun e w' => e = .returned (.int .u64 (Lib.beNat [b0, b1, b2, b3, b4, b5, b6, b7])) ∧ ∃ q, w' = (w.alloc (.cells #[] 57)).drewN q := by
  have d0 := cell?_alloc_old (.cells #[] 57) c0
  have h0 : b0.toNat < 256 := b0.toNat_lt
  have d1 := cell?_alloc_old (.cells #[] 57) c1
  have h1 : b1.toNat < 256 := b1.toNat_lt
  have d2 := cell?_alloc_old (.cells #[] 57) c2
  have h2 : b2.toNat < 256 := b2.toNat_lt
  have d3 := cell?_alloc_old (.cells #[] 57) c3
  have h3 : b3.toNat < 256 := b3.toNat_lt
  have d4 := cell?_alloc_old (.cells #[] 57) c4
  have h4 : b4.toNat < 256 := b4.toNat_lt
  have d5 := cell?_alloc_old (.cells #[] 57) c5
  have h5 : b5.toNat < 256 := b5.toNat_lt
  have d6 := cell?_alloc_old (.cells #[] 57) c6
  have h6 : b6.toNat < 256 := b6.toNat_lt
  have d7 := cell?_alloc_old (.cells #[] 57) c7
  have h7 : b7.toNat < 256 := b7.toNat_lt
  have hv : ((Lib.beNat [b0, b1, b2, b3, b4, b5, b6, b7] : Nat) : Int) = (b7.toNat : Int) + (b6.toNat : Int) * 256 + (b5.toNat : Int) * 65536 + (b4.toNat : Int) * 16777216 + (b3.toNat : Int) * 4294967296 + (b2.toNat : Int) * 1099511627776 + (b1.toNat : Int) * 281474976710656 + (b0.toNat : Int) * 72057594037927936 := by
    simp only [Lib.beNat, Lib.beFrom]
    push_cast
    omega
  have q0 : 0 < n := by omega
  have q1 : (1 : Int) < (n : Int) := by omega
  have q2 : (2 : Int) < (n : Int) := by omega
  have q3 : (3 : Int) < (n : Int) := by omega
  have q4 : (4 : Int) < (n : Int) := by omega
  have q5 : (5 : Int) < (n : Int) := by omega
  have q6 : (6 : Int) < (n : Int) := by omega
  have q7 : (7 : Int) < (n : Int) := by omega
  have mixed : Ybad.prog.follows Departure.mixedOrders = true := by kernel_rfl
  go_enter Ybad.func19, Ybad.ntmps19
  go_wp2
  go_quiet_o (fail)
  go_wp2
  go_ret
  refine ⟨?_, _, rfl⟩
  simp (disch := omega) only [u64_wrap_id, u64_or8, u64_or16, u64_or24, u64_or32, u64_or40, u64_or48, u64_or56]
  rw [hv]
  rfl

def cmp3 (x y : Nat) : Int := if x < y then -1 else if y < x then 1 else 0

theorem cmp64 (x y : Nat) (w : World) : Calls Ybad.prog 20 #[.int .u64 x, .int .u64 y] w fun e w' => e = .returned (.int .i64 (cmp3 x y)) ∧ w' = w := by
  unfold cmp3
  by_cases h1 : x < y
  · rw [if_pos h1]
    go_enter Ybad.func20, Ybad.ntmps20
    go_wp2
    go_ret
    exact ⟨rfl, rfl⟩
  · rw [if_neg h1]
    by_cases h2 : y < x
    · rw [if_pos h2]
      go_enter Ybad.func20, Ybad.ntmps20
      go_wp2
      go_ret
      exact ⟨rfl, rfl⟩
    · rw [if_neg h2]
      go_enter Ybad.func20, Ybad.ntmps20
      go_wp2
      go_ret
      exact ⟨rfl, rfl⟩

theorem Gr.refl (w : World) : Gr w w := ⟨0, #[], by rw [Sort.grow_empty]; rfl⟩
theorem grow_drewN (w : World) (os : Array Obj) (q : Nat) : (Sort.grow w os).drewN q = Sort.grow (w.drewN q) os := rfl
theorem Gr.trans {w w1 w2 : World} (h : Gr w w1) (k : Gr w1 w2) : Gr w w2 := by
  obtain ⟨q, os, rfl⟩ := h
  obtain ⟨q', os', rfl⟩ := k
  exact ⟨q + q', os ++ os', by rw [grow_drewN, Sort.grow_grow, World.drewN_drewN]⟩
theorem Gr.alloc {w w1 : World} (h : Gr w w1) (o : Obj) : Gr w (w1.alloc o) :=
  h.trans ⟨0, #[o], by rw [Sort.alloc_eq_grow]; rfl⟩
theorem Gr.drewN {w w1 : World} (h : Gr w w1) (q : Nat) : Gr w (w1.drewN q) :=
  h.trans ⟨q, #[], by rw [Sort.grow_empty]⟩
theorem Gr.below {w w1 : World} (h : Gr w w1) : Below w.heap.size w w1 := by
  obtain ⟨q, os, rfl⟩ := h
  refine ⟨rfl, rfl, rfl, ?_, fun i hi => ?_⟩
  · show w.heap.size ≤ (w.heap ++ os).size
    simp
  · show (w.heap ++ os)[i]? = w.heap[i]?
    rw [Array.getElem?_append_left hi]
theorem Gr.cell {w w1 : World} (h : Gr w w1) {a : Addr} {x : Value} (hc : w.cell? a = some x) : w1.cell? a = some x :=
  (h.below.cell (World.block_lt_of_cell? _ _ hc)).trans hc
end Go.Proofs.YbulkedvmDoor
