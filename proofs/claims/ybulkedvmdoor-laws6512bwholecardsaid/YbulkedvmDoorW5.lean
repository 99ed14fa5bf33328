import Derived.Test.YbulkedvmDoorW4
import Derived.Shelf.SlSortCmp.QuietGrown
namespace Go.Proofs.YbulkedvmDoor
open Go Go.RowKit Go.Lib Go.Sort
set_option maxRecDepth 100000

theorem len32 : Ybad.prog.arrayLen 32 = 16 := by kernel_rfl
theorem el32 (W : World) : (sizeOf (Ybad.prog.elem 32)).run Ybad.prog W = .ok 1 W := by kernel_rfl
theorem slice32h (T : Nat) (W : World) : (Instr.sliceAt 32 (.pointer (some ⟨T, 0, none⟩)) none (some (.int .i64 8)) none).run Ybad.prog W = .ok (.slice (some ⟨T, 0, none⟩) 8 16) W := by
  rw [run_sliceAt_array_h (P := Ybad.prog) W 32 ⟨T, 0, none⟩ (by kernel_rfl) .i64 8 (by omega) (by rw [len32]; omega), len32, el32]
  rfl
theorem slice32l (T : Nat) (W : World) : (Instr.sliceAt 32 (.pointer (some ⟨T, 0, none⟩)) (some (.int .i64 8)) none none).run Ybad.prog W = .ok (.slice (some ⟨T, 8, none⟩) 8 8) W := by
  rw [run_sliceAt_array_l (P := Ybad.prog) W 32 ⟨T, 0, none⟩ (by kernel_rfl) .i64 8 (by omega) (by rw [len32]; omega), len32, el32]
  rfl
theorem slice32a (T : Nat) (W : World) : (Instr.sliceAt 32 (.pointer (some ⟨T, 0, none⟩)) none none none).run Ybad.prog W = .ok (.slice (some ⟨T, 0, none⟩) 16 16) W := by
  rw [run_sliceAt_array_all (P := Ybad.prog) W 32 ⟨T, 0, none⟩ (by kernel_rfl), len32, el32]
  rfl

theorem take8 (l : List UInt8) (h : 8 ≤ l.length) : ∃ b0 b1 b2 b3 b4 b5 b6 b7 r, l = b0 :: b1 :: b2 :: b3 :: b4 :: b5 :: b6 :: b7 :: r := by
  match l, h with
  | b0 :: b1 :: b2 :: b3 :: b4 :: b5 :: b6 :: b7 :: r, _ => exact ⟨_, _, _, _, _, _, _, _, _, rfl⟩

/-- binary.BigEndian.Uint64 at eight bytes that lie in a row. -/
theorem be_at (l : List UInt8) (g o n c : Nat) (W : World) (hn : 8 ≤ n) (hl : 8 ≤ l.length) (hc : ∀ i, i < 8 → W.cell? ⟨g, o + i, none⟩ = (Lib.byteCells l)[i]?) :
    Calls Ybad.prog 19 #[.agg #[], .slice (some ⟨g, o, none⟩) n c] W fun e w' => e = .returned (.int .u64 (Lib.beNat (l.take 8))) ∧ ∃ q os, w' = grow (W.drewN q) os := by
  obtain ⟨b0, b1, b2, b3, b4, b5, b6, b7, r, rfl⟩ := take8 l hl
  refine (be64 g o n c b0 b1 b2 b3 b4 b5 b6 b7 W hn (hc 0 (by omega)) (hc 1 (by omega)) (hc 2 (by omega)) (hc 3 (by omega)) (hc 4 (by omega)) (hc 5 (by omega)) (hc 6 (by omega)) (hc 7 (by omega))).mono ?_
  rintro e w' ⟨he, q, rfl⟩
  exact ⟨he, q, #[.cells #[] 57], by rw [alloc_eq_grow]; rfl⟩

theorem num_split (k : Key) : k.num = Lib.beNat (k.1.take 8) * 18446744073709551616 + Lib.beNat ((k.1.drop 8).take 8) := by
  have h2 : (k.1.drop 8).take 8 = k.1.drop 8 := List.take_of_length_le (by rw [List.length_drop, k.2]; omega)
  have h3 : k.1 = k.1.take 8 ++ k.1.drop 8 := by simp
  have h4 : (k.1.drop 8).length = 8 := by rw [List.length_drop, k.2]
  rw [h2]
  show Lib.beNat k.1 = _
  conv => lhs; rw [h3]
  rw [beNat_append, h4]

theorem low_lt (k : Key) : Lib.beNat ((k.1.drop 8).take 8) < 18446744073709551616 := by
  have h := beNat_lt ((k.1.drop 8).take 8)
  have h4 : ((k.1.drop 8).take 8).length = 8 := by rw [List.length_take, List.length_drop, k.2]; rfl
  rw [h4] at h
  exact h

theorem cmp3_split (a b : Key) : cmp3 a.num b.num = if Lib.beNat (a.1.take 8) ≠ Lib.beNat (b.1.take 8) then cmp3 (Lib.beNat (a.1.take 8)) (Lib.beNat (b.1.take 8)) else cmp3 (Lib.beNat ((a.1.drop 8).take 8)) (Lib.beNat ((b.1.drop 8).take 8)) := by
  rw [num_split a, num_split b]
  have h1 := low_lt a
  have h2 := low_lt b
  generalize Lib.beNat (a.1.take 8) = x
  generalize Lib.beNat (b.1.take 8) = y
  generalize Lib.beNat ((a.1.drop 8).take 8) = x' at h1 ⊢
  generalize Lib.beNat ((b.1.drop 8).take 8) = y' at h2 ⊢
  unfold cmp3
  split <;> split <;> (try split) <;> (try split) <;> (try split) <;> omega

/-- The key k lies in block T of W and of every world that has only grown from it: its first and its last eight bytes, read as a number. -/
theorem be_grown (k : Key) (T : Nat) (W : World) (hc : ∀ i, i < 16 → W.cell? ⟨T, i, none⟩ = k.cells[i]?) :
    (∀ (n : Nat) (os : Array Obj), Calls Ybad.prog 19 #[.agg #[], .slice (some ⟨T, 0, none⟩) 8 16] (grow (W.drewN n) os) fun e w'' => e = .returned (.int .u64 (Lib.beNat (k.1.take 8) : Nat)) ∧ ∃ p : GrownBy, w'' = grow (W.drewN p.n) p.os) ∧
    (∀ (n : Nat) (os : Array Obj), Calls Ybad.prog 19 #[.agg #[], .slice (some ⟨T, 8, none⟩) 8 8] (grow (W.drewN n) os) fun e w'' => e = .returned (.int .u64 (Lib.beNat ((k.1.drop 8).take 8) : Nat)) ∧ ∃ p : GrownBy, w'' = grow (W.drewN p.n) p.os) := by
  have hk : ∀ (n : Nat) (os : Array Obj) i, i < 16 → (grow (W.drewN n) os).cell? ⟨T, i, none⟩ = k.cells[i]? := by
    intro n os i hi
    have h1 := (hc i hi).trans (k.cell i hi)
    exact (Gr.cell ⟨n, os, rfl⟩ h1).trans (k.cell i hi).symm
  constructor
  · intro n os
    refine Calls.grown_of (be_at k.1 T 0 8 16 _ (Nat.le_refl _) (by rw [k.2]; omega) ?_)
    intro i hi
    rw [Nat.zero_add]
    exact hk n os i (by omega)
  · intro n os
    refine Calls.grown_of (be_at (k.1.drop 8) T 8 8 8 _ (Nat.le_refl _) (by rw [List.length_drop, k.2]; omega) ?_)
    intro i hi
    rw [hk n os (8 + i) (by omega)]
    simp [Key.cells, Lib.byteCells]

set_option maxHeartbeats 400000 in
theorem compare_any (a b : Key) (w : World) :
    Calls Ybad.prog 14 #[.agg a.cells.toArray, .agg b.cells.toArray] w fun e w' => e = .returned (.int .i64 (cmp3 a.num b.num)) ∧ ∃ q os, w' = grow (w.drewN q) os := by
  have mixed : Ybad.prog.follows Departure.mixedOrders = true := by kernel_rfl
  have sh := slice32h
  have sl := slice32l
  go_enter Ybad.func14, Ybad.ntmps14
  go_wp2
  have hca : ∀ i, i < 16 → ((w.alloc (.cells a.cells.toArray 32)).alloc (.cells b.cells.toArray 32)).cell? ⟨w.heap.size, i, none⟩ = a.cells[i]? := by
    intro i hi
    rw [World.cell?_alloc_past _ _ _ (by simp), World.cell?_alloc_at _ _ _ _ rfl]
    simp
  have hcb : ∀ i, i < 16 → ((w.alloc (.cells a.cells.toArray 32)).alloc (.cells b.cells.toArray 32)).cell? ⟨w.heap.size + 1, i, none⟩ = b.cells[i]? := by
    intro i hi
    rw [World.cell?_alloc_at _ _ _ _ (by simp)]
    simp
  have hgr : Gr w ((w.alloc (.cells a.cells.toArray 32)).alloc (.cells b.cells.toArray 32)) := ((Gr.refl w).alloc _).alloc _
  revert hca hcb hgr
  generalize ((w.alloc (.cells a.cells.toArray 32)).alloc (.cells b.cells.toArray 32)) = W2
  intro hca hcb hgr
  have ha1 := (be_grown a w.heap.size W2 hca).1
  have hb1 := (be_grown b (w.heap.size + 1) W2 hcb).1
  have HR : Hid (∀ q os, (∀ i, i < 16 → (grow (W2.drewN q) os).cell? ⟨w.heap.size, i, none⟩ = a.cells[i]?) ∧ (∀ i, i < 16 → (grow (W2.drewN q) os).cell? ⟨w.heap.size + 1, i, none⟩ = b.cells[i]?) ∧ Gr w (grow (W2.drewN q) os)) :=
    fun q os => ⟨fun i hi => (Gr.cell ⟨q, os, rfl⟩ ((hca i hi).trans (a.cell i hi))).trans (a.cell i hi).symm, fun i hi => (Gr.cell ⟨q, os, rfl⟩ ((hcb i hi).trans (b.cell i hi))).trans (b.cell i hi).symm, hgr.trans ⟨q, os, rfl⟩⟩
  have HE : Hid (cmp3 a.num b.num = if Lib.beNat (a.1.take 8) ≠ Lib.beNat (b.1.take 8) then cmp3 (Lib.beNat (a.1.take 8)) (Lib.beNat (b.1.take 8)) else cmp3 (Lib.beNat ((a.1.drop 8).take 8)) (Lib.beNat ((b.1.drop 8).take 8))) := cmp3_split a b
  revert ha1 hb1 HE
  generalize Lib.beNat (a.1.take 8) = x
  generalize Lib.beNat (b.1.take 8) = y
  intro ha1 hb1 HE
  clear hca hcb
  go_quiet_grown ((go_at_call 19; first | with_reducible exact ha1 _ _ | with_reducible exact hb1 _ _))
  obtain ⟨hca3, hcb3, hgr3⟩ := HR.out nq osq
  revert hca3 hcb3 hgr3
  show _ → _ → _ → Exit.then _ _ _ _ (grow (W2.drewN nq) osq)
  generalize grow (W2.drewN nq) osq = W3
  intro hca3 hcb3 hgr3
  clear ha1 hb1 HR hgr
  by_cases hxy : x = y
  · subst hxy
    have ha2 := (be_grown a w.heap.size W3 hca3).2
    have hb2 := (be_grown b (w.heap.size + 1) W3 hcb3).2
    have HE' : Hid (cmp3 a.num b.num = cmp3 (Lib.beNat ((a.1.drop 8).take 8)) (Lib.beNat ((b.1.drop 8).take 8))) := by
      have := HE.out
      rw [if_neg (by simp)] at this
      exact this
    clear HE hca3 hcb3
    revert ha2 hb2 HE'
    generalize Lib.beNat ((a.1.drop 8).take 8) = x'
    generalize Lib.beNat ((b.1.drop 8).take 8) = y'
    intro ha2 hb2 HE'
    have hcm : ∀ (n : Nat) (os : Array Obj), Calls Ybad.prog 20 #[.int .u64 x', .int .u64 y'] (grow (W3.drewN n) os) fun e w'' => e = .returned (.int .i64 (cmp3 x' y')) ∧ ∃ p : GrownBy, w'' = grow (W3.drewN p.n) p.os :=
      fun n os => (cmp64 x' y' _).mono fun e w' ⟨he, hw⟩ => ⟨he, ⟨n, os⟩, hw⟩
    rw [← HE'.out] at hcm
    go_wp2
    go_quiet_grown (first | (go_at_call 19; first | with_reducible exact ha2 _ _ | with_reducible exact hb2 _ _) | (go_at_call 20; with_reducible exact hcm _ _))
    go_wp2
    go_ret
    exact ⟨rfl, hgr3.trans ⟨_, _, rfl⟩⟩
  · have hxz : (x : Int) ≠ (y : Int) := by omega
    have HE' : Hid (cmp3 a.num b.num = cmp3 x y) := by
      have := HE.out
      rw [if_pos hxy] at this
      exact this
    have hcm := cmp64 x y W3
    rw [← HE'.out] at hcm
    clear HE
    go_wp2_with (go_at_call 20; refine hcm.mono ?_; rintro e w' ⟨rfl, rfl⟩)
    go_ret
    exact ⟨rfl, hgr3⟩
end Go.Proofs.YbulkedvmDoor
