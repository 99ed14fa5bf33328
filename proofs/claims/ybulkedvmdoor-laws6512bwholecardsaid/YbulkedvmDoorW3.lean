import Derived.Test.YbulkedvmDoorW2
import Derived.Deep.RegionHeldLaw
import Derived.Deep.AppendLies
namespace Go.Proofs.YbulkedvmDoor
open Go Go.RowKit
set_option maxRecDepth 100000
attribute [local go_sem ↓] Go.wp_at_zero Go.wp_at_succ

theorem encode_take_succ (k : Key) (i : Nat) (hi : i < 16) : Lib.Hx.encode (k.1.take (i + 1)) = Lib.Hx.encode (k.1.take i) ++ [Lib.Hx.digit ((k.1[i]'(by rw [k.2]; exact hi)).toNat / 16), Lib.Hx.digit ((k.1[i]'(by rw [k.2]; exact hi)).toNat % 16)] := by
  have e : k.1.take (i + 1) = k.1.take i ++ [k.1[i]'(by rw [k.2]; exact hi)] := by
    rw [List.take_add_one, List.getElem?_eq_getElem (by rw [k.2]; exact hi)]
    rfl
  rw [e, Lib.Hx.encode, List.flatMap_append]
  rfl

theorem and15 (X : Nat) (h : X < 256) : bits .and .u8 (X : Int) 15 = (X : Int) % 16 := bits_mask .u8 8 (by decide) wraps_u8 4 (by decide) X (by omega) (by omega)
theorem ixDig : ∀ q : Fin 16, (Lib.Hx.digit q.1).toNat = (Lib.Hx.tab[q.1]'(q.2)).toNat := by decide
theorem ixTab (q : Nat) (hq : q < 16) (wz : World) : (Instr.index 9 (.string Lib.Hx.tab) (.int .u8 (q : Int))).run Ybad.prog wz = .ok (.int .u8 ((Lib.Hx.digit q).toNat : Nat)) wz := by
  rw [run_index_string wz 9 Lib.Hx.tab .u8 q Ybad.underlying9, dif_pos ⟨by omega, by show (q : Int) < 16; omega⟩, ixDig ⟨q, hq⟩]
  rfl

theorem encode_len (l : List UInt8) : (Lib.Hx.encode l).length = 2 * l.length := by
  induction l with
  | nil => rfl
  | cons a t ih => rw [Lib.Hx.encode_cons]; simp [ih]; omega

theorem Kp.drew {B : Nat} {w w1 : World} (h : Kp B w w1) : Kp B w w1.drew := ⟨h.below.drew, h.others.drew⟩
theorem kp_append_drew {B n : Nat} {wr w1 : World} {u : Value} {xs : List Value} {o : Obj} (hown : wr.ownsRow B 5 1 u n xs) (hB : B ≤ wr.heap.size) (hg : (wr.alloc o).drew.grownBy w1 u.ownBlock) : Kp B wr w1 :=
  ⟨(((Below.refl B wr).alloc hB o).drew).grown hg (by show B ≤ (wr.alloc o).heap.size; simp; omega) (fun k hk => (hown.lt k hk).1), (((Lib.OthersKept.refl 5 none wr).alloc o).drew).grown hg (Lib.ownsRow_kind (hown.alloc o))⟩

theorem news2 (w : World) (a b : Value) (j : Nat) (u : Value) (hj : [a, b][j]? = some u) : (w.alloc (.cells #[a, b] 5)).cell? ((⟨w.heap.size, 0, none⟩ : Addr).add j) = some u := by
  rw [Go.WideShapes.add_plain, Nat.zero_add, World.cell?_alloc_at _ _ _ _ rfl]
  simpa using hj
theorem one2 (a b : Nat) (u : Value) (hu : u ∈ [Value.int .u8 (a : Int), Value.int .u8 (b : Int)]) : u.oneCell' = true := by
  simp at hu
  rcases hu with rfl | rfl <;> rfl

set_option maxHeartbeats 1000000 in
theorem hex_any (B n : Nat) (m : Key) (sv : Value) (xs : List Value) (w : World) (hown : w.ownsRow B 5 1 sv n xs) (hBw : B ≤ w.heap.size) (hlim : n + 40 ≤ 140737488355328) :
    Calls Ybad.prog 7 #[sv, .agg m.cells.toArray] w fun e w' => ∃ v', e = .returned v' ∧ w'.ownsRow B 5 1 v' (n + 32) (xs ++ Lib.byteCells (Lib.Hx.encode m.1)) ∧ Kp B w w' := by
  obtain ⟨i0, hi, hz0, hz1, hz2⟩ := info_parts Ybad.info5
  go_enter Ybad.func7, Ybad.ntmps7
  go_wp2
  go_loopw [0, 5] (fun vb vi W => ∃ (i : Nat), vi = .int .i64 i ∧ i ≤ 16 ∧ W.ownsRow B 5 1 vb (n + 2 * i) (xs ++ Lib.byteCells (Lib.Hx.encode (m.1.take i))) ∧ Kp B w W ∧ W.heap[w.heap.size]? = some (.cells m.cells.toArray 28)) (fun _ vi _ => 16 - (intOf vi).toNat)
  case atStart => exact ⟨0, rfl, Nat.zero_le _, by simpa [Lib.Hx.encode, Lib.byteCells] using hown.alloc _, (Kp.refl _ _).alloc hBw _, heap_alloc_new w _⟩
  case round =>
    obtain ⟨i, rfl, hi16, hown1, hkp, hc⟩ := hrel
    by_cases hlt : i < 16
    · have rc : wr.cell? ⟨w.heap.size, i, none⟩ = some (.int .u8 ((m.1[i]'(by rw [m.2]; exact hlt)).toNat : Nat)) := by
        have : wr.cell? ⟨w.heap.size, i, none⟩ = m.cells[i]? := by simp [World.cell?, hc]
        rw [this]
        exact m.cell i hlt
      have hne : u0.ownBlock ≠ some w.heap.size := by
        intro e
        obtain ⟨c, fz, hk⟩ := Lib.ownsRow_kind hown1 _ e
        rw [hc] at hk
        simp at hk
      have hX : (m.1[i]'(by rw [m.2]; exact hlt)).toNat < 256 := UInt8.toNat_lt _
      have HXX : Hid ((m.1[i]'(by rw [m.2]; exact hlt)).toNat = (m.1[i]'(by rw [m.2]; exact hlt)).toNat) := rfl
      revert rc hX HXX
      generalize hgX : (m.1[i]'(by rw [m.2]; exact hlt)).toNat = X
      intro rc hX _
      have HXX : Hid (X = (m.1[i]'(by rw [m.2]; exact hlt)).toNat) := hgX.symm
      clear hgX
      obtain ⟨D1, hD1⟩ : ∃ D1 : Nat, D1 = (Lib.Hx.digit (X / 16)).toNat := ⟨_, rfl⟩
      obtain ⟨D2, hD2⟩ : ∃ D2 : Nat, D2 = (Lib.Hx.digit (X % 16)).toNat := ⟨_, rfl⟩
      have hi1 : ∀ wz : World, (Instr.index 9 (.string ⟨#[48, 49, 50, 51, 52, 53, 54, 55, 56, 57, 97, 98, 99, 100, 101, 102]⟩) (.int .u8 ((X : Int) / 16))).run Ybad.prog wz = .ok (.int .u8 (D1 : Nat)) wz := by
        rw [hD1]; exact ixTab (X / 16) (by omega)
      have hi2 : ∀ wz : World, (Instr.index 9 (.string ⟨#[48, 49, 50, 51, 52, 53, 54, 55, 56, 57, 97, 98, 99, 100, 101, 102]⟩) (.int .u8 ((X : Int) % 16))).run Ybad.prog wz = .ok (.int .u8 (D2 : Nat)) wz := by
        rw [hD2]; exact ixTab (X % 16) (by omega)
      have hand := and15 X hX
      have HD1 := hide hD1
      have HD2 := hide hD2
      clear hD1 hD2
      have hsz := hkp.below.size
      go_wp2
      go_region_held_law (fun w' => w'.cell? ⟨w.heap.size, i, none⟩ = some (.int .u8 X)) (first | exact rc | exact cell_al rc _ | exact hgrow.cell (cell_al rc _) (fun e => hne e.symm) | go_keep)
        ((refine step_append_lies _ rfl (.tmp 10) (.tmp 21) 23 rfl B 5 i0 (.int .u8 0) 1 1 Ybad.underlying23 hi hz0 hz1 hz2 rfl (by decide) u0 (n + 2 * i) _ (by simp [Act.eval]) (hown1.alloc _) ⟨wr.heap.size, 0, none⟩ 2 2 [.int .u8 (D1 : Nat), .int .u8 (D2 : Nat)] (by simp [Act.eval]) rfl (news2 _ _ _) (one2 _ _) (by decide) (by unfold maxLen; omega) (by omega) (by show B ≤ (wr.alloc _).heap.size; simp; omega) (wr.heap.size + 1) (by show (wr.alloc _).heap.size = _; simp) ?_; intro g cap w1 hown' hgrow hat hlt1))
      all_goals
        have hkp1 : Kp B wr w1 := kp_append_drew hown1 (by omega) hgrow
        have hblk : w1.heap[w.heap.size]? = some (.cells m.cells.toArray 28) := hkp1.others _ _ hc (by simp) (by simp)
        have HB := hide hblk
        clear hat hgrow hblk
        go_wp2
        go_roundw
        case rel =>
          refine ⟨i + 1, by go_num, by omega, ?_, hkp.trans hkp1, HB.out⟩
          have e1 : xs ++ Lib.byteCells (Lib.Hx.encode (m.1.take (i + 1))) = xs ++ Lib.byteCells (Lib.Hx.encode (m.1.take i)) ++ [.int .u8 (D1 : Nat), .int .u8 (D2 : Nat)] := by
            rw [encode_take_succ m i hlt, ← HXX.out, HD1.out, HD2.out]
            simp [Lib.byteCells]
          rw [e1]
          exact hown'
        case measure => simp [intOf]; omega
    · go_wp2
      go_ret
      have e16 : i = 16 := by omega
      subst e16
      refine ⟨u0, rfl, ?_, hkp⟩
      rw [List.take_of_length_le (by rw [m.2]; omega)] at hown1
      exact hown1
end Go.Proofs.YbulkedvmDoor
