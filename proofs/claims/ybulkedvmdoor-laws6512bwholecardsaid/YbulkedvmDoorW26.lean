import Derived.Test.YbulkedvmDoorW25
import Derived.Deep.DeepCutAuto
import Derived.Deep.CutBlock
import Derived.Shelf.SlSortCmp.QuietGrown
namespace Go.Proofs.YbulkedvmDoor
open Go Go.RowKit Go.Lib Go.Maps Go.Sort
set_option maxRecDepth 100000

set_option maxHeartbeats 1000000 in
theorem less_gr (a b : Key) (w : World) :
    Calls Ybad.prog 4 #[.agg a.cells.toArray, .agg b.cells.toArray] w fun e w' => e = .returned (.bool (decide (a.num < b.num))) ∧ Gr w w' := by
  go_enter Ybad.func4, Ybad.ntmps4
  go_wp2
  have hca : ∀ i, i < 16 → ((w.alloc (.cells a.cells.toArray 28)).alloc (.cells b.cells.toArray 28)).cell? ⟨w.heap.size, i, none⟩ = a.cells[i]? := by
    intro i hi
    rw [World.cell?_alloc_past _ _ _ (by simp), World.cell?_alloc_at _ _ _ _ rfl]
    simp
  have hcb : ∀ i, i < 16 → ((w.alloc (.cells a.cells.toArray 28)).alloc (.cells b.cells.toArray 28)).cell? ⟨w.heap.size + 1, i, none⟩ = b.cells[i]? := by
    intro i hi
    rw [World.cell?_alloc_at _ _ _ _ (by simp)]
    simp
  have hbel : Gr w ((w.alloc (.cells a.cells.toArray 28)).alloc (.cells b.cells.toArray 28)) := ((Gr.refl w).alloc _).alloc _
  revert hca hcb hbel
  generalize ((w.alloc (.cells a.cells.toArray 28)).alloc (.cells b.cells.toArray 28)) = W2
  intro hca hcb hbel
  go_loopw [5] (fun i W => ∃ (k nd : Nat), i = .int .i64 k ∧ k ≤ 16 ∧ Hid (a.1.take k = b.1.take k) ∧ Hid (W = W2.drewN nd)) (fun i _ => 16 - (intOf i).toNat)
  case atStart => exact ⟨0, 0, rfl, Nat.zero_le _, rfl, rfl⟩
  case round =>
    obtain ⟨k, nd, rfl, hk, HT, HW⟩ := hrel
    by_cases hlt : k < 16
    · have la : k < a.1.length := by rw [a.2]; exact hlt
      have lb : k < b.1.length := by rw [b.2]; exact hlt
      have ra : wr.cell? ⟨w.heap.size, k, none⟩ = some (.int .u8 (a.1[k].toNat : Nat)) := by
        rw [HW.out]; exact (hca k hlt).trans (a.cell k hlt)
      have rb : wr.cell? ⟨w.heap.size + 1, k, none⟩ = some (.int .u8 (b.1[k].toNat : Nat)) := by
        rw [HW.out]; exact (hcb k hlt).trans (b.cell k hlt)
      have HX : Hid (∃ X Y : Nat, X = a.1[k].toNat ∧ Y = b.1[k].toNat) := ⟨_, _, rfl, rfl⟩
      obtain ⟨X, Y, hX, hY⟩ := HX.out
      rw [← hX] at ra
      rw [← hY] at rb
      have HX1 := hide hX
      have HY1 := hide hY
      clear hX hY HX
      by_cases hxy : X = Y
      · subst hxy
        go_wp2
        go_quiet (fail)
        go_wp2
        go_roundw
        case rel =>
          refine ⟨k + 1, _, by go_num, by omega, ?_, (by rw [HW.out, World.drewN_drewN]; exact rfl)⟩
          exact take_succ_eq HT.out la lb (UInt8.toNat_inj.1 (HX1.out.symm.trans HY1.out))
        case measure => simp [intOf]; omega
      · have hxz : (X : Int) ≠ (Y : Int) := by omega
        go_wp2
        go_quiet (fail)
        go_wp2
        have ra' : (wr.drewN nq).cell? ⟨w.heap.size, k, none⟩ = some (.int .u8 X) := ra
        have rb' : (wr.drewN nq).cell? ⟨w.heap.size + 1, k, none⟩ = some (.int .u8 Y) := rb
        have HW' : Hid (wr.drewN nq = W2.drewN (nd + nq)) := by show wr.drewN nq = _; rw [HW.out, World.drewN_drewN]
        revert ra' rb' HW'
        generalize wr.drewN nq = W3
        intro ra' rb' HW'
        clear ra rb
        go_quiet (fail)
        go_wp2
        go_ret
        refine ⟨?_, ?_⟩
        · have e1 : decide (X < Y) = decide (a.num < b.num) := by
            apply decide_eq_decide.2
            constructor
            · intro h
              exact beNat_lt_at (by rw [a.2, b.2]) k la lb HT.out (by rw [← HX1.out, ← HY1.out]; omega)
            · intro h
              rcases Nat.lt_or_gt_of_ne hxy with h1 | h1
              · omega
              · have h2 : Lib.beNat b.1 < Lib.beNat a.1 := beNat_lt_at (by rw [a.2, b.2]) k lb la HT.out.symm (by rw [← HX1.out, ← HY1.out]; omega)
                have h3 : Lib.beNat a.1 < Lib.beNat b.1 := h
                omega
          show Ending.returned (.bool (decide (X < Y))) = _
          rw [e1]
        · rw [HW'.out]
          exact (hbel.drewN _).drewN _
    · go_wp2
      go_ret
      refine ⟨?_, by rw [HW.out]; exact hbel.drewN _⟩
      have e1 : a = b := Subtype.ext (by
        have := HT.out
        rw [List.take_of_length_le (by rw [a.2]; omega), List.take_of_length_le (by rw [b.2]; omega)] at this
        exact this)
      subst e1
      simp


theorem B2.drewN {w W : World} {mb k T : Nat} {p : KN} {ms ns : Value} {L : List KN} (h : B2 w W mb k T p ms ns L) (q : Nat) : B2 w (W.drewN q) mb k T p ms ns L :=
  ⟨h.bel.trans ⟨rfl, rfl, rfl, Nat.le_refl _, fun _ _ => rfl⟩, h.put.block rfl, h.kms, h.kns, h.box⟩

/-- Any copy: the same bytes in a row of its own; nil just where b is. -/
theorem copy_all (ab : Option Addr) (nb cb : Nat) (bs : List UInt8) (w : World) (h0 : ab = none → nb = 0 ∧ cb = 0) (hn : bs.length = nb) (hbig : nb ≤ 1048576) (hsrc : ∀ a, ab = some a → BytesAt w a bs) :
    Calls Ybad.prog 5 #[.slice ab nb cb] w fun e w' => ∃ (ao : Option Addr), e = .returned (.slice ao nb nb) ∧ w'.ownsRow w.heap.size 5 1 (.slice ao nb nb) nb (Lib.byteCells bs) ∧ Below w.heap.size w w' ∧ (ao = none ↔ ab = none) := by
  cases ab with
  | none =>
    obtain ⟨rfl, rfl⟩ := h0 rfl
    refine (copy_nil w).mono ?_
    rintro e w' ⟨rfl, rfl⟩
    have : bs = [] := List.length_eq_zero_iff.1 hn
    subst this
    exact ⟨none, rfl, World.ownsRow_nil _ _ _ _, Below.refl _ _, Iff.rfl⟩
  | some a =>
    refine (copy_any a nb cb bs w hn hbig (hsrc a rfl)).mono ?_
    rintro e w' ⟨rfl, h1, h2⟩
    exact ⟨_, rfl, h1, h2, by simp⟩

/-- A row of bytes, as the comparison wants it. -/
theorem row_bytes {w : World} {B n : Nat} {v : Value} {l : List UInt8} (h : w.ownsRow B 5 1 v n (Lib.byteCells l)) : ∃ ao c, v = .slice ao n c ∧ l.length = n ∧ ∀ i (hi : i < l.length), ∃ a, ao = some a ∧ w.cell? (a.add i) = some (.int .u8 (l[i].toNat : Nat)) := by
  have hl : l.length = n := by have := h.1; rw [byteCells_length] at this; omega
  rcases h.2 with ⟨rfl, h0⟩ | ⟨g, cap, cur, rfl, hB, hg, rest⟩
  · refine ⟨none, 0, ?_, hl, fun i hi => ?_⟩
    · rw [h0]
    · exfalso; omega
  · refine ⟨some ⟨g, 0, none⟩, cap, rfl, hl, fun i hi => ⟨_, rfl, ?_⟩⟩
    rw [Go.WideShapes.add_plain, Nat.zero_add, h.cellAt i (by omega)]
    simp [Lib.byteCells, hi]
end Go.Proofs.YbulkedvmDoor
