import Derived.Test.YbulkedvmDoorPlain
import Derived.WalkKit
import Derived.BigQuiet
import Derived.Lib.Slices
import Derived.OwnWalk
import Derived.WalkSpells
import Derived.WalkLawsBesides
namespace Go.Proofs.YbulkedvmDoor
open Go Go.RowKit
set_option maxRecDepth 100000

theorem Key.cell (k : Key) (i : Nat) (hi : i < 16) : k.cells[i]? = some (.int .u8 (k.1[i]'(by rw [k.2]; exact hi)).toNat) := by
  simp [Key.cells, Lib.byteCells, List.getElem?_eq_getElem (show i < k.1.length by rw [k.2]; exact hi)]

theorem take_succ_eq {a b : List UInt8} {i : Nat} (h : a.take i = b.take i) (ha : i < a.length) (hb : i < b.length) (hx : a[i] = b[i]) : a.take (i + 1) = b.take (i + 1) := by
  rw [List.take_add_one, List.take_add_one, h, List.getElem?_eq_getElem ha, List.getElem?_eq_getElem hb, hx]

set_option maxHeartbeats 1000000 in
theorem less_any (a b : Key) (w : World) :
    Calls Ybad.prog 4 #[.agg a.cells.toArray, .agg b.cells.toArray] w fun e w' => e = .returned (.bool (decide (a.num < b.num))) ∧ Below w.heap.size w w' := by
  go_enter Ybad.func4, Ybad.ntmps4
  go_wp2
  have hca : ∀ i, i < 16 → ((w.alloc (.cells a.cells.toArray 28)).alloc (.cells b.cells.toArray 28)).cell? ⟨w.heap.size, i, none⟩ = a.cells[i]? := by
    intro i hi
    rw [World.cell?_alloc_past _ _ _ (by simp), World.cell?_alloc_at _ _ _ _ rfl]
    simp
  have hcb : ∀ i, i < 16 → ((w.alloc (.cells a.cells.toArray 28)).alloc (.cells b.cells.toArray 28)).cell? ⟨w.heap.size + 1, i, none⟩ = b.cells[i]? := by
    intro i hi
    rw [World.cell?_alloc_at _ _ _ _ (by simp)]
    simp
  have hbel : Below w.heap.size w ((w.alloc (.cells a.cells.toArray 28)).alloc (.cells b.cells.toArray 28)) := ((Below.refl _ _).alloc (Nat.le_refl _) _).alloc (by simp) _
  revert hca hcb hbel
  generalize ((w.alloc (.cells a.cells.toArray 28)).alloc (.cells b.cells.toArray 28)) = W2
  intro hca hcb hbel
  go_loopw [5] (fun i W => ∃ (k nd : Nat), i = .int .i64 k ∧ k ≤ 16 ∧ Hid (a.1.take k = b.1.take k) ∧ Hid (W = W2.drewN nd)) (fun i _ => 16 - (intOf i).toNat)
  case atStart => exact ⟨0, 0, rfl, Nat.zero_le _, rfl, rfl⟩
  case round =>
    obtain ⟨k, nd, rfl, hk, HT, HW⟩ := hrel
    by_cases hlt : k < 16
    · have la : k < a.1.length := by rw [a.2]; exact hlt
      have lb : k < b.1.length := by rw [b.2]; exact hlt
      have ra : wr.cell? ⟨w.heap.size, k, none⟩ = some (.int .u8 (a.1[k].toNat : Nat)) := by
        rw [HW.out]; exact (hca k hlt).trans (a.cell k hlt)
      have rb : wr.cell? ⟨w.heap.size + 1, k, none⟩ = some (.int .u8 (b.1[k].toNat : Nat)) := by
        rw [HW.out]; exact (hcb k hlt).trans (b.cell k hlt)
      have HX : Hid (∃ X Y : Nat, X = a.1[k].toNat ∧ Y = b.1[k].toNat) := ⟨_, _, rfl, rfl⟩
      obtain ⟨X, Y, hX, hY⟩ := HX.out
      rw [← hX] at ra
      rw [← hY] at rb
      have HX1 := hide hX
      have HY1 := hide hY
      clear hX hY HX
      by_cases hxy : X = Y
      · subst hxy
        go_wp2
        go_quiet (fail)
        go_wp2
        go_roundw
        case rel =>
          refine ⟨k + 1, _, by go_num, by omega, ?_, (by rw [HW.out, World.drewN_drewN]; exact rfl)⟩
          exact take_succ_eq HT.out la lb (UInt8.toNat_inj.1 (HX1.out.symm.trans HY1.out))
        case measure => simp [intOf]; omega
      · have hxz : (X : Int) ≠ (Y : Int) := by omega
        go_wp2
        go_quiet (fail)
        go_wp2
        have ra' : (wr.drewN nq).cell? ⟨w.heap.size, k, none⟩ = some (.int .u8 X) := ra
        have rb' : (wr.drewN nq).cell? ⟨w.heap.size + 1, k, none⟩ = some (.int .u8 Y) := rb
        have HW' : Hid (wr.drewN nq = W2.drewN (nd + nq)) := by show wr.drewN nq = _; rw [HW.out, World.drewN_drewN]
        revert ra' rb' HW'
        generalize wr.drewN nq = W3
        intro ra' rb' HW'
        clear ra rb
        go_quiet (fail)
        go_wp2
        go_ret
        refine ⟨?_, ?_⟩
        · have e1 : decide (X < Y) = decide (a.num < b.num) := by
            apply decide_eq_decide.2
            constructor
            · intro h
              exact beNat_lt_at (by rw [a.2, b.2]) k la lb HT.out (by rw [← HX1.out, ← HY1.out]; omega)
            · intro h
              rcases Nat.lt_or_gt_of_ne hxy with h1 | h1
              · omega
              · have h2 : Lib.beNat b.1 < Lib.beNat a.1 := beNat_lt_at (by rw [a.2, b.2]) k lb la HT.out.symm (by rw [← HX1.out, ← HY1.out]; omega)
                have h3 : Lib.beNat a.1 < Lib.beNat b.1 := h
                omega
          show Ending.returned (.bool (decide (X < Y))) = _
          rw [e1]
        · rw [HW'.out]
          exact hbel.trans ⟨rfl, rfl, rfl, Nat.le_refl _, fun _ _ => rfl⟩
    · go_wp2
      go_ret
      refine ⟨?_, by rw [HW.out]; exact hbel.trans ⟨rfl, rfl, rfl, Nat.le_refl _, fun _ _ => rfl⟩⟩
      have e1 : a = b := Subtype.ext (by
        have := HT.out
        rw [List.take_of_length_le (by rw [a.2]; omega), List.take_of_length_le (by rw [b.2]; omega)] at this
        exact this)
      subst e1
      simp

set_option maxHeartbeats 1000000 in
/-- Two byte slices that hold the same bytes: true. -/
theorem eq_any (l : List UInt8) (L : Nat) (aa ab : Option Addr) (ca cb : Nat) (w : World) (hL : l.length = L) (hbig : L < 1099511627776)
    (ha : ∀ i (hi : i < l.length), ∃ a, aa = some a ∧ w.cell? (a.add i) = some (.int .u8 (l[i].toNat : Nat)))
    (hb : ∀ i (hi : i < l.length), ∃ a, ab = some a ∧ w.cell? (a.add i) = some (.int .u8 (l[i].toNat : Nat))) :
    Calls Ybad.prog 9 #[.slice aa L ca, .slice ab L cb] w fun e w' => e = .returned (.bool true) ∧ ∃ q, w' = w.drewN q := by
  have HL := hide hL
  clear hL
  go_enter Ybad.func9, Ybad.ntmps9
  go_wp2
  go_loopw [5] (fun i W => ∃ (k nd : Nat), i = .int .i64 k ∧ k ≤ L ∧ Hid (W = w.drewN nd)) (fun i _ => L - (intOf i).toNat)
  case atStart => exact ⟨0, 0, rfl, Nat.zero_le _, rfl⟩
  case round =>
    obtain ⟨k, nd, rfl, hk, HW⟩ := hrel
    by_cases hlt : k < L
    · have hk' : k < l.length := by rw [HL.out]; exact hlt
      obtain ⟨a1, rfl, ra0⟩ := ha k hk'
      obtain ⟨b1, rfl, rb0⟩ := hb k hk'
      have ra : wr.cell? (a1.add k) = some (.int .u8 (l[k].toNat : Nat)) := by rw [HW.out]; exact ra0
      have rb : wr.cell? (b1.add k) = some (.int .u8 (l[k].toNat : Nat)) := by rw [HW.out]; exact rb0
      clear ra0 rb0 ha hb
      go_wp2
      go_quiet (fail)
      go_wp2
      go_roundw
      case rel => exact ⟨k + 1, _, by go_num, by omega, (by rw [HW.out, World.drewN_drewN]; exact rfl)⟩
      case measure => simp [intOf]; omega
    · go_wp2
      go_ret
      exact ⟨rfl, _, HW.out⟩

theorem Ybad.info5 : (Ybad.prog.info? 5).map (fun i => (i.zero, i.size, i.bytes)) = some (some (.int .u8 0), 1, 1) := by kernel_rfl
end Go.Proofs.YbulkedvmDoor
