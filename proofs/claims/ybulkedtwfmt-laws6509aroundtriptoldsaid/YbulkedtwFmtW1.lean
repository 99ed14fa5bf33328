import Derived.Test.YbulkedtwFmtRows
import Derived.Test.YbulkedtwFmtMem
import Derived.Test.YbulkedtwFmtShelf
import Derived.Lib.Walk
import Derived.Lib.Slices
import Derived.OwnWalk
import Derived.WalkSpells
import Derived.WalkLawsBesides
namespace Go.Proofs.YbulkedtwFmt
open Go Go.RowKit

theorem Ybaf.info5 : (Ybaf.prog.info? 5).map (fun i => (i.zero, i.size, i.bytes)) = some (some (.int .u8 0), 1, 1) := by kernel_rfl

set_option maxHeartbeats 1600000 in
set_option maxRecDepth 100000 in
theorem appendUvarint_any (B n x : Nat) (hx : x < 18446744073709551616) (sv : Value) (xs : List Value) (w : World) (hown : w.ownsRow B 5 1 sv n xs) (hBw : B ≤ w.heap.size) (hlim : n + 10 ≤ 140737488355328) :
    Calls Ybaf.prog 18 #[sv, .int .u64 x] w fun e w' => ∃ v', e = .returned v' ∧ w'.ownsRow B 5 1 v' (n + (Lib.uvarint x).length) (xs ++ Lib.byteCells (Lib.uvarint x)) ∧ Onl w w' sv v' := by
  obtain ⟨i0, hi, hz0, hz1, hz2⟩ := info_parts Ybaf.info5
  have hlen := Lib.uvarint_length64 hx
  go_enter Ybaf.func18, Ybaf.ntmps18
  go_wp2
  go_loopw [0, 1] (fun vb vx wr => ∃ (y : Nat) (pre : List UInt8), vx = .int .u64 y ∧ y ≤ x ∧ Lib.uvarint x = pre ++ Lib.uvarint y ∧ wr.ownsRow B 5 1 vb (n + pre.length) (xs ++ Lib.byteCells pre) ∧ Onl w wr sv vb)
    (fun _ vx _ => (intOf vx).toNat)
  case atStart => exact ⟨x, [], rfl, Nat.le_refl _, rfl, by simpa [Lib.byteCells] using hown, Onl.refl _ _⟩
  case round =>
    obtain ⟨y, pre, rfl, hy, hsplit, hown1, hnx⟩ := hrel
    have hpl : pre.length + (Lib.uvarint y).length ≤ 10 := by
      have h2 := congrArg List.length hsplit
      rw [List.length_append] at h2
      omega
    have hyp := Lib.uvarint_pos y
    have hsz := hnx.grown.size
    by_cases h128 : 128 ≤ y
    · have hor : bits .or .u8 ((y : Int) % 256) 128 = ((y % 128 + 128 : Nat) : Int) := by
        rw [Lib.u8_or128_any _ (by omega) (by omega)]
        omega
      go_wp2_with (at_builtin; refine wpList_append_own_at _ rfl _ _ 25 rfl B 5 i0 (.int .u8 0) 1 1 Ybaf.underlying25 hi hz0 hz1 hz2 rfl (by decide) _ _ _ rfl (hown1.alloc _) ⟨wr.heap.size, 0, none⟩ 1 1 [Value.int .u8 ((y % 128 + 128 : Nat) : Int)] rfl rfl ?c1 ?c2 ?c3 ?c4 ?c5 ?_)
      case c1 =>
        intro j u hj
        match j, hj with
        | 0, hj => simp at hj; subst hj; simp [Addr.add]
      case c2 => intro u hu; simp at hu; subst hu; rfl
      case c3 => unfold maxLen; omega
      case c4 => omega
      case c5 => simp; omega
      intro v' w1 hown' hgrow _ hat
      have hnx1 : Onl w w1 sv v' := hnx.trans (Onl.of_append1 hgrow hat)
      clear hat hgrow
      go_wp2
      go_roundw
      case rel =>
        refine ⟨y / 128, pre ++ [(y % 128 + 128).toUInt8], by go_num, by omega, by rw [hsplit, Lib.uvarint_big h128]; simp, ?_, hnx1⟩
        have ec : ((y % 128 + 128 : Nat) : Int) = (y : Int) % 128 + 128 := by omega
        rw [Lib.byteCells_snoc pre (by omega), List.length_append, List.length_singleton, ← Nat.add_assoc, ec]
        exact hown'
      case measure => simp [intOf]; omega
    · have hsm : Lib.uvarint y = [y.toUInt8] := Lib.uvarint_small (by omega)
      go_wp2_with (at_builtin; refine wpList_append_own_at _ rfl _ _ 25 rfl B 5 i0 (.int .u8 0) 1 1 Ybaf.underlying25 hi hz0 hz1 hz2 rfl (by decide) _ _ _ rfl (hown1.alloc _) ⟨wr.heap.size, 0, none⟩ 1 1 [Value.int .u8 (y : Int)] rfl rfl ?c1 ?c2 ?c3 ?c4 ?c5 ?_)
      case c1 =>
        intro j u hj
        match j, hj with
        | 0, hj => simp at hj; subst hj; simp [Addr.add]
      case c2 => intro u hu; simp at hu; subst hu; rfl
      case c3 => unfold maxLen; omega
      case c4 => omega
      case c5 => simp; omega
      intro v' w1 hown' hgrow _ hat
      have hnx1 : Onl w w1 sv v' := hnx.trans (Onl.of_append1 hgrow hat)
      clear hat hgrow
      go_wp2
      go_ret
      refine ⟨v', rfl, ?_, hnx1⟩
      rw [hsplit, hsm, Lib.byteCells_snoc pre (by omega), List.length_append, List.length_singleton, ← Nat.add_assoc]
      exact hown'

set_option maxHeartbeats 400000 in
theorem appendBytes_any (B n : Nat) (sv : Value) (xs : List Value) (h c : Nat) (l : List UInt8) (w : World) (hown : w.ownsRow B 5 1 sv n xs) (hB : B ≤ w.heap.size)
    (hlim : n + l.length + 10 ≤ 1099511627776) (hcell : ∀ j (hj : j < l.length), w.cell? ⟨h, j, none⟩ = some (.int .u8 (l[j]).toNat)) (hne : sv.ownBlock ≠ some h) :
    Calls Ybaf.prog 13 #[sv, .slice (some ⟨h, 0, none⟩) l.length c] w fun e w' => ∃ v', e = .returned v' ∧ w'.ownsRow B 5 1 v' (n + (encB l).length) (xs ++ Lib.byteCells (encB l)) ∧ Onl w w' sv v' := by
  obtain ⟨i0, hi, hz0, hz1, hz2⟩ := info_parts Ybaf.info5
  have hlen := Lib.uvarint_length64 (x := l.length) (by omega)
  go_enter Ybaf.func13, Ybaf.ntmps13
  go_wp2_with fail
  refine (appendUvarint_any B n l.length (by omega) sv xs w hown hB (by omega)).mono ?_
  rintro e w1 ⟨v1, rfl, hown1, hon1⟩
  have hc1 : ∀ j u, (Lib.byteCells l)[j]? = some u → w1.cell? ((⟨h, 0, none⟩ : Addr).add j) = some u := by
    intro j u hj
    have hjl : j < l.length := by
      have := (List.getElem?_eq_some_iff.1 hj).1
      simpa [Lib.byteCells] using this
    have e1 : u = .int .u8 (l[j]).toNat := by
      simp [Lib.byteCells, List.getElem?_eq_getElem hjl] at hj
      exact hj.symm
    rw [e1, Go.WideShapes.add_plain, Nat.zero_add]
    exact hon1.cell (hcell j hjl) hne
  have hC1 : Hid (∀ j u, (Lib.byteCells l)[j]? = some u → w1.cell? ((⟨h, 0, none⟩ : Addr).add j) = some u) := hc1
  have hsz := hon1.grown.size
  clear hc1 hcell
  go_wp2_with (at_builtin; refine wpList_append_own_at _ rfl _ _ 25 rfl B 5 i0 (.int .u8 0) 1 1 Ybaf.underlying25 hi hz0 hz1 hz2 rfl (by decide) _ _ _ rfl hown1 ⟨h, 0, none⟩ l.length c (Lib.byteCells l) rfl ?c0 ?c1 ?c2 ?c3 ?c4 ?c5 ?_)
  case c0 => simp [Lib.byteCells]
  case c1 => exact hC1.out
  case c2 => intro u hu; simp [Lib.byteCells] at hu; obtain ⟨b, _, rfl⟩ := hu; rfl
  case c3 => unfold maxLen; omega
  case c4 => omega
  case c5 => omega
  intro v' w2 hown2 hgrow _ hat
  have hon2 : Onl w w2 sv v' := hon1.trans (Onl.of_append hgrow hat)
  clear hat hgrow
  go_wp2
  go_ret
  refine ⟨v', rfl, ?_, hon2⟩
  have e1 : n + (encB l).length = n + (Lib.uvarint l.length).length + l.length := by simp [encB]; omega
  have e2 : xs ++ Lib.byteCells (encB l) = xs ++ (Lib.byteCells (Lib.uvarint l.length) ++ Lib.byteCells l) := by simp [encB, Lib.byteCells]
  rw [e1, e2]
  exact hown2


end Go.Proofs.YbulkedtwFmt
