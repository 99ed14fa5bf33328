import Derived.Test.YbulkedvmDoorW1
import Derived.Laws.CopyOwn
import Derived.Lib.HexFns
import Derived.Lib.ItoaLen
import Derived.Lib.BufferKept
import Derived.Deep.RegionHeld3
import Derived.Deep.DrawnRows
namespace Go.Proofs.YbulkedvmDoor
open Go Go.RowKit
set_option maxRecDepth 100000

theorem made_block {w1 : World} {B h n : Nat} {xs : List Value} (hown : w1.ownsRow B 5 1 (.slice (some ⟨h, 0, none⟩) n n) n xs) : ∃ l : List Value, w1.heap[h]? = some (.cells l.toArray 5 (0, 0)) ∧ l.length = n := by
  rcases hown.2 with ⟨h', _⟩ | ⟨g', cap', cur, h', _, hg', _, _, hcs, _⟩
  · simp at h'
  · simp only [Value.slice.injEq, Option.some.injEq, Addr.mk.injEq, and_true, true_and] at h'
    obtain ⟨rfl, rfl⟩ := h'
    exact ⟨cur.toList, by simpa using hg', by simpa using hcs⟩

theorem Ybad.size5' : (Ybad.prog.info? 5).map (·.size) = some 1 := by kernel_rfl

theorem byteCells_length (l : List UInt8) : (Lib.byteCells l).length = l.length := by simp [Lib.byteCells]

/-- THE BYTES l LIE FROM ADDRESS a ON. -/
structure BytesAt (w : World) (a : Addr) (l : List UInt8) : Prop where
  out : ∀ j v, (Lib.byteCells l)[j]? = some v → w.cell? (a.add j) = some v

theorem copy_step (w1 : World) (h n icap : Nat) (a : Addr) (l : List Value) (bs : List UInt8) (hl : w1.heap[h]? = some (.cells l.toArray 5 (0, 0))) (hln : l.length = n) (hn : bs.length = n) (hm : n ≤ maxLen)
    (hsrc : BytesAt w1 a bs) :
    ∃ w2, (Builtin.copy_ #[23, 23] 3 #[.slice (some ⟨h, 0, none⟩) n n, .slice (some a) n icap]).run Ybad.prog w1 = .ok (goInt n) w2 ∧
      w2.ownsRow h 5 1 (.slice (some ⟨h, 0, none⟩) n n) n (Lib.byteCells bs) ∧ Below h w1 w2 := by
  have e1 : (Lib.byteCells bs).length = n := by simp [Lib.byteCells, hn]
  have hr := run_copy_row (P := Ybad.prog) w1 23 23 3 5 h 0 n n a n icap l.toArray 5 (Lib.byteCells bs) Ybad.underlying23 Ybad.size5' hl (by rw [e1]; exact (Nat.min_self n).symm) hsrc.out (by simp [e1, hln])
    (by intro v hv; simp [Lib.byteCells] at hv; obtain ⟨b, _, rfl⟩ := hv; rfl)
  rw [e1] at hr
  refine ⟨_, hr, ?_, below_setRow (Below.refl _ _) (Nat.le_refl _) _⟩
  have h2 := setRow_heap w1 h _ (l.toArray.toList.take 0 ++ Lib.byteCells bs ++ l.toArray.toList.drop (0 + n)).toArray 5 _ hl
  refine ⟨by rw [e1]; omega, Or.inr ⟨h, n, _, rfl, Nat.le_refl _, h2, Nat.le_refl _, hm, ?_, ?_⟩⟩
  · simp [e1, hln]
  · simp [← e1]

theorem copy_nil (w : World) : Calls Ybad.prog 5 #[.slice none 0 0] w fun e w' => e = .returned (.slice none 0 0) ∧ w' = w := by
  have hq := fun (wx : World) (a : Option Addr) (n c : Nat) => Lib.run_eql_slice_nil (P := Ybad.prog) wx 23 5 a n c 0 0 Ybad.underlying23
  go_enter Ybad.func5, Ybad.ntmps5
  go_wp2
  go_ret
  exact ⟨rfl, rfl⟩

set_option maxHeartbeats 1000000 in
theorem copy_any (a : Addr) (n c : Nat) (bs : List UInt8) (w : World) (hn : bs.length = n) (hbig : n ≤ 1048576) (hsrc : BytesAt w a bs) :
    Calls Ybad.prog 5 #[.slice (some a) n c] w fun e w' => e = .returned (.slice (some ⟨w.heap.size, 0, none⟩) n n) ∧ w'.ownsRow w.heap.size 5 1 (.slice (some ⟨w.heap.size, 0, none⟩) n n) n (Lib.byteCells bs) ∧ Below w.heap.size w w' := by
  obtain ⟨i0, hi, hz0, hz1, hz2⟩ := info_parts Ybad.info5
  have hq := fun (wx : World) (a : Option Addr) (n c : Nat) => Lib.run_eql_slice_nil (P := Ybad.prog) wx 23 5 a n c 0 0 Ybad.underlying23
  have hb5 : i0.bytes * n ≤ 281474976710656 := by rw [hz2]; omega
  have HN := hide hn
  clear hn
  go_enter Ybad.func5, Ybad.ntmps5
  go_wp2_with (at_make; refine wpList_make_full _ rfl (.tmp 7) (.tmp 7) 23 rfl w.heap.size 5 i0 _ 1 Ybad.underlying23 hi hz0 hz1 _ _ _ _ n rfl rfl rfl rfl hb5 (by unfold maxLen; omega) (Nat.le_refl _) ?_)
  intro w1 hown1 hgr1
  obtain ⟨l, hl1, hl2⟩ := made_block hown1
  have hsrc1 : BytesAt w1 a bs := ⟨fun j v hj => hgr1.cell (hsrc.out j v hj) (by simp)⟩
  obtain ⟨w2, hrun, hown2, hbel2⟩ := copy_step w1 w.heap.size n c a l bs hl1 hl2 HN.out (by unfold maxLen; omega) hsrc1
  have hbel1 : Below w.heap.size w w1 := (Below.refl _ _).grown hgr1 (Nat.le_refl _) (fun k hk => by cases hk)
  have hB := hide (hbel1.trans hbel2)
  clear hsrc hsrc1 hl1 hl2 hown1 hgr1 hbel1 hbel2
  go_wp2
  go_ret
  exact ⟨rfl, hown2, hB.out⟩
theorem Below.lower {B B' : Nat} {w w' : World} (h : Below B w w') (hB : B' ≤ B) : Below B' w w' := ⟨h.os, h.tape, h.output, h.size, fun i hi => h.block i (by omega)⟩
theorem Kp.of_below {B : Nat} {w w' : World} (h : Below w.heap.size w w') (hB : B ≤ w.heap.size) : Kp B w w' := ⟨Below.lower h hB, (Lib.OthersKept.refl _ _ _).below h⟩

theorem toNat_digit (y : Nat) : (UInt8.ofNat (48 + y % 10)).toNat = 48 + y % 10 := by
  rw [UInt8.toNat_ofNat']
  omega

/-- THE LOOP OF dec: y is still to be told, suf stands in the array from i on. -/
structure DecAt (w W : World) (x y i : Nat) (suf : List UInt8) : Prop where
  split : Lib.decDigits x = Lib.decDigits y ++ suf
  len : i + suf.length = 20
  bel : Below w.heap.size w W
  own : ∃ cur, W.ownsRow w.heap.size 47 1 (.slice (some ⟨w.heap.size, 0, none⟩) 20 20) 20 cur ∧ cur.drop i = Lib.byteCells suf

theorem drop_set_self {α : Type} (l : List α) (i : Nat) (hi : i < l.length) (x : α) : (l.set i x).drop i = x :: l.drop (i + 1) := by
  rw [List.drop_eq_getElem_cons (by simpa using hi)]
  simp [List.drop_set]

theorem DecAt.store {w W : World} {x y i : Nat} {suf : List UInt8} (h : DecAt w W x y (i + 1) suf) :
    (W.cell? ⟨w.heap.size, i, none⟩).isSome = true ∧ W.frozen? ⟨w.heap.size, i, none⟩ = false ∧ Below w.heap.size w (W.setCell ⟨w.heap.size, i, none⟩ (.int .u8 (48 + (y : Int) % 10))) ∧
      ∃ cur, (W.setCell ⟨w.heap.size, i, none⟩ (.int .u8 (48 + (y : Int) % 10))).ownsRow w.heap.size 47 1 (.slice (some ⟨w.heap.size, 0, none⟩) 20 20) 20 cur ∧ cur.drop i = Lib.byteCells (UInt8.ofNat (48 + y % 10) :: suf) := by
  obtain ⟨cur, hown, hdrop⟩ := h.own
  have hlen := h.len
  have hcl : cur.length = 20 := by have := hown.1; omega
  obtain ⟨h1, h2⟩ := hown.stored i (.int .u8 (48 + (y : Int) % 10))
  refine ⟨?_, hown.frozenAt i, h.bel.grown h2 h.bel.size (fun k hk => by cases hk; exact Nat.le_refl _), _, h1, ?_⟩
  · rw [hown.cellAt i (by omega), List.getElem?_eq_getElem (by omega)]
    rfl
  · rw [drop_set_self _ _ (by omega), hdrop]
    have : (48 + (y : Int) % 10) = ((UInt8.ofNat (48 + y % 10)).toNat : Int) := by rw [toNat_digit]; omega
    rw [this]
    rfl

theorem len47 : Ybad.prog.arrayLen 47 = 20 := by kernel_rfl
theorem slice47 (T j : Nat) (hj : j < 20) (W : World) : (Instr.sliceAt 47 (.pointer (some ⟨T, 0, none⟩)) (some (.int .i64 j)) none none).run Ybad.prog W = .ok (.slice (some ⟨T, j, none⟩) (20 - j) (20 - j)) W := by
  rw [run_sliceAt_array_l (P := Ybad.prog) W 47 ⟨T, 0, none⟩ (by kernel_rfl) .i64 j (by omega) (by rw [len47]; omega), len47]
  have hs : (sizeOf (Ybad.prog.elem 47)).run Ybad.prog W = .ok 1 W := by kernel_rfl
  rw [hs]
  have : ¬ (20 = j) := by omega
  simp [Result.andThen, slicedAt, Addr.add, this]
  intro h
  exact h.symm

set_option maxHeartbeats 1000000 in
theorem dec_any (B n x : Nat) (hx : x < 18446744073709551616) (sv : Value) (xs : List Value) (w : World) (hown : w.ownsRow B 5 1 sv n xs) (hBw : B ≤ w.heap.size) (hlim : n + 20 ≤ 140737488355328) :
    Calls Ybad.prog 6 #[sv, .int .u64 x] w fun e w' => ∃ v', e = .returned v' ∧ w'.ownsRow B 5 1 v' (n + (Lib.decDigits x).length) (xs ++ Lib.byteCells (Lib.decDigits x)) ∧ Kp B w w' := by
  obtain ⟨i0, hi, hz0, hz1, hz2⟩ := info_parts Ybad.info5
  have hlen : (Lib.decDigits x).length ≤ 20 := by rw [Lib.decDigits_length]; exact Lib.nDigits_le20 x hx
  go_enter Ybad.func6, Ybad.ntmps6
  go_wp2
  go_loopw [1, 6] (fun vn vi W => ∃ (y i : Nat) (suf : List UInt8), vn = .int .u64 y ∧ vi = .int .i64 i ∧ y < 18446744073709551616 ∧ i ≤ 20 ∧ DecAt w W x y i suf) (fun _ vi _ => (intOf vi).toNat)
  case atStart =>
    refine ⟨x, 20, [], rfl, rfl, hx, Nat.le_refl _, by simp, rfl, (Below.refl _ _).alloc (Nat.le_refl _) _, List.replicate 20 (.int .u8 0), ⟨rfl, Or.inr ⟨w.heap.size, 20, _, rfl, Nat.le_refl _, heap_alloc_new w _, Nat.le_refl _, by unfold maxLen; omega, rfl, rfl⟩⟩, rfl⟩
  case round =>
    obtain ⟨y, i, suf, rfl, rfl, hy, hi20, hD⟩ := hrel
    have hi1 : 1 ≤ i := by
      have h1 := congrArg List.length hD.split
      have h2 := hD.len
      have h3 := Lib.nDigits_pos y
      rw [List.length_append, Lib.decDigits_length y] at h1
      omega
    obtain ⟨j, rfl⟩ : ∃ j, i = j + 1 := ⟨i - 1, by omega⟩
    obtain ⟨hc, hf, hbel, hcur⟩ := hD.store
    obtain ⟨c0, hc⟩ := Option.isSome_iff_exists.1 hc
    have hlen2 := hD.len
    have hsp := hide hD.split
    have hCur := hide hcur
    have hBel := hide hbel
    clear hcur hbel hD
    by_cases h10 : y < 10
    · have hsl := slice47 w.heap.size j (by omega)
      obtain ⟨cur, hcown, hdrop⟩ := hCur.out
      have hcl : cur.length = 20 := by have := hcown.1; omega
      have hsvown := row_below_all hBel.out hown
      have hsz := hBel.out.size
      have HC1 : Hid (∀ k u, (Lib.byteCells (UInt8.ofNat (48 + y % 10) :: suf))[k]? = some u → (wr.setCell ⟨w.heap.size, j, none⟩ (.int .u8 (48 + (y : Int) % 10))).cell? ((⟨w.heap.size, j, none⟩ : Addr).add k) = some u) := by
        intro k u hk
        have hkl : k < (Lib.byteCells (UInt8.ofNat (48 + y % 10) :: suf)).length := (List.getElem?_eq_some_iff.1 hk).1
        rw [byteCells_length, List.length_cons] at hkl
        rw [Go.WideShapes.add_plain, hcown.cellAt (j + k) (by omega), ← List.getElem?_drop, hdrop]
        exact hk
      clear hdrop hcown
      have HS : Hid (w.heap.size ≤ (wr.setCell ⟨w.heap.size, j, none⟩ (.int .u8 (48 + (y : Int) % 10))).heap.size) := hsz
      clear hsz
      go_wp2_with (at_builtin; refine wpList_append_own_at _ rfl _ _ 23 rfl B 5 i0 (.int .u8 0) 1 1 Ybad.underlying23 hi hz0 hz1 hz2 rfl (by decide) _ _ _ rfl hsvown ⟨w.heap.size, j, none⟩ (20 - j) (20 - j) (Lib.byteCells (UInt8.ofNat (48 + y % 10) :: suf)) rfl ?c0 ?c1 ?c2 ?c3 ?c4 ?c5 ?_)
      case c0 => rw [byteCells_length, List.length_cons]; omega
      case c1 => exact HC1.out
      case c2 => intro u hu; simp [Lib.byteCells] at hu; rcases hu with rfl | ⟨b, _, rfl⟩ <;> rfl
      case c3 => unfold maxLen; omega
      case c4 => omega
      case c5 => have := HS.out; omega
      intro v' w2 hown2 hgrow _ hat
      have hon : Kp B w w2 := (Kp.of_below hBel.out hBw).trans ((Onl.of_append hgrow (by simpa [World.setCell] using hat)).kp hsvown (by have := HS.out; omega))
      clear hat hgrow
      go_wp2
      go_ret
      have e1 : Lib.decDigits x = UInt8.ofNat (48 + y % 10) :: suf := by
        rw [hsp.out, Lib.decDigits, dif_pos h10, Nat.mod_eq_of_lt h10]
        rfl
      refine ⟨v', rfl, ?_, hon⟩
      rw [e1, List.length_cons]
      have e2 : n + (suf.length + 1) = n + (20 - j) := by omega
      have e3 : UInt8.ofNat (48 + y % 10) = 48 + UInt8.ofNat (y % 10) := by simp
      rw [e2, e3]
      exact hown2
    · go_wp2
      go_roundw
      case rel =>
        refine ⟨y / 10, j, UInt8.ofNat (48 + y % 10) :: suf, by go_num, rfl, by omega, by omega, ?_, ?_, ?_, ?_⟩
        · rw [hsp.out]
          conv => lhs; rw [Lib.decDigits, dif_neg h10]
          simp
        · simp only [List.length_cons]; omega
        · exact hBel.out
        · exact hCur.out
      case measure => simp [intOf]
end Go.Proofs.YbulkedvmDoor
