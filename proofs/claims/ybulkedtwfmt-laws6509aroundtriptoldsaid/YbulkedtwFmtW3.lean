import Derived.Test.YbulkedtwFmtW2
namespace Go.Proofs.YbulkedtwFmt
open Go Go.RowKit

/-- A DECODER: block d, its bytes, its error. -/
structure DecIs (w : World) (d : Nat) (bv ev : Value) : Prop where
  blk : w.heap[d]? = some (.cells #[bv, ev] 51 (0, 0))

theorem DecIs.c0 {w : World} {d : Nat} {bv ev : Value} (h : DecIs w d bv ev) : w.cell? ⟨d, 0, none⟩ = some bv := by rw [cell_of_row w d 0 _ 51 (0, 0) h.blk]; rfl
theorem DecIs.c1 {w : World} {d : Nat} {bv ev : Value} (h : DecIs w d bv ev) : w.cell? ⟨d, 1, none⟩ = some ev := by rw [cell_of_row w d 1 _ 51 (0, 0) h.blk]; rfl
theorem DecIs.f0 {w : World} {d : Nat} {bv ev : Value} (h : DecIs w d bv ev) : w.frozen? ⟨d, 0, none⟩ = false := frozen_of_row w d 0 _ 51 h.blk
theorem DecIs.f1 {w : World} {d : Nat} {bv ev : Value} (h : DecIs w d bv ev) : w.frozen? ⟨d, 1, none⟩ = false := frozen_of_row w d 1 _ 51 h.blk
theorem DecIs.lt {w : World} {d : Nat} {bv ev : Value} (h : DecIs w d bv ev) : d < w.heap.size := lt_of_block h.blk

theorem heap_set (w : World) (b o : Nat) (cs : Array Value) (t : TypeId) (u : Value) (h : w.heap[b]? = some (.cells cs t (0, 0))) : (w.setCell ⟨b, o, none⟩ u).heap[b]? = some (.cells (cs.setIfInBounds o u) t (0, 0)) := by
  have hlt : b < w.heap.size := lt_of_block h
  have hg : w.heap[b] = .cells cs t (0, 0) := by
    have := Array.getElem?_eq_getElem hlt
    rw [this] at h
    exact Option.some.inj h
  show (w.heap.modify b _)[b]? = _
  rw [Array.getElem?_eq_getElem (by simpa using hlt), Array.getElem_modify_self, hg]
  rfl

theorem DecIs.set0 {w : World} {d : Nat} {bv ev : Value} (h : DecIs w d bv ev) (u : Value) : DecIs (w.setCell ⟨d, 0, none⟩ u) d u ev := ⟨heap_set w d 0 _ 51 u h.blk⟩
theorem DecIs.set1 {w : World} {d : Nat} {bv ev : Value} (h : DecIs w d bv ev) (u : Value) : DecIs (w.setCell ⟨d, 1, none⟩ u) d bv u := ⟨heap_set w d 1 _ 51 u h.blk⟩
theorem DecIs.alloc {w : World} {d : Nat} {bv ev : Value} (h : DecIs w d bv ev) (o : Obj) : DecIs (w.alloc o) d bv ev := ⟨by rw [Below.heap_alloc _ _ _ h.lt]; exact h.blk⟩
theorem DecIs.grown {w w' : World} {d : Nat} {bv ev : Value} {row : Option Nat} (h : DecIs w d bv ev) (hg : w.grownBy w' row) (hne : row ≠ some d) : DecIs w' d bv ev := ⟨by rw [hg.block d h.lt (fun e => hne e.symm)]; exact h.blk⟩

theorem grown_set (w : World) (d o : Nat) (u : Value) : w.grownBy (w.setCell ⟨d, o, none⟩ u) (some d) :=
  ⟨rfl, rfl, rfl, by simp [World.setCell], fun k _ hne => Below.heap_setCell _ _ _ _ (fun e => hne (by rw [e]))⟩

theorem uvarint19 (g o n c : Nat) (x : Nat) (rest : List UInt8) (w : World) (hx : x < 128 ^ 5) (hn : (Lib.uvarint x ++ rest).length = n)
    (hcell : ∀ j (hj : j < (Lib.uvarint x ++ rest).length), w.cell? ⟨g, o + j, none⟩ = some (.int .u8 ((Lib.uvarint x ++ rest)[j]).toNat)) :
    Calls Ybaf.prog 19 #[.slice (some ⟨g, o, none⟩) n c] w fun e w' => e = .returned (.tuple #[.int .u64 x, .int .i64 ((Lib.uvarint x).length : Int)]) ∧ w' = w := by
  have := Ybaf.binary_Uvarint g o n c (Lib.uvarint x ++ rest) w hn hcell
  rw [uv_dec x rest hx] at this
  exact this

/-- What Bytes leaves, at a field that is there. -/
def BytesPost (w : World) (d g o n c ul ll : Nat) (e : Ending) (w' : World) : Prop :=
  ∃ X A1 A2 c2, e = .returned (.slice (some A1) ll ll) ∧ w' = (w.setCell ⟨d, 0, none⟩ X).setCell ⟨d, 0, none⟩ (.slice (some A2) (n - ul - ll) c2) ∧
      (0 < ll → A1 = ⟨g, o + ul, none⟩) ∧ (0 < n - ul - ll → A2 = ⟨g, o + ul + ll, none⟩) ∧ n - ul - ll ≤ c2 ∧ c2 ≤ c

set_option maxHeartbeats 800000 in
theorem bytes_walk (d g o n c ul ll : Nat) (l rest : List UInt8) (w : World) (hD : DecIs w d (.slice (some ⟨g, o, none⟩) n c) .nilIface)
    (hul : Hid ((Lib.uvarint l.length).length = ul)) (hll : Hid (l.length = ll)) (h1 : 1 ≤ ul) (h2 : ul + ll ≤ n) (h3 : n ≤ c) (h4 : c ≤ 9223372036854775807) (h5 : ll ≤ 1048576) (hn : Hid ((encB l ++ rest).length = n))
    (hcell : Hid (∀ j (hj : j < (encB l ++ rest).length), w.cell? ⟨g, o + j, none⟩ = some (.int .u8 ((encB l ++ rest)[j]).toNat))) :
    Calls Ybaf.prog 10 #[.pointer (some ⟨d, 0, none⟩)] w (BytesPost w d g o n c ul ll) := by
  have hc0 := hD.c0
  have hc1 := hD.c1
  have hf0 := hD.f0
  rcases Nat.eq_zero_or_pos ll with rfl | hpos
  · go_enter Ybaf.func10, Ybaf.ntmps10
    go_wp2_with (first | (go_at_call 19; refine (uvarint19 g o n c 0 (l ++ rest) _ (by omega) ?_ ?_).mono ?_; (have e1 := hn.out; rw [← hll.out]; simpa [encB] using e1); (have e1 := hcell.out; rw [← hll.out]; simpa [encB] using e1); rintro e w' ⟨rfl, rfl⟩; rw [show (Lib.uvarint 0).length = ul from by rw [← hul.out, hll.out]]) | go_in)
    all_goals
      go_ret
      refine ⟨_, _, _, _, rfl, rfl, fun h => ?_, fun h => ?_, ?_, ?_⟩ <;> first | rfl | omega | (exfalso; omega)
  · go_enter Ybaf.func10, Ybaf.ntmps10
    go_wp2_with (first | (go_at_call 19; refine (uvarint19 g o n c ll (l ++ rest) _ (by omega) ?_ ?_).mono ?_; (have e1 := hn.out; rw [← hll.out]; simpa [encB] using e1); (have e1 := hcell.out; rw [← hll.out]; simpa [encB] using e1); rintro e w' ⟨rfl, rfl⟩; rw [show (Lib.uvarint ll).length = ul from by rw [← hll.out, hul.out]]) | go_in)
    all_goals
      go_ret
      refine ⟨_, _, _, _, rfl, rfl, fun h => ?_, fun h => ?_, ?_, ?_⟩ <;> first | rfl | omega | (exfalso; omega)

/-- What Bytes leaves, as the caller wants it. -/
structure BytesOk (w : World) (d : Nat) (l rest : List UInt8) (a1 : Addr) (w' : World) (ao : Option Addr) (c2 : Nat) : Prop where
  got : ∀ W : World, w'.grownBy W (some d) → ∀ j (hj : j < l.length), W.cell? (a1.add j) = some (.int .u8 (l[j]).toNat)
  dec : DecIs w' d (.slice ao rest.length c2) .nilIface
  grown : w.grownBy w' (some d)
  cap : rest.length ≤ c2 ∧ c2 ≤ 9223372036854775807
  left : rest ≠ [] → ∃ g o, ao = some ⟨g, o, none⟩ ∧ g ≠ d ∧ ∀ j (hj : j < rest.length), w'.cell? ⟨g, o + j, none⟩ = some (.int .u8 (rest[j]).toNat)

theorem bytes_ok (d g o c : Nat) (l rest : List UInt8) (w : World) (hD : DecIs w d (.slice (some ⟨g, o, none⟩) (encB l ++ rest).length c) .nilIface) (hgd : g ≠ d)
    (h3 : (encB l ++ rest).length ≤ c) (h4 : c ≤ 9223372036854775807) (h5 : l.length ≤ 1048576)
    (hcell : ∀ j (hj : j < (encB l ++ rest).length), w.cell? ⟨g, o + j, none⟩ = some (.int .u8 ((encB l ++ rest)[j]).toNat)) :
    Calls Ybaf.prog 10 #[.pointer (some ⟨d, 0, none⟩)] w fun e w' => ∃ a1 ao c2, e = .returned (.slice (some a1) l.length l.length) ∧ BytesOk w d l rest a1 w' ao c2 := by
  have hp := Lib.uvarint_pos l.length
  have hlen : (encB l ++ rest).length = (Lib.uvarint l.length).length + l.length + rest.length := by simp [encB]; omega
  refine (bytes_walk d g o _ c (Lib.uvarint l.length).length l.length l rest w hD rfl rfl hp (by omega) h3 h4 h5 rfl hcell).mono ?_
  rintro e w' ⟨X, A1, A2, c2, rfl, rfl, hA1, hA2, hc2, hc2'⟩
  have hr : (encB l ++ rest).length - (Lib.uvarint l.length).length - l.length = rest.length := by omega
  rw [hr] at hA2 hc2 ⊢
  have hG : w.grownBy ((w.setCell ⟨d, 0, none⟩ X).setCell ⟨d, 0, none⟩ (.slice (some A2) rest.length c2)) (some d) := (grown_set w d 0 X).trans (grown_set _ d 0 _)
  refine ⟨A1, some A2, c2, rfl, ?_, (hD.set0 X).set0 _, hG, ⟨hc2, by omega⟩, ?_⟩
  · intro W hW j hj
    rw [hA1 (by omega), Go.WideShapes.add_plain]
    have := hcell ((Lib.uvarint l.length).length + j) (by omega)
    have e1 : (encB l ++ rest)[(Lib.uvarint l.length).length + j]'(by omega) = l[j] := by
      simp [encB, hj]
    rw [e1] at this
    rw [Nat.add_assoc]
    exact (hG.trans hW).cell this (by intro e; cases e; exact hgd rfl)
  · intro hne
    have hpos : 0 < rest.length := List.length_pos_iff.2 hne
    refine ⟨g, o + (Lib.uvarint l.length).length + l.length, by rw [hA2 hpos], hgd, ?_⟩
    intro j hj
    have := hcell ((Lib.uvarint l.length).length + l.length + j) (by omega)
    have e1 : (encB l ++ rest)[(Lib.uvarint l.length).length + l.length + j]'(by omega) = rest[j] := by
      rw [List.getElem_append_right (by simp [encB])]
      simp [encB]
    rw [e1] at this
    have e2 : o + (Lib.uvarint l.length).length + l.length + j = o + ((Lib.uvarint l.length).length + l.length + j) := by omega
    rw [e2]
    exact hG.cell this (by intro e; cases e; exact hgd rfl)

theorem fail_set (d u : Nat) (v : Value) (w : World) (hc1 : w.cell? ⟨d, 1, none⟩ = some .nilIface) (hf1 : w.frozen? ⟨d, 1, none⟩ = false) :
    Calls Ybaf.prog 15 #[.pointer (some ⟨d, 0, none⟩), .iface u v] w fun e w' => e = .returned (.tuple #[]) ∧ w' = w.setCell ⟨d, 1, none⟩ (.iface u v) := by
  go_enter Ybaf.func15, Ybaf.ntmps15
  go_wp2
  go_end0
  exact ⟨rfl, rfl⟩

theorem fail_keep (d u u' : Nat) (v v' : Value) (w : World) (hc1 : w.cell? ⟨d, 1, none⟩ = some (.iface u' v')) :
    Calls Ybaf.prog 15 #[.pointer (some ⟨d, 0, none⟩), .iface u v] w fun e w' => e = .returned (.tuple #[]) ∧ w' = w := by
  go_enter Ybaf.func15, Ybaf.ntmps15
  go_wp2
  go_end0
  exact ⟨rfl, rfl⟩

/-- A DECODER OF nil: Bytes fails. -/
def BadPost (w : World) (d : Nat) (e : Ending) (w' : World) : Prop :=
  e = .returned (.slice none 0 0) ∧ ∃ O, w' = (w.setCell ⟨d, 1, none⟩ (.iface 64 (.pointer (some ⟨w.heap.size, 0, none⟩)))).alloc O

set_option maxHeartbeats 800000 in
theorem bytes_bad1 (d : Nat) (gv : Value) (u : TypeId) (w : World) (hD : DecIs w d (.slice none 0 0) .nilIface) (hg : w.cell? ⟨0, 0, none⟩ = some (.iface u gv)) (_hd0 : d ≠ 0) :
    Calls Ybaf.prog 10 #[.pointer (some ⟨d, 0, none⟩)] w (BadPost w d) := by
  have hc0 := hD.c0
  have hc1 := hD.c1
  have hf1 := hD.f1
  have hlt := hD.lt
  have h0 : (0 : Nat) < w.heap.size := by omega
  go_enter Ybaf.func10, Ybaf.ntmps10
  go_wp2_with (first | (go_at_call 19; refine (Ybaf.binary_Uvarint_empty _ _ _).mono ?_; rintro e w' ⟨rfl, hw⟩; rw [hw]; clear hw; simp only [Lib.uvarintDec, Lib.uvarintFrom]) | (go_at_call 15; first | (refine (fail_set _ _ _ _ ?_ ?_).mono ?_; (focus (go_simp; done)); (focus (go_simp; done)); rintro e w' ⟨rfl, rfl⟩) | (refine (fail_keep d _ 64 _ (.pointer (some ⟨w.heap.size, 0, none⟩)) _ ?_).mono ?_; (focus (go_simp; done)); rintro e w' ⟨rfl, rfl⟩)) | go_in)
  go_ret
  exact ⟨rfl, _, rfl⟩

theorem bytes_bad (d : Nat) (gv : Value) (u : TypeId) (w : World) (hD : DecIs w d (.slice none 0 0) .nilIface) (hg : w.cell? ⟨0, 0, none⟩ = some (.iface u gv)) (_hd0 : d ≠ 0) :
    Calls Ybaf.prog 10 #[.pointer (some ⟨d, 0, none⟩)] w fun e w' => e = .returned (.slice none 0 0) ∧ ∃ ev, DecIs w' d (.slice none 0 0) (.iface 64 ev) ∧ w.grownBy w' (some d) := by
  refine (bytes_bad1 d gv u w hD hg _hd0).mono ?_
  rintro e w' ⟨rfl, O, rfl⟩
  exact ⟨rfl, _, (hD.set1 _).alloc O, (grown_set w d 1 _).trans (World.grownBy_alloc _ _ _)⟩

theorem bytes_bad2 (d u u' : Nat) (gv ev : Value) (w : World) (hD : DecIs w d (.slice none 0 0) (.iface u' ev)) (hg : w.cell? ⟨0, 0, none⟩ = some (.iface u gv)) :
    Calls Ybaf.prog 10 #[.pointer (some ⟨d, 0, none⟩)] w fun e w' => e = .returned (.slice none 0 0) ∧ w' = w := by
  have hc0 := hD.c0
  have hc1 := hD.c1
  go_enter Ybaf.func10, Ybaf.ntmps10
  go_wp2_with (first | (go_at_call 15; refine (fail_keep d _ u' _ ev _ hc1).mono ?_; rintro e w' ⟨rfl, hw⟩; rw [hw]; clear hw) | go_in)
  go_ret
  exact ⟨rfl, rfl⟩

theorem finish_ok (d c : Nat) (ao : Option Addr) (w : World) (hD : DecIs w d (.slice ao 0 c) .nilIface) :
    Calls Ybaf.prog 11 #[.pointer (some ⟨d, 0, none⟩)] w fun e w' => e = .returned .nilIface ∧ w' = w := by
  have hc0 := hD.c0
  have hc1 := hD.c1
  go_enter Ybaf.func11, Ybaf.ntmps11
  go_wp2
  go_ret
  exact ⟨rfl, rfl⟩

theorem finish_bad (d u : Nat) (bv ev : Value) (w : World) (hD : DecIs w d bv (.iface u ev)) :
    Calls Ybaf.prog 11 #[.pointer (some ⟨d, 0, none⟩)] w fun e w' => e = .returned (.iface u ev) ∧ w' = w := by
  have hc0 := hD.c0
  have hc1 := hD.c1
  go_enter Ybaf.func11, Ybaf.ntmps11
  go_wp2
  go_ret
  exact ⟨rfl, rfl⟩
end Go.Proofs.YbulkedtwFmt
