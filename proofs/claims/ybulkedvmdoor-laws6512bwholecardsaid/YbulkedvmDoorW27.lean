import Derived.Test.YbulkedvmDoorW26
namespace Go.Proofs.YbulkedvmDoor
open Go Go.RowKit Go.Lib Go.Maps Go.Sort
set_option maxRecDepth 100000

/-- append of a string's bytes onto a FULL row: a new block; all old ones stand. -/
theorem append_full (w : World) (B n : Nat) (ao : Option Addr) (xs : List Value) (hown : w.ownsRow B 5 1 (.slice ao n n) n xs) (hB : B ≤ w.heap.size) (s : ByteArray) (hs : 0 < s.size) (hbytes : n + s.size ≤ 140737488355328) (ty : TypeId) :
    ∃ v' w', (Builtin.append_ #[23, 9] ty #[.slice ao n n, .string s]).run Ybad.prog w = .ok v' w' ∧ w'.ownsRow w.heap.size 5 1 v' (n + s.size) (xs ++ strCells s) ∧ Below w.heap.size w w' := by
  obtain ⟨i0, hi, hz0, hz1, hz2⟩ := info_parts Ybad.info5
  have h63 : n + s.size ≤ maxLen := by unfold maxLen; omega
  rcases hown.2 with ⟨e0, hn0⟩ | ⟨g, cap, cur, e0, hg0, hg, rest⟩
  · have hn0' : n = 0 := hn0
    subst hn0'
    have hx : xs = [] := List.length_eq_zero_iff.1 (by have := hown.1; omega)
    subst hx
    obtain ⟨v', w', h1, h2, h3, _⟩ := run_append_own_string (P := Ybad.prog) w w.heap.size 23 9 ty 5 i0 Ybad.underlying23 Ybad.underlying9 hi hz0 hz1 hz2 _ _ _ (World.ownsRow_nil w w.heap.size 5 1) s h63 hbytes (Nat.le_refl _)
    rw [e0]
    exact ⟨v', w', h1, h2, (Below.refl _ _).grown h3 (Nat.le_refl _) (fun k hk => by cases hk)⟩
  · simp only [Value.slice.injEq, true_and] at e0
    obtain ⟨rfl, rfl⟩ := e0
    obtain ⟨v', w', h1, h2, _, _⟩ := run_append_own_string (P := Ybad.prog) w B 23 9 ty 5 i0 Ybad.underlying23 Ybad.underlying9 hi hz0 hz1 hz2 _ _ _ hown s h63 hbytes hB
    have hr := run_append_grow_string (P := Ybad.prog) w 23 9 ty 5 i0 (.int .u8 0) Ybad.underlying23 Ybad.underlying9 hi hz0 ⟨g, 0, none⟩ n n xs (by rw [hz1]; exact hown.1) (hown.cells (g := g) rfl) s (by omega) (by unfold maxLen at h63; omega)
      (by rw [hz2]; exact growslice_fits (by omega) (by omega))
    have e1 := h1.symm.trans hr
    injection e1 with e2 e3
    subst e2 e3
    refine ⟨_, _, hr, ?_, (Below.refl _ _).drew.alloc (Nat.le_refl _) _⟩
    refine ⟨h2.1, ?_⟩
    rcases h2.2 with ⟨e4, _⟩ | ⟨g', cap', cur', e4, hB', rest'⟩
    · simp at e4
    · refine Or.inr ⟨g', cap', cur', e4, ?_, rest'⟩
      simp only [Value.slice.injEq, Option.some.injEq, Addr.mk.injEq] at e4
      omega

theorem wpList_append_full {ops : Array Oper} {rest : List Oper} {o : Oper} {a : Act} {Q : Exit → Act → World → Prop} {w : World} (hgd : o.guard = none) (sl x : Operand)
    (ho : o.op = .call { callee := .builtin .append, args := #[sl, x], argTypes := #[23, 9] })
    (B n : Nat) (ao : Option Addr) (xs : List Value) (hsl : a.eval sl = .slice ao n n) (hown : w.ownsRow B 5 1 (.slice ao n n) n xs) (hB : B ≤ w.heap.size) (s : ByteArray) (hx : a.eval x = .string s) (hs : 0 < s.size) (hbytes : n + s.size ≤ 140737488355328)
    (h : ∀ v' w', w'.ownsRow w.heap.size 5 1 v' (n + s.size) (xs ++ strCells s) → Below w.heap.size w w' → wpList Ybad.prog ops Q rest (a.put o.dst v') w') : wpList Ybad.prog ops Q (o :: rest) a w := by
  refine wpList_plain hgd fun K hK => ?_
  obtain ⟨v', w', hr, h2, h3⟩ := append_full w B n ao xs hown hB s hs hbytes o.type
  unfold Oper.wp execOp
  simp only [ho, resolve, invoke, builtin, Sem.run_bind, Sem.run_pure, Result.andThen_ok, List.map_toArray, List.map_cons, List.map_nil, hsl, hx, hr]
  exact hK _ _ (h v' w' h2 h3)

set_option maxHeartbeats 1000000 in
/-- appendAfter onto a full row: a new row; all old blocks stand. -/
theorem after_full (B n mb N cb : Nat) (C : Array Value) (L : List KN) (hL : L ≠ []) (ao : Option Addr) (xs : List Value) (w : World) (hM : MapIs w mb N L) (hN : N ≤ 4096) (hown : w.ownsRow B 5 1 (.slice ao n n) n xs) (hBw : B ≤ w.heap.size) (hlim : n + 400000 ≤ 140737488355328)
    (htab : Lib.TabBelow Ybad.prog w.heap.size w powName .u64 Lib.pow10Tab) (hb : w.heap[cb]? = some (.cells C 43)) (hC : C[18]? = some (.map (some mb))) :
    Calls Ybad.prog 8 #[.pointer (some ⟨cb, 0, none⟩), .slice ao n n] w fun e w' => ∃ v', e = .returned v' ∧ w'.ownsRow w.heap.size 5 1 v' (n + (fullText L).length) (xs ++ Lib.byteCells (fullText L)) ∧ Below w.heap.size w w' := by
  obtain ⟨i0, hi, hz0, hz1, hz2⟩ := info_parts Ybad.info5
  obtain ⟨n0, D, hn0, hmap, hR⟩ := hM.ex
  have hsz : Maps.size D = L.length := Reads.size hmap hR
  have hpos : 0 < Maps.size D := by rw [hsz]; exact List.length_pos_iff.2 hL
  have hpz : ¬ (Maps.size D = 0) := by omega
  have hc := cell_block hb hC
  have HSZ := hide hsz
  have HT := hide htab
  have HM := hide hM
  have HLL := hide hM.len_le
  clear hsz htab hM
  go_enter Ybad.func8, Ybad.ntmps8
  go_wp2_with (first
    | (at_len; refine wpList_len_own _ rfl _ 25 rfl 32 29 Ybad.underlying25 _ mb n0 _ rfl hmap ?_)
    | (at_builtin; refine wpList_append_full rfl _ _ rfl B n ao xs rfl hown hBw ⟨afterBytes.toArray⟩ rfl (by simp [afterBytes, ByteArray.size]) (by simp [afterBytes, ByteArray.size]; omega) ?_)
    | go_in)
  intro v1 w1 hown1 hbel1
  have hsz1 := hbel1.size
  have hown1' : w1.ownsRow w.heap.size 5 1 v1 (n + afterBytes.length) (xs ++ Lib.byteCells afterBytes) := hown1
  have hcb : cb < w.heap.size := (Array.getElem?_eq_some_iff.1 hb).1
  have hb1 := (hbel1.block cb hcb).trans hb
  have hc1 := cell_block hb1 hC
  have hal : afterBytes.length = 6 := rfl
  have hvt : (vtextTo (sortP L) L.length).length ≤ L.length * 54 := vtextTo_le _ (fun p hp => HM.out.u64 p (sortP_mem HM.out.nd hp)) _
  have hll := HLL.out
  have hcall := vecAppend_any w.heap.size (n + afterBytes.length) mb N L v1 _ w1 (HM.out.block (hbel1.block _ HM.out.lt)) hN hown1' (by omega) (by omega) (fun w' hb' => HT.out w' (hbel1.trans hb'))
  have HK1 := hide hbel1
  have HVT := hide hvt
  clear hb1 hb hown1 hown1' hc hbel1 hvt hcb hown
  go_wp2_with (first
    | (go_at_call 10; refine hcall.mono ?_; rintro e w2 ⟨v2, rfl, hown2, hkp2⟩)
    | (at_builtin; refine wpList_append_own_at _ rfl _ _ 23 rfl w.heap.size 5 i0 (.int .u8 0) 1 1 Ybad.underlying23 hi hz0 hz1 hz2 rfl (by decide) _ _ _ rfl (hown2.alloc _) ⟨w2.heap.size, 0, none⟩ 1 1 [.int .u8 10] rfl rfl (news1 _ _) (by simp [Value.oneCell']) ?c3 ?c4 ?c5 ?_)
    | go_in)
  case c3 => have := HVT.out; unfold maxLen; omega
  case c4 => have := HVT.out; omega
  case c5 => have := hkp2.below.size; simp; omega
  intro v3 w3 hown3 hgrow3 _ _
  have hkp3 : Kp w.heap.size w2 w3 := kp_append1 hown2 (by have := hkp2.below.size; omega) hgrow3
  clear hgrow3
  go_wp2
  go_ret
  refine ⟨v3, rfl, ?_, HK1.out.trans (hkp2.below.trans hkp3.below)⟩
  have e1 : n + (fullText L).length = n + afterBytes.length + (vtextTo (sortP L) L.length).length + 1 := by
    simp [fullText]
    omega
  have e2 : xs ++ Lib.byteCells (fullText L) = xs ++ Lib.byteCells afterBytes ++ Lib.byteCells (vtextTo (sortP L) L.length) ++ [.int .u8 10] := by
    simp [fullText, Lib.byteCells]
  rw [e1, e2, hal]
  simpa [List.append_assoc] using hown3

/-- What the law expects behind b. -/
def wantText (L : List KN) : List UInt8 := if L = [] then [] else fullText L

theorem after_all (B n N cb : Nat) (C : Array Value) (L : List KN) (v : Value) (ao : Option Addr) (xs : List Value) (w : World) (hV : VIs w v N L) (hN : N ≤ 4096) (hown : w.ownsRow B 5 1 (.slice ao n n) n xs) (hBw : B ≤ w.heap.size) (hlim : n + 400000 ≤ 140737488355328)
    (htab : Lib.TabBelow Ybad.prog w.heap.size w powName .u64 Lib.pow10Tab) (hb : w.heap[cb]? = some (.cells C 43)) (hC : C[18]? = some v) :
    Calls Ybad.prog 8 #[.pointer (some ⟨cb, 0, none⟩), .slice ao n n] w fun e w' => ∃ v', e = .returned v' ∧ w'.ownsRow B 5 1 v' (n + (wantText L).length) (xs ++ Lib.byteCells (wantText L)) ∧ Below w.heap.size w w' ∧ (L = [] → v' = .slice ao n n) := by
  by_cases hL : L = []
  · subst hL
    have hw : wantText [] = [] := rfl
    rcases hV.out with ⟨rfl, _⟩ | ⟨mb, rfl, hM⟩
    · refine (after_nil cb (.slice ao n n) w (cell_block hb hC)).mono ?_
      rintro e w' ⟨rfl, rfl⟩
      exact ⟨_, rfl, by simpa [hw, Lib.byteCells] using hown, Below.refl _ _, fun _ => rfl⟩
    · refine (after_empty mb N cb (.slice ao n n) w hM (cell_block hb hC)).mono ?_
      rintro e w' ⟨rfl, rfl⟩
      exact ⟨_, rfl, by simpa [hw, Lib.byteCells] using hown, Below.refl _ _, fun _ => rfl⟩
  · rcases hV.out with ⟨_, h⟩ | ⟨mb, rfl, hM⟩
    · exact absurd h hL
    · refine (after_full B n mb N cb C L hL ao xs w hM hN hown hBw hlim htab hb hC).mono ?_
      rintro e w' ⟨v', rfl, h1, h2⟩
      have hw : wantText L = fullText L := if_neg hL
      rw [hw]
      exact ⟨v', rfl, row_base hBw h1, h2, fun h => absurd h hL⟩
end Go.Proofs.YbulkedvmDoor
