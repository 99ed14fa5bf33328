import Derived.Test.YbulkedvmDoorW16
namespace Go.Proofs.YbulkedvmDoor
open Go Go.RowKit Go.Lib Go.Maps Go.Sort
set_option maxRecDepth 100000

def afterBytes : List UInt8 := [97, 102, 116, 101, 114, 32]
def fullText (L : List KN) : List UInt8 := afterBytes ++ (vtextTo (sortP L) L.length ++ [10])

theorem cell_block {w : World} {cb off : Nat} {C : Array Value} {t : TypeId} {v : Value} (hb : w.heap[cb]? = some (.cells C t)) (hc : C[off]? = some v) : w.cell? ⟨cb, off, none⟩ = some v := by
  simp [World.cell?, hb, hc]

set_option maxHeartbeats 1000000 in
/-- appendAfter, where After has no count: b itself. -/
theorem after_nil (cb : Nat) (sv : Value) (w : World) (hc : w.cell? ⟨cb, 18, none⟩ = some (.map none)) :
    Calls Ybad.prog 8 #[.pointer (some ⟨cb, 0, none⟩), sv] w fun e w' => e = .returned sv ∧ w' = w := by
  go_enter Ybad.func8, Ybad.ntmps8
  go_wp2
  go_ret
  exact ⟨rfl, rfl⟩

set_option maxHeartbeats 1000000 in
theorem after_some (B n mb N cb : Nat) (C : Array Value) (L : List KN) (hL : L ≠ []) (sv : Value) (xs : List Value) (w : World) (hM : MapIs w mb N L) (hN : N ≤ 4096) (hown : w.ownsRow B 5 1 sv n xs) (hBw : B ≤ w.heap.size) (hlim : n + 400000 ≤ 140737488355328)
    (htab : Lib.TabBelow Ybad.prog B w powName .u64 Lib.pow10Tab) (hb : w.heap[cb]? = some (.cells C 43)) (hC : C[18]? = some (.map (some mb))) :
    Calls Ybad.prog 8 #[.pointer (some ⟨cb, 0, none⟩), sv] w fun e w' => ∃ v', e = .returned v' ∧ w'.ownsRow B 5 1 v' (n + (fullText L).length) (xs ++ Lib.byteCells (fullText L)) ∧ Kp B w w' := by
  obtain ⟨i0, hi, hz0, hz1, hz2⟩ := info_parts Ybad.info5
  obtain ⟨n0, D, hn0, hmap, hR⟩ := hM.ex
  have hsz : Maps.size D = L.length := Reads.size hmap hR
  have hpos : 0 < Maps.size D := by rw [hsz]; exact List.length_pos_iff.2 hL
  have hpz : ¬ (Maps.size D = 0) := by omega
  have hc := cell_block hb hC
  have HSZ := hide hsz
  have HT := hide htab
  have HM := hide hM
  have HLL := hide hM.len_le
  clear hsz htab hM
  go_enter Ybad.func8, Ybad.ntmps8
  go_wp2_with (first
    | (at_len; refine wpList_len_own _ rfl _ 25 rfl 32 29 Ybad.underlying25 _ mb n0 _ rfl hmap ?_)
    | (at_builtin; refine Lib.wpList_append_own_string _ rfl _ _ 23 9 rfl B 5 i0 Ybad.underlying23 Ybad.underlying9 hi hz0 hz1 hz2 _ _ _ rfl hown ⟨afterBytes.toArray⟩ rfl (by unfold maxLen; simp [afterBytes, ByteArray.size]; omega) (by simp [afterBytes, ByteArray.size]; omega) hBw ?_)
    | go_in)
  intro v1 w1 hown1 hgrow1 _
  have hkp1 : Kp B w w1 := ⟨(Below.refl B _).grown hgrow1 hBw (fun k hk => (hown.lt k hk).1), (Lib.OthersKept.refl _ _ _).grown hgrow1 (Lib.ownsRow_kind hown)⟩
  have hsz1 := hkp1.below.size
  have hown1' : w1.ownsRow B 5 1 v1 (n + afterBytes.length) (xs ++ Lib.byteCells afterBytes) := hown1
  have hb1 := hkp1.others _ _ hb (by simp) (by simp)
  have hc1 := cell_block hb1 hC
  have hal : afterBytes.length = 6 := rfl
  have hvt : (vtextTo (sortP L) L.length).length ≤ L.length * 54 := vtextTo_le _ (fun p hp => HM.out.u64 p (sortP_mem HM.out.nd hp)) _
  have hll := HLL.out
  have hcall := vecAppend_any B (n + afterBytes.length) mb N L v1 _ w1 (HM.out.kp hkp1) hN hown1' (by omega) (by omega) (fun w' hb' => HT.out w' (hkp1.below.trans hb'))
  have HK1 := hide hkp1
  have HVT := hide hvt
  clear hgrow1 hb1 hb hown1 hown1' hc hkp1 hvt
  go_wp2_with (first
    | (go_at_call 10; refine hcall.mono ?_; rintro e w2 ⟨v2, rfl, hown2, hkp2⟩)
    | (at_builtin; refine wpList_append_own_at _ rfl _ _ 23 rfl B 5 i0 (.int .u8 0) 1 1 Ybad.underlying23 hi hz0 hz1 hz2 rfl (by decide) _ _ _ rfl (hown2.alloc _) ⟨w2.heap.size, 0, none⟩ 1 1 [.int .u8 10] rfl rfl (news1 _ _) (by simp [Value.oneCell']) ?c3 ?c4 ?c5 ?_)
    | go_in)
  case c3 => have := HVT.out; unfold maxLen; omega
  case c4 => have := HVT.out; omega
  case c5 => have := hkp2.below.size; simp; omega
  intro v3 w3 hown3 hgrow3 _ _
  have hkp3 : Kp B w2 w3 := kp_append1 hown2 (by have := hkp2.below.size; omega) hgrow3
  clear hgrow3
  go_wp2
  go_ret
  refine ⟨v3, rfl, ?_, HK1.out.trans (hkp2.trans hkp3)⟩
  have e1 : n + (fullText L).length = n + afterBytes.length + (vtextTo (sortP L) L.length).length + 1 := by
    simp [fullText]
    omega
  have e2 : xs ++ Lib.byteCells (fullText L) = xs ++ Lib.byteCells afterBytes ++ Lib.byteCells (vtextTo (sortP L) L.length) ++ [.int .u8 10] := by
    simp [fullText, Lib.byteCells]
  rw [e1, e2, hal]
  simpa [List.append_assoc] using hown3
end Go.Proofs.YbulkedvmDoor
