import Derived.Test.YbulkedvmDoorW13
namespace Go.Proofs.YbulkedvmDoor
open Go Go.RowKit Go.Lib Go.Maps Go.Sort
set_option maxRecDepth 100000

def idText (p : KN) : List UInt8 := Lib.decDigits p.2 ++ (64 :: Lib.Hx.encode p.1.1)

theorem idText_le (p : KN) (h : p.2 < 18446744073709551616) : (idText p).length ≤ 53 := by
  have h1 : (Lib.decDigits p.2).length ≤ 20 := by rw [Lib.decDigits_length]; exact Lib.nDigits_le20 _ h
  have h2 : (Lib.Hx.encode p.1.1).length = 32 := by rw [Lib.Hx.encode_length, p.1.2]
  simp [idText]
  omega

theorem news1 (w : World) (a : Value) (j : Nat) (u : Value) (hj : [a][j]? = some u) : (w.alloc (.cells #[a] 5)).cell? ((⟨w.heap.size, 0, none⟩ : Addr).add j) = some u := by
  rw [Go.WideShapes.add_plain, Nat.zero_add, World.cell?_alloc_at _ _ _ _ rfl]
  simpa using hj

theorem kp_append1 {B n : Nat} {wr w1 : World} {u : Value} {xs : List Value} {o : Obj} (hown : wr.ownsRow B 5 1 u n xs) (hB : B ≤ wr.heap.size) (hg : (wr.alloc o).grownBy w1 u.ownBlock) : Kp B wr w1 :=
  ⟨((Below.refl B wr).alloc hB o).grown hg (by simp; omega) (fun k hk => (hown.lt k hk).1), ((Lib.OthersKept.refl 5 none wr).alloc o).grown hg (Lib.ownsRow_kind (hown.alloc o))⟩

theorem tab_kp {w w' : World} (h : Lib.TabIs Ybad.prog w powName .u64 Lib.pow10Tab) (hb : Below w.heap.size w w') : Lib.TabIs Ybad.prog w' powName .u64 Lib.pow10Tab :=
  tabBelow_of_tabIs h w' hb

set_option maxHeartbeats 1000000 in
theorem idAppend_any (B n : Nat) (m : Key) (u : Nat) (hu : u < 18446744073709551616) (sv : Value) (xs : List Value) (w : World) (hown : w.ownsRow B 5 1 sv n xs) (hBw : B ≤ w.heap.size) (hlim : n + 100 ≤ 140737488355328)
    (htab : Lib.TabIs Ybad.prog w powName .u64 Lib.pow10Tab) :
    Calls Ybad.prog 12 #[.agg (Value.int .u64 (u : Nat) :: m.cells).toArray, sv] w fun e w' => ∃ v', e = .returned v' ∧ w'.ownsRow B 5 1 v' (n + (idText (m, u)).length) (xs ++ Lib.byteCells (idText (m, u))) ∧ Kp B w w' := by
  obtain ⟨i0, hi, hz0, hz1, hz2⟩ := info_parts Ybad.info5
  have hdl : (Lib.decDigits u).length ≤ 20 := by rw [Lib.decDigits_length]; exact Lib.nDigits_le20 _ hu
  have hc := appendUint_any B n u hu sv xs (w.alloc (.cells (Value.int .u64 (u : Nat) :: m.cells).toArray 39)) (hown.alloc _) (by simp; omega) (by omega) (tab_kp htab ((Below.refl _ _).alloc (Nat.le_refl _) _))
  clear htab
  go_enter Ybad.func12, Ybad.ntmps12
  go_wp2_with (first
    | (go_at_call 15; refine hc.mono ?_; rintro e w1 ⟨v1, rfl, hown1, hkp1⟩)
    | (at_builtin; refine wpList_append_own_at _ rfl _ _ 23 rfl B 5 i0 (.int .u8 0) 1 1 Ybad.underlying23 hi hz0 hz1 hz2 rfl (by decide) _ _ _ rfl (hown1.alloc _) ⟨w1.heap.size, 0, none⟩ 1 1 [.int .u8 64] rfl rfl (news1 _ _) (by simp [Value.oneCell']) (by unfold maxLen; omega) (by omega) ?c5 ?_))
  case c5 => have := hkp1.below.size; simp at this ⊢; omega
  intro v2 w2 hown2 hgrow _ hat
  have hsz1 := hkp1.below.size
  rw [World.size_alloc] at hsz1
  have hkp2 : Kp B w1 w2 := kp_append1 hown1 (by omega) hgrow
  have hsz2 := hkp2.below.size
  have hblk : w2.heap[w.heap.size]? = some (.cells (Value.int .u64 (u : Nat) :: m.cells).toArray 39) := hkp2.others _ _ (hkp1.others _ _ (heap_alloc_new w _) (by simp) (by simp)) (by simp) (by simp)
  have hrg : w2.rangeAt w.heap.size 1 m.cells := by
    intro j v hj
    simp [World.cell?, hblk]
    rw [Nat.add_comm 1 j]
    simpa using hj
  have hc2 := memAppend_any B (n + (Lib.decDigits u).length + 1) m v2 _ w2 hown2 (by omega) (by omega)
  clear hat hgrow hblk
  go_wp2_with (first
    | (refine wpList_load_mid rfl 32 (.tmp 12) rfl w.heap.size 1 rfl m.cells _ hrg Ybad.underlying32 rfl (size32 m) ?_)
    | (go_at_call 16; refine hc2.mono ?_; rintro e w3 ⟨v3, rfl, hown3, hkp3⟩))
  go_ret
  refine ⟨v3, rfl, ?_, ((Kp.refl B w).alloc hBw _).trans (hkp1.trans (hkp2.trans hkp3))⟩
  have e1 : (idText (m, u)).length = (Lib.decDigits u).length + 1 + 32 := by
    simp [idText, Lib.Hx.encode_length, m.2]
  have e2 : xs ++ Lib.byteCells (idText (m, u)) = xs ++ (Lib.byteCells (Lib.decDigits u) ++ [.int .u8 64]) ++ Lib.byteCells (Lib.Hx.encode m.1) := by
    simp [idText, Lib.byteCells]
  rw [e1, e2, ← Nat.add_assoc, ← Nat.add_assoc]
  exact hown3
end Go.Proofs.YbulkedvmDoor
