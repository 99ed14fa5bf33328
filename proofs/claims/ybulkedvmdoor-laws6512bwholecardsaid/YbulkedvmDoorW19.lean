import Derived.Test.YbulkedvmDoorW18
namespace Go.Proofs.YbulkedvmDoor
open Go Go.RowKit Go.Lib Go.Maps Go.Sort
set_option maxRecDepth 100000

set_option maxHeartbeats 1000000 in
/-- appendAfter at a map that is made but empty: b itself. -/
theorem after_empty (mb N cb : Nat) (sv : Value) (w : World) (hM : MapIs w mb N []) (hc : w.cell? ⟨cb, 18, none⟩ = some (.map (some mb))) :
    Calls Ybad.prog 8 #[.pointer (some ⟨cb, 0, none⟩), sv] w fun e w' => e = .returned sv ∧ w' = w := by
  obtain ⟨n0, D, hn0, hmap, hR⟩ := hM.ex
  have hsz : Maps.size D = 0 := Reads.size hmap hR
  go_enter Ybad.func8, Ybad.ntmps8
  go_wp2_with (first
    | (at_len; refine wpList_len_own _ rfl _ 25 rfl 32 29 Ybad.underlying25 _ mb n0 _ rfl hmap ?_)
    | go_in)
  go_ret
  exact ⟨rfl, rfl⟩

/-- One pair's cells: the member's sixteen bytes, the count. -/
def pairCells (p : KN) : List Value := p.1.cells ++ [.int .u64 (p.2 : Nat)]
theorem pairCells_length (p : KN) : (pairCells p).length = 17 := by simp [pairCells, p.1.cells_length]

/-- THE MAP HAS TAKEN key ↦ v; AS A LIST IT STILL READ AS L BEFORE. -/
structure PutIs (w : World) (mb N : Nat) (L : List KN) (key : Key) (v : Nat) : Prop where
  ex : ∃ (n : Nat) (D : DataW Unit), n ≤ N ∧ w.ownsMap Ybad.prog 32 (plainElem Ybad.prog 29) mb n (D.put (lit key) (num v)) ∧ Reads D L ∧ IsMap D
  u64 : ∀ p ∈ L, p.2 < 18446744073709551616
  v64 : v < 18446744073709551616

theorem PutIs.block {w w' : World} {mb N : Nat} {L : List KN} {key : Key} {v : Nat} (h : PutIs w mb N L key v) (e : w'.heap[mb]? = w.heap[mb]?) : PutIs w' mb N L key v := by
  obtain ⟨n, D, h1, h2, h3, h4⟩ := h.ex
  exact ⟨⟨n, D, h1, ownsMap_block h2 e, h3, h4⟩, h.u64, h.v64⟩

theorem PutIs.snoc {w : World} {mb N : Nat} {L : List KN} {key : Key} {v : Nat} (h : PutIs w mb N L key v) (hk : ∀ p ∈ L, p.1 ≠ key) : MapIs w mb N (L ++ [(key, v)]) := by
  obtain ⟨n, D, h1, h2, h3, h4⟩ := h.ex
  refine ⟨⟨n, _, h1, h2, h3.snoc h4 key v hk⟩, fun p hp => ?_⟩
  rcases List.mem_append.1 hp with h5 | h5
  · exact h.u64 p h5
  · simp at h5
    subst h5
    exact h.v64

theorem PutIs.set {w : World} {mb N : Nat} {L : List KN} {key : Key} {v : Nat} (h : PutIs w mb N L key v) (j : Nat) (hj : j < L.length) (he : L[j].1 = key) : MapIs w mb N (L.set j (key, v)) := by
  obtain ⟨n, D, h1, h2, h3, h4⟩ := h.ex
  subst he
  refine ⟨⟨n, _, h1, h2, h3.set h4 j hj v⟩, fun p hp => ?_⟩
  rcases List.mem_or_eq_of_mem_set hp with h5 | h5
  · exact h.u64 p h5
  · subst h5
    exact h.v64

theorem MapIs.empty (w : World) : MapIs (w.alloc (.map #[] 0)) w.heap.size 0 [] :=
  ⟨⟨0, .map [], Nat.le_refl _, World.ownsMap_made _ _ _ _, Reads.empty⟩, fun p hp => by cases hp⟩
end Go.Proofs.YbulkedvmDoor
