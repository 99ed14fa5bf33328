import Derived.Test.YbulkedvmDoorW22
namespace Go.Proofs.YbulkedvmDoor
open Go Go.RowKit Go.Lib Go.Maps Go.Sort
set_option maxRecDepth 100000

theorem keys_set {L : List KN} {j : Nat} (hj : j < L.length) {p : KN} (he : L[j].1 = p.1) : (L.set j p).map (·.1) = L.map (·.1) := by
  rw [List.map_set]
  have : (L.map (·.1))[j]'(by simpa using hj) = p.1 := by simp [he]
  rw [← this, List.set_getElem_self]

theorem put_ne_row {w : World} {base e size n mb : Nat} {v : Value} {xs : List Value} {N : Nat} {L : List KN} {key : Key} {u : Nat} (h : w.ownsRow base e size v n xs) (hm : PutIs w mb N L key u) : v.ownBlock ≠ some mb := by
  obtain ⟨n0, D, _, ⟨es, clock, hb, _⟩, _⟩ := hm.ex
  rcases h.2 with ⟨rfl, _⟩ | ⟨g, cap, cur, rfl, _, hg, _⟩
  · simp [Value.ownBlock]
  · intro e1
    have : g = mb := by simpa [Value.ownBlock] using e1
    subst this
    rw [hg] at hb
    cases hb

theorem PutIs.lt {w : World} {mb N : Nat} {L : List KN} {key : Key} {v : Nat} (h : PutIs w mb N L key v) : mb < w.heap.size := by
  obtain ⟨n0, D, _, h2, _⟩ := h.ex
  exact h2.lt

theorem PutIs.kept {w w' : World} {mb N : Nat} {L : List KN} {key : Key} {v : Nat} {row : Option Nat} (h : PutIs w mb N L key v) (hg : w.grownBy w' row) (hne : row ≠ some mb) : PutIs w' mb N L key v :=
  h.block (hg.block _ h.lt (fun e => hne e.symm))

/-- THE KEY IS AT PLACE j: the count there is set. -/
theorem B2.found {w W : World} {mb k T g cap : Nat} {p : KN} {ms : Value} {L : List KN} (h : B2 w W mb k T p ms (.slice (some ⟨g, 0, none⟩) L.length cap) L) (j : Nat) (hj : j < L.length) (he : L[j].1 = p.1) :
    B1 w (W.setCell ⟨g, j, none⟩ (.int .u64 (p.2 : Nat))) mb k ms (.slice (some ⟨g, 0, none⟩) L.length cap) (L.set j p) := by
  obtain ⟨h1, h2⟩ := h.kns.stored j (.int .u64 (p.2 : Nat))
  have hne := put_ne_row h.kns h.put
  refine ⟨h.bel.grown h2 h.bel.size (fun a ha => by cases ha; exact (h.kns.lt g rfl).1), ?_, ?_, ?_⟩
  · have := (h.put.kept h2 (by simpa [Value.ownBlock] using hne)).set j hj he
    exact this
  · rw [keys_set hj he, List.length_set]
    exact h.kms.kept h2 (by have := rows_apart h.kms h.kns (by decide); simpa [Value.ownBlock] using this)
  · rw [List.length_set]
    have e : numCells (L.set j p) = (numCells L).set j (.int .u64 (p.2 : Nat)) := by simp [numCells, List.map_set]
    rw [e]
    exact h1
end Go.Proofs.YbulkedvmDoor
