import Derived.Test.YbulkedvmDoorW23
namespace Go.Proofs.YbulkedvmDoor
open Go Go.RowKit Go.Lib Go.Maps Go.Sort
set_option maxRecDepth 100000

/-- BETWEEN THE TWO APPENDS: the members have grown. -/
structure B3 (w W : World) (mb k T : Nat) (p : KN) (ms ns : Value) (L : List KN) : Prop where
  bel : Below w.heap.size w W
  put : PutIs W mb k L p.1 p.2
  kms : W.ownsRow w.heap.size 28 16 ms (L.length + 1) (keyCells (L.map (·.1)) ++ p.1.cells)
  kns : W.ownsRow w.heap.size 29 1 ns L.length (numCells L)
  box : W.heap[T]? = some (.cells (pairCells p).toArray 31)

theorem B2.grow {w W W1 : World} {mb k T : Nat} {p : KN} {ms ns ms' : Value} {L : List KN} (h : B2 w W mb k T p ms ns L) {o : Obj} (hg : (W.alloc o).grownBy W1 ms.ownBlock)
    (hown : W1.ownsRow w.heap.size 28 16 ms' (L.length + 1) (keyCells (L.map (·.1)) ++ p.1.cells)) : B3 w W1 mb k T p ms' ns L := by
  have hT : T < W.heap.size := (Array.getElem?_eq_some_iff.1 h.box).1
  refine ⟨(h.bel.alloc h.bel.size o).grown hg (by have := h.bel.size; simp; omega) (fun a ha => (h.kms.lt a ha).1), ?_, hown, ?_, ?_⟩
  · exact (h.put.kept (World.grownBy_alloc W o none) (by simp)).kept hg (put_ne_row h.kms h.put)
  · exact (h.kns.alloc o).kept hg (rows_apart h.kns h.kms (by decide))
  · rw [hg.block _ (by simp; omega) ?_]
    · rw [Below.heap_alloc _ _ _ hT]
      exact h.box
    · intro e
      rcases h.kms.2 with ⟨rfl, _⟩ | ⟨g, cap, cur, rfl, _, hg2, _⟩
      · simp [Value.ownBlock] at e
      · have : T = g := by simpa [Value.ownBlock] using e
        subst this
        have h2 := h.box
        rw [hg2] at h2
        simp at h2

theorem B3.grow {w W W1 : World} {mb k T : Nat} {p : KN} {ms ns ns' : Value} {L : List KN} (h : B3 w W mb k T p ms ns L) {o : Obj} (hg : (W.alloc o).grownBy W1 ns.ownBlock)
    (hown : W1.ownsRow w.heap.size 29 1 ns' (L.length + 1) (numCells L ++ [.int .u64 (p.2 : Nat)])) (hk : ∀ q ∈ L, q.1 ≠ p.1) : B1 w W1 mb k ms ns' (L ++ [p]) := by
  refine ⟨(h.bel.alloc h.bel.size o).grown hg (by have := h.bel.size; simp; omega) (fun a ha => (h.kns.lt a ha).1), ?_, ?_, ?_⟩
  · exact ((h.put.kept (World.grownBy_alloc W o none) (by simp)).kept hg (put_ne_row h.kns h.put)).snoc hk
  · have e1 : keyCells ((L ++ [p]).map (·.1)) = keyCells (L.map (·.1)) ++ p.1.cells := by rw [List.map_append]; exact keyCells_snoc _ _
    rw [e1, List.length_append, List.length_singleton]
    exact (h.kms.alloc o).kept hg (rows_apart h.kms h.kns (by decide))
  · have e1 : numCells (L ++ [p]) = numCells L ++ [.int .u64 (p.2 : Nat)] := by simp [numCells]
    rw [e1, List.length_append, List.length_singleton]
    exact hown
end Go.Proofs.YbulkedvmDoor
