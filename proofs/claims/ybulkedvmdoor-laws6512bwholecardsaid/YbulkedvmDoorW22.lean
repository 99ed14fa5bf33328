import Derived.Test.YbulkedvmDoorW21
namespace Go.Proofs.YbulkedvmDoor
open Go Go.RowKit Go.Lib Go.Maps Go.Sort
set_option maxRecDepth 100000
set_option linter.unusedSimpArgs false

abbrev z17 : Array Value := #[.int .u8 0, .int .u8 0, .int .u8 0, .int .u8 0, .int .u8 0, .int .u8 0, .int .u8 0, .int .u8 0, .int .u8 0, .int .u8 0, .int .u8 0, .int .u8 0, .int .u8 0, .int .u8 0, .int .u8 0, .int .u8 0, .int .u64 0]

theorem pair_one (p : KN) : ∀ v ∈ pairCells p, v.oneCell' = true := by
  intro v hv
  rcases List.mem_append.1 hv with h | h
  · exact Key.one p.1 v h
  · simp at h; subst h; rfl

theorem box_count (w : World) (p : KN) : (w.alloc (.cells (pairCells p).toArray 31)).cell? ⟨w.heap.size, 16, none⟩ = some (.int .u64 (p.2 : Nat)) := by
  rw [World.cell?_alloc_at _ _ _ _ rfl]
  simp [pairCells, List.getElem?_append_right, p.1.cells_length]
theorem box_key (w : World) (p : KN) : (w.alloc (.cells (pairCells p).toArray 31)).rangeAt w.heap.size 0 p.1.cells := by
  intro j v hj
  have hjl : j < p.1.cells.length := (List.getElem?_eq_some_iff.1 hj).1
  rw [Nat.zero_add, World.cell?_alloc_at _ _ _ _ rfl]
  simp only [pairCells, List.getElem?_toArray]
  rw [List.getElem?_append_left hjl]
  exact hj

/-- IN A ROUND OF LOOP 1, behind the map's store. -/
structure B2 (w W : World) (mb k T : Nat) (p : KN) (ms ns : Value) (L : List KN) : Prop where
  bel : Below w.heap.size w W
  put : PutIs W mb k L p.1 p.2
  kms : W.ownsRow w.heap.size 28 16 ms L.length (keyCells (L.map (·.1)))
  kns : W.ownsRow w.heap.size 29 1 ns L.length (numCells L)
  box : W.heap[T]? = some (.cells (pairCells p).toArray 31)

theorem row_ne_map {w : World} {base e size n mb : Nat} {v : Value} {xs : List Value} {N : Nat} {L : List KN} (h : w.ownsRow base e size v n xs) (hm : MapIs w mb N L) : v.ownBlock = none ∨ v.ownBlock ≠ some mb := by
  obtain ⟨n0, D, _, ⟨es, clock, hb, _⟩, _⟩ := hm.ex
  rcases h.2 with ⟨rfl, _⟩ | ⟨g, cap, cur, rfl, _, hg, _⟩
  · left; rfl
  · right
    intro e1
    have : g = mb := by simpa [Value.ownBlock] using e1
    subst this
    rw [hg] at hb
    cases hb

theorem B1.put {w W W1 : World} {mb k : Nat} {ms ns : Value} {L : List KN} (h : B1 w W mb k ms ns L) (p : KN) (hmb : w.heap.size ≤ mb) (hp : p.2 < 18446744073709551616) {n0 : Nat} {D : DataW Unit} (hn0 : n0 ≤ k)
    (hm : IsMap D) (hR : Reads D L) (hown : W1.ownsMap Ybad.prog 32 (plainElem Ybad.prog 29) mb (n0 + 1) (D.put (lit p.1) (num p.2))) (hg : (W.alloc (.cells (pairCells p).toArray 31)).grownBy W1 (some mb)) : B2 w W1 mb (k + 1) W.heap.size p ms ns L := by
  have hA := h.alloc (.cells (pairCells p).toArray 31)
  refine ⟨hA.bel.grown hg hA.bel.size (fun j hj => by cases hj; exact hmb), ⟨⟨n0 + 1, D, by omega, hown, hR, hm⟩, h.map.u64, hp⟩, hA.kms.kept hg (row_ne_map hA.kms hA.map), hA.kns.kept hg (row_ne_map hA.kns hA.map), ?_⟩
  rw [hg.block _ (by simp) (fun e => by have := h.map.lt; cases e; omega)]
  exact heap_alloc_new W _

end Go.Proofs.YbulkedvmDoor
