import Derived.Test.YbulkedvmDoorW20
namespace Go.Proofs.YbulkedvmDoor
open Go Go.RowKit Go.Lib Go.Maps Go.Sort
set_option maxRecDepth 100000

def numCells (L : List KN) : List Value := L.map fun p => .int .u64 (p.2 : Nat)

/-- LOOP 1: the map, the members and the counts read as one list. -/
structure B1 (w W : World) (mb k : Nat) (ms ns : Value) (L : List KN) : Prop where
  bel : Below w.heap.size w W
  map : MapIs W mb k L
  kms : W.ownsRow w.heap.size 28 16 ms L.length (keyCells (L.map (·.1)))
  kns : W.ownsRow w.heap.size 29 1 ns L.length (numCells L)


theorem B1.start (w : World) : B1 w (w.alloc (.map #[] 0)) w.heap.size 0 (.slice none 0 0) (.slice none 0 0) [] :=
  ⟨(Below.refl _ _).alloc (Nat.le_refl _) _, MapIs.empty w, World.ownsRow_nil _ _ _ _, World.ownsRow_nil _ _ _ _⟩

theorem B1.alloc {w W : World} {mb k : Nat} {ms ns : Value} {L : List KN} (h : B1 w W mb k ms ns L) (o : Obj) : B1 w (W.alloc o) mb k ms ns L :=
  ⟨h.bel.alloc h.bel.size o, h.map.block (Below.heap_alloc _ _ _ h.map.lt), h.kms.alloc o, h.kns.alloc o⟩
end Go.Proofs.YbulkedvmDoor
