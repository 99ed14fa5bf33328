import Derived.Test.YbulkedvmDoorW8
import Derived.Sort.OwnSorted
import Derived.Deep.MidRow
namespace Go.Proofs.YbulkedvmDoor
open Go Go.RowKit Go.Lib Go.Maps Go.Sort
set_option maxRecDepth 100000

def keyCells (ks : List Key) : List Value := ks.flatMap Key.cells

theorem keyCells_length (ks : List Key) : (keyCells ks).length = ks.length * 16 := by
  induction ks with
  | nil => rfl
  | cons k r ih =>
    show (k.cells ++ keyCells r).length = _
    rw [List.length_append, ih, k.cells_length, List.length_cons]
    omega

theorem keyCells_at (ks : List Key) : ∀ (i j : Nat) (k : Key), ks[i]? = some k → j < 16 → (keyCells ks)[i * 16 + j]? = k.cells[j]? := by
  induction ks with
  | nil => intro i j k h; simp at h
  | cons a r ih =>
    intro i j k h hj
    show (a.cells ++ keyCells r)[i * 16 + j]? = _
    cases i with
    | zero =>
      have e : a = k := by simpa using h
      subst e
      rw [List.getElem?_append_left (by rw [a.cells_length]; omega), Nat.zero_mul, Nat.zero_add]
    | succ i =>
      rw [List.getElem?_append_right (by rw [a.cells_length]; omega), a.cells_length, show (i + 1) * 16 + j - 16 = i * 16 + j by omega]
      exact ih i j k (by simpa using h) hj

theorem keyCells_snoc (ks : List Key) (k : Key) : keyCells (ks ++ [k]) = keyCells ks ++ k.cells := by simp [keyCells]

theorem flat_keys (ks : List Key) : (flatK Key.cells 16 ks.toArray).toList = keyCells ks := by
  apply List.ext_getElem?
  intro t
  by_cases ht : t < ks.length * 16
  · have hi : t / 16 < ks.length := by omega
    have h1 := keyCells_at ks (t / 16) (t % 16) ks[t / 16] (List.getElem?_eq_getElem hi) (by omega)
    rw [show t / 16 * 16 + t % 16 = t by omega] at h1
    rw [h1]
    have h2 : (ks.toArray)[t / 16]! = ks[t / 16] := by simp [hi]
    have hl := (ks[t / 16]).cells_length
    have h3 : t % 16 < ks[t / 16].cells.length := by omega
    rw [Array.getElem?_toList, Array.getElem?_eq_getElem (by simpa using ht), List.getElem?_eq_getElem h3]
    simp only [flatK, Array.getElem_map, Array.getElem_range, h2]
    simp [h3]
  · rw [List.getElem?_eq_none (by simp; omega), List.getElem?_eq_none (by rw [keyCells_length]; omega)]

theorem holds_of_blockV {w : World} {g : Nat} {cur : Array Value} {e : TypeId} {F : Array Value} (hb : w.heap[g]? = some (.cells cur e (0, 0))) (ht : cur.toList.take F.size = F.toList) : Holds id w g 0 F := by
  intro j hj
  refine ⟨?_, by simp [World.frozen?, hb]⟩
  have h1 : (cur.toList.take F.size)[j]? = F.toList[j]? := by rw [ht]
  rw [List.getElem?_take_of_lt hj] at h1
  simp only [World.cell?, hb, Nat.zero_add]
  simp only [Option.isSome_none, Bool.false_eq_true, if_false]
  rw [← Array.getElem?_toList, h1]
  simp [hj]

theorem heap_sortedV {w : World} {g n : Nat} {os : Array Obj} {cur : Array Value} {e : TypeId} {fr : Nat × Nat} (d : Array Value) (hb : w.heap[g]? = some (.cells cur e fr)) :
    (grow (putRow id (Sort.ahead w n) g 0 d) os).heap[g]? = some (.cells (putCells id 0 d cur) e fr) := by
  have hg : g < w.heap.size := (Array.getElem?_eq_some_iff.1 hb).1
  rw [heap_grow_old _ _ (by simpa using hg)]
  simp [putRow, mapBlock, Sort.ahead, Array.getElem?_modify, hb, onCells]

theorem grownBy_sortedV {w : World} {g n : Nat} {os : Array Obj} (d : Array Value) : w.grownBy (grow (putRow id (Sort.ahead w n) g 0 d) os) (some g) := by
  refine ⟨rfl, rfl, rfl, by simp, fun k hk hne => ?_⟩
  rw [heap_grow_old _ _ (by simpa using hk)]
  have : g ≠ k := fun e => hne (by rw [e])
  simp [putRow, mapBlock, Sort.ahead, Array.getElem?_modify, this]

theorem take_putCellsV (cur : Array Value) (ts : Array Value) (h : ts.size ≤ cur.size) : (putCells id 0 ts cur).toList.take ts.size = ts.toList := by
  apply List.ext_getElem?
  intro j
  by_cases hj : j < ts.size
  · rw [List.getElem?_take_of_lt hj, Array.getElem?_toList]
    simp [putCells, hj, show j < cur.size by omega]
  · rw [List.getElem?_take_eq_none (by omega), List.getElem?_eq_none (by simp; omega)]

/-- BEHIND THE SORT the same slice owns the sorted keys. -/
theorem ownsRow_sortedK {w : World} {base g cap n : Nat} {os : Array Obj} {cur : Array Value} {ks ts : List Key} (hl : ts.length = ks.length) (hbase : base ≤ g) (hb : w.heap[g]? = some (.cells cur 32 (0, 0)))
    (h1 : ks.length ≤ cap) (h2 : cap ≤ maxLen) (h3 : cur.size = cap * 16) :
    (sortWorldK Key.cells 16 w g 0 n ts.toArray os).ownsRow base 32 16 (.slice (some ⟨g, 0, none⟩) ks.length cap) ks.length (keyCells ts) := by
  refine ⟨by rw [keyCells_length, hl], .inr ⟨g, cap, _, rfl, hbase, heap_sortedV _ hb, h1, h2, by simp [putCells, h3], ?_⟩⟩
  have hsz : (flatK Key.cells 16 ts.toArray).size = ks.length * 16 := by simp [hl]
  have := take_putCellsV cur (flatK Key.cells 16 ts.toArray) (by rw [hsz, h3]; omega)
  rw [hsz, flat_keys] at this
  exact this

theorem sortKeys_length (l : List Key) : (sortKeys l).length = l.length := List.length_mergeSort _

theorem sortKeys_perm {l l' : List Key} (h : l.Perm l') : sortKeys l = sortKeys l' := by
  have tr : ∀ a b c : Key, (!(ltOf kcmp) b a) = true → (!(ltOf kcmp) c b) = true → (!(ltOf kcmp) c a) = true := fun a b c h1 h2 => by
    rw [kcmp_lt] at *; simp at *; omega
  have to : ∀ a b : Key, ((!(ltOf kcmp) b a) || (!(ltOf kcmp) a b)) = true := fun a b => by
    rw [kcmp_lt, kcmp_lt]; simp; omega
  refine List.Perm.eq_of_pairwise (le := fun a b => (!(ltOf kcmp) b a) = true) (fun a b _ _ h1 h2 => ?_) (List.pairwise_mergeSort tr to l) (List.pairwise_mergeSort tr to l') (((List.mergeSort_perm l _).trans h).trans (List.mergeSort_perm l' _).symm)
  exact ktot a b (by simpa using h2) (by simpa using h1)
end Go.Proofs.YbulkedvmDoor
