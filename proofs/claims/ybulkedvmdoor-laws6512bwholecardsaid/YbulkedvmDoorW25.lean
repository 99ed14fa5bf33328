import Derived.Test.YbulkedvmDoorW24
namespace Go.Proofs.YbulkedvmDoor
open Go Go.RowKit Go.Lib Go.Maps Go.Sort
set_option maxRecDepth 100000

def setList : List Value → Nat → List Value → List Value
  | xs, _, [] => xs
  | xs, o, v :: r => setList (xs.set o v) (o + 1) r

theorem setList_length : ∀ (vs : List Value) (o : Nat) (xs : List Value), (setList xs o vs).length = xs.length
  | [], _, _ => rfl
  | v :: r, o, xs => by
    show (setList (xs.set o v) (o + 1) r).length = _
    rw [setList_length r, List.length_set]

theorem setList_at : ∀ (vs : List Value) (o : Nat) (xs : List Value) (t : Nat), t < xs.length → (setList xs o vs)[t]? = if o ≤ t ∧ t < o + vs.length then vs[t - o]? else xs[t]?
  | [], o, xs, t, _ => by
    rw [if_neg (by simp)]
    rfl
  | v :: r, o, xs, t, ht => by
    show (setList (xs.set o v) (o + 1) r)[t]? = _
    rw [setList_at r (o + 1) _ t (by simpa using ht)]
    by_cases h1 : o + 1 ≤ t ∧ t < o + 1 + r.length
    · rw [if_pos h1, if_pos (by simp; omega), show t - o = (t - (o + 1)) + 1 by omega]
      simp
    · rw [if_neg h1]
      by_cases h2 : t = o
      · subst h2
        rw [if_pos (by simp), List.getElem?_set_self ht, Nat.sub_self]
        rfl
      · rw [if_neg (by simp; omega), List.getElem?_set_ne (fun e => h2 e.symm)]

theorem keyCells_set (ks : List Key) (i : Nat) (hi : i < ks.length) (k : Key) : setList (keyCells ks) (i * 16) k.cells = keyCells (ks.set i k) := by
  apply List.ext_getElem?
  intro t
  by_cases ht : t < ks.length * 16
  · rw [setList_at _ _ _ _ (by rw [keyCells_length]; exact ht), k.cells_length]
    have hq : t / 16 < ks.length := by omega
    by_cases h : i * 16 ≤ t ∧ t < i * 16 + 16
    · rw [if_pos h]
      have h1 := keyCells_at (ks.set i k) i (t - i * 16) k (by rw [List.getElem?_set_self hi]) (by omega)
      rw [show i * 16 + (t - i * 16) = t by omega] at h1
      exact h1.symm
    · rw [if_neg h]
      have hne : ¬ (i = t / 16) := by omega
      have h1 := keyCells_at (ks.set i k) (t / 16) (t % 16) ks[t / 16] (by rw [List.getElem?_set_ne hne, List.getElem?_eq_getElem hq]) (by omega)
      have h2 := keyCells_at ks (t / 16) (t % 16) ks[t / 16] (List.getElem?_eq_getElem hq) (by omega)
      rw [show t / 16 * 16 + t % 16 = t by omega] at h1 h2
      rw [h1, h2]
  · rw [List.getElem?_eq_none (by rw [setList_length, keyCells_length]; omega), List.getElem?_eq_none (by rw [keyCells_length, List.length_set]; omega)]

theorem row_setCells {base e size g cap n : Nat} : ∀ (vs : List Value) (o : Nat) (xs : List Value) (w : World), w.ownsRow base e size (.slice (some ⟨g, 0, none⟩) n cap) n xs →
    (w.setCells g o vs).ownsRow base e size (.slice (some ⟨g, 0, none⟩) n cap) n (setList xs o vs) ∧ w.grownBy (w.setCells g o vs) (some g)
  | [], _, _, w, h => ⟨h, World.grownBy.refl w _⟩
  | v :: r, o, xs, w, h => by
    obtain ⟨h1, h2⟩ := h.stored o v
    obtain ⟨h3, h4⟩ := row_setCells r (o + 1) _ _ h1
    exact ⟨h3, h2.trans h4⟩

theorem row_range {w : World} {base t g cap n : Nat} {ks : List Key} (h : w.ownsRow base t 16 (.slice (some ⟨g, 0, none⟩) n cap) n (keyCells ks)) (i : Nat) (k : Key) (hk : ks[i]? = some k) : w.rangeAt g (i * 16) k.cells := by
  intro j v hj
  have hjl : j < 16 := by have := (List.getElem?_eq_some_iff.1 hj).1; rwa [k.cells_length] at this
  have hi : i < ks.length := (List.getElem?_eq_some_iff.1 hk).1
  have hl := h.1
  rw [keyCells_length] at hl
  rw [h.cellAt (i * 16 + j) (by omega), keyCells_at ks i j k hk hjl]
  exact hj

theorem row_there {w : World} {base t g cap n : Nat} {ks : List Key} (h : w.ownsRow base t 16 (.slice (some ⟨g, 0, none⟩) n cap) n (keyCells ks)) (i : Nat) (hi : i < ks.length) : w.there g (i * 16) 16 := by
  intro j hj
  have hl := h.1
  rw [keyCells_length] at hl
  refine ⟨?_, h.frozenAt _⟩
  rw [h.cellAt (i * 16 + j) (by omega), keyCells_at ks i j ks[i] (List.getElem?_eq_getElem hi) hj, List.getElem?_eq_getElem (by rw [Key.cells_length]; exact hj)]
  rfl

/-- v reads as L: nil, or the map in some block. -/
structure VIs (w : World) (v : Value) (N : Nat) (L : List KN) : Prop where
  out : (v = .map none ∧ L = []) ∨ ∃ mb, v = .map (some mb) ∧ MapIs w mb N L

structure S2 (w W : World) (v ms ns : Value) (N : Nat) (L P : List KN) : Prop where
  bel : Below w.heap.size w W
  map : VIs W v N L
  kms : W.ownsRow w.heap.size 28 16 ms P.length (keyCells (P.map (·.1)))
  kns : W.ownsRow w.heap.size 29 1 ns P.length (numCells P)
  perm : P.Perm L

theorem VIs.row {w W' : World} {v : Value} {N : Nat} {L : List KN} (h : VIs w v N L) {base e size n : Nat} {u : Value} {xs : List Value} (hr : w.ownsRow base e size u n xs) (hg : w.grownBy W' u.ownBlock) : VIs W' v N L := by
  rcases h.out with h1 | ⟨mb, h1, h2⟩
  · exact ⟨Or.inl h1⟩
  · refine ⟨Or.inr ⟨mb, h1, h2.kept hg ?_⟩⟩
    rcases row_ne_map hr h2 with e | e
    · rw [e]; simp
    · exact fun e2 => e e2.symm
theorem VIs.below {w W' : World} {v : Value} {N : Nat} {L : List KN} (h : VIs w v N L) (hb : Below w.heap.size w W') : VIs W' v N L := by
  rcases h.out with h1 | ⟨mb, h1, h2⟩
  · exact ⟨Or.inl h1⟩
  · exact ⟨Or.inr ⟨mb, h1, h2.block (hb.block _ h2.lt)⟩⟩
theorem VIs.kp {B : Nat} {w W' : World} {v : Value} {N : Nat} {L : List KN} (h : VIs w v N L) (hb : Kp B w W') : VIs W' v N L := by
  rcases h.out with h1 | ⟨mb, h1, h2⟩
  · exact ⟨Or.inl h1⟩
  · exact ⟨Or.inr ⟨mb, h1, h2.kp hb⟩⟩

theorem S2.below {w W W' : World} {v ms ns : Value} {N : Nat} {L P : List KN} (h : S2 w W v ms ns N L P) (hb : Below W.heap.size W W') : S2 w W' v ms ns N L P :=
  ⟨h.bel.trans (Below.lower hb h.bel.size), h.map.below hb, row_below_all hb h.kms, row_below_all hb h.kns, h.perm⟩

/-- One of the members is written over. -/
structure S3 (w W : World) (v ms ns : Value) (N : Nat) (L : List KN) (ks : List Key) (vs : List Value) (n : Nat) : Prop where
  bel : Below w.heap.size w W
  map : VIs W v N L
  kms : W.ownsRow w.heap.size 28 16 ms n (keyCells ks)
  kns : W.ownsRow w.heap.size 29 1 ns n vs

theorem S3.setKey {w W : World} {v ns : Value} {N g cap n : Nat} {L : List KN} {ks : List Key} {vs : List Value} (h : S3 w W v (.slice (some ⟨g, 0, none⟩) n cap) ns N L ks vs n) (i : Nat) (hi : i < ks.length) (k : Key) :
    S3 w (W.setCells g (i * 16) k.cells) v (.slice (some ⟨g, 0, none⟩) n cap) ns N L (ks.set i k) vs n := by
  obtain ⟨h1, h2⟩ := row_setCells k.cells (i * 16) _ _ h.kms
  rw [keyCells_set ks i hi k] at h1
  exact ⟨h.bel.grown h2 h.bel.size (fun a ha => by cases ha; exact (h.kms.lt g rfl).1), h.map.row h.kms h2, h1, h.kns.kept h2 (by have := rows_apart h.kns h.kms (by decide); simpa [Value.ownBlock] using this)⟩

theorem S3.setNum {w W : World} {v ms : Value} {N g cap n : Nat} {L : List KN} {ks : List Key} {vs : List Value} (h : S3 w W v ms (.slice (some ⟨g, 0, none⟩) n cap) N L ks vs n) (i : Nat) (x : Value) :
    S3 w (W.setCell ⟨g, i, none⟩ x) v ms (.slice (some ⟨g, 0, none⟩) n cap) N L ks (vs.set i x) n := by
  obtain ⟨h1, h2⟩ := h.kns.stored i x
  exact ⟨h.bel.grown h2 h.bel.size (fun a ha => by cases ha; exact (h.kns.lt g rfl).1), h.map.row h.kns h2, h.kms.kept h2 (by have := rows_apart h.kms h.kns (by decide); simpa [Value.ownBlock] using this), h1⟩

theorem S3.alloc {w W : World} {v ms ns : Value} {N n : Nat} {L : List KN} {ks : List Key} {vs : List Value} (h : S3 w W v ms ns N L ks vs n) (o : Obj) : S3 w (W.alloc o) v ms ns N L ks vs n := by
  have hb : Below W.heap.size W (W.alloc o) := (Below.refl _ _).alloc (Nat.le_refl _) o
  exact ⟨h.bel.trans (Below.lower hb h.bel.size), h.map.below hb, row_below_all hb h.kms, row_below_all hb h.kns⟩

theorem S2.three {w W : World} {v ms ns : Value} {N : Nat} {L P : List KN} (h : S2 w W v ms ns N L P) : S3 w W v ms ns N L (P.map (·.1)) (numCells P) P.length := ⟨h.bel, h.map, h.kms, h.kns⟩

/-- THE SWAP IS DONE. -/
theorem S3.swapped {w W : World} {v ms ns : Value} {N j : Nat} {L P : List KN} {x y : KN} (h : S3 w W v ms ns N L (((P.map (·.1)).set (j + 1) x.1).set j y.1) (((numCells P).set (j + 1) (.int .u64 (x.2 : Nat))).set j (.int .u64 (y.2 : Nat))) P.length)
    (hp : P.Perm L) (hx : P[j]? = some x) (hy : P[j + 1]? = some y) : S2 w W v ms ns N L (swapAt P j x y) := by
  have hl : (swapAt P j x y).length = P.length := by simp [swapAt]
  have e1 : (swapAt P j x y).map (·.1) = ((P.map (·.1)).set (j + 1) x.1).set j y.1 := by simp [swapAt, List.map_set]
  have e2 : numCells (swapAt P j x y) = ((numCells P).set (j + 1) (.int .u64 (x.2 : Nat))).set j (.int .u64 (y.2 : Nat)) := by simp [numCells, swapAt, List.map_set]
  refine ⟨h.bel, h.map, ?_, ?_, (swap_perm P j x y hx hy).trans hp⟩
  · rw [hl, e1]; exact h.kms
  · rw [hl, e2]; exact h.kns
end Go.Proofs.YbulkedvmDoor
