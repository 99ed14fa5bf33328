import Derived.Test.YbulkedwaL1
namespace Go.Proofs.Ybulkedwa
open Go Go.RowKit
set_option maxRecDepth 100000
set_option linter.unusedVariables false
set_option linter.unusedSimpArgs false

theorem info4 : (Yba.prog.info? 4).map (fun i => (i.zero, i.size, i.bytes)) = some (some (.bool false), 1, 1) := by kernel_rfl
theorem info46 : (Yba.prog.info? 46).map (fun i => (i.zero, i.size, i.bytes)) = some (some (.int .u64 0), 1, 8) := by kernel_rfl

structure LA (W0 W : World) (n db jb : Nat) (tv hv : Value) (E : Arcs) : Prop where
  bel : Below W0.heap.size W0 W
  l4 : L4 W0.heap.size W (.slice (some ⟨db, 0, none⟩) n n) tv hv (.slice (some ⟨jb, 0, none⟩) (n * n) (n * n)) n E.length E.length (n * n) (degRow E n) (ints (E.map (·.1))) (ints (E.map (·.2))) (adjRow E n)
  dn : ∀ e ∈ E, e.2 < e.1
  tp : ∀ e ∈ E, e.1 < n

theorem made_toList (z : Value) (hz : z.cells = #[z]) (n : Nat) : (madeCells z.cells (n * 1)).toList = List.replicate n z := by
  rw [hz, toList_madeCells_one, Nat.mul_one]

theorem LA.start {W0 w1 w2 : World} {n : Nat} (h1 : w1.ownsRow W0.heap.size 3 1 (.slice (some ⟨W0.heap.size, 0, none⟩) n n) n (madeCells (Value.int .i64 0).cells (n * 1)).toList) (g1 : W0.grownBy w1 none)
    (h2 : w2.ownsRow W0.heap.size 4 1 (.slice (some ⟨w1.heap.size, 0, none⟩) (n * n) (n * n)) (n * n) (madeCells (Value.bool false).cells (n * n * 1)).toList) (g2 : w1.grownBy w2 none) : LA W0 w2 n W0.heap.size w1.heap.size (.slice none 0 0) (.slice none 0 0) [] := by
  rw [made_toList _ rfl, ← degRow_nil] at h1
  rw [made_toList _ rfl, ← adjRow_nil] at h2
  have hb1 : Below W0.heap.size W0 w1 := (Below.refl _ _).grown g1 (Nat.le_refl _) (fun k hk => by cases hk)
  refine ⟨hb1.grown g2 hb1.size (fun k hk => by cases hk), ⟨h1.kept g2 (Or.inr (by simp [Value.ownBlock])), World.ownsRow_nil _ _ _ _, World.ownsRow_nil _ _ _ _, h2, (Ap.nil _).symm, (Ap.nil _).symm, Ap.nil _⟩, fun e he => (by cases he), fun e he => (by cases he)⟩

theorem LA.below {W0 W W' : World} {n db jb : Nat} {tv hv : Value} {E : Arcs} (h : LA W0 W n db jb tv hv E) (hb : Below W.heap.size W W') : LA W0 W' n db jb tv hv E :=
  ⟨h.bel.trans (Below.lower hb h.bel.size), h.l4.below hb, h.dn, h.tp⟩
theorem ints_snoc (l : List Nat) (x : Nat) : ints (l ++ [x]) = ints l ++ [.int .i64 ((x : Nat) : Int)] := by simp [ints]

theorem and255 (p : Nat) (hp : p < 65536) : bits .and .u16 (p : Int) 255 = ((p % 256 : Nat) : Int) := by
  have := bits_mask .u16 16 (by decide) (fun n h0 h1 => by rw [IntKind.wrap_u16]; omega) 8 (by decide) p (by omega) (by omega)
  rw [show ((2 : Int) ^ 8 - 1) = 255 by decide, show ((2 : Int) ^ 8) = 256 by decide] at this
  omega

theorem LA.snoc {W0 W : World} {n db jb : Nat} {tv hv : Value} {E : Arcs} {a b : Nat} (hb : Below W0.heap.size W0 W)
    (h : L4 W0.heap.size W (.slice (some ⟨db, 0, none⟩) n n) tv hv (.slice (some ⟨jb, 0, none⟩) (n * n) (n * n)) n (E.length + 1) (E.length + 1) (n * n) (degRow (E ++ [(a, b)]) n) (ints (E.map (·.1)) ++ [.int .i64 ((a : Nat) : Int)]) (ints (E.map (·.2)) ++ [.int .i64 ((b : Nat) : Int)]) (adjRow (E ++ [(a, b)]) n))
    (hd : ∀ e ∈ E, e.2 < e.1) (ht : ∀ e ∈ E, e.1 < n) (hba : b < a) (han : a < n) : LA W0 W n db jb tv hv (E ++ [(a, b)]) := by
  refine ⟨hb, ?_, ?_, ?_⟩
  · rw [List.length_append, List.length_singleton, List.map_append, List.map_append, List.map_singleton, List.map_singleton, ints_snoc, ints_snoc]
    exact h
  · intro e he
    rcases List.mem_append.1 he with h1 | h1
    · exact hd e h1
    · simp at h1; subst h1; exact hba
  · intro e he
    rcases List.mem_append.1 he with h1 | h1
    · exact ht e h1
    · simp at h1; subst h1; exact han

def stRow (E : Arcs) (n1 u : Nat) : List Value := (List.range n1).map fun v => .int .i64 ((if v ≤ u then st E v else 0 : Nat) : Int)
theorem stRow_at (E : Arcs) {n1 u v : Nat} (h : v < n1) (hv : v ≤ u) : (stRow E n1 u)[v]? = some (.int .i64 ((st E v : Nat) : Int)) := by simp [stRow, h, hv]
theorem stRow_length (E : Arcs) (n1 u : Nat) : (stRow E n1 u).length = n1 := by simp [stRow]
theorem stRow_zero (E : Arcs) (n1 : Nat) : stRow E n1 0 = List.replicate n1 (.int .i64 0) := by
  unfold stRow
  rw [List.eq_replicate_iff]
  refine ⟨by simp, fun v hv => ?_⟩
  obtain ⟨t, _, rfl⟩ := List.mem_map.1 hv
  by_cases h : t ≤ 0
  · obtain rfl : t = 0 := by omega
    rw [if_pos (Nat.le_refl _), st_zero]
    rfl
  · rw [if_neg h]
    rfl
theorem stRow_set (E : Arcs) (n1 u : Nat) (h : u + 1 < n1) : (stRow E n1 u).set (u + 1) (.int .i64 ((st E (u + 1) : Nat) : Int)) = stRow E n1 (u + 1) := by
  apply List.ext_getElem?
  intro t
  by_cases ht : t < n1
  · by_cases e : u + 1 = t
    · subst e
      rw [List.getElem?_set_self (by simpa [stRow] using ht), stRow_at E ht (Nat.le_refl _)]
    · rw [List.getElem?_set_ne e]
      simp only [stRow, List.getElem?_map, List.getElem?_range ht, Option.map_some]
      have : (t ≤ u) ↔ (t ≤ u + 1) := by omega
      simp only [this]
  · rw [List.getElem?_eq_none (by simp [stRow]; omega), List.getElem?_eq_none (by simp [stRow]; omega)]

def fillRow (E : Arcs) (n k : Nat) : List Value := (List.range n).map fun u => .int .i64 ((st E u + deg (E.take k) u : Nat) : Int)
theorem fillRow_at (E : Arcs) {n k u : Nat} (h : u < n) : (fillRow E n k)[u]? = some (.int .i64 ((st E u + deg (E.take k) u : Nat) : Int)) := by simp [fillRow, h]
theorem fillRow_zero (E : Arcs) (n n1 : Nat) (h : n ≤ n1) : (stRow E n1 n).take n = fillRow E n 0 := by
  apply List.ext_getElem?
  intro t
  by_cases ht : t < n
  · rw [List.getElem?_take_of_lt ht, stRow_at E (by omega) (by omega), fillRow_at E ht]
    simp [deg]
  · rw [List.getElem?_take_eq_none (by omega), List.getElem?_eq_none (by simp [fillRow]; omega)]
theorem take_snoc {E : Arcs} {k : Nat} {e : Nat × Nat} (h : E[k]? = some e) : E.take (k + 1) = E.take k ++ [e] := by
  rw [List.take_add_one, h]
  rfl
theorem fillRow_set (E : Arcs) {n k : Nat} {e : Nat × Nat} (h : E[k]? = some e) (hn : e.1 < n) : (fillRow E n k).set e.1 (.int .i64 ((st E e.1 + deg (E.take k) e.1 + 1 : Nat) : Int)) = fillRow E n (k + 1) := by
  apply List.ext_getElem?
  intro t
  by_cases ht : t < n
  · rw [fillRow_at E ht, take_snoc h, deg_append, deg_one]
    by_cases e1 : e.1 = t
    · subst e1
      rw [List.getElem?_set_self (by simpa [fillRow] using ht), if_pos rfl]
      rfl
    · rw [List.getElem?_set_ne e1, fillRow_at E ht, if_neg e1]
      rfl
  · rw [List.getElem?_eq_none (by simp [fillRow]; omega), List.getElem?_eq_none (by simp [fillRow]; omega)]
theorem deg_take (E : Arcs) (k u : Nat) : deg (E.take k) u ≤ deg E u := by
  have : deg (E.take k ++ E.drop k) u = deg E u := by rw [List.take_append_drop]
  rw [deg_append] at this
  omega
theorem slot_lt {E : Arcs} {n k : Nat} {e : Nat × Nat} (h : E[k]? = some e) (ht : ∀ e ∈ E, e.1 < n) : st E e.1 + deg (E.take k) e.1 < st E (e.1 + 1) ∧ st E (e.1 + 1) ≤ E.length := by
  have h1 := deg_take E (k + 1) e.1
  rw [take_snoc h, deg_append, deg_one, if_pos rfl] at h1
  have h2 := st_succ E e.1
  have h3 := st_mono E (u := e.1 + 1) (v := n) (ht e (List.mem_of_getElem? h))
  rw [st_all E n ht] at h3
  omega

/-- What stands among the values behind the first k arcs. -/
def Fits (E : Arcs) (k : Nat) (V : List Nat) : Prop := ∀ u r x, (hds (E.take k) u)[r]? = some x → V[st E u + r]? = some x
theorem Fits.zero (E : Arcs) (V : List Nat) : Fits E 0 V := fun u r x h => by simp [hds] at h
theorem Fits.step {E : Arcs} {k : Nat} {V : List Nat} {e : Nat × Nat} (hf : Fits E k V) (h : E[k]? = some e) (hl : st E e.1 + deg (E.take k) e.1 < V.length) : Fits E (k + 1) (V.set (st E e.1 + deg (E.take k) e.1) e.2) := by
  intro u r x hx
  rw [take_snoc h, hds_append] at hx
  have hd1 := deg_take E (k + 1) e.1
  rw [take_snoc h, deg_append, deg_one, if_pos rfl] at hd1
  by_cases hr : r < deg (E.take k) u
  · rw [List.getElem?_append_left (by rw [hds_length]; exact hr)] at hx
    have hne : st E e.1 + deg (E.take k) e.1 ≠ st E u + r := by
      have hdu := deg_take E k u
      intro e2
      rcases Nat.lt_trichotomy u e.1 with h1 | h1 | h1
      · have := st_mono E (u := u + 1) (v := e.1) h1
        rw [st_succ] at this
        omega
      · subst h1; omega
      · have := st_mono E (u := e.1 + 1) (v := u) h1
        rw [st_succ] at this
        omega
    rw [List.getElem?_set_ne hne]
    exact hf u r x hx
  · rw [List.getElem?_append_right (by rw [hds_length]; omega), hds_length] at hx
    by_cases hu : e.1 = u
    · have h2 : hds [e] u = [e.2] := by simp [hds, hu]
      rw [h2] at hx
      have hr0 : r - deg (E.take k) u = 0 := by
        have := (List.getElem?_eq_some_iff.1 hx).1
        simp at this
        omega
      rw [hr0] at hx
      simp at hx
      subst hx
      have : st E u + r = st E e.1 + deg (E.take k) e.1 := by rw [hu]; omega
      rw [this, List.getElem?_set_self hl]
    · have h2 : hds [e] u = [] := by simp [hds, hu]
      rw [h2] at hx
      simp at hx

structure LC (wc W : World) (vb : Nat) (fv : Value) (E : Arcs) (n m k : Nat) (V : List Nat) : Prop where
  bel : Below wc.heap.size wc W
  vals : W.ownsRow wc.heap.size 3 1 (.slice (some ⟨vb, 0, none⟩) m m) m (ints V)
  fill : W.ownsRow wc.heap.size 3 1 fv n (fillRow E n k)
  ap : Ap (.slice (some ⟨vb, 0, none⟩) m m) fv
  fits : Fits E k V

structure LD (W0 W : World) (n n1 m db jb sb vb gb : Nat) (tv hv scv vcv : Value) (E : Arcs) (V : List Nat) : Prop where
  la : LA W0 W n db jb tv hv E
  sta : W.ownsRow 0 3 1 (.slice (some ⟨sb, 0, none⟩) n1 n1) n1 (stRow E n1 n)
  val : W.ownsRow 0 3 1 (.slice (some ⟨vb, 0, none⟩) m m) m (ints V)
  arc : W.heap[gb]? = some (.cells #[.slice (some ⟨sb, 0, none⟩) n1 n1, .slice (some ⟨vb, 0, none⟩) m m] 29)
  sc : W.ownsRow 0 3 1 scv n1 (stRow E n1 n)
  vc : W.ownsRow 0 3 1 vcv m (ints V)
  fits : Fits E m V

theorem LD.below {W0 W W' : World} {n n1 m db jb sb vb gb : Nat} {tv hv scv vcv : Value} {E : Arcs} {V : List Nat} (h : LD W0 W n n1 m db jb sb vb gb tv hv scv vcv E V) (hb : Below W.heap.size W W') : LD W0 W' n n1 m db jb sb vb gb tv hv scv vcv E V :=
  ⟨h.la.below hb, row_below_all hb h.sta, row_below_all hb h.val, (hb.block gb (Array.getElem?_eq_some_iff.1 h.arc).1).trans h.arc, row_below_all hb h.sc, row_below_all hb h.vc, h.fits⟩

theorem ints_one (l : List Nat) : ∀ v ∈ ints l, v.oneCell' = true := by
  intro v hv
  obtain ⟨t, _, rfl⟩ := List.mem_map.1 hv
  rfl
theorem stRow_one (E : Arcs) (n1 u : Nat) : ∀ v ∈ stRow E n1 u, v.oneCell' = true := by
  intro v hv
  obtain ⟨t, _, rfl⟩ := List.mem_map.1 hv
  rfl
theorem row_cells {W : World} {B e g n c : Nat} {xs : List Value} (h : W.ownsRow B e 1 (.slice (some ⟨g, 0, none⟩) n c) n xs) : ∀ j v, xs[j]? = some v → W.cell? ((⟨g, 0, none⟩ : Addr).add j) = some v := by
  intro j v hj
  have := (List.getElem?_eq_some_iff.1 hj).1
  have hl := h.1
  rw [Go.WideShapes.add_plain, Nat.zero_add, h.cellAt j (by omega)]
  exact hj
def upTo (n i : Nat) : List Nat := (List.range n).map fun v => if v < i then v else 0
theorem upTo_length (n i : Nat) : (upTo n i).length = n := by simp [upTo]
theorem upTo_zero (n : Nat) : ints (upTo n 0) = List.replicate n (.int .i64 0) := by
  unfold ints upTo
  rw [List.eq_replicate_iff]
  refine ⟨by simp, fun v hv => ?_⟩
  simp at hv
  obtain ⟨_, rfl⟩ := hv.2
  rfl
theorem upTo_set (n i : Nat) : (ints (upTo n i)).set i (.int .i64 ((i : Nat) : Int)) = ints (upTo n (i + 1)) := by
  apply List.ext_getElem?
  intro t
  by_cases ht : t < n
  · by_cases e : i = t
    · subst e
      rw [List.getElem?_set_self (by simp [ints, upTo]; exact ht)]
      simp [ints, upTo, ht]
    · rw [List.getElem?_set_ne e]
      have : (t < i) ↔ (t < i + 1) := by omega
      simp [ints, upTo, ht, this]
  · rw [List.getElem?_eq_none (by simp [ints, upTo]; omega), List.getElem?_eq_none (by simp [ints, upTo]; omega)]
theorem upTo_at {n i u : Nat} (hu : u < n) (hi : u < i) : (ints (upTo n i))[u]? = some (.int .i64 ((u : Nat) : Int)) := by simp [ints, upTo, hu, hi]

/-- The prefixClosure of the law. -/
def pcA (n width tb : Nat) (bv : Value) (fl fo : Int) : Array Value :=
  #[.pointer none, .pointer none, .slice none 0 0, .slice none 0 0, .int .i64 (n : Nat), .int .i64 (width : Nat), bv, .slice none 0 0, .int .i64 0, .slice none 0 0, .slice none 0 0, .slice none 0 0, .slice none 0 0, .slice none 0 0, .slice none 0 0, .slice none 0 0, .int .i64 0, .slice none 0 0, .slice none 0 0,
    .slice none 0 0, .slice none 0 0, .slice none 0 0, .slice none 0 0, .slice none 0 0, .slice none 0 0, .slice none 0 0, .slice none 0 0, .slice none 0 0, .slice none 0 0, .slice none 0 0, .bool false, .nilFunc, .pointer (some ⟨tb, 0, none⟩), .int .i64 fl, .int .i64 fo, .slice none 0 0, .slice none 0 0, .bool false, .bool false, .int .i64 0]
theorem yieldsIf_build {P : Program} {ops : Array Oper} {S : World → Prop} {op : Oper} {a : Act} (hw : Region.wanted op (yielded ops a.tmps) = true) (t : TypeId) (parts : Array (Nat × Operand)) (ho : op.op = .build t parts) (cells : Array Value)
    (hc : P.built t (parts.map fun (i, x) => (i, a.eval x)).toList = some cells) : YieldsIf P ops S op (.agg cells) a :=
  .inl ⟨hw, fun w _ => by
    unfold execOp
    simp only [ho, Sem.run_bind, run_build w t _ cells hc, Result.andThen_ok]
    rfl⟩

theorem row_ne_type {W : World} {B e n g t : Nat} {v : Value} {xs : List Value} {C : Array Value} {f : Nat × Nat} (h : W.ownsRow B e 1 v n xs) (hg : W.heap[g]? = some (.cells C t f)) (he : e ≠ t) : ∀ k, v.ownBlock = some k → k ≠ g := by
  intro k hk e1
  subst e1
  rcases h.2 with ⟨rfl, _⟩ | ⟨g', cap', cur, rfl, _, hg', _⟩
  · simp [Value.ownBlock] at hk
  · have : g' = k := by simpa [Value.ownBlock] using hk
    subst this
    rw [hg'] at hg
    simp at hg
    exact he hg.2.1
theorem row_fr {bb tb : Nat} {W W' : World} {B e n : Nat} {v : Value} {xs : List Value} (hf : Fr bb tb W W') (h : W.ownsRow B e 1 v n xs) (h1 : ∀ k, v.ownBlock = some k → k ≠ bb) (h2 : ∀ k, v.ownBlock = some k → k ≠ tb) : W'.ownsRow B e 1 v n xs := by
  refine ⟨h.1, ?_⟩
  rcases h.2 with hn | ⟨g, cap, cur, rfl, hB, hg, rest⟩
  · exact Or.inl hn
  · refine Or.inr ⟨g, cap, cur, rfl, hB, ?_, rest⟩
    rw [hf.block g (Array.getElem?_eq_some_iff.1 hg).1 (h1 g rfl) (h2 g rfl)]
    exact hg
theorem row_blk {W : World} {B e n g c : Nat} {xs : List Value} (h : W.ownsRow B e 1 (.slice (some ⟨g, 0, none⟩) n c) n xs) : ∃ C, W.heap[g]? = some (.cells C e (0, 0)) := by
  rcases h.2 with ⟨h', _⟩ | ⟨g', cap', cur, h', _, hg', _⟩
  · simp at h'
  · simp only [Value.slice.injEq, Option.some.injEq, Addr.mk.injEq, and_true, true_and] at h'
    obtain ⟨rfl, rfl⟩ := h'
    exact ⟨cur, hg'⟩

theorem LD.fr {W0 W W' : World} {n n1 m db jb sb vb gb bb tb : Nat} {tv hv scv vcv : Value} {E : Arcs} {V : List Nat} {C1 C2 : Array Value} {f1 f2 : Nat × Nat} (h : LD W0 W n n1 m db jb sb vb gb tv hv scv vcv E V) (hf : Fr bb tb W W')
    (hb1 : W.heap[bb]? = some (.cells C1 46 f1)) (hb2 : W.heap[tb]? = some (.cells C2 32 f2)) (hs1 : W0.heap.size ≤ bb) (hs2 : W0.heap.size ≤ tb) : LD W0 W' n n1 m db jb sb vb gb tv hv scv vcv E V := by
  have r3 : ∀ {B n : Nat} {v : Value} {xs : List Value}, W.ownsRow B 3 1 v n xs → W'.ownsRow B 3 1 v n xs := fun hr => row_fr hf hr (row_ne_type hr hb1 (by decide)) (row_ne_type hr hb2 (by decide))
  refine ⟨⟨⟨hf.os.trans h.la.bel.os, hf.tape.trans h.la.bel.tape, hf.output.trans h.la.bel.output, Nat.le_trans h.la.bel.size hf.size, fun i hi => ?_⟩, ⟨r3 h.la.l4.d, r3 h.la.l4.t, r3 h.la.l4.h, row_fr hf h.la.l4.a (row_ne_type h.la.l4.a hb1 (by decide)) (row_ne_type h.la.l4.a hb2 (by decide)), h.la.l4.dt, h.la.l4.dh, h.la.l4.th⟩, h.la.dn, h.la.tp⟩, r3 h.sta, r3 h.val, ?_, r3 h.sc, r3 h.vc, h.fits⟩
  · have := h.la.bel.size
    exact (hf.block i (by omega) (by omega) (by omega)).trans (h.la.bel.block i hi)
  · have hgl := (Array.getElem?_eq_some_iff.1 h.arc).1
    rw [hf.block gb hgl ?_ ?_]
    · exact h.arc
    · intro e1; subst e1; rw [h.arc] at hb1; simp at hb1
    · intro e1; subst e1; rw [h.arc] at hb2; simp at hb2

/-- WHAT closeOver FINDS, out of all that lies there. -/
theorem LD.stat {W0 W : World} {n n1 m width db jb sb vb gb bb tb pb ob nB wB : Nat} {tv hv scv vcv : Value} {E : Arcs} {V : List Nat} {C1 C2 : Array Value} {f1 f2 : Nat × Nat} {fl fo : Int} (h : LD W0 W n n1 m db jb sb vb gb tv hv scv vcv E V)
    (hod : W.ownsRow 0 3 1 (.slice (some ⟨ob, 0, none⟩) n n) n (ints (upTo n n))) (hb1 : W.heap[bb]? = some (.cells C1 46 f1)) (hb2 : W.heap[tb]? = some (.cells C2 32 f2)) (hpc : W.heap[pb]? = some (.cells (pcA n width tb (.slice (some ⟨bb, 0, none⟩) (n * width) (n * width)) fl fo) 43))
    (hn : W0.cell? ⟨nB, 0, none⟩ = some (.int .i64 (n : Nat))) (hw : W0.cell? ⟨wB, 0, none⟩ = some (.int .i64 (width : Nat))) (hs1 : W0.heap.size ≤ bb) (hs2 : W0.heap.size ≤ tb) (hn1 : n + 1 = n1) (hm : E.length = m) (hm2 : m ≤ 65536) (hn255 : n ≤ 255) (hwd : (n + 63) / 64 = width) :
    Stat W E n width bb tb pb ob sb vb nB wB n1 m fl fo := by
  have hnB : nB < W0.heap.size := World.block_lt_of_cell? _ _ hn
  have hwB : wB < W0.heap.size := World.block_lt_of_cell? _ _ hw
  have hbt : bb ≠ tb := by intro e; subst e; rw [hb1] at hb2; simp at hb2
  have n1' := row_ne_type hod hb1 (by decide) ob rfl
  have n2' := row_ne_type hod hb2 (by decide) ob rfl
  have n3' := row_ne_type h.sta hb1 (by decide) sb rfl
  have n4' := row_ne_type h.sta hb2 (by decide) sb rfl
  have n5' := row_ne_type h.val hb1 (by decide) vb rfl
  have n6' := row_ne_type h.val hb2 (by decide) vb rfl
  have p1 : pb ≠ bb := by intro e; subst e; rw [hpc] at hb1; simp at hb1
  have p2 : pb ≠ tb := by intro e; subst e; rw [hpc] at hb2; simp at hb2
  refine ⟨fun u hu => ?_, fun u hu => ?_, fun u r x hx => ?_, (h.la.bel.cell (p := ⟨nB, 0, none⟩) hnB).trans hn, (h.la.bel.cell (p := ⟨wB, 0, none⟩) hwB).trans hw, by simp [World.cell?, hpc, pcA], by simp [World.cell?, hpc, pcA], by simp [World.cell?, hpc, pcA], by simp [World.cell?, hpc, pcA], by simp [World.cell?, hpc, pcA],
    ⟨n1', n3', n5', by omega, by omega, p1⟩, ⟨n2', n4', n6', by omega, by omega, p2, hbt⟩, h.la.dn, h.la.tp, by omega, hn255, hwd.symm, ⟨by omega, by omega⟩⟩
  · have := hod.1
    rw [hod.cellAt u (by omega), upTo_at hu hu]
  · have := h.sta.1
    rw [h.sta.cellAt u (by omega), stRow_at E (by omega) hu]
  · have hV := h.fits u r x (by rw [← hm, List.take_length]; exact hx)
    have hl := (List.getElem?_eq_some_iff.1 hV).1
    have hvl := h.val.1
    rw [ints_length] at hvl
    rw [h.val.cellAt (st E u + r) (by omega)]
    simp [ints, hV]

structure LF (W0 W : World) (n n1 m width db jb sb vb gb bb tb pb ob k NW : Nat) (tv hv scv vcv : Value) (E : Arcs) (V : List Nat) (Le fl fo : Int) : Prop where
  ld : LD W0 W n n1 m db jb sb vb gb tv hv scv vcv E V
  od : W.ownsRow 0 3 1 (.slice (some ⟨ob, 0, none⟩) n n) n (ints (upTo n n))
  bits : W.ownsRow 0 46 1 (.slice (some ⟨bb, 0, none⟩) NW NW) NW (rowsOf n width (fun u y => decide (u < k) && R E u y))
  left : W.heap[tb]? = some (.cells #[.int .i64 Le] 32)
  pc : W.heap[pb]? = some (.cells (pcA n width tb (.slice (some ⟨bb, 0, none⟩) NW NW) fl fo) 43)

theorem LF.below {W0 W W' : World} {n n1 m width db jb sb vb gb bb tb pb ob k NW : Nat} {tv hv scv vcv : Value} {E : Arcs} {V : List Nat} {Le fl fo : Int} (h : LF W0 W n n1 m width db jb sb vb gb bb tb pb ob k NW tv hv scv vcv E V Le fl fo) (hb : Below W.heap.size W W') : LF W0 W' n n1 m width db jb sb vb gb bb tb pb ob k NW tv hv scv vcv E V Le fl fo :=
  ⟨h.ld.below hb, row_below_all hb h.od, row_below_all hb h.bits, (hb.block tb (Array.getElem?_eq_some_iff.1 h.left).1).trans h.left, (hb.block pb (Array.getElem?_eq_some_iff.1 h.pc).1).trans h.pc⟩

theorem LF.start {W0 W W' : World} {n n1 m width db jb sb vb gb bb tb pb ob k NW : Nat} {tv hv scv vcv : Value} {E : Arcs} {V : List Nat} {Le fl fo L0 : Int} {C1 : Array Value} (hD : LD W0 W n n1 m db jb sb vb gb tv hv scv vcv E V) (hod : W.ownsRow 0 3 1 (.slice (some ⟨ob, 0, none⟩) n n) n (ints (upTo n n)))
    (hpc : W.heap[pb]? = some (.cells (pcA n width tb (.slice (some ⟨bb, 0, none⟩) NW NW) fl fo) 43)) (hC1 : W.heap[bb]? = some (.cells C1 46 (0, 0))) (htb : W.heap[tb]? = some (.cells #[.int .i64 L0] 32)) (hs1 : W0.heap.size ≤ bb) (hs2 : W0.heap.size ≤ tb) (hNW : n * width = NW)
    (hCo : Co W W' n width bb tb (fun u y => decide (u < k) && R E u y) Le) : LF W0 W' n n1 m width db jb sb vb gb bb tb pb ob k NW tv hv scv vcv E V Le fl fo := by
  have hf := hCo.fr
  refine ⟨hD.fr hf hC1 htb hs1 hs2, row_fr hf hod (row_ne_type hod hC1 (by decide)) (row_ne_type hod htb (by decide)), by rw [← hNW]; exact hCo.bits, hCo.left, ?_⟩
  rw [hf.block pb (Array.getElem?_eq_some_iff.1 hpc).1 ?_ ?_]
  · exact hpc
  · intro e; subst e; rw [hpc] at hC1; simp at hC1
  · intro e; subst e; rw [hpc] at htb; simp at htb

theorem spend_wrap2 (d width X : Nat) (Bu : Int) (hX : (1 + d) * width = X) (hd : d ≤ 65536) (hw : width ≤ 4) (hr : -4000000000 ≤ Bu - X ∧ Bu - X ≤ 4000000000) : wrap64 (Bu - wrap64 ((1 + (d : Int)) * (width : Int))) = Bu - X := by
  have h1 : (1 + d) * width ≤ 65537 * 4 := Nat.mul_le_mul (by omega) hw
  have h2 : (1 + (d : Int)) * (width : Int) = (X : Int) := by rw [← hX, Int.natCast_mul]; congr 1
  rw [h2]
  unfold wrap64
  omega
end Go.Proofs.Ybulkedwa
