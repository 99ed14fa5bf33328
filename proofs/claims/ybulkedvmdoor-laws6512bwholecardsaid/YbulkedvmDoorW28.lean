import Derived.Test.YbulkedvmDoorW27
namespace Go.Proofs.YbulkedvmDoor
open Go Go.RowKit Go.Lib Go.Maps Go.Sort
set_option maxRecDepth 100000
set_option linter.unusedSimpArgs false

/-- v, behind 'if pairs != nil'. -/
def V0 (w : World) (at0 : Option Addr) (v : Value) (W : World) : Prop :=
  (at0 = none ∧ v = .map none ∧ W = w) ∨ ((∃ a, at0 = some a) ∧ v = .map (some w.heap.size) ∧ W = w.alloc (.map #[] 0))

theorem V0.start {w W : World} {at0 : Option Addr} {v : Value} (h : V0 w at0 v W) : S2 w W v (.slice none 0 0) (.slice none 0 0) 0 [] [] := by
  rcases h with ⟨_, rfl, rfl⟩ | ⟨_, rfl, rfl⟩
  · exact ⟨Below.refl _ _, ⟨Or.inl ⟨rfl, rfl⟩⟩, World.ownsRow_nil _ _ _ _, World.ownsRow_nil _ _ _ _, List.Perm.refl _⟩
  · exact ⟨(B1.start w).bel, ⟨Or.inr ⟨_, rfl, (B1.start w).map⟩⟩, World.ownsRow_nil _ _ _ _, World.ownsRow_nil _ _ _ _, List.Perm.refl _⟩

theorem S2.b1 {w W : World} {mb N : Nat} {ms ns : Value} {L : List KN} (h : S2 w W (.map (some mb)) ms ns N L L) : B1 w W mb N ms ns L := by
  rcases h.map.out with ⟨h1, _⟩ | ⟨mb', h1, h2⟩
  · cases h1
  · cases h1
    exact ⟨h.bel, h2, h.kms, h.kns⟩
theorem B1.s2 {w W : World} {mb N : Nat} {ms ns : Value} {L : List KN} (h : B1 w W mb N ms ns L) : S2 w W (.map (some mb)) ms ns N L L :=
  ⟨h.bel, ⟨Or.inr ⟨mb, rfl, h.map⟩⟩, h.kms, h.kns, List.Perm.refl _⟩

/-- In a quiet region: a load of a whole array. -/
theorem wpQuiet_load {P : Program} {ops : Array Oper} {C : World → Prop} {Q : Act → Prop} {a : Act} {op : Oper} {rest : List Oper} (hw : Region.wanted op (yielded ops a.tmps) = true) (ty : TypeId) (x : Operand) (ho : op.op = .load ty x)
    (b o : Nat) (hx : a.eval x = .pointer (some ⟨b, o, none⟩)) (cs : List Value) (d : TypeDesc) (hc : ∀ w, C w → w.rangeAt b o cs)
    (hu : P.underlying ty = some d) (hd : d.isRow = true) (hi : (P.info? ty).map (·.size) = some cs.length) (h : wpQuiet P ops C Q rest (a.put op.dst (.agg cs.toArray))) : wpQuiet P ops C Q (op :: rest) a := by
  refine wpQuiet_step fun K hK => ?_
  rw [if_pos hw]
  refine ⟨.agg cs.toArray, fun w hw' => ?_, hK _ h⟩
  unfold Oper.quietAt execOp
  simp only [ho, hx, Instr.loadAt, Instr.sureAddr, Sem.run_bind, Sem.run_pure, Result.andThen_ok, run_loadVar_mid w b o ty cs d (hc w hw') hu hd hi]
  exact ⟨rfl, rfl⟩

theorem newsK (w : World) (t : TypeId) (vs : List Value) (j : Nat) (u : Value) (hj : vs[j]? = some u) : (w.alloc (.cells vs.toArray t)).cell? ((⟨w.heap.size, 0, none⟩ : Addr).add j) = some u := by
  rw [Go.WideShapes.add_plain, Nat.zero_add, World.cell?_alloc_at _ _ _ _ rfl]
  simpa using hj

theorem row_kp {W W' : World} {B base e size n : Nat} {v : Value} {zs : List Value} (h : W.ownsRow base e size v n zs) (he : e ≠ 5) (hk : Kp B W W') : W'.ownsRow base e size v n zs := by
  refine ⟨h.1, ?_⟩
  rcases h.2 with hn | ⟨g', cap', cur, e1, hB, hg, rest⟩
  · exact Or.inl hn
  · exact Or.inr ⟨g', cap', cur, e1, hB, hk.others _ _ hg (by simp [he]) (by simp [he]), rest⟩

theorem S2.kp {w W W' : World} {v ms ns : Value} {N : Nat} {L P : List KN} (h : S2 w W v ms ns N L P) (hk : Kp w.heap.size W W') : S2 w W' v ms ns N L P :=
  ⟨h.bel.trans hk.below, h.map.kp hk, row_kp h.kms (by decide) hk, row_kp h.kns (by decide) hk, h.perm⟩

/-- LOOP 5: the text of the first i pairs is told. -/
structure T5 (w W : World) (v ms ns want : Value) (N nb i : Nat) (L : List KN) (bs : List UInt8) : Prop where
  s : S2 w W v ms ns N L (sortP L)
  own : W.ownsRow w.heap.size 5 1 want (nb + 6 + (vtextTo (sortP L) i).length) (Lib.byteCells (bs ++ (afterBytes ++ vtextTo (sortP L) i)))

/-- IN A ROUND: some text t behind b. -/
structure T6 (w W : World) (v ms ns want : Value) (N m : Nat) (L : List KN) (t : List UInt8) : Prop where
  s : S2 w W v ms ns N L (sortP L)
  own : W.ownsRow w.heap.size 5 1 want m (Lib.byteCells t)

theorem T6.byte {w W W2 : World} {v ms ns want want2 : Value} {N m : Nat} {L : List KN} {t : List UInt8} {o : Obj} (h : T6 w W v ms ns want N m L t) (c : UInt8) (hown : W2.ownsRow w.heap.size 5 1 want2 (m + 1) (Lib.byteCells t ++ [.int .u8 (c.toNat : Nat)])) (hg : (W.alloc o).grownBy W2 want.ownBlock) :
    T6 w W2 v ms ns want2 N (m + 1) L (t ++ [c]) := by
  refine ⟨h.s.kp (kp_append1 h.own h.s.bel.size hg), ?_⟩
  simpa [Lib.byteCells] using hown

theorem T6.text {w W W2 : World} {v ms ns want want2 : Value} {N m m2 : Nat} {L : List KN} {t t2 : List UInt8} (h : T6 w W v ms ns want N m L t) (hown : W2.ownsRow w.heap.size 5 1 want2 m2 (Lib.byteCells t ++ Lib.byteCells t2)) (hk : Kp w.heap.size W W2) :
    T6 w W2 v ms ns want2 N m2 L (t ++ t2) := by
  refine ⟨h.s.kp hk, ?_⟩
  simpa [Lib.byteCells] using hown

/-- v, ok := v[k] where the map has k. -/
theorem MapIs.look_ok {w : World} {mb N : Nat} {L : List KN} (h : MapIs w mb N L) {p : KN} (hp : p ∈ L) :
    (Instr.lookup 25 (.map (some mb)) (.agg p.1.cells.toArray) true).run Ybad.prog w = .ok (.tuple #[.int .u64 (p.2 : Nat), .bool true]) w := by
  obtain ⟨n, D, h1, h2, h3⟩ := h.ex
  obtain ⟨v, ps, hrun, hv⟩ := h2.look_ok klaw Ybad.underlying25 (zero29 w) (plainElem_int Ybad.underlying29 (by decide)) (keyOf_key p.1)
  obtain ⟨c, rfl, hc, _⟩ := plainElem_int_inv Ybad.underlying29 hv
  have hat := (h3.at' p hp).symm.trans (congrArg Prod.fst hc)
  injection hat with hat
  injection hat with _ hat
  have hh : Maps.has D (lit p.1) = true := (h3.has p.1.1).2 ⟨p, hp, rfl⟩
  rw [hrun, hh, hat]

theorem wantText_le {L : List KN} (hn : (L.map (·.1)).Nodup) (hu : ∀ p ∈ L, p.2 < 18446744073709551616) : (wantText L).length ≤ 7 + L.length * 54 := by
  unfold wantText
  split
  · simp
  · have := vtextTo_le (sortP L) (fun p hp => hu p (sortP_mem hn hp)) L.length
    simp [fullText, afterBytes]
    omega

theorem isNone_same {a b : Option Addr} (h : a = none ↔ b = none) : a.isNone = b.isNone := by
  cases a <;> cases b <;> simp_all

theorem row_bytes2 {w : World} {B n c : Nat} {ao : Option Addr} {l : List UInt8} (h : w.ownsRow B 5 1 (.slice ao n c) n (Lib.byteCells l)) : l.length = n ∧ ∀ i (hi : i < l.length), ∃ a, ao = some a ∧ w.cell? (a.add i) = some (.int .u8 (l[i].toNat : Nat)) := by
  obtain ⟨ao', c', e, h1, h2⟩ := row_bytes h
  simp only [Value.slice.injEq] at e
  obtain ⟨rfl, _, _⟩ := e
  exact ⟨h1, h2⟩

theorem bytes_cells {w W : World} {ab : Option Addr} {nb cb : Nat} {bs : List UInt8} (h0 : ab = none → nb = 0 ∧ cb = 0) (hbl : bs.length = nb) (hbs : ∀ a, ab = some a → BytesAt w a bs) (hbel : Below w.heap.size w W) :
    ∀ i (hi : i < bs.length), ∃ a, ab = some a ∧ W.cell? (a.add i) = some (.int .u8 (bs[i].toNat : Nat)) := by
  intro i hi
  cases ab with
  | none => have := (h0 rfl).1; omega
  | some a =>
    have h1 := (hbs a rfl).out i (.int .u8 (bs[i].toNat : Nat)) (by simp [Lib.byteCells, hi])
    exact ⟨a, rfl, (hbel.cell (World.block_lt_of_cell? _ _ h1)).trans h1⟩

/-- The ChangeList of the law: all zero but After. -/
abbrev chg (mo : Option Nat) : Array Value := #[.int .u64 0, .int .u8 0, .int .u8 0, .int .u8 0, .int .u8 0, .int .u8 0, .int .u8 0, .int .u8 0, .int .u8 0, .int .u8 0, .int .u8 0, .int .u8 0, .int .u8 0, .int .u8 0, .int .u8 0, .int .u8 0, .int .u8 0, .string ⟨#[]⟩, .map mo, .slice none 0 0, .slice none 0 0]

/-- AT THE END: all that the tests look at. -/
structure E1 (w W : World) (mo : Option Nat) (ms ns want bc : Value) (N cb nb : Nat) (L : List KN) (bs : List UInt8) : Prop where
  s : S2 w W (.map mo) ms ns N L (sortP L)
  want : W.ownsRow w.heap.size 5 1 want (nb + (wantText L).length) (Lib.byteCells (bs ++ wantText L))
  bc : W.ownsRow w.heap.size 5 1 bc nb (Lib.byteCells bs)
  box : W.heap[cb]? = some (.cells (chg mo) 43)

theorem E1.below {w W W' : World} {mo : Option Nat} {ms ns want bc : Value} {N cb nb : Nat} {L : List KN} {bs : List UInt8} (h : E1 w W mo ms ns want bc N cb nb L bs) (hb : Below W.heap.size W W') : E1 w W' mo ms ns want bc N cb nb L bs :=
  ⟨h.s.below hb, row_below_all hb h.want, row_below_all hb h.bc, (hb.block cb (Array.getElem?_eq_some_iff.1 h.box).1).trans h.box⟩

theorem E1.start {w wc w3 : World} {mo : Option Nat} {ms ns want bc : Value} {N nb : Nat} {L : List KN} {bs : List UInt8} (hS : S2 w wc (.map mo) ms ns N L (sortP L)) (hw : wc.ownsRow w.heap.size 5 1 want (nb + (wantText L).length) (Lib.byteCells (bs ++ wantText L)))
    (hb : Below wc.heap.size wc w3) (hbc : w3.ownsRow wc.heap.size 5 1 bc nb (Lib.byteCells bs)) : E1 w (w3.alloc (.cells (chg mo) 43)) mo ms ns want bc N w3.heap.size nb L bs := by
  have hA : Below w3.heap.size w3 (w3.alloc (.cells (chg mo) 43)) := (Below.refl _ _).alloc (Nat.le_refl _) _
  exact ⟨(hS.below hb).below hA, row_below_all hA (row_below_all hb hw), row_base hS.bel.size (row_below_all hA hbc), heap_alloc_new w3 _⟩

theorem row_val {w : World} {v : Value} {B e size n : Nat} {xs : List Value} (h : w.ownsRow B e size v n xs) : ∃ ao c, v = .slice ao n c ∧ (0 < n → ∃ g, ao = some ⟨g, 0, none⟩) := by
  rcases h.2 with ⟨rfl, h0⟩ | ⟨g, cap, cur, rfl, _⟩
  · exact ⟨none, 0, by rw [h0], fun h1 => by omega⟩
  · exact ⟨_, _, rfl, fun _ => ⟨g, rfl⟩⟩

theorem box_key2 {w : World} {T : Nat} {p : KN} (h : w.heap[T]? = some (.cells (pairCells p).toArray 31)) : w.rangeAt T 0 p.1.cells := by
  intro j v hj
  have hjl : j < p.1.cells.length := (List.getElem?_eq_some_iff.1 hj).1
  simp only [World.cell?, h, Nat.zero_add, pairCells, List.getElem?_toArray]
  simp [List.getElem?_append_left hjl, hj]
theorem box_count2 {w : World} {T : Nat} {p : KN} (h : w.heap[T]? = some (.cells (pairCells p).toArray 31)) : w.cell? ⟨T, 16, none⟩ = some (.int .u64 (p.2 : Nat)) := by
  simp [World.cell?, h, pairCells, List.getElem?_append_right, p.1.cells_length]

theorem VIs.len_le {w : World} {v : Value} {N : Nat} {L : List KN} (h : VIs w v N L) : L.length ≤ N := by
  rcases h.out with ⟨_, rfl⟩ | ⟨mb, _, h2⟩
  · simp
  · exact h2.len_le
theorem VIs.u64 {w : World} {v : Value} {N : Nat} {L : List KN} (h : VIs w v N L) : ∀ p ∈ L, p.2 < 18446744073709551616 := by
  rcases h.out with ⟨_, rfl⟩ | ⟨mb, _, h2⟩
  · simp
  · exact h2.u64
theorem VIs.nd {w : World} {v : Value} {N : Nat} {L : List KN} (h : VIs w v N L) : (L.map (·.1)).Nodup := by
  rcases h.out with ⟨_, rfl⟩ | ⟨mb, _, h2⟩
  · simp
  · exact h2.nd
end Go.Proofs.YbulkedvmDoor
