import Derived.Test.YbulkedtwFmtW6
namespace Go.Proofs.YbulkedtwFmt
open Go Go.RowKit

/-- THE LAW's SECOND LOOP: ms, want. -/
structure LawAt (w W : World) (msv wv : Value) (M Mw : List Mem) : Prop where
  bel : Below w.heap.size w W
  ms : MsAt W w.heap.size msv M
  want : W.ownsRow w.heap.size 39 3 wv (repN Mw) (repCells Mw)
  sz : ∀ m ∈ M, ∀ p c, m.pc = some (p, c) → p.size ≤ 1048576 ∧ c.size ≤ 1048576
  nil : ∀ m ∈ M, m.pc = none → m.v = .slice none 0 0
  fm : ∃ a n c, msv = .slice a n c
  fw : ∃ a n c, wv = .slice a n c
  isnil : M = [] → msv = .slice none 0 0

theorem LawAt.below {w W W' : World} {msv wv : Value} {M Mw : List Mem} (h : LawAt w W msv wv M Mw) (hb : Below W.heap.size W W') : LawAt w W' msv wv M Mw :=
  ⟨h.bel.trans (hb.mono h.bel.size), h.ms.below hb, row_below_all hb h.want, h.sz, h.nil, h.fm, h.fw, h.isnil⟩

theorem LawAt.pushMs {w W W' : World} {msv wv v : Value} {M Mw : List Mem} {g cap : Nat} {id : Int} {pc : Option (ByteArray × ByteArray)} (h : LawAt w W msv wv M Mw)
    (hown : W'.ownsRow w.heap.size 27 2 (.slice (some ⟨g, 0, none⟩) (M.length + 1) cap) (M.length + 1) (memCells M ++ [.int .i64 id, v])) (hg : W.grownBy W' msv.ownBlock)
    (hv : InfoAt W v (Mem.bytes ⟨id, pc, v⟩)) (hsz : ∀ p c, pc = some (p, c) → p.size ≤ 1048576 ∧ c.size ≤ 1048576) (hnil : pc = none → v = .slice none 0 0) :
    LawAt w W' (.slice (some ⟨g, 0, none⟩) (M.length + 1) cap) wv (M ++ [⟨id, pc, v⟩]) Mw := by
  refine ⟨h.bel.grown hg h.bel.size (fun k hk => (h.ms.own.lt k hk).1), ⟨?_, ?_⟩, h.want.kept hg (rows_apart h.want h.ms.own (by decide)), ?_, ?_, ⟨_, _, _, rfl⟩, h.fw, fun e => by simp at e⟩
  · rw [memCells_snoc, List.length_append, List.length_singleton]
    exact hown
  · intro m hm
    rcases List.mem_append.1 hm with hm | hm
    · exact InfoAt.grown hg h.ms.own (by decide) (h.ms.info m hm)
    · simp at hm
      subst hm
      exact InfoAt.grown hg h.ms.own (by decide) hv
  · intro m hm p c e
    rcases List.mem_append.1 hm with hm | hm
    · exact h.sz m hm p c e
    · simp at hm
      subst hm
      exact hsz p c e
  · intro m hm e
    rcases List.mem_append.1 hm with hm | hm
    · exact h.nil m hm e
    · simp at hm
      subst hm
      exact hnil e

theorem LawAt.pushWant {w W W' : World} {msv wv v : Value} {M Mw : List Mem} {g cap : Nat} {id : Int} {p q : ByteArray} (h : LawAt w W msv wv M Mw)
    (hown : W'.ownsRow w.heap.size 39 3 (.slice (some ⟨g, 0, none⟩) (repN Mw + 1) cap) (repN Mw + 1) (repCells Mw ++ [.int .i64 id, .string p, .string q])) (hg : W.grownBy W' wv.ownBlock) :
    LawAt w W' msv (.slice (some ⟨g, 0, none⟩) (repN Mw + 1) cap) M (Mw ++ [⟨id, some (p, q), v⟩]) := by
  refine ⟨h.bel.grown hg h.bel.size (fun k hk => (h.want.lt k hk).1), ⟨h.ms.own.kept hg (rows_apart h.ms.own h.want (by decide)), fun m hm => InfoAt.grown hg h.want (by decide) (h.ms.info m hm)⟩, ?_, h.sz, h.nil, h.fm, ⟨_, _, _, rfl⟩, h.isnil⟩
  rw [repN_snoc_some, repCells_snoc]
  exact hown

theorem LawAt.skipWant {w W : World} {msv wv v : Value} {M Mw : List Mem} {id : Int} (h : LawAt w W msv wv M Mw) : LawAt w W msv wv M (Mw ++ [⟨id, none, v⟩]) := by
  refine ⟨h.bel, h.ms, ?_, h.sz, h.nil, h.fm, h.fw, h.isnil⟩
  rw [repN_snoc_none, repCells_snoc]
  simpa [repOf] using h.want

/-- A triple of the wanted replicas. -/
theorem repCells_get (M : List Mem) : ∀ j, j < repN M → ∃ a s t, (repCells M)[j * 3]? = some (.int .i64 a) ∧ (repCells M)[j * 3 + 1]? = some (.string s) ∧ (repCells M)[j * 3 + 2]? = some (.string t) := by
  induction M with
  | nil => intro j hj; simp [repN] at hj
  | cons m M ih =>
    intro j hj
    obtain ⟨id, pc, v⟩ := m
    have e : repCells (⟨id, pc, v⟩ :: M) = repOf ⟨id, pc, v⟩ ++ repCells M := by simp [repCells]
    rw [e]
    cases pc with
    | none =>
      have hj' : j < repN M := by simpa [repN] using hj
      simpa [repOf] using ih j hj'
    | some x =>
      obtain ⟨p, q⟩ := x
      have hj' : j < repN M + 1 := by simpa [repN] using hj
      cases j with
      | zero => exact ⟨id, p, q, by simp [repOf], by simp [repOf], by simp [repOf]⟩
      | succ j =>
        obtain ⟨a, s, t, h1, h2, h3⟩ := ih j (by omega)
        have e1 : (j + 1) * 3 = j * 3 + 3 := by omega
        have e2 : repOf ⟨id, some (p, q), v⟩ = [.int .i64 id, .string p, .string q] := rfl
        refine ⟨a, s, t, ?_, ?_, ?_⟩
        · rw [e1, e2, List.getElem?_append_right (by simp)]; simpa using h1
        · rw [e1, e2, List.getElem?_append_right (by simp)]; simpa using h2
        · rw [e1, e2, List.getElem?_append_right (by simp)]; simpa using h3

theorem neq39 (a : Int) (s t : ByteArray) (w : World) : (binOp .neq 39 (.agg #[.int .i64 a, .string s, .string t]) (.agg #[.int .i64 a, .string s, .string t])).run Ybaf.prog w = .ok (.bool false) w := by
  go_simp
end Go.Proofs.YbulkedtwFmt
