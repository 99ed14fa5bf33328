import Derived.Test.YbulkedwaC2
namespace Go.Proofs.Ybulkedwa
open Go Go.RowKit
set_option maxRecDepth 100000
set_option linter.unusedVariables false

def ints (l : List Nat) : List Value := l.map fun x => .int .i64 ((x : Nat) : Int)
theorem ints_length (l : List Nat) : (ints l).length = l.length := by simp [ints]
def degRow (E : Arcs) (n : Nat) : List Value := (List.range n).map fun u => .int .i64 ((deg E u : Nat) : Int)
def adjRow (E : Arcs) (n : Nat) : List Value := (List.range (n * n)).map fun t => .bool (decide ((t / n, t % n) ∈ E))

theorem degRow_at (E : Arcs) (n u : Nat) (h : u < n) : (degRow E n)[u]? = some (.int .i64 ((deg E u : Nat) : Int)) := by simp [degRow, h]
theorem degRow_nil (n : Nat) : degRow [] n = List.replicate n (.int .i64 0) := by
  unfold degRow
  rw [List.eq_replicate_iff]
  refine ⟨by simp, fun v hv => ?_⟩
  obtain ⟨t, _, rfl⟩ := List.mem_map.1 hv
  rfl
theorem adjRow_nil (n : Nat) : adjRow [] n = List.replicate (n * n) (.bool false) := by
  unfold adjRow
  rw [List.eq_replicate_iff]
  refine ⟨by simp, fun v hv => ?_⟩
  obtain ⟨t, _, rfl⟩ := List.mem_map.1 hv
  rfl
theorem degRow_snoc (E : Arcs) (n a b : Nat) (ha : a < n) : (degRow E n).set a (.int .i64 ((deg E a + 1 : Nat) : Int)) = degRow (E ++ [(a, b)]) n := by
  apply List.ext_getElem?
  intro t
  by_cases ht : t < n
  · rw [degRow_at _ _ _ ht, deg_append, deg_one]
    by_cases e : a = t
    · subst e
      rw [List.getElem?_set_self (by simpa [degRow] using ht), if_pos rfl]
    · rw [List.getElem?_set_ne e, degRow_at _ _ _ ht, if_neg e]
      rfl
  · rw [List.getElem?_eq_none (by simp [degRow]; omega), List.getElem?_eq_none (by simp [degRow]; omega)]
theorem sq_ix {n a b : Nat} (ha : a < n) (hb : b < n) : a * n + b < n * n := by
  have : (a + 1) * n ≤ n * n := Nat.mul_le_mul_right _ ha
  rw [Nat.add_mul, Nat.one_mul] at this
  omega
theorem sq_div {n a b : Nat} (hb : b < n) : (a * n + b) / n = a := by
  rw [Nat.add_comm, Nat.add_mul_div_right _ _ (by omega), Nat.div_eq_of_lt hb, Nat.zero_add]
theorem sq_mod {n a b : Nat} (hb : b < n) : (a * n + b) % n = b := by
  rw [Nat.add_comm, Nat.add_mul_mod_self_right, Nat.mod_eq_of_lt hb]
theorem adjRow_at (E : Arcs) {n a b : Nat} (ha : a < n) (hb : b < n) : (adjRow E n)[a * n + b]? = some (.bool (decide ((a, b) ∈ E))) := by
  have := sq_ix ha hb
  simp only [adjRow, List.getElem?_map, List.getElem?_range this, Option.map_some]
  rw [sq_div hb, sq_mod hb]
theorem adjRow_snoc (E : Arcs) {n a b : Nat} (ha : a < n) (hb : b < n) : (adjRow E n).set (a * n + b) (.bool true) = adjRow (E ++ [(a, b)]) n := by
  apply List.ext_getElem?
  intro t
  by_cases ht : t < n * n
  · by_cases e : a * n + b = t
    · subst e
      rw [List.getElem?_set_self (by simpa [adjRow] using ht), adjRow_at _ ha hb]
      simp
    · rw [List.getElem?_set_ne e]
      simp only [adjRow, List.getElem?_map, List.getElem?_range ht, Option.map_some]
      congr 2
      apply decide_eq_decide.2
      simp only [List.mem_append, List.mem_singleton, Prod.mk.injEq]
      constructor
      · exact Or.inl
      · rintro (h | ⟨h1, h2⟩)
        · exact h
        · exfalso
          apply e
          have h5 := Nat.div_add_mod t n
          rw [h1, h2, Nat.mul_comm] at h5
          exact h5
  · rw [List.getElem?_eq_none (by simp [adjRow]; omega), List.getElem?_eq_none (by simp [adjRow]; omega)]

/-- Two rows in different blocks. -/
def Ap (v u : Value) : Prop := ∀ k, v.ownBlock = some k → u.ownBlock ≠ some k
theorem Ap.symm {v u : Value} (h : Ap v u) : Ap u v := fun k h1 h2 => h k h2 h1
theorem Ap.kept {v u : Value} (h : Ap v u) : v.ownBlock = none ∨ v.ownBlock ≠ u.ownBlock := by
  cases hv : v.ownBlock with
  | none => exact Or.inl rfl
  | some k => exact Or.inr (fun e => h k hv e.symm)
theorem Ap.nil (u : Value) : Ap (.slice none 0 0) u := fun k h => by simp [Value.ownBlock] at h

structure L4 (B : Nat) (W : World) (dv tv hv av : Value) (nd nt nh na : Nat) (dl tl hl al : List Value) : Prop where
  d : W.ownsRow B 3 1 dv nd dl
  t : W.ownsRow B 3 1 tv nt tl
  h : W.ownsRow B 3 1 hv nh hl
  a : W.ownsRow B 4 1 av na al
  dt : Ap dv tv
  dh : Ap dv hv
  th : Ap tv hv

variable {B : Nat} {W W' : World} {dv tv hv av : Value} {nd nt nh na : Nat} {dl tl hl al : List Value}

theorem L4.below (x : L4 B W dv tv hv av nd nt nh na dl tl hl al) (hb : Below W.heap.size W W') : L4 B W' dv tv hv av nd nt nh na dl tl hl al :=
  ⟨row_below_all hb x.d, row_below_all hb x.t, row_below_all hb x.h, row_below_all hb x.a, x.dt, x.dh, x.th⟩
theorem L4.alloc (x : L4 B W dv tv hv av nd nt nh na dl tl hl al) (o : Obj) : L4 B (W.alloc o) dv tv hv av nd nt nh na dl tl hl al := x.below ((Below.refl _ _).alloc (Nat.le_refl _) o)

theorem ap_new {v v' u : Value} {xs : List Value} {n e : Nat} (h : Ap u v) (hu : W.ownsRow B e 1 u n xs) (hat : v'.ownBlock = v.ownBlock ∨ v'.ownBlock = some W.heap.size) : Ap u v' := by
  intro k h1 h2
  rcases hat with e1 | e1
  · exact h k h1 (e1 ▸ h2)
  · have := (hu.lt k h1).2
    rw [e1] at h2
    simp at h2
    omega

theorem L4.growT (x : L4 B W dv tv hv av nd nt nh na dl tl hl al) {tv' : Value} {nt' : Nat} {tl' : List Value} (hg : W.grownBy W' tv.ownBlock) (ho : W'.ownsRow B 3 1 tv' nt' tl') (hat : tv'.ownBlock = tv.ownBlock ∨ tv'.ownBlock = some W.heap.size) : L4 B W' dv tv' hv av nd nt' nh na dl tl' hl al :=
  ⟨x.d.kept hg x.dt.kept, ho, x.h.kept hg x.th.symm.kept, x.a.kept hg (rows_apart x.a x.t (by decide)), ap_new x.dt x.d hat, x.dh, (ap_new x.th.symm x.h hat).symm⟩
theorem L4.growH (x : L4 B W dv tv hv av nd nt nh na dl tl hl al) {hv' : Value} {nh' : Nat} {hl' : List Value} (hg : W.grownBy W' hv.ownBlock) (ho : W'.ownsRow B 3 1 hv' nh' hl') (hat : hv'.ownBlock = hv.ownBlock ∨ hv'.ownBlock = some W.heap.size) : L4 B W' dv tv hv' av nd nt nh' na dl tl hl' al :=
  ⟨x.d.kept hg x.dh.kept, x.t.kept hg x.th.kept, ho, x.a.kept hg (rows_apart x.a x.h (by decide)), x.dt, ap_new x.dh x.d hat, ap_new x.th x.t hat⟩
theorem L4.setD {g c : Nat} (x : L4 B W (.slice (some ⟨g, 0, none⟩) nd c) tv hv av nd nt nh na dl tl hl al) (i : Nat) (v : Value) : L4 B (W.setCell ⟨g, i, none⟩ v) (.slice (some ⟨g, 0, none⟩) nd c) tv hv av nd nt nh na (dl.set i v) tl hl al := by
  obtain ⟨h1, h2⟩ := x.d.stored i v
  exact ⟨h1, x.t.kept h2 x.dt.symm.kept, x.h.kept h2 x.dh.symm.kept, x.a.kept h2 (rows_apart x.a x.d (by decide)), x.dt, x.dh, x.th⟩
theorem L4.setA {g c : Nat} (x : L4 B W dv tv hv (.slice (some ⟨g, 0, none⟩) na c) nd nt nh na dl tl hl al) (i : Nat) (v : Value) : L4 B (W.setCell ⟨g, i, none⟩ v) dv tv hv (.slice (some ⟨g, 0, none⟩) na c) nd nt nh na dl tl hl (al.set i v) := by
  obtain ⟨h1, h2⟩ := x.a.stored i v
  exact ⟨x.d.kept h2 (rows_apart x.d x.a (by decide)), x.t.kept h2 (rows_apart x.t x.a (by decide)), x.h.kept h2 (rows_apart x.h x.a (by decide)), h1, x.dt, x.dh, x.th⟩
end Go.Proofs.Ybulkedwa
