import Derived.Test.YbulkedwaL2
import Derived.Lib.Builder
namespace Go.Proofs.Ybulkedwa
open Go Go.RowKit
set_option maxRecDepth 100000

theorem R_arc (E : Arcs) (hE : ∀ e ∈ E, e.2 < e.1) {x y : Nat} (h : (x, y) ∈ E) : R E x y = true := by
  rw [R_eq E hE]
  simp only [List.any_eq_true, Bool.or_eq_true, beq_iff_eq]
  exact ⟨y, (mem_hds E x y).2 h, Or.inl rfl⟩
theorem R_step (E : Arcs) (hE : ∀ e ∈ E, e.2 < e.1) {x y : Nat} (h : (x, y) ∈ E) : ∀ u, R E u x = true → R E u y = true := by
  intro u
  induction u using Nat.strongRecOn with
  | ind u ih =>
    intro hu
    rw [R_eq E hE] at hu ⊢
    simp only [List.any_eq_true, Bool.or_eq_true, beq_iff_eq] at hu ⊢
    obtain ⟨w, hw, h1⟩ := hu
    refine ⟨w, hw, Or.inr ?_⟩
    rcases h1 with h1 | h1
    · subst h1; exact R_arc E hE h
    · exact ih w (hE _ ((mem_hds E u w).1 hw)) h1

structure Dfs (E : Arcs) (u : Nat) (S : List Nat) (Vs : Nat → Bool) : Prop where
  snd : ∀ y, Vs y = true → R E u y = true
  src : ∀ x ∈ S, x = u ∨ Vs x = true
  cls : ∀ x, (x = u ∨ Vs x = true) → x ∉ S → ∀ y, (x, y) ∈ E → Vs y = true

theorem Dfs.start (E : Arcs) (u : Nat) : Dfs E u [u] (fun _ => false) :=
  ⟨fun y h => by simp at h, fun x hx => by simp at hx; exact Or.inl hx, fun x h1 h2 => by simp at h1 h2; exact absurd h1 h2⟩
theorem Dfs.done {E : Arcs} {u : Nat} {Vs : Nat → Bool} (hE : ∀ e ∈ E, e.2 < e.1) (h : Dfs E u [] Vs) (y : Nat) : Vs y = R E u y := by
  have key : ∀ x, (x = u ∨ Vs x = true) → ∀ y, R E x y = true → Vs y = true := by
    intro x
    induction x using Nat.strongRecOn with
    | ind x ih =>
      intro hx y hy
      rw [R_eq E hE] at hy
      simp only [List.any_eq_true, Bool.or_eq_true, beq_iff_eq] at hy
      obtain ⟨w, hw, h1⟩ := hy
      have hxw := (mem_hds E x w).1 hw
      have hV := h.cls x hx (by simp) w hxw
      rcases h1 with h1 | h1
      · subst h1; exact hV
      · exact ih w (hE _ hxw) (Or.inr hV) y h1
  apply Bool.eq_iff_iff.2
  exact ⟨h.snd y, key u (Or.inl rfl) y⟩

structure DfsIn (E : Arcs) (u x y : Nat) (S : List Nat) (Vs : Nat → Bool) : Prop where
  snd : ∀ y, Vs y = true → R E u y = true
  src : ∀ x ∈ S, x = u ∨ Vs x = true
  cls : ∀ x', (x' = u ∨ Vs x' = true) → x' ∉ S → x' ≠ x → ∀ y, (x', y) ∈ E → Vs y = true
  cur : x = u ∨ Vs x = true
  part : ∀ y', y' < y → (x, y') ∈ E → Vs y' = true

theorem DfsIn.start {E : Arcs} {u x : Nat} {S : List Nat} {Vs : Nat → Bool} (h : Dfs E u (S ++ [x]) Vs) : DfsIn E u x 0 S Vs :=
  ⟨h.snd, fun a ha => h.src a (by simp [ha]), fun a h1 h2 h3 => h.cls a h1 (by simp [h2, h3]), h.src x (by simp), fun y h => by omega⟩
theorem DfsIn.skip {E : Arcs} {u x y : Nat} {S : List Nat} {Vs : Nat → Bool} (h : DfsIn E u x y S Vs) (hs : (x, y) ∈ E → Vs y = true) : DfsIn E u x (y + 1) S Vs :=
  ⟨h.snd, h.src, h.cls, h.cur, fun y' hy' he => by
    by_cases e : y' = y
    · subst e; exact hs he
    · exact h.part y' (by omega) he⟩
theorem DfsIn.push {E : Arcs} {u x y : Nat} {S : List Nat} {Vs : Nat → Bool} (hE : ∀ e ∈ E, e.2 < e.1) (h : DfsIn E u x y S Vs) (he : (x, y) ∈ E) : DfsIn E u x (y + 1) (S ++ [y]) (fun z => Vs z || z == y) := by
  refine ⟨fun z hz => ?_, fun a ha => ?_, fun a h1 h2 h3 z hz => ?_, ?_, fun y' hy' he' => ?_⟩
  · simp at hz
    rcases hz with hz | hz
    · exact h.snd z hz
    · subst hz
      rcases h.cur with e | e
      · subst e; exact R_arc E hE he
      · exact R_step E hE he u (h.snd x e)
  · simp at ha
    rcases ha with ha | ha
    · rcases h.src a ha with e | e
      · exact Or.inl e
      · exact Or.inr (by simp [e])
    · exact Or.inr (by simp [ha])
  · simp at h2
    have : a = u ∨ Vs a = true := by
      rcases h1 with e | e
      · exact Or.inl e
      · simp at e
        rcases e with e | e
        · exact Or.inr e
        · exact absurd e h2.2
    have := h.cls a this h2.1 h3 z hz
    simp [this]
  · rcases h.cur with e | e
    · exact Or.inl e
    · exact Or.inr (by simp [e])
  · by_cases e : y' = y
    · simp [e]
    · have := h.part y' (by omega) he'
      simp [this]
theorem DfsIn.fin {E : Arcs} {u x y : Nat} {S : List Nat} {Vs : Nat → Bool} (hE : ∀ e ∈ E, e.2 < e.1) (h : DfsIn E u x y S Vs) (hy : x ≤ y) : Dfs E u S Vs := by
  refine ⟨h.snd, h.src, fun a h1 h2 z hz => ?_⟩
  by_cases e : a = x
  · subst e
    have := hE _ hz
    simp at this
    exact h.part z (by omega) hz
  · exact h.cls a h1 h2 e z hz

def visRow (n : Nat) (Vs : Nat → Bool) : List Value := (List.range n).map fun y => .bool (Vs y)
theorem visRow_length (n : Nat) (Vs : Nat → Bool) : (visRow n Vs).length = n := by simp [visRow]
theorem visRow_at {n y : Nat} (Vs : Nat → Bool) (h : y < n) : (visRow n Vs)[y]? = some (.bool (Vs y)) := by simp [visRow, h]
theorem visRow_none (n : Nat) : visRow n (fun _ => false) = List.replicate n (.bool false) := by
  unfold visRow
  rw [List.eq_replicate_iff]
  refine ⟨by simp, fun v hv => ?_⟩
  obtain ⟨t, _, rfl⟩ := List.mem_map.1 hv
  rfl
theorem visRow_set {n y : Nat} (Vs : Nat → Bool) : (visRow n Vs).set y (.bool true) = visRow n (fun z => Vs z || z == y) := by
  apply List.ext_getElem?
  intro t
  by_cases ht : t < n
  · rw [visRow_at _ ht]
    by_cases e : y = t
    · subst e
      rw [List.getElem?_set_self (by rw [visRow_length]; exact ht)]
      simp
    · rw [List.getElem?_set_ne e, visRow_at _ ht]
      have : (t == y) = false := by simp; intro h; exact e h.symm
      simp [this]
  · rw [List.getElem?_eq_none (by rw [List.length_set, visRow_length]; omega), List.getElem?_eq_none (by rw [visRow_length]; omega)]

/-- How many places are not yet visited, off the cells. -/
def isFalse : Option Value → Bool
  | some (.bool b) => !b
  | _ => false
def left (W : World) (yb : Nat) : Nat → Nat
  | 0 => 0
  | n + 1 => left W yb n + (if isFalse (W.cell? ⟨yb, n, none⟩) then 1 else 0)
def unv (Vs : Nat → Bool) : Nat → Nat
  | 0 => 0
  | n + 1 => unv Vs n + (if Vs n then 0 else 1)
theorem left_eq {W : World} {yb n : Nat} {Vs : Nat → Bool} (h : ∀ y, y < n → W.cell? ⟨yb, y, none⟩ = some (.bool (Vs y))) : left W yb n = unv Vs n := by
  induction n with
  | zero => rfl
  | succ n ih =>
    rw [left, unv, ih fun y hy => h y (by omega), h n (by omega)]
    cases Vs n <;> simp [isFalse]
theorem unv_set {Vs : Nat → Bool} {y : Nat} (hv : Vs y = false) : ∀ n, y < n → unv (fun z => Vs z || z == y) n + 1 = unv Vs n
  | 0, h => by omega
  | n + 1, h => by
    by_cases e : y = n
    · subst e
      have : ∀ k, k ≤ y → unv (fun z => Vs z || z == y) k = unv Vs k := by
        intro k
        induction k with
        | zero => intro _; rfl
        | succ k ih =>
          intro hk
          rw [unv, unv, ih (by omega)]
          have : (k == y) = false := by simp; omega
          simp [this]
      rw [unv, unv, this y (Nat.le_refl _)]
      simp [hv]
    · have := unv_set hv n (by omega)
      rw [unv, unv]
      have h2 : (n == y) = false := by simp; omega
      simp [h2]
      omega
def lenOfV : Value → Nat
  | .slice _ l _ => l
  | _ => 0

theorem row_shrink {W : World} {B e g n c : Nat} {xs : List Value} {x : Value} (h : W.ownsRow B e 1 (.slice (some ⟨g, 0, none⟩) (n + 1) c) (n + 1) (xs ++ [x])) : W.ownsRow B e 1 (.slice (some ⟨g, 0, none⟩) n c) n xs := by
  have hl := h.1
  simp at hl
  rcases h.2 with ⟨h', _⟩ | ⟨g', cap', cur, h', hB, hg, h1, h2, h3, h4⟩
  · simp at h'
  · simp only [Value.slice.injEq, Option.some.injEq, Addr.mk.injEq, and_true, true_and] at h'
    obtain ⟨rfl, rfl⟩ := h'
    refine ⟨by omega, Or.inr ⟨g, c, cur, rfl, hB, hg, by omega, h2, h3, ?_⟩⟩
    have : (cur.toList.take ((n + 1) * 1)).take (n * 1) = (xs ++ [x]).take (n * 1) := by rw [h4]
    have h5 : (xs ++ [x]).take (n * 1) = xs := by rw [List.take_append_of_le_length (by omega), List.take_of_length_le (by omega)]
    rw [List.take_take, show min (n * 1) ((n + 1) * 1) = n * 1 by omega, h5] at this
    exact this
theorem bool_ne_row {W : World} {B B' n n' : Nat} {v u : Value} {xs xs' : List Value} (h : W.ownsRow B 4 1 v n xs) (h' : W.ownsRow B' 3 1 u n' xs') : v.ownBlock = none ∨ v.ownBlock ≠ u.ownBlock := rows_apart h h' (by decide)
end Go.Proofs.Ybulkedwa
namespace Go.Proofs.Ybulkedwa
open Go Go.RowKit
def Fv (E : Arcs) (u v : Nat) : Nat → Nat → Bool := fun u' y => if u' = u then (decide (y < v) && R E u y) else (decide (u' < u) && R E u' y)
theorem Fv_start (E : Arcs) (u u' y : Nat) : (decide (u' < u) && R E u' y) = Fv E u 0 u' y := by
  unfold Fv
  by_cases h : u' = u
  · subst h; simp
  · simp [h]
theorem Fv_skip (E : Arcs) (u v u' y : Nat) (hR : R E u v = false) : Fv E u v u' y = Fv E u (v + 1) u' y := by
  unfold Fv
  by_cases h : u' = u
  · subst h
    by_cases e : y = v
    · subst e; simp [hR]
    · have : decide (y < v + 1) = decide (y < v) := by simp; omega
      simp [this]
  · simp [h]
theorem Fv_set (E : Arcs) (u v u' y : Nat) (hR : R E u v = true) : (if u' = u ∧ y / 64 = v / 64 then (Fv E u v u y || y == v) else Fv E u v u' y) = Fv E u (v + 1) u' y := by
  unfold Fv
  by_cases h : u' = u
  · subst h
    by_cases e : y = v
    · subst e; simp [hR]
    · have h1 : decide (y < v + 1) = decide (y < v) := by simp; omega
      have h2 : (y == v) = false := by simp [e]
      simp [h1, h2]
  · simp [h]
theorem Fv_end (E : Arcs) (hE : ∀ e ∈ E, e.2 < e.1) (u n u' y : Nat) (hu : u < n) : Fv E u n u' y = (decide (u' < u + 1) && R E u' y) := by
  unfold Fv
  by_cases h : u' = u
  · subst h
    by_cases hr : R E u' y = true
    · have := R_lt E hE u' y hr
      have h1 : y < n := by omega
      simp [h1]
    · have : R E u' y = false := by simpa using hr
      simp [this]
  · have : decide (u' < u + 1) = decide (u' < u) := by simp; omega
    simp [h, this]
end Go.Proofs.Ybulkedwa
namespace Go.Proofs.Ybulkedwa
open Go Go.RowKit
theorem stack_top {W : World} {B x : Nat} {sv : Value} {S' : List Nat} (h : W.ownsRow B 3 1 sv (S' ++ [x]).length (ints (S' ++ [x]))) : ∃ sg c, sv = .slice (some ⟨sg, 0, none⟩) (S'.length + 1) c ∧ W.cell? ⟨sg, S'.length, none⟩ = some (.int .i64 (x : Nat)) ∧ S'.length + 1 ≤ c ∧ c ≤ maxLen ∧ W.ownsRow B 3 1 (.slice (some ⟨sg, 0, none⟩) S'.length c) S'.length (ints S') := by
  rw [List.length_append, List.length_singleton] at h
  obtain ⟨ao, c, rfl, hao⟩ := row_val h
  obtain ⟨sg, rfl⟩ := hao (by omega)
  have hb : S'.length + 1 ≤ c ∧ c ≤ maxLen := by
    rcases h.2 with ⟨h', _⟩ | ⟨g', cap', cur, h', _, _, h5, h6, _⟩
    · simp at h'
    · simp only [Value.slice.injEq, Option.some.injEq, Addr.mk.injEq, and_true, true_and] at h'
      omega
  refine ⟨sg, c, rfl, ?_, hb.1, hb.2, row_shrink (x := .int .i64 (x : Nat)) (by rw [← ints_snoc]; exact h)⟩
  rw [h.cellAt S'.length (by omega)]
  simp [ints]
end Go.Proofs.Ybulkedwa
namespace Go.Proofs.Ybulkedwa
theorem unv_none : ∀ n, unv (fun _ => false) n = n
  | 0 => rfl
  | n + 1 => by rw [unv, unv_none n]; simp
end Go.Proofs.Ybulkedwa
namespace Go.Proofs.Ybulkedwa
open Go Go.RowKit
theorem neq30 (a : Addr) (wx : World) : (binOp .neq 30 (.pointer (some a)) (.pointer (some a))).run Yba.prog wx = .ok (.bool false) wx := by
  obtain ⟨j, hj⟩ := Option.isSome_iff_exists.1 (show (Yba.prog.info? 32).isSome = true by kernel_rfl)
  exact Lib.run_neq_ptr_same wx a Yba.underlying30 hj
end Go.Proofs.Ybulkedwa
