import Derived.Test.YbulkedvmDoorW17
namespace Go.Proofs.YbulkedvmDoor
open Go Go.RowKit Go.Lib Go.Maps Go.Sort
set_option maxRecDepth 100000

/-- The key's number at place a. -/
def kn (P : List KN) (a : Nat) : Nat := ((P[a]?).map (fun p => p.1.num)).getD 0

/-- P IS A SORTED PERMUTATION OF L: IT IS L SORTED. -/
theorem sorted_is {P L : List KN} (hp : P.Perm L) (hn : (L.map (·.1)).Nodup) (hs : ∀ a b, a < b → b < P.length → kn P a ≤ kn P b) : P = sortP L := by
  have hkeys : P.map (·.1) = sortKeys (L.map (·.1)) := by
    have tr : ∀ a b c : Key, (!(ltOf kcmp) b a) = true → (!(ltOf kcmp) c b) = true → (!(ltOf kcmp) c a) = true := fun a b c h1 h2 => by
      rw [kcmp_lt] at *; simp at *; omega
    have to : ∀ a b : Key, ((!(ltOf kcmp) b a) || (!(ltOf kcmp) a b)) = true := fun a b => by
      rw [kcmp_lt, kcmp_lt]; simp; omega
    refine List.Perm.eq_of_pairwise (le := fun a b => (!(ltOf kcmp) b a) = true) (fun a b _ _ h1 h2 => ktot a b (by simpa using h2) (by simpa using h1)) ?_ (List.pairwise_mergeSort tr to _) ((hp.map _).trans (List.mergeSort_perm _ _).symm)
    rw [List.pairwise_iff_getElem]
    intro i j hi hj hij
    have hi' : i < P.length := by simpa using hi
    have hj' : j < P.length := by simpa using hj
    have := hs i j hij hj'
    simp only [kn, List.getElem?_eq_getElem hi', List.getElem?_eq_getElem hj', Option.map_some, Option.getD_some] at this
    rw [kcmp_lt]
    simp
    omega
  have hmap : P = (P.map (·.1)).map fun k => (k, valOf L k) := by
    rw [List.map_map]
    have : ∀ p ∈ P, ((fun k => (k, valOf L k)) ∘ fun p : KN => p.1) p = id p := fun p hp' => by
      show (p.1, valOf L p.1) = p
      rw [valOf_mem hn (hp.mem_iff.1 hp')]
    rw [List.map_congr_left this, List.map_id]
  rw [hmap, hkeys]
  rfl

/-- THE INNER LOOP: the prefix up to i is sorted but for the element at j, which is less than all behind it. -/
structure But (P : List KN) (i j : Nat) : Prop where
  others : ∀ a b, a < b → b ≤ i → a ≠ j → b ≠ j → kn P a ≤ kn P b
  less : ∀ b, j < b → b ≤ i → kn P j ≤ kn P b

def swapAt (P : List KN) (j : Nat) (x y : KN) : List KN := (P.set (j + 1) x).set j y

theorem kn_swap (P : List KN) (j : Nat) (x y : KN) (hx : P[j]? = some x) (hy : P[j + 1]? = some y) (a : Nat) : kn (swapAt P j x y) a = if a = j then kn P (j + 1) else if a = j + 1 then kn P j else kn P a := by
  have hj : j + 1 < P.length := (List.getElem?_eq_some_iff.1 hy).1
  unfold kn swapAt
  by_cases h1 : a = j
  · subst h1
    rw [if_pos rfl, List.getElem?_set_self (by simp; omega), hy]
  · rw [if_neg h1, List.getElem?_set_ne (fun e => h1 e.symm)]
    by_cases h2 : a = j + 1
    · subst h2
      rw [if_pos rfl, List.getElem?_set_self hj, hx]
    · rw [if_neg h2, List.getElem?_set_ne (fun e => h2 e.symm)]

theorem But.swap {P : List KN} {i j : Nat} {x y : KN} (h : But P i (j + 1)) (hi : j + 1 ≤ i) (hx : P[j]? = some x) (hy : P[j + 1]? = some y) (hlt : kn P (j + 1) < kn P j) : But (swapAt P j x y) i j := by
  refine ⟨fun a b hab hb ha hbj => ?_, fun b hjb hb => ?_⟩
  · rw [kn_swap P j x y hx hy, kn_swap P j x y hx hy, if_neg ha, if_neg hbj]
    by_cases h1 : a = j + 1
    · subst h1
      rw [if_pos rfl, if_neg (by omega)]
      exact h.others j b (by omega) hb (by omega) (by omega)
    · rw [if_neg h1]
      by_cases h2 : b = j + 1
      · subst h2
        rw [if_pos rfl]
        exact h.others a j (by omega) (by omega) h1 (by omega)
      · rw [if_neg h2]
        exact h.others a b hab hb h1 h2
  · rw [kn_swap P j x y hx hy, kn_swap P j x y hx hy, if_pos rfl, if_neg (by omega)]
    by_cases h2 : b = j + 1
    · subst h2
      rw [if_pos rfl]
      omega
    · rw [if_neg h2]
      exact h.less b (by omega) hb

theorem But.stop {P : List KN} {i j : Nat} (h : But P i j) (hstop : j = 0 ∨ kn P (j - 1) ≤ kn P j) : ∀ a b, a < b → b ≤ i → kn P a ≤ kn P b := by
  intro a b hab hb
  by_cases ha : a = j
  · subst ha
    exact h.less b hab hb
  · by_cases hbj : b = j
    · subst hbj
      rcases hstop with h0 | h0
      · omega
      · by_cases h1 : a = b - 1
        · subst h1; exact h0
        · exact Nat.le_trans (h.others a (b - 1) (by omega) (by omega) ha (by omega)) h0
    · exact h.others a b hab hb ha hbj

theorem swap_perm (P : List KN) (j : Nat) (x y : KN) (hx : P[j]? = some x) (hy : P[j + 1]? = some y) : (swapAt P j x y).Perm P := by
  obtain ⟨hj, ex⟩ := List.getElem?_eq_some_iff.1 hx
  obtain ⟨hj1, ey⟩ := List.getElem?_eq_some_iff.1 hy
  have e1 : P = P.take j ++ x :: y :: P.drop (j + 2) := by
    rw [← ex, ← ey]
    simp
  have hl : (P.take j).length = j := by simp; omega
  have e2 : swapAt P j x y = P.take j ++ y :: x :: P.drop (j + 2) := by
    unfold swapAt
    conv => lhs; rw [e1]
    rw [List.set_append_right _ _ (by omega), hl, show j + 1 - j = 1 by omega]
    simp only [List.set_cons_succ, List.set_cons_zero]
    rw [List.set_append_right _ _ (by omega), hl, Nat.sub_self]
    rfl
  rw [e2]
  conv => rhs; rw [e1]
  exact List.Perm.append_left _ (List.Perm.swap _ _ _)
end Go.Proofs.YbulkedvmDoor
