import Derived.Test.YbulkedwaMem
namespace Go.Proofs.Ybulkedwa
open Go Go.RowKit

abbrev Arcs := List (Nat × Nat)
def deg (E : Arcs) (u : Nat) : Nat := (E.filter fun e => e.1 == u).length
def st (E : Arcs) (u : Nat) : Nat := (E.filter fun e => decide (e.1 < u)).length
def hds (E : Arcs) (u : Nat) : List Nat := (E.filter fun e => e.1 == u).map (·.2)

theorem hds_length (E : Arcs) (u : Nat) : (hds E u).length = deg E u := by simp [hds, deg]
theorem st_zero (E : Arcs) : st E 0 = 0 := by simp [st]
theorem st_succ (E : Arcs) (u : Nat) : st E (u + 1) = st E u + deg E u := by
  induction E with
  | nil => rfl
  | cons e r ih =>
    simp only [st, deg, List.filter_cons] at *
    by_cases h1 : e.1 < u
    · have h2 : ¬ e.1 = u := by omega
      have h3 : e.1 < u + 1 := by omega
      simp [h1, h2, h3]; omega
    · by_cases h2 : e.1 = u
      · simp [h2]; omega
      · have h3 : ¬ e.1 < u + 1 := by omega
        simp [h1, h2, h3]; omega
theorem st_mono (E : Arcs) {u v : Nat} (h : u ≤ v) : st E u ≤ st E v := by
  induction v with
  | zero => have : u = 0 := by omega
            subst this; exact Nat.le_refl _
  | succ v ih =>
    by_cases e : u = v + 1
    · subst e; exact Nat.le_refl _
    · have := ih (by omega)
      rw [st_succ]; omega
theorem st_all (E : Arcs) (n : Nat) (h : ∀ e ∈ E, e.1 < n) : st E n = E.length := by
  unfold st
  rw [List.filter_eq_self.2 (fun e he => by simpa using h e he)]

theorem deg_append (E F : Arcs) (u : Nat) : deg (E ++ F) u = deg E u + deg F u := by simp [deg]
theorem deg_le (E : Arcs) (u : Nat) : deg E u ≤ E.length := by unfold deg; exact List.length_filter_le _ _
theorem deg_one (e : Nat × Nat) (u : Nat) : deg [e] u = if e.1 = u then 1 else 0 := by
  unfold deg
  by_cases h : e.1 = u <;> simp [h]
theorem hds_append (E F : Arcs) (u : Nat) : hds (E ++ F) u = hds E u ++ hds F u := by simp [hds]
theorem mem_hds (E : Arcs) (u w : Nat) : w ∈ hds E u ↔ (u, w) ∈ E := by
  simp [hds]

/-- Is there a way of arcs from u to y? (f: the fuel; every arc leads down.) -/
def rc (E : Arcs) : Nat → Nat → Nat → Bool
  | 0, _, _ => false
  | f + 1, u, y => (hds E u).any fun w => w == y || rc E f w y
def R (E : Arcs) (u y : Nat) : Bool := rc E (u + 1) u y

theorem rc_fuel (E : Arcs) (hE : ∀ e ∈ E, e.2 < e.1) : ∀ (f g u y : Nat), u < f → u < g → rc E f u y = rc E g u y
  | 0, _, _, _, h, _ => by omega
  | _ + 1, 0, _, _, _, h => by omega
  | f + 1, g + 1, u, y, h1, h2 => by
    show ((hds E u).any fun w => w == y || rc E f w y) = ((hds E u).any fun w => w == y || rc E g w y)
    apply Bool.eq_iff_iff.2
    simp only [List.any_eq_true, Bool.or_eq_true]
    constructor
    · rintro ⟨w, hw, h⟩
      have hlt := hE _ ((mem_hds E u w).1 hw)
      refine ⟨w, hw, ?_⟩
      rw [← rc_fuel E hE f g w y (by simp at hlt; omega) (by simp at hlt; omega)]
      exact h
    · rintro ⟨w, hw, h⟩
      have hlt := hE _ ((mem_hds E u w).1 hw)
      refine ⟨w, hw, ?_⟩
      rw [rc_fuel E hE f g w y (by simp at hlt; omega) (by simp at hlt; omega)]
      exact h

theorem R_eq (E : Arcs) (hE : ∀ e ∈ E, e.2 < e.1) (u y : Nat) : R E u y = (hds E u).any fun w => w == y || R E w y := by
  show ((hds E u).any fun w => w == y || rc E u w y) = _
  apply Bool.eq_iff_iff.2
  simp only [List.any_eq_true, Bool.or_eq_true]
  constructor
  · rintro ⟨w, hw, h⟩
    have hlt := hE _ ((mem_hds E u w).1 hw)
    refine ⟨w, hw, ?_⟩
    unfold R
    rw [rc_fuel E hE (w + 1) u w y (by omega) hlt]
    exact h
  · rintro ⟨w, hw, h⟩
    have hlt := hE _ ((mem_hds E u w).1 hw)
    refine ⟨w, hw, ?_⟩
    unfold R at h
    rw [rc_fuel E hE (w + 1) u w y (by omega) hlt] at h
    exact h

theorem R_lt (E : Arcs) (hE : ∀ e ∈ E, e.2 < e.1) : ∀ (u y : Nat), R E u y = true → y < u := by
  intro u
  induction u using Nat.strongRecOn with
  | ind u ih =>
    intro y h
    rw [R_eq E hE] at h
    simp only [List.any_eq_true, Bool.or_eq_true, beq_iff_eq] at h
    obtain ⟨w, hw, h⟩ := h
    have hlt := hE _ ((mem_hds E u w).1 hw)
    simp at hlt
    rcases h with h | h
    · omega
    · have := ih w hlt y h
      omega

/-! ### Words -/
def wd (S : Nat → Bool) : Nat → Nat
  | 0 => 0
  | j + 1 => wd S j ||| (if S j then 2 ^ j else 0)
theorem wd_bit (S : Nat → Bool) : ∀ (k j : Nat), (wd S k).testBit j = (decide (j < k) && S j)
  | 0, j => by simp [wd]
  | k + 1, j => by
    rw [wd, Nat.testBit_or, wd_bit S k j]
    by_cases h : S k
    · rw [if_pos h, Nat.testBit_two_pow]
      by_cases e : k = j
      · subst e; simp [h]
      · have : (decide (j < k + 1)) = decide (j < k) := by simp; omega
        simp [e, this]
    · rw [if_neg h]
      by_cases e : j = k
      · subst e; simp [h]
      · have : (decide (j < k + 1)) = decide (j < k) := by simp; omega
        simp [this]
theorem wd_lt (S : Nat → Bool) : ∀ k, wd S k < 2 ^ k
  | 0 => by simp [wd]
  | k + 1 => by
    rw [wd]
    have h1 := wd_lt S k
    have h2 : 2 ^ k < 2 ^ (k + 1) := Nat.pow_lt_pow_right (by omega) (by omega)
    apply Nat.or_lt_two_pow
    · omega
    · split
      · exact h2
      · exact Nat.two_pow_pos _
def word (S : Nat → Bool) (i : Nat) : Nat := wd (fun j => S (64 * i + j)) 64
theorem word_lt (S : Nat → Bool) (i : Nat) : word S i < 18446744073709551616 := wd_lt _ 64
theorem word_bit (S : Nat → Bool) (i j : Nat) : (word S i).testBit j = (decide (j < 64) && S (64 * i + j)) := wd_bit _ 64 j
theorem word_congr {S T : Nat → Bool} {i : Nat} (h : ∀ y, y / 64 = i → S y = T y) : word S i = word T i := by
  apply Nat.eq_of_testBit_eq
  intro j
  rw [word_bit, word_bit]
  by_cases hj : j < 64
  · rw [h (64 * i + j) (by omega)]
  · simp [hj]
theorem word_or (S T : Nat → Bool) (i : Nat) : word S i ||| word T i = word (fun y => S y || T y) i := by
  apply Nat.eq_of_testBit_eq
  intro j
  rw [Nat.testBit_or, word_bit, word_bit, word_bit]
  by_cases hj : j < 64 <;> simp [hj]
theorem word_set (S : Nat → Bool) (v : Nat) : word S (v / 64) ||| 2 ^ (v % 64) = word (fun y => S y || y == v) (v / 64) := by
  apply Nat.eq_of_testBit_eq
  intro j
  rw [Nat.testBit_or, word_bit, word_bit, Nat.testBit_two_pow]
  by_cases hj : j < 64
  · have : (64 * (v / 64) + j == v) = decide (v % 64 = j) := by
      by_cases e : v % 64 = j
      · simp [e]; omega
      · simp [e]; omega
    simp [hj, this]
  · have : ¬ v % 64 = j := by omega
    simp [hj, this]
theorem word_none (i : Nat) : word (fun _ => false) i = 0 := by
  apply Nat.eq_of_testBit_eq
  intro j
  rw [word_bit]
  simp

def rowsOf (n width : Nat) (F : Nat → Nat → Bool) : List Value := (List.range (n * width)).map fun t => .int .u64 ((word (F (n - 1 - t / width)) (t % width) : Nat) : Int)
theorem rowsOf_length (n width : Nat) (F : Nat → Nat → Bool) : (rowsOf n width F).length = n * width := by simp [rowsOf]

theorem row_ix {n width u i : Nat} (hu : u < n) (hi : i < width) : (n - 1 - u) * width + i < n * width := by
  have h1 : (n - 1 - u + 1) * width ≤ n * width := Nat.mul_le_mul_right _ (by omega)
  rw [Nat.add_mul, Nat.one_mul] at h1
  omega
theorem ix_div {n width u i : Nat} (hi : i < width) : ((n - 1 - u) * width + i) / width = n - 1 - u := by
  rw [Nat.add_comm, Nat.add_mul_div_right _ _ (by omega), Nat.div_eq_of_lt hi, Nat.zero_add]
theorem ix_mod {n width u i : Nat} (hi : i < width) : ((n - 1 - u) * width + i) % width = i := by
  rw [Nat.add_comm, Nat.add_mul_mod_self_right, Nat.mod_eq_of_lt hi]

theorem rowsOf_at {n width u i : Nat} (F : Nat → Nat → Bool) (hu : u < n) (hi : i < width) : (rowsOf n width F)[(n - 1 - u) * width + i]? = some (.int .u64 ((word (F u) i : Nat) : Int)) := by
  have h := row_ix hu hi
  simp only [rowsOf, List.getElem?_map, List.getElem?_range h, Option.map_some]
  rw [ix_div hi, ix_mod hi, show n - 1 - (n - 1 - u) = u by omega]

theorem rowsOf_congr {n width : Nat} {F G : Nat → Nat → Bool} (h : ∀ u y, u < n → F u y = G u y) : rowsOf n width F = rowsOf n width G := by
  unfold rowsOf
  apply List.map_congr_left
  intro t ht
  have htl : t < n * width := List.mem_range.1 ht
  have hw : 0 < width := by
    rcases Nat.eq_zero_or_pos width with e | e
    · subst e; simp at htl
    · exact e
  have : t / width < n := Nat.div_lt_of_lt_mul (by rw [Nat.mul_comm]; exact htl)
  revert this
  generalize t / width = q
  intro this
  rw [show F (n - 1 - q) = G (n - 1 - q) from funext fun y => h _ y (by omega)]

theorem rowsOf_set {n width u i : Nat} (F : Nat → Nat → Bool) (G : Nat → Bool) (hu : u < n) (hi : i < width) : (rowsOf n width F).set ((n - 1 - u) * width + i) (.int .u64 ((word G i : Nat) : Int)) = rowsOf n width (fun u' y => if u' = u ∧ y / 64 = i then G y else F u' y) := by
  apply List.ext_getElem?
  intro t
  have hw : 0 < width := by omega
  by_cases ht : t < n * width
  · have hd : t / width < n := Nat.div_lt_of_lt_mul (by rw [Nat.mul_comm]; exact ht)
    by_cases e : t = (n - 1 - u) * width + i
    · subst e
      rw [List.getElem?_set_self (by rw [rowsOf_length]; exact ht), rowsOf_at _ hu hi]
      congr 3
      apply word_congr
      intro y hy
      simp [hy]
    · rw [List.getElem?_set_ne (fun h => e h.symm)]
      simp only [rowsOf, List.getElem?_map, List.getElem?_range ht, Option.map_some]
      congr 3
      apply word_congr
      intro y hy
      rw [if_neg]
      rintro ⟨h1, h2⟩
      apply e
      have h3 : t / width = n - 1 - u := by omega
      have h4 : t % width = i := by omega
      have h5 := Nat.div_add_mod t width
      rw [h3, h4, Nat.mul_comm] at h5
      exact h5.symm
  · rw [List.getElem?_eq_none (by rw [List.length_set, rowsOf_length]; omega), List.getElem?_eq_none (by rw [rowsOf_length]; omega)]
theorem rowsOf_zero (n width : Nat) : rowsOf n width (fun _ _ => false) = List.replicate (n * width) (.int .u64 0) := by
  unfold rowsOf
  rw [List.eq_replicate_iff]
  refine ⟨by simp, fun v hv => ?_⟩
  obtain ⟨t, _, rfl⟩ := List.mem_map.1 hv
  rw [word_none]
  rfl
end Go.Proofs.Ybulkedwa
