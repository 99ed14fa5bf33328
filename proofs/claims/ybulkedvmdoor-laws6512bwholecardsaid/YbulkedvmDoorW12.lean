import Derived.Test.YbulkedvmDoorW11
namespace Go.Proofs.YbulkedvmDoor
open Go Go.RowKit Go.Lib Go.Maps Go.Sort
set_option maxRecDepth 100000

theorem zeroCells_size (z : Value) (hz : z.cells.size = 1) (n : Nat) : (Builtin.zeroCells z.cells n).size = n := by
  simp [Builtin.zeroCells, hz]

/-- slices.Grow(s, 32): room for 32 more. -/
theorem grow_any (B n : Nat) (sv : Value) (xs : List Value) (w : World) (hown : w.ownsRow B 5 1 sv n xs) (hBw : B ≤ w.heap.size) (hlim : n + 40 ≤ 140737488355328) :
    Calls Ybad.prog 39 #[sv, .int .i64 32] w fun e w' => ∃ g cap, e = .returned (.slice (some ⟨g, 0, none⟩) n cap) ∧ n + 32 ≤ cap ∧ w'.ownsRow B 5 1 (.slice (some ⟨g, 0, none⟩) n cap) n xs ∧ Kp B w w' := by
  obtain ⟨i0, hi, hz0, hz1, hz2⟩ := info_parts Ybad.info5
  have hnew : ∀ (base : Option Addr) (c : Nat) (cs : List Value), n ≤ c → c < n + 32 → cs.length = c → cs.take n = xs → (base = none → c = 0) → (∀ a, base = some a → ∀ j v, cs[j]? = some v → w.cell? (a.add j) = some v) →
      Calls Ybad.prog 39 #[.slice base n c, .int .i64 32] w fun e w' => ∃ g cap, e = .returned (.slice (some ⟨g, 0, none⟩) n cap) ∧ n + 32 ≤ cap ∧ w'.ownsRow B 5 1 (.slice (some ⟨g, 0, none⟩) n cap) n xs ∧ Kp B w w' := by
    intro base c cs hnc hc hcl htk hnil hcs
    have hcon := Any8.slices_Grow_grow Ybad.growL i0 (.int .u8 0) hi hz0 (by rw [hz1]; decide) base n c 32 cs w hnc hc (by rw [hz2]; omega) (by omega) (by rw [hz1]; omega) hnil hcs
    refine hcon.mono ?_
    rintro e w' ⟨rfl, rfl⟩
    have hge := grownCap_ge w (n + 32) c 5
    have hmx := grownCap_le_maxLen w (n + 32) c 5 (by unfold maxLen; omega)
    refine ⟨w.heap.size, _, rfl, hge, ⟨hown.1, Or.inr ⟨w.heap.size, _, _, rfl, hBw, heap_alloc_new w.drew _, by have := hge; exact Nat.le_trans (Nat.le_add_right n 32) hge, hmx, ?_, ?_⟩⟩, ((Kp.refl B w).drew).alloc hBw _⟩
    · have z1 : (Value.int .u8 0).cells.size = 1 := rfl
      rw [Array.size_append, Array.size_append, zeroCells_size _ z1, zeroCells_size _ z1]
      show cs.toArray.size + (n + 32 - c) + (grownCap w (n + 32) c 5 - (n + 32)) = grownCap w (n + 32) c 5 * 1
      simp only [List.size_toArray, hcl]
      omega
    · rw [Array.toList_append, Array.toList_append, Nat.mul_one, List.append_assoc, List.take_append_of_le_length (by simp; omega)]
      exact htk
  rcases hown.2 with ⟨rfl, hn0⟩ | ⟨g, cap, cur, rfl, hB, hg, hnc, hcm, hcs, htk⟩
  · subst hn0
    have hx : xs = [] := List.length_eq_zero_iff.1 (by have := hown.1; omega)
    subst hx
    exact hnew none 0 [] (Nat.le_refl _) (by omega) rfl rfl (fun _ => rfl) (fun a h => by cases h)
  · by_cases hroom : n + 32 ≤ cap
    · have hcon := Any8.slices_Grow_room Ybad.growL (some ⟨g, 0, none⟩) n cap 32 w hnc hcm (by omega) hroom
      refine hcon.mono ?_
      rintro e w' ⟨rfl, rfl⟩
      exact ⟨g, cap, rfl, hroom, hown, Kp.refl _ _⟩
    · refine hnew (some ⟨g, 0, none⟩) cap cur.toList hnc (by omega) (by simp [hcs]) (by rw [Nat.mul_one] at htk; exact htk) (fun h => by cases h) ?_
      intro a ha j v hj
      cases ha
      rw [Go.WideShapes.add_plain, Nat.zero_add]
      simp [World.cell?, hg]
      simpa using hj
end Go.Proofs.YbulkedvmDoor
