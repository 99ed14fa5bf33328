import Derived.Test.YbulkedwaF2
import Derived.Lib.LazyBuf
namespace Go.Proofs.Ybulkedwa
open Go Go.RowKit
set_option maxRecDepth 100000
set_option linter.unusedVariables false

/-- arcs.of(u): the values from start[u] to start[u+1]. -/
theorem of_any (sb vb n m u s e cs cv : Nat) (w : World) (hs : w.cell? ⟨sb, u, none⟩ = some (.int .i64 s)) (he : w.cell? ⟨sb, u + 1, none⟩ = some (.int .i64 e)) (hu : u < n) (hse : s ≤ e) (hem : e ≤ m) (hm : m ≤ 65536) (hn : n ≤ 255) (hcv : m ≤ cv) (hcv2 : cv ≤ 1000000) :
    Calls Yba.prog 15 #[.agg #[.slice (some ⟨sb, 0, none⟩) (n + 1) cs, .slice (some ⟨vb, 0, none⟩) m cv], .int .i64 u] w fun r w' => (∃ ao c, r = .returned (.slice ao (e - s) c) ∧ (s < e → ao = some ⟨vb, s, none⟩)) ∧ Below w.heap.size w w' := by
  have hz1 : (0 : Int) ≤ (u : Int) + 1 := by omega
  have hz2 : (u : Int) + 1 < (n : Int) + 1 := by omega
  have hz3 : (u : Int) < (n : Int) + 1 := by omega
  by_cases hc : cv = s
  · subst hc
    have h1 := cell_al hs (.cells #[.slice (some ⟨sb, 0, none⟩) (n + 1) cs, .slice (some ⟨vb, 0, none⟩) m cv] 29)
    have h2 := cell_al he (.cells #[.slice (some ⟨sb, 0, none⟩) (n + 1) cs, .slice (some ⟨vb, 0, none⟩) m cv] 29)
    clear hs he
    go_enter Yba.func15, Yba.ntmps15
    go_wp2
    go_quiet (fail)
    go_wp2
    go_ret
    exact ⟨⟨_, _, rfl, fun h => by omega⟩, ((Below.refl _ _).alloc (Nat.le_refl _) _).trans (below_drewN _ _ _)⟩
  · have h1 := cell_al hs (.cells #[.slice (some ⟨sb, 0, none⟩) (n + 1) cs, .slice (some ⟨vb, 0, none⟩) m cv] 29)
    have h2 := cell_al he (.cells #[.slice (some ⟨sb, 0, none⟩) (n + 1) cs, .slice (some ⟨vb, 0, none⟩) m cv] 29)
    clear hs he
    go_enter Yba.func15, Yba.ntmps15
    go_wp2
    go_quiet (fail)
    go_wp2
    go_ret
    exact ⟨⟨_, _, rfl, fun _ => rfl⟩, ((Below.refl _ _).alloc (Nat.le_refl _) _).trans (below_drewN _ _ _)⟩

theorem info3 : (Yba.prog.info? 3).map (fun i => (i.zero, i.size, i.bytes)) = some (some (.int .i64 0), 1, 8) := by kernel_rfl

/-- slices.Clone of a row. -/
theorem clone_any (a : Addr) (n c : Nat) (xs : List Value) (w : World) (hl : xs.length = n) (hc : ∀ j v, xs[j]? = some v → w.cell? (a.add j) = some v) (h1 : ∀ v ∈ xs, v.oneCell' = true) (hn : n ≤ 1000000) :
    Calls Yba.prog 5 #[.slice (some a) n c] w fun r w' => ∃ v, r = .returned v ∧ w'.ownsRow w.heap.size 3 1 v n xs ∧ Below w.heap.size w w' := by
  obtain ⟨i0, hi, hz0, hz1, hz2⟩ := info_parts info3
  have hq := fun (wx : World) (a : Option Addr) (n c : Nat) => run_eql_slice_nil (P := Yba.prog) wx 23 3 a n c Yba.underlying23
  have hl' : xs.length = n * 1 := by omega
  have hown0 : (w.alloc (.cells #[] 3)).ownsRow w.heap.size 3 1 (.slice (some ⟨w.heap.size, 0, none⟩) 0 0) 0 [] := ⟨rfl, Or.inr ⟨w.heap.size, 0, #[], rfl, Nat.le_refl _, heap_alloc_new w _, Nat.le_refl _, by unfold maxLen; omega, rfl, rfl⟩⟩
  have hc' : ∀ j v, xs[j]? = some v → (w.alloc (.cells #[] 3)).cell? (a.add j) = some v := fun j v hj => cell_al (hc j v hj) _
  have HC := hide hc'
  clear hc hc' hl
  go_enter Yba.func5, Yba.ntmps5
  go_wp2_with (at_builtin; refine wpList_append_own_at _ rfl _ _ 23 rfl w.heap.size 3 i0 (.int .i64 0) 1 8 Yba.underlying23 hi hz0 hz1 hz2 rfl (by decide) _ _ _ rfl hown0 a n c xs rfl hl' HC.out h1 ?c3 ?c4 ?c5 ?_)
  case c3 => unfold maxLen; omega
  case c4 => omega
  case c5 => simp
  intro v' w2 hown2 hg2 _ _
  have hb : Below w.heap.size w w2 := ((Below.refl _ _).alloc (Nat.le_refl _) _).grown hg2 (by simp) (fun k hk => by simp [Value.ownBlock] at hk; omega)
  clear hg2
  go_wp2
  go_ret
  exact ⟨v', rfl, by simpa using hown2, hb⟩

/-- slices.Equal on two slices that hold the same numbers: true. -/
theorem eqI_any (xs : List Value) (n : Nat) (aa ab : Option Addr) (ca cb : Nat) (w : World) (hl : xs.length = n) (hbig : n ≤ 1000000) (hi : ∀ v ∈ xs, ∃ z, v = .int .i64 z)
    (ha : ∀ i v, xs[i]? = some v → ∃ a, aa = some a ∧ w.cell? (a.add i) = some v) (hb : ∀ i v, xs[i]? = some v → ∃ a, ab = some a ∧ w.cell? (a.add i) = some v) :
    Calls Yba.prog 9 #[.slice aa n ca, .slice ab n cb] w fun e w' => e = .returned (.bool true) ∧ ∃ q, w' = w.drewN q := by
  have HL := hide hl
  clear hl
  go_enter Yba.func9, Yba.ntmps9
  go_wp2
  go_loopw [5, 13] (fun _ i W => ∃ (k nd : Nat), i = .int .i64 k ∧ k ≤ n ∧ Hid (W = w.drewN nd)) (fun _ i _ => n - (intOf i).toNat)
  case atStart => exact ⟨0, 0, rfl, Nat.zero_le _, rfl⟩
  case round =>
    obtain ⟨k, nd, rfl, hk, HW⟩ := hrel
    by_cases hlt : k < n
    · have hk' : k < xs.length := by rw [HL.out]; exact hlt
      obtain ⟨z, hz⟩ := hi xs[k] (List.getElem_mem hk')
      obtain ⟨a1, rfl, ra0⟩ := ha k _ (List.getElem?_eq_getElem hk')
      obtain ⟨b1, rfl, rb0⟩ := hb k _ (List.getElem?_eq_getElem hk')
      rw [hz] at ra0 rb0
      have ra : wr.cell? (a1.add k) = some (.int .i64 z) := by rw [HW.out]; exact ra0
      have rb : wr.cell? (b1.add k) = some (.int .i64 z) := by rw [HW.out]; exact rb0
      clear ra0 rb0 ha hb hz
      go_wp2
      go_quiet (fail)
      go_wp2
      go_roundw
      case rel => exact ⟨k + 1, _, by go_num, by omega, (by rw [HW.out, World.drewN_drewN]; exact rfl)⟩
      case measure => simp [intOf]; omega
    · go_wp2
      go_ret
      exact ⟨rfl, _, HW.out⟩

theorem eqW_any (xs : List Value) (n : Nat) (aa ab : Option Addr) (ca cb : Nat) (w : World) (hl : xs.length = n) (hbig : n ≤ 1000000) (hi : ∀ v ∈ xs, ∃ z, v = .int .u64 z)
    (ha : ∀ i v, xs[i]? = some v → ∃ a, aa = some a ∧ w.cell? (a.add i) = some v) (hb : ∀ i v, xs[i]? = some v → ∃ a, ab = some a ∧ w.cell? (a.add i) = some v) :
    Calls Yba.prog 8 #[.slice aa n ca, .slice ab n cb] w fun e w' => e = .returned (.bool true) ∧ ∃ q, w' = w.drewN q := by
  have HL := hide hl
  clear hl
  go_enter Yba.func8, Yba.ntmps8
  go_wp2
  go_loopw [5, 13] (fun _ i W => ∃ (k nd : Nat), i = .int .i64 k ∧ k ≤ n ∧ Hid (W = w.drewN nd)) (fun _ i _ => n - (intOf i).toNat)
  case atStart => exact ⟨0, 0, rfl, Nat.zero_le _, rfl⟩
  case round =>
    obtain ⟨k, nd, rfl, hk, HW⟩ := hrel
    by_cases hlt : k < n
    · have hk' : k < xs.length := by rw [HL.out]; exact hlt
      obtain ⟨z, hz⟩ := hi xs[k] (List.getElem_mem hk')
      obtain ⟨a1, rfl, ra0⟩ := ha k _ (List.getElem?_eq_getElem hk')
      obtain ⟨b1, rfl, rb0⟩ := hb k _ (List.getElem?_eq_getElem hk')
      rw [hz] at ra0 rb0
      have ra : wr.cell? (a1.add k) = some (.int .u64 z) := by rw [HW.out]; exact ra0
      have rb : wr.cell? (b1.add k) = some (.int .u64 z) := by rw [HW.out]; exact rb0
      clear ra0 rb0 ha hb hz
      go_wp2
      go_quiet (fail)
      go_wp2
      go_roundw
      case rel => exact ⟨k + 1, _, by go_num, by omega, (by rw [HW.out, World.drewN_drewN]; exact rfl)⟩
      case measure => simp [intOf]; omega
    · go_wp2
      go_ret
      exact ⟨rfl, _, HW.out⟩
end Go.Proofs.Ybulkedwa
