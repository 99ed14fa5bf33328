import Derived.Test.YbulkedwaF1
namespace Go.Proofs.Ybulkedwa
open Go Go.RowKit
set_option maxRecDepth 100000

theorem spend_any (pb o tb : Nat) (L x : Int) (w : World) (h0 : w.cell? ⟨pb, o, none⟩ = some (.pointer (some ⟨tb, 0, none⟩))) (hl : w.cell? ⟨tb, 0, none⟩ = some (.int .i64 L)) (hf : w.frozen? ⟨tb, 0, none⟩ = false) (hr : -9223372036854775808 ≤ L - x ∧ L - x ≤ 9223372036854775807) :
    Calls Yba.prog 14 #[.pointer (some ⟨pb, o, none⟩), .int .i64 x] w fun e w' => e = .returned (.tuple #[]) ∧ w' = w.setCell ⟨tb, 0, none⟩ (.int .i64 (L - x)) := by
  have hc := spendW_any tb L x w hl hf hr
  go_enter Yba.func14, Yba.ntmps14
  go_wp2_with (go_at_call 25; refine hc.mono ?_; rintro e w' ⟨rfl, rfl⟩)
  go_end0
  exact ⟨rfl, rfl⟩

theorem spent_any (pb o tb : Nat) (L F G : Int) (w : World) (h0 : w.cell? ⟨pb, o, none⟩ = some (.pointer (some ⟨tb, 0, none⟩))) (hl : w.cell? ⟨tb, 0, none⟩ = some (.int .i64 L)) (h1 : w.cell? ⟨pb, o + 1, none⟩ = some (.int .i64 F)) (h2 : w.cell? ⟨pb, o + 2, none⟩ = some (.int .i64 G)) :
    Calls Yba.prog 16 #[.pointer (some ⟨pb, o, none⟩)] w fun e w' => e = .returned (.bool (decide (L < F ∨ 1048576 < G))) ∧ ∃ q, w' = w.drewN q := by
  by_cases hlt : L < F
  · have e1 : decide (L < F ∨ 1048576 < G) = true := by simp [hlt]
    rw [e1]
    go_enter Yba.func16, Yba.ntmps16
    go_wp2
    go_quiet (fail)
    go_wp2
    go_ret
    exact ⟨rfl, _, rfl⟩
  · have hlt2 : F ≤ L := by omega
    by_cases hg : 1048576 < G
    · have e1 : decide (L < F ∨ 1048576 < G) = true := by simp [hg]
      rw [e1]
      go_enter Yba.func16, Yba.ntmps16
      go_wp2
      go_quiet (fail)
      go_wp2
      go_ret
      exact ⟨rfl, _, rfl⟩
    · have e1 : decide (L < F ∨ 1048576 < G) = false := by simp [hg]; omega
      rw [e1]
      have hg2 : decide (1048576 < G) = false := by simp; omega
      have hl2 : decide (L < F) = false := by simp; omega
      go_enter Yba.func16, Yba.ntmps16
      go_wp2
      go_quiet (fail)
      go_wp2
      go_ret
      exact ⟨rfl, _, rfl⟩
end Go.Proofs.Ybulkedwa
