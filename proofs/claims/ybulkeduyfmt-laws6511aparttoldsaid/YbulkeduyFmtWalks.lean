import Derived.Test.YbulkeduyFmtRows
import Derived.WalkKit
import Derived.WalkSpells
import Derived.WalkLawsBesides
namespace Go.Proofs.YbulkeduyFmt
open Go.RowKit

set_option maxHeartbeats 400000 in
theorem law_out (n : Int) (w : World) (h : n < 0 ∨ 3 < n) :
    Calls Ybaf.prog 3 #[.int .i64 n] w fun e w' => e = .returned (.bool true) ∧ Below w.heap.size w w' := by
  by_cases h1 : n < 0
  · go_enter Ybaf.func3, Ybaf.ntmps3
    go_wp2
    go_ret
    exact ⟨rfl, Below.refl _ _⟩
  · have h2 : 3 < n := by omega
    clear h
    go_enter Ybaf.func3, Ybaf.ntmps3
    go_wp2
    go_ret
    exact ⟨rfl, Below.refl _ _⟩

set_option maxHeartbeats 400000 in
theorem law_in (n : Int) (w : World) (h : n = 0 ∨ n = 1 ∨ n = 2 ∨ n = 3) :
    Calls Ybaf.prog 3 #[.int .i64 n] w fun e w' => e = .returned (.bool true) ∧ Below w.heap.size w w' := by
  rcases h with rfl | rfl | rfl | rfl
  all_goals
    go_enter Ybaf.func3, Ybaf.ntmps3
    go_wp2
    go_ret
    exact ⟨rfl, (Below.refl _ _).alloc (Nat.le_refl _) _⟩

end Go.Proofs.YbulkeduyFmt
