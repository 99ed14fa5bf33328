import Derived.Test.YbulkedvmDoorW10
import Derived.Test.YbulkedvmDoorShelfG
namespace Go.Proofs.YbulkedvmDoor
open Go Go.RowKit Go.Lib Go.Maps Go.Sort
set_option maxRecDepth 100000

/-- The table's name, off the given row's own list. -/
abbrev powName : String := Rows.lawS6512BWholeRow.named.getD 1 ""

theorem appendUint_any (B n u : Nat) (hu64 : u < 18446744073709551616) (sv : Value) (xs : List Value) (w : World) (hown : w.ownsRow B 5 1 sv n xs) (hBw : B ≤ w.heap.size) (hlim : n + 20 ≤ 140737488355328)
    (htab : Lib.TabIs Ybad.prog w powName .u64 Lib.pow10Tab) :
    Calls Ybad.prog 15 #[sv, .int .u64 u, .int .i64 10] w fun e w' => ∃ v', e = .returned v' ∧ w'.ownsRow B 5 1 v' (n + (Lib.decDigits u).length) (xs ++ Lib.byteCells (Lib.decDigits u)) ∧ Kp B w w' := by
  have hc := Any.internal_strconv_AppendUint_10 Ybad.laysM288 B n u hu64 sv xs w hown hBw hlim htab
  change Calls Ybad.prog 21 _ _ _ at hc
  clear htab
  go_enter Ybad.func15, Ybad.ntmps15
  go_wp2_with (go_at_call 21; refine hc.mono ?_; rintro e w' ⟨v', rfl, h1, h2, h3⟩)
  go_ret
  exact ⟨v', rfl, h1, h2, h3⟩
end Go.Proofs.YbulkedvmDoor
