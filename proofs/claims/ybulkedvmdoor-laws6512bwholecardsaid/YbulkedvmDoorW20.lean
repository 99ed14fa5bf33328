import Derived.Test.YbulkedvmDoorW19
import Derived.Stop.BytesEq
namespace Go.Proofs.YbulkedvmDoor
open Go Go.RowKit Go.Lib Go.Maps Go.Sort
set_option maxRecDepth 100000

theorem key_cell (a : Key) : a.cells = a.1.map Extern.Stop.cell := rfl

/-- '==' on two arrays of sixteen bytes. -/
theorem eq28 (a b : Key) (w : World) : (binOp .eql 28 (.agg a.cells.toArray) (.agg b.cells.toArray)).run Ybad.prog w = .ok (.bool (decide (a = b))) w := by
  rw [key_cell, key_cell, run_eql_bytes (P := Ybad.prog) w 28 5 16 Ybad.underlying28 Ybad.underlying5 Ybad.sizeOf5 a.1 b.1 a.2 b.2]
  congr 2
  by_cases h : a = b
  · subst h; simp
  · have : a.1 ≠ b.1 := fun e => h (Subtype.ext e)
    simp [h, this]

theorem size28 (k : Key) : (Ybad.prog.info? 28).map (·.size) = some k.cells.length := by
  rw [k.cells_length]; kernel_rfl
theorem size31 (p : KN) : (Ybad.prog.info? 31).map (·.size) = some (pairCells p).length := by
  rw [pairCells_length]; kernel_rfl
theorem Ybad.info28 : (Ybad.prog.info? 28).map (fun i => (i.zero, i.size, i.bytes)) = some (some (.agg (Array.replicate 16 (.int .u8 0))), 16, 16) := by kernel_rfl
theorem Ybad.info29 : (Ybad.prog.info? 29).map (fun i => (i.zero, i.size, i.bytes)) = some (some (.int .u64 0), 1, 8) := by kernel_rfl
end Go.Proofs.YbulkedvmDoor
