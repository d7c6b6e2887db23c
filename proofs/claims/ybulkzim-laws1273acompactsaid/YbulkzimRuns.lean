import Derived.Test.YbulkzimProg
import Derived.WalkKit
import Derived.Maps.AppendAt
import Derived.WalkLawsBesides
import Derived.WalkSpells
import Derived.KernelRfl
namespace Go.Proofs.Ybulkzim
open Go.RowKit

theorem Yba.info3 : (Yba.prog.info? 3).map (fun i => (i.zero, i.size, i.bytes)) = some (some (.int .i64 0), 1, 8) := by kernel_rfl

/-- The zero chunk's cells; the zero queue's. -/
def zev : List Value := [.int .i64 0, .int .i64 0, .int .u64 0, .int .i64 0]
def zcells : List Value := (List.replicate 64 zev).flatten ++ List.replicate 64 .nilFunc
def zqcells : List Value := [.int .i64 0, .bool false, .slice none 0 0] ++ List.replicate 189 (.int .i64 0) ++ [.int .u64 0, .slice none 0 0, .slice none 0 0, .int .i64 0, .int .i64 0]

theorem Yba.info70 : (Yba.prog.info? 70).map (fun i => (i.zero, i.size, i.bytes)) = some (some (.agg zcells.toArray), 320, 2560) := by kernel_rfl

theorem run_zero70 (w : World) : (zeroValue 70).run Yba.prog w = .ok (.agg zcells.toArray) w := by kernel_rfl
theorem run_zero34 (w : World) : (zeroValue 34).run Yba.prog w = .ok (.agg zqcells.toArray) w := by kernel_rfl
theorem run_build70 (w : World) : (Instr.build 70 #[]).run Yba.prog w = .ok (.agg zcells.toArray) w := by kernel_rfl
theorem run_bs31 (w : World) : (Instr.buildSlice 31 1 #[(0, .agg zcells.toArray)]).run Yba.prog w = .ok (.slice (some ⟨w.heap.size, 0, none⟩) 1 1) (w.alloc (.cells zcells.toArray 70)) := by kernel_rfl
theorem run_build34 (w : World) : (Instr.build 34 #[]).run Yba.prog w = .ok (.agg zqcells.toArray) w := by kernel_rfl
theorem run_box34 (w : World) : (Instr.box 34 (.agg zqcells.toArray)).run Yba.prog w = .ok (.pointer (some ⟨w.heap.size, 0, none⟩)) (w.alloc (.cells zqcells.toArray 34)) := by kernel_rfl
theorem run_make31 (w : World) : (Instr.makeSlice 31 (.int .i64 1) (.int .i64 1)).run Yba.prog w = .ok (.slice (some ⟨w.heap.size, 0, none⟩) 1 1) (w.alloc (.cells zcells.toArray 70)) := by kernel_rfl
theorem run_make32 (w : World) : (Instr.makeSlice 32 (.int .i64 1) (.int .i64 1)).run Yba.prog w = .ok (.slice (some ⟨w.heap.size, 0, none⟩) 1 1) (w.alloc (.cells #[.int .i64 0] 3)) := by kernel_rfl

end Go.Proofs.Ybulkzim
