/-
  THE ZERO octetRange AND THE ONE WITH cutsNone SET, each behind a name: 834 cells that no walk writes out.
-/
import Derived.Test.YbulkbdaqSmall
namespace Go.Proofs.Ybulkbdaq
open Go.RowKit
def Z35 : Array Value := #[.int .u8 0, .int .u8 0] ++ Array.replicate 256 (.bool false) ++ Array.replicate 256 (.int .u8 0) ++ Array.replicate 256 (.int .u8 0) ++ Array.replicate 63 (.int .u8 0) ++ #[.bool false]
def O35 : Array Value := #[.int .u8 0, .int .u8 0] ++ Array.replicate 256 (.bool false) ++ Array.replicate 256 (.int .u8 0) ++ Array.replicate 256 (.int .u8 0) ++ Array.replicate 63 (.int .u8 0) ++ #[.bool true]
theorem zv35 (w : World) : (zeroValue 35).run Yba.prog w = .ok (.agg Z35) w := by kernel_rfl
theorem bd35 (w : World) : (Instr.build 35 #[(6, .bool true)]).run Yba.prog w = .ok (.agg O35) w := by kernel_rfl
theorem size35 : (Yba.prog.info? 35).map (·.size) = some 834 := by kernel_rfl
theorem Z35_size : Z35.size = 834 := by simp [Z35]
theorem O35_size : O35.size = 834 := by simp [O35]

end Go.Proofs.Ybulkbdaq
