/-
  THE TYPE TABLE's ROWS of this program. Own work.
-/
import Derived.Test.Qxb6000043aProg
import Derived.Test.Qxb6000043aMem
namespace Go.Proofs.Qxb6000043a
open Go.Fw
theorem slz22 : slz Try.prog 22 = some (35, 1, 24, .slice none 0 0) := by kernel_rfl
theorem slz35 : slz Try.prog 35 = some (21, 1, 4, .int .i32 0) := by kernel_rfl
theorem slz39 : slz Try.prog 39 = some (3, 1, 8, .int .i64 0) := by kernel_rfl
theorem slz41 : slz Try.prog 41 = some (4, 1, 1, .bool false) := by kernel_rfl
theorem slz55 : slz Try.prog 55 = some (57, 1, 24, .slice none 0 0) := by kernel_rfl
theorem slz57 : slz Try.prog 57 = some (54, 1, 4, .int .i32 0) := by kernel_rfl
theorem slz58 : slz Try.prog 58 = some (66, 2, 16, .agg #[.int .i32 0, .int .i64 0]) := by kernel_rfl
end Go.Proofs.Qxb6000043a
