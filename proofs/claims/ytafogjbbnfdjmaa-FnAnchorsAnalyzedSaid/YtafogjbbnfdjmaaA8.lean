/- A part of the proof: what functions of the program answer, for all arguments that meet the conditions named in each theorem. -/
import Derived.Test.YtafogjbbnfdjmaaA6
namespace Go.Proofs.A1
set_option linter.unusedVariables false
open Go.RowKit Go.AM Go.Proofs.C1
theorem t64 : chkT 64 16 = true := by kernel_rfl
theorem t80 : chkT 80 16 = true := by kernel_rfl
theorem t96 : chkT 96 16 = true := by kernel_rfl
theorem t112 : chkT 112 16 = true := by kernel_rfl
end Go.Proofs.A1
