/- A part of the proof: what functions of the program answer, for all arguments that meet the conditions named in each theorem. -/
import Derived.Test.YtafogjbbnfdjmaaA6
namespace Go.Proofs.A1
set_option linter.unusedVariables false
open Go.RowKit Go.AM Go.Proofs.C1
theorem t0 : chkT 0 16 = true := by kernel_rfl
theorem t16 : chkT 16 16 = true := by kernel_rfl
theorem t32 : chkT 32 16 = true := by kernel_rfl
theorem t48 : chkT 48 16 = true := by kernel_rfl
theorem tF : chkG Try.prog prim10 52 c11 [(5, .bool false)] [(5, 5), (26, 36)] [(5, .bool false)] = true := by kernel_rfl
end Go.Proofs.A1
