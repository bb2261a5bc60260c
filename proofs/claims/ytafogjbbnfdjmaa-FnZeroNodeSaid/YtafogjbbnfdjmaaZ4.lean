/- A part of the proof: what functions of the program answer, for all arguments that meet the conditions named in each theorem. -/
import Derived.Test.YtafogjbbnfdjmaaZ2
namespace Go.Proofs.Z1
open Go.AM
set_option linter.unusedVariables false
theorem g14 : p14.ok = true := by kernel_rfl
theorem g17 : p17.ok = true := by kernel_rfl
theorem g20 : p20.ok = true := by kernel_rfl
theorem g23 : p23.ok = true := by kernel_rfl
theorem g26 : p26.ok = true := by kernel_rfl
end Go.Proofs.Z1
