/- A part of the proof: what functions of the program answer, for all arguments that meet the conditions named in each theorem. -/
import Derived.Test.YtafogjbbnfdjmaaZ2
namespace Go.Proofs.Z1
open Go.AM
set_option linter.unusedVariables false
theorem g16 : p16.ok = true := by kernel_rfl
theorem g19 : p19.ok = true := by kernel_rfl
theorem g22 : p22.ok = true := by kernel_rfl
theorem g25 : p25.ok = true := by kernel_rfl
end Go.Proofs.Z1
