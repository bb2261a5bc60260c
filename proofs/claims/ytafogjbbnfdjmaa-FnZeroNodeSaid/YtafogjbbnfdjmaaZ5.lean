/- A part of the proof: what functions of the program answer, for all arguments that meet the conditions named in each theorem. -/
import Derived.Test.YtafogjbbnfdjmaaZ2
namespace Go.Proofs.Z1
open Go.AM
set_option linter.unusedVariables false
theorem g15 : p15.ok = true := by kernel_rfl
theorem g18 : p18.ok = true := by kernel_rfl
theorem g21 : p21.ok = true := by kernel_rfl
theorem g24 : p24.ok = true := by kernel_rfl
theorem g27 : p27.ok = true := by kernel_rfl
end Go.Proofs.Z1
