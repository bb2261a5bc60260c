/- A part of the proof: what functions of the program answer, for all arguments that meet the conditions named in each theorem. -/
import Derived.Test.YtafogjbbnfdjmaaZ2
namespace Go.Proofs.Z1
open Go.AM
set_option linter.unusedVariables false
theorem g0 : p0.ok = true := by kernel_rfl
theorem g1 : p1.ok = true := by kernel_rfl
theorem g2 : p2.ok = true := by kernel_rfl
theorem g3 : p3.ok = true := by kernel_rfl
theorem g4 : p4.ok = true := by kernel_rfl
theorem g5 : p5.ok = true := by kernel_rfl
theorem g6 : p6.ok = true := by kernel_rfl
theorem g7 : p7.ok = true := by kernel_rfl
theorem g8 : p8.ok = true := by kernel_rfl
theorem g9 : p9.ok = true := by kernel_rfl
theorem g10 : p10.ok = true := by kernel_rfl
theorem g11 : p11.ok = true := by kernel_rfl
theorem g12 : p12.ok = true := by kernel_rfl
theorem g13 : p13.ok = true := by kernel_rfl
end Go.Proofs.Z1
