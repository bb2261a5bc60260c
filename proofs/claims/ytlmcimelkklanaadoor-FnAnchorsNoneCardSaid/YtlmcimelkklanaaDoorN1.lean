/- A part of the proof: what functions of the program answer, for all arguments that meet the conditions named in each theorem. -/
import Derived.Test.YtlmcimelkklanaaDoorProg
import Derived.Test.YtlmcimelkklanaaDoorAMv
namespace Go.Proofs.N1
open Go.AM Go.RowKit
set_option linter.unusedVariables false
noncomputable section
def okN (f : Nat) : Bool := Nat.ble 3 f && Nat.ble f 34 || Nat.beq f 54
def puN (f : Nat) : Bool := Nat.beq f 18 || Nat.beq f 19 || Nat.beq f 21 || Nat.beq f 29 || Nat.beq f 24 || Nat.beq f 26 || Nat.beq f 33 || Nat.beq f 34
set_option maxRecDepth 100000 in
theorem fnsN : FnsOk Tryd.prog puN okN := fnsOk_of (by kernel_rfl)
theorem noNum : NoNum Tryd.prog := noNum_of (by kernel_rfl)
theorem follows : Tryd.prog.follows .mixedOrders = true := by kernel_rfl
def G0 (g : Nat) : Option Nat := if Nat.beq g 0 then some 0 else none
def blk (cells : List Value) (e : TypeId) : Blk := { cells := cells, elem := e, ro := true, live := true }
def eof : ByteArray := ⟨#[69, 79, 70]⟩
def call : ACall := acall Tryd.prog G0 puN okN noprim 100000 60
end
end Go.Proofs.N1
