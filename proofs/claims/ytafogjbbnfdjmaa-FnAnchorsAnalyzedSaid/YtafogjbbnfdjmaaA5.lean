/- A part of the proof: what functions of the program answer, for all arguments that meet the conditions named in each theorem. -/
import Derived.Test.YtafogjbbnfdjmaaA4
import Derived.Test.YtafogjbbnfdjmaaAMt
namespace Go.Proofs.A1
open Go.RowKit Go.AM Go.Proofs.C1
set_option linter.unusedVariables false
/-- A region of a code, by its number. -/
noncomputable def findR (k : Nat) : Code → Option (Array Oper)
  | .region id ops _ => if Nat.beq id k then some ops else none
  | .seq x y => match findR k x with | some c => some c | none => findR k y
  | .cond _ x y => match findR k x with | some c => some c | none => findR k y
  | .block _ c => findR k c
  | .loop c => findR k c
  | .scope c => findR k c
  | _ => none
noncomputable def c11 : Array Oper := (Try.f5.body.bind (findR 11)).getD #[]
def alnumB (b : Nat) : Bool := (Nat.ble 48 b && Nat.ble b 57) || (Nat.ble 65 b && Nat.ble b 90) || (Nat.ble 97 b && Nat.ble b 122) || Nat.beq b 95 || Nat.beq b 45
def str2 (b : Nat) : ByteArray := ⟨#[95, UInt8.ofNat b]⟩
/-- What ndName makes of _ and a byte. -/
def name2 (b : Nat) : ByteArray := if alnumB b then str2 b else ⟨#[95]⟩
def strEq (s t : ByteArray) : Bool := s.data.toList.map (·.toNat) == t.data.toList.map (·.toNat)
noncomputable def chkN (lo n : Nat) : Bool := (List.range n).all fun i => match acall Try.prog (fun _ => none) (fun _ => false) (fun f => Nat.beq f 10) noprim 1000 5 10 [.string (str2 (lo + i))] emptyH with
  | some (.string r, _) => strEq r (name2 (lo + i))
  | _ => false
set_option maxRecDepth 100000 in
theorem fns10 : FnsOk Try.prog (fun _ => false) (fun f => Nat.beq f 10) := fnsOk_of (by kernel_rfl)
theorem n0 : chkN 0 64 = true := by kernel_rfl
theorem n1 : chkN 64 64 = true := by kernel_rfl
end Go.Proofs.A1
