/-
  DERIVED. GIVEN WITH THE SEED: THE CARDS: each row of YtoamgocecoiggaaDoorRows.lean that lists a variable, with what it lists TIED to the program's text (the seventh form; the later family's looks); each row that meets fmt, with fmt's text TOLD by the authors' own Lean function (tested against real Go, not proved from fmt's source: count such statements apart). THE CARD IS WHAT COUNTS. Prove the row's statement (the work); the ties are given (YtoamgocecoiggaaDoorTie.lean); close each card by the builder's one call (the guide's Derived/Test/ToyasCard.lean, 'card_holds'). Laid BY PROGRAM, IN A SANDBOX (cutbox-door.mjs). By AI agents, Wed Nov 11 2026. No macro, syntax, notation, axiom, sorry.
-/
import Derived.Test.YtoamgocecoiggaaDoorRows
import GoSem.ClaimSeven
namespace Go.Proofs.YtoamgocecoiggaaDoor
namespace Rows

/-- THE TIED CARD OF 'laws.FnDecodes'. -/
def fnDecodesCard : Claim7 := { stood := { row := fnDecodesRow, standIns := [], harness := (true, "fed96fcf776f3b50c970c72058ad889b5a201393eb40f656c42cf9ff657d9b56"), looks := true }, kinds := [], alts := [], laidByText := true, laidKinds := [.sentinel], laidTests := true, laidLooks := .later }
def FnDecodesCardSaid : Prop := Claim7.holds Tryd.pinned (.plain (OpenSpec.ofChange fnDecodesSpec)) fnDecodesCard

/-- THE TIED CARD OF 'laws.FnSteps'. -/
def fnStepsCard : Claim7 := { stood := { row := fnStepsRow, standIns := [], harness := (true, "fed96fcf776f3b50c970c72058ad889b5a201393eb40f656c42cf9ff657d9b56"), looks := true }, kinds := [], alts := [], laidByText := true, laidKinds := [.sentinel], laidTests := true, laidLooks := .later }
def FnStepsCardSaid : Prop := Claim7.holds Tryd.pinned (.plain (OpenSpec.ofChange fnStepsSpec)) fnStepsCard

/-- THE SECOND FORM's CARD OF 'laws.FnDecodes'. -/
def fnDecodesUptoCard : Claim7 := { stood := { row := fnDecodesUptoRow, standIns := [], harness := (true, "fed96fcf776f3b50c970c72058ad889b5a201393eb40f656c42cf9ff657d9b56"), looks := true }, kinds := [], alts := [], laidByText := true, laidKinds := [.sentinel], laidTests := true, laidLooks := .later }
def FnDecodesUptoCardSaid : Prop := Claim7.holds Tryd.pinned (.plain (OpenSpec.upto fnDecodesSpec)) fnDecodesUptoCard

/-- THE SECOND FORM's CARD OF 'laws.FnSteps'. -/
def fnStepsUptoCard : Claim7 := { stood := { row := fnStepsUptoRow, standIns := [], harness := (true, "fed96fcf776f3b50c970c72058ad889b5a201393eb40f656c42cf9ff657d9b56"), looks := true }, kinds := [], alts := [], laidByText := true, laidKinds := [.sentinel], laidTests := true, laidLooks := .later }
def FnStepsUptoCardSaid : Prop := Claim7.holds Tryd.pinned (.plain (OpenSpec.upto fnStepsSpec)) fnStepsUptoCard
end Rows
end Go.Proofs.YtoamgocecoiggaaDoor
