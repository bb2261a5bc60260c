/-
  DERIVED. GIVEN WITH THE SEED: THE CARDS: each row of YtlmcimelkklanaaDoorRows.lean that lists a variable, with what it lists TIED to the program's text (the seventh form; the later family's looks); each row that meets fmt, with fmt's text TOLD by the authors' own Lean function (tested against real Go, not proved from fmt's source: count such statements apart). THE CARD IS WHAT COUNTS. Prove the row's statement (the work); the ties are given (YtlmcimelkklanaaDoorTie.lean); close each card by the builder's one call (the guide's Derived/Test/ToyasCard.lean, 'card_holds'). Laid BY PROGRAM, IN A SANDBOX (cutbox-door.mjs). By AI agents, Wed Nov 11 2026. No macro, syntax, notation, axiom, sorry.
-/
import Derived.Test.YtlmcimelkklanaaDoorRows
import GoSem.ClaimSeven
namespace Go.Proofs.YtlmcimelkklanaaDoor
namespace Rows

/-- THE TIED CARD OF 'laws.FnAnchorsNone'. -/
def fnAnchorsNoneCard : Claim7 := { stood := { row := fnAnchorsNoneRow, standIns := [], harness := (true, "cc677d5b36c9ca8702d3f681413c81657b03092f9a35733fc6c18dcb71c4f70d"), looks := true }, kinds := [], alts := [], laidByText := true, laidKinds := [.sentinel], laidTests := true, laidLooks := .later }
def FnAnchorsNoneCardSaid : Prop := Claim7.holds Tryd.pinned (.plain (OpenSpec.ofChange fnAnchorsNoneSpec)) fnAnchorsNoneCard

/-- THE SECOND FORM's CARD OF 'laws.FnAnchorsNone'. -/
def fnAnchorsNoneUptoCard : Claim7 := { stood := { row := fnAnchorsNoneUptoRow, standIns := [], harness := (true, "cc677d5b36c9ca8702d3f681413c81657b03092f9a35733fc6c18dcb71c4f70d"), looks := true }, kinds := [], alts := [], laidByText := true, laidKinds := [.sentinel], laidTests := true, laidLooks := .later }
def FnAnchorsNoneUptoCardSaid : Prop := Claim7.holds Tryd.pinned (.plain (OpenSpec.upto fnAnchorsNoneSpec)) fnAnchorsNoneUptoCard
end Rows
end Go.Proofs.YtlmcimelkklanaaDoor
