/-
  NARROWER THAN 'FOR EVERY INPUT', by the rows' own cells (each row's printed sentence says how): FnZeroNode: loops.
  DERIVED. THE GIVEN ROWS OF THIS SEAT. 8 by the template 'for every input the law returns true; each argument reads behind the call as it read before'; 0 by the template 'total and deterministic' (their statements: YtippbmfgpkcmlaaRTotals.lean).
  GIVEN WITH THE SEED: the statements are not yours to turn. If you find one false, say at which input.
  Laid BY PROGRAM, IN A SANDBOX (cutbox-rows.mjs): the forced cells as the released guide's own fill.sh prints them over the translation b0974ea42b8b4417… (all of the seat's roots in one cut). By AI agents, Wed Nov 11 2026. No macro, syntax, notation, axiom, sorry.
-/
import Derived.Test.YtippbmfgpkcmlaaRChecked
import GoSem.Claim
import GoSem.ClaimJoined
import GoSem.ClaimMapViews
import Derived.JoinedTies
import Derived.KernelRfl
namespace Go.Proofs.YtippbmfgpkcmlaaR
/- THE CELL 'sum', in the pinned program and in every row, IS THE sha256 OF THE DUMP (.gsa) THAT YtippbmfgpkcmlaaRProg.lean LOADS. Nothing in Lean hashes anything: it is a label: what it is worth is what the hold of that sum in a sandbox is worth. -/
noncomputable def Try.pinned : Pinned := { name := "ytippbmfgpkcmlaar", sum := "b0974ea42b8b4417de08065270f4c0c3d401410ab052aebd828e31d1a4d711be", checked := Try.checked }
namespace Rows
def none {H : Type} : Left H := { results := [], args := [] }

/-- 'laws.FnOldBool': WHATEVER THE INPUT: true; the input reads as it did. -/
def fnOldBoolSpec : ChangeSpec := { name := "fnOldBool", fn := fun _ => fun
  | [d] => { results := [.lit (.bool true)], args := [d] }
  | _ => none }
def fnOldBoolRow : OpenClaim := { program := "ytippbmfgpkcmlaar", sum := "b0974ea42b8b4417de08065270f4c0c3d401410ab052aebd828e31d1a4d711be", func := "given.example/pub-quincunx/laws.FnOldBool", spec := "fnOldBool", apart := false }
def FnOldBoolSaid : Prop := fnOldBoolRow.holds Try.pinned (OpenSpec.ofChange fnOldBoolSpec)

/-- ITS FALSE NEIGHBOUR: 'it returns false'. Refute it at one input. -/
def fnOldBoolWrong : ChangeSpec := { name := "fnOldBool", fn := fun _ => fun
  | [d] => { results := [.lit (.bool false)], args := [d] }
  | _ => none }
def FnOldBoolWrongFalsely : Prop := fnOldBoolRow.holds Try.pinned (OpenSpec.ofChange fnOldBoolWrong)

/-- 'laws.FnWidths': WHATEVER THE INPUT: true; the input reads as it did. -/
def fnWidthsSpec : ChangeSpec := { name := "fnWidths", fn := fun _ => fun
  | [d] => { results := [.lit (.bool true)], args := [d] }
  | _ => none }
def fnWidthsRow : OpenClaim := { program := "ytippbmfgpkcmlaar", sum := "b0974ea42b8b4417de08065270f4c0c3d401410ab052aebd828e31d1a4d711be", func := "given.example/pub-quincunx/laws.FnWidths", spec := "fnWidths", apart := false }
def FnWidthsSaid : Prop := fnWidthsRow.holds Try.pinned (OpenSpec.ofChange fnWidthsSpec)

/-- ITS FALSE NEIGHBOUR: 'it returns false'. Refute it at one input. -/
def fnWidthsWrong : ChangeSpec := { name := "fnWidths", fn := fun _ => fun
  | [d] => { results := [.lit (.bool false)], args := [d] }
  | _ => none }
def FnWidthsWrongFalsely : Prop := fnWidthsRow.holds Try.pinned (OpenSpec.ofChange fnWidthsWrong)

/-- 'laws.FnTagShort': WHATEVER THE INPUT: true; the input reads as it did. -/
def fnTagShortSpec : ChangeSpec := { name := "fnTagShort", fn := fun _ => fun
  | [d] => { results := [.lit (.bool true)], args := [d] }
  | _ => none }
def fnTagShortRow : OpenClaim := { program := "ytippbmfgpkcmlaar", sum := "b0974ea42b8b4417de08065270f4c0c3d401410ab052aebd828e31d1a4d711be", func := "given.example/pub-quincunx/laws.FnTagShort", spec := "fnTagShort", apart := false }
def FnTagShortSaid : Prop := fnTagShortRow.holds Try.pinned (OpenSpec.ofChange fnTagShortSpec)

/-- ITS FALSE NEIGHBOUR: 'it returns false'. Refute it at one input. -/
def fnTagShortWrong : ChangeSpec := { name := "fnTagShort", fn := fun _ => fun
  | [d] => { results := [.lit (.bool false)], args := [d] }
  | _ => none }
def FnTagShortWrongFalsely : Prop := fnTagShortRow.holds Try.pinned (OpenSpec.ofChange fnTagShortWrong)

/-- 'laws.FnFloatForm': WHATEVER THE INPUT: true; the input reads as it did. -/
def fnFloatFormSpec : ChangeSpec := { name := "fnFloatForm", fn := fun _ => fun
  | [d] => { results := [.lit (.bool true)], args := [d] }
  | _ => none }
def fnFloatFormRow : OpenClaim := { program := "ytippbmfgpkcmlaar", sum := "b0974ea42b8b4417de08065270f4c0c3d401410ab052aebd828e31d1a4d711be", func := "given.example/pub-quincunx/laws.FnFloatForm", spec := "fnFloatForm", apart := false }
def FnFloatFormSaid : Prop := fnFloatFormRow.holds Try.pinned (OpenSpec.ofChange fnFloatFormSpec)

/-- ITS FALSE NEIGHBOUR: 'it returns false'. Refute it at one input. -/
def fnFloatFormWrong : ChangeSpec := { name := "fnFloatForm", fn := fun _ => fun
  | [d] => { results := [.lit (.bool false)], args := [d] }
  | _ => none }
def FnFloatFormWrongFalsely : Prop := fnFloatFormRow.holds Try.pinned (OpenSpec.ofChange fnFloatFormWrong)

/-- 'laws.FnTagRoad': WHATEVER THE INPUT: true; the input reads as it did. -/
def fnTagRoadSpec : ChangeSpec := { name := "fnTagRoad", fn := fun _ => fun
  | [d] => { results := [.lit (.bool true)], args := [d] }
  | _ => none }
def fnTagRoadRow : OpenClaim := { program := "ytippbmfgpkcmlaar", sum := "b0974ea42b8b4417de08065270f4c0c3d401410ab052aebd828e31d1a4d711be", func := "given.example/pub-quincunx/laws.FnTagRoad", spec := "fnTagRoad", apart := false }
def FnTagRoadSaid : Prop := fnTagRoadRow.holds Try.pinned (OpenSpec.ofChange fnTagRoadSpec)

/-- ITS FALSE NEIGHBOUR: 'it returns false'. Refute it at one input. -/
def fnTagRoadWrong : ChangeSpec := { name := "fnTagRoad", fn := fun _ => fun
  | [d] => { results := [.lit (.bool false)], args := [d] }
  | _ => none }
def FnTagRoadWrongFalsely : Prop := fnTagRoadRow.holds Try.pinned (OpenSpec.ofChange fnTagRoadWrong)

/-- 'laws.FnZeroNode': WHATEVER THE INPUT: true; the input reads as it did. -/
def fnZeroNodeSpec : ChangeSpec := { name := "fnZeroNode", fn := fun _ => fun
  | [d1, d2] => { results := [.lit (.bool true)], args := [d1, d2] }
  | _ => none }
def fnZeroNodeRow : OpenClaim := { program := "ytippbmfgpkcmlaar", sum := "b0974ea42b8b4417de08065270f4c0c3d401410ab052aebd828e31d1a4d711be", func := "given.example/pub-quincunx/laws.FnZeroNode", spec := "fnZeroNode", recurses := true, loops := true, apart := false }
def FnZeroNodeSaid : Prop := fnZeroNodeRow.holds Try.pinned (OpenSpec.ofChange fnZeroNodeSpec)

/-- ITS FALSE NEIGHBOUR: 'it returns false'. Refute it at one input. -/
def fnZeroNodeWrong : ChangeSpec := { name := "fnZeroNode", fn := fun _ => fun
  | [d1, d2] => { results := [.lit (.bool false)], args := [d1, d2] }
  | _ => none }
def FnZeroNodeWrongFalsely : Prop := fnZeroNodeRow.holds Try.pinned (OpenSpec.ofChange fnZeroNodeWrong)

/-- 'laws.FnClasses': WHATEVER THE INPUT: true; the input reads as it did. -/
def fnClassesSpec : ChangeSpec := { name := "fnClasses", fn := fun _ => fun
  | [d1, d2, d3] => { results := [.lit (.bool true)], args := [d1, d2, d3] }
  | _ => none }
def fnClassesRow : OpenClaim := { program := "ytippbmfgpkcmlaar", sum := "b0974ea42b8b4417de08065270f4c0c3d401410ab052aebd828e31d1a4d711be", func := "given.example/pub-quincunx/laws.FnClasses", spec := "fnClasses", apart := false }
def FnClassesSaid : Prop := fnClassesRow.holds Try.pinned (OpenSpec.ofChange fnClassesSpec)

/-- ITS FALSE NEIGHBOUR: 'it returns false'. Refute it at one input. -/
def fnClassesWrong : ChangeSpec := { name := "fnClasses", fn := fun _ => fun
  | [d1, d2, d3] => { results := [.lit (.bool false)], args := [d1, d2, d3] }
  | _ => none }
def FnClassesWrongFalsely : Prop := fnClassesRow.holds Try.pinned (OpenSpec.ofChange fnClassesWrong)

/-- 'laws.FnAnchorsAnalyzed': WHATEVER THE INPUT: true; the input reads as it did. -/
def fnAnchorsAnalyzedSpec : ChangeSpec := { name := "fnAnchorsAnalyzed", fn := fun _ => fun
  | [d1, d2] => { results := [.lit (.bool true)], args := [d1, d2] }
  | _ => none }
def fnAnchorsAnalyzedRow : OpenClaim := { program := "ytippbmfgpkcmlaar", sum := "b0974ea42b8b4417de08065270f4c0c3d401410ab052aebd828e31d1a4d711be", func := "given.example/pub-quincunx/laws.FnAnchorsAnalyzed", spec := "fnAnchorsAnalyzed", apart := false }
def FnAnchorsAnalyzedSaid : Prop := fnAnchorsAnalyzedRow.holds Try.pinned (OpenSpec.ofChange fnAnchorsAnalyzedSpec)

/-- ITS FALSE NEIGHBOUR: 'it returns false'. Refute it at one input. -/
def fnAnchorsAnalyzedWrong : ChangeSpec := { name := "fnAnchorsAnalyzed", fn := fun _ => fun
  | [d1, d2] => { results := [.lit (.bool false)], args := [d1, d2] }
  | _ => none }
def FnAnchorsAnalyzedWrongFalsely : Prop := fnAnchorsAnalyzedRow.holds Try.pinned (OpenSpec.ofChange fnAnchorsAnalyzedWrong)

/- THE SECOND FORM. 'bulk': how many values and letters a reading holds, each counted each time it is reached (what is shared counts as often as it is met; a slice's spare places count too). A statement '..UptoSaid' is the law's where the arguments, and the package variables that the reading takes, are together of bulk at most 1048576: NARROWER than '..Said'. Prove '..Said' where nothing that the law and all that it calls make is longer than what came in: it says more and counts as full. Else prove '..UptoSaid'. A law counts once. -/
mutual
def uptoBulk {H : Type} : DataW H → Nat
  | .lit (.string bytes) => bytes.length + 1
  | .lit _ => 1
  | .nil => 1
  | .ptr d => uptoBulk d + 1
  | .slice elems spare => uptoBulkAll elems + uptoBulkAll spare + 1
  | .agg parts => uptoBulkAll parts + 1
  | .iface _ d => uptoBulk d + 1
  | .map entries => uptoBulkEntries entries + 1
  | .held _ => 1
def uptoBulkAll {H : Type} : List (DataW H) → Nat
  | [] => 0
  | d :: r => uptoBulk d + uptoBulkAll r
def uptoBulkEntries {H : Type} : List (Lit × DataW H) → Nat
  | [] => 0
  | x :: r => uptoBulkEntry x + uptoBulkEntries r
def uptoBulkEntry {H : Type} : Lit × DataW H → Nat
  | (.string bytes, d) => bytes.length + uptoBulk d + 1
  | (_, d) => uptoBulk d + 1
 end
def uptoSmall : (H : Type) → List (DataW H) → Bool := fun _ ds => decide (uptoBulkAll ds ≤ 1048576)
def OpenSpec.upto (s : _root_.Go.ChangeSpec) : _root_.Go.OpenSpec := { _root_.Go.OpenSpec.ofChange s with cond := some uptoSmall }

/-- 'laws.FnOldBool', WHERE WHAT IT READS IS OF BULK AT MOST 1048576: true; the input reads as it did. -/
def fnOldBoolUptoRow : OpenClaim := { program := "ytippbmfgpkcmlaar", sum := "b0974ea42b8b4417de08065270f4c0c3d401410ab052aebd828e31d1a4d711be", func := "given.example/pub-quincunx/laws.FnOldBool", spec := "fnOldBool", apart := false, narrowed := true }
def FnOldBoolUptoSaid : Prop := fnOldBoolUptoRow.holds Try.pinned (OpenSpec.upto fnOldBoolSpec)

/-- 'laws.FnWidths', WHERE WHAT IT READS IS OF BULK AT MOST 1048576: true; the input reads as it did. -/
def fnWidthsUptoRow : OpenClaim := { program := "ytippbmfgpkcmlaar", sum := "b0974ea42b8b4417de08065270f4c0c3d401410ab052aebd828e31d1a4d711be", func := "given.example/pub-quincunx/laws.FnWidths", spec := "fnWidths", apart := false, narrowed := true }
def FnWidthsUptoSaid : Prop := fnWidthsUptoRow.holds Try.pinned (OpenSpec.upto fnWidthsSpec)

/-- 'laws.FnTagShort', WHERE WHAT IT READS IS OF BULK AT MOST 1048576: true; the input reads as it did. -/
def fnTagShortUptoRow : OpenClaim := { program := "ytippbmfgpkcmlaar", sum := "b0974ea42b8b4417de08065270f4c0c3d401410ab052aebd828e31d1a4d711be", func := "given.example/pub-quincunx/laws.FnTagShort", spec := "fnTagShort", apart := false, narrowed := true }
def FnTagShortUptoSaid : Prop := fnTagShortUptoRow.holds Try.pinned (OpenSpec.upto fnTagShortSpec)

/-- 'laws.FnFloatForm', WHERE WHAT IT READS IS OF BULK AT MOST 1048576: true; the input reads as it did. -/
def fnFloatFormUptoRow : OpenClaim := { program := "ytippbmfgpkcmlaar", sum := "b0974ea42b8b4417de08065270f4c0c3d401410ab052aebd828e31d1a4d711be", func := "given.example/pub-quincunx/laws.FnFloatForm", spec := "fnFloatForm", apart := false, narrowed := true }
def FnFloatFormUptoSaid : Prop := fnFloatFormUptoRow.holds Try.pinned (OpenSpec.upto fnFloatFormSpec)

/-- 'laws.FnTagRoad', WHERE WHAT IT READS IS OF BULK AT MOST 1048576: true; the input reads as it did. -/
def fnTagRoadUptoRow : OpenClaim := { program := "ytippbmfgpkcmlaar", sum := "b0974ea42b8b4417de08065270f4c0c3d401410ab052aebd828e31d1a4d711be", func := "given.example/pub-quincunx/laws.FnTagRoad", spec := "fnTagRoad", apart := false, narrowed := true }
def FnTagRoadUptoSaid : Prop := fnTagRoadUptoRow.holds Try.pinned (OpenSpec.upto fnTagRoadSpec)

/-- 'laws.FnZeroNode', WHERE WHAT IT READS IS OF BULK AT MOST 1048576: true; the input reads as it did. -/
def fnZeroNodeUptoRow : OpenClaim := { program := "ytippbmfgpkcmlaar", sum := "b0974ea42b8b4417de08065270f4c0c3d401410ab052aebd828e31d1a4d711be", func := "given.example/pub-quincunx/laws.FnZeroNode", spec := "fnZeroNode", recurses := true, loops := true, apart := false, narrowed := true }
def FnZeroNodeUptoSaid : Prop := fnZeroNodeUptoRow.holds Try.pinned (OpenSpec.upto fnZeroNodeSpec)

/-- 'laws.FnClasses', WHERE WHAT IT READS IS OF BULK AT MOST 1048576: true; the input reads as it did. -/
def fnClassesUptoRow : OpenClaim := { program := "ytippbmfgpkcmlaar", sum := "b0974ea42b8b4417de08065270f4c0c3d401410ab052aebd828e31d1a4d711be", func := "given.example/pub-quincunx/laws.FnClasses", spec := "fnClasses", apart := false, narrowed := true }
def FnClassesUptoSaid : Prop := fnClassesUptoRow.holds Try.pinned (OpenSpec.upto fnClassesSpec)

/-- 'laws.FnAnchorsAnalyzed', WHERE WHAT IT READS IS OF BULK AT MOST 1048576: true; the input reads as it did. -/
def fnAnchorsAnalyzedUptoRow : OpenClaim := { program := "ytippbmfgpkcmlaar", sum := "b0974ea42b8b4417de08065270f4c0c3d401410ab052aebd828e31d1a4d711be", func := "given.example/pub-quincunx/laws.FnAnchorsAnalyzed", spec := "fnAnchorsAnalyzed", apart := false, narrowed := true }
def FnAnchorsAnalyzedUptoSaid : Prop := fnAnchorsAnalyzedUptoRow.holds Try.pinned (OpenSpec.upto fnAnchorsAnalyzedSpec)

end Rows
end Go.Proofs.YtippbmfgpkcmlaaR
