/- A part of the proof: what functions of the program answer, for all arguments that meet the conditions named in each theorem. -/
import Derived.Test.YtlmcimelkklanaaDoorNr
import Derived.Test.YtlmcimelkklanaaDoorNe1
import Derived.Test.YtlmcimelkklanaaDoorNe2
import Derived.Test.YtlmcimelkklanaaDoorNe3
import Derived.Test.YtlmcimelkklanaaDoorNe4
import Derived.Test.YtlmcimelkklanaaDoorNe5
import Derived.Test.YtlmcimelkklanaaDoorNe6
namespace Go.Proofs.N1
open Go.AM Go.RowKit
set_option linter.unusedVariables false
theorem law (w : World) (al : Bool) (n : Int) (h0 : 0 ≤ n) (h1 : n ≤ 255) (he : EofOk w) : Calls Tryd.prog 3 #[.bool al, .int .u8 n] w fun e w' => e = .returned (.bool true) ∧ Below w.heap.size w w' := by
  obtain ⟨q, k, hk⟩ : ∃ q k : Int, n = 9 * q + k ∧ 0 ≤ k ∧ k < 9 := ⟨n / 9, n % 9, by omega, by omega, by omega⟩
  obtain ⟨rfl, hk0, hk1⟩ := hk
  rcases (show k = 0 ∨ k = 1 ∨ k = 2 ∨ k = 3 ∨ k = 4 ∨ k = 5 ∨ k = 6 ∨ k = 7 ∨ k = 8 by omega) with rfl | rfl | rfl | rfl | rfl | rfl | rfl | rfl | rfl <;> cases al
  · exact law_false0 w q h0 h1 he
  · exact law_true0 w q h0 h1 he
  · exact law_false1 w q h0 h1 he
  · exact law_true1 w q h0 h1 he
  · exact law_false2 w q h0 h1 he
  · exact law_true2 w q h0 h1 he
  · exact law_false3 w q h0 h1 he
  · exact law_true3 w q h0 h1 he
  · exact law_false4 w q h0 h1 he
  · exact law_true4 w q h0 h1 he
  · exact law_false5 w q h0 h1 he
  · exact law_true5 w q h0 h1 he
  · exact law_false6 w q h0 h1 he
  · exact law_true6 w q h0 h1 he
  · exact law_false7 w q h0 h1 he
  · exact law_true7 w q h0 h1 he
  · exact law_false8 w q h0 h1 he
  · exact law_true8 w q h0 h1 he
end Go.Proofs.N1
namespace Go.Proofs.YtlmcimelkklanaaDoor
theorem fnAnchorsNone_holds : Rows.FnAnchorsNoneCardSaid := fnAnchorsNoneRow.card (fnAnchorsNoneRow.over N1.law)
#print axioms fnAnchorsNone_holds
end Go.Proofs.YtlmcimelkklanaaDoor
