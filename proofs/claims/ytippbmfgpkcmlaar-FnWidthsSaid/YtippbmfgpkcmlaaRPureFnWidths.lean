/- How many bytes a character has is told by its first byte: for every byte. -/
import Derived.Test.YtippbmfgpkcmlaaRPFnWidthsx1
namespace Go.Proofs.YtippbmfgpkcmlaaR.Pure
open Go.RowKit Go.Proofs.YtippbmfgpkcmlaaR.PFnWidths Go.Proofs.YtippbmfgpkcmlaaRW.PrintWords Go.Proofs.YtippbmfgpkcmlaaRW.PrintLast

theorem widths_all : ∀ a : Nat, a < 256 → laws_FnWidths.f 3 (a : Int) = some true := by
  decide +kernel

theorem FnWidths : laws_FnWidths.Pure := by
  intro a h
  have h' : 0 ≤ a ∧ a < 256 := by
    have h1 : decide ((0 : Int) ≤ a) && decide (a ≤ 255) := h
    simp at h1
    omega
  obtain ⟨n, rfl⟩ : ∃ n : Nat, a = n := ⟨a.toNat, by omega⟩
  exact ⟨3, widths_all n (by omega)⟩

end Go.Proofs.YtippbmfgpkcmlaaR.Pure
