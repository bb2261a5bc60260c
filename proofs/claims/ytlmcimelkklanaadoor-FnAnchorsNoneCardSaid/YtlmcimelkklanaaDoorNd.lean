/- A part of the proof: what functions of the program answer, for all arguments that meet the conditions named in each theorem. -/
import Derived.Test.YtlmcimelkklanaaDoorN1
import Derived.Test.YtlmcimelkklanaaDoorAMx
import Derived.WalkKit
import Derived.Below
namespace Go.Proofs.N1
open Go.AM Go.RowKit
set_option linter.unusedVariables false
set_option maxRecDepth 100000
/-- io.EOF holds an error's pointer. -/
def EofOk (w : World) : Prop := ∃ be oe C fr e, C[0]? = some (.iface 91 (.pointer (some ⟨be, oe, none⟩))) ∧ w.heap[0]? = some (.cells C e fr)
noncomputable def H1 : AS := { heap := (Tr.set D .e 0 (blk [.iface 91 (.pointer (some ⟨1, 0, none⟩))] 88)).set D 1 { cells := [], elem := 0, ro := true, live := false }, size := 2 }
theorem H1_get {B : Nat} {bl : Blk} (h : H1.get B = some bl) (hl : bl.live = true) : B = 0 ∧ bl = blk [.iface 91 (.pointer (some ⟨1, 0, none⟩))] 88 := by
  unfold AS.get H1 at h
  dsimp only at h
  split at h
  · rename_i hlt
    have : B = 0 ∨ B = 1 := by omega
    rcases this with rfl | rfl
    · rw [Tr.get_set_ne _ 1 0 D _ ⟨0, by decide, by decide⟩, Tr.get_set] at h
      cases h; exact ⟨rfl, rfl⟩
    · rw [Tr.get_set] at h
      cases h; cases hl
  · cases h
theorem law_HR {w : World} {be oe : Nat} {C0 : Array Value} {f0 : Nat × Nat} {e0 : TypeId} (hc0 : C0[0]? = some (.iface 91 (.pointer (some ⟨be, oe, none⟩)))) (h0 : w.heap[0]? = some (.cells C0 e0 f0)) : HR w [⟨0, 0, C0.size, undef⟩, ⟨be, oe, 0, undef⟩] H1 w := by
  have hs0 : 0 < C0.size := by
    rcases Nat.lt_or_ge 0 C0.size with h | h
    · exact h
    · rw [Array.getElem?_eq_none h] at hc0; cases hc0
  refine ⟨rfl, by show 2 ≤ 2 ^ 20; decide, ?_, ?_, RowKit.Below.refl _ _⟩
  · intro B bl hg hl
    obtain ⟨rfl, rfl⟩ := H1_get hg hl
    refine ⟨0, 0, C0, f0, rfl, ⟨e0, h0, fun h => by cases h⟩, (fun h hh => by cases hh; rfl), by show 1 + 0 ≤ _; omega, (fun h => by cases h), fun i v hv => ?_, (fun h => by cases h)⟩
    match i, hv with
    | 0, hv => cases hv; exact ⟨_, hc0, .iface _ _ _ (by have := VR.ptr (β := [⟨0, 0, C0.size, undef⟩, ⟨be, oe, 0, undef⟩]) 1 0 be oe rfl; rw [Nat.zero_add] at this; exact this)⟩
  · intro B B' bl bl' hg hg' hl hl' hro hne
    obtain ⟨rfl, rfl⟩ := H1_get hg hl
    cases hro
theorem law_G {C0 : Array Value} {be oe : Nat} : Gok G0 [⟨0, 0, C0.size, undef⟩, ⟨be, oe, 0, undef⟩] := by
  intro g B hg
  unfold G0 at hg
  split at hg
  · rename_i hgz
    cases hg
    rw [Nat.eq_of_beq_eq_true hgz]; rfl
  · cases hg
theorem al_of {w : World} {o : Obj} (h : w.heap[0]? = some o) (o' : Obj) : (w.alloc o').heap[0]? = some o := by
  have hl : 0 < w.heap.size := by
    rcases Nat.lt_or_ge 0 w.heap.size with h1 | h1
    · exact h1
    · rw [Array.getElem?_eq_none h1] at h; cases h
  simp only [World.alloc]
  rw [Array.getElem?_push_lt hl, ← Array.getElem?_eq_getElem hl]; exact h
theorem callOk : CallOk Tryd.prog G0 call := acall_sound noNum follows fnsN (fun f args H v H' _ hx => by cases hx) (noprim_ok _ _) 60
end Go.Proofs.N1
