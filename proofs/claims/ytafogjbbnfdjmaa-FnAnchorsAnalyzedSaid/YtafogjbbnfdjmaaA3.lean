/- A part of the proof: what functions of the program answer, for all arguments that meet the conditions named in each theorem. -/
import Derived.Test.YtafogjbbnfdjmaaA2
namespace Go.Proofs.A1
open Go.RowKit Go.AM Go.Proofs.C1
set_option linter.unusedVariables false
theorem emitter_any (w : World) (b : Nat) (fr : Nat × Nat) (hw : w.heap[b]? = some (.cells #[.slice none 0 0] 29 fr)) :
    Calls Try.prog 31 #[setts, .pointer (some ⟨b, 0, none⟩)] w fun e w' => ∃ g q, e = .returned (.pointer (some ⟨g, q, none⟩)) ∧ w.heap.size ≤ g ∧ EB w' g q ∧ w'.cell? ⟨g, q, none⟩ = some (.int .i64 0) ∧ Below w.heap.size w w' := by
  refine (am_new LF.noNum LF.follows fnsE hw (Nat.le_refl _) ?_ ?_ emitter_chk).mono ?_
  · intro k v hk
    match k, hk with
    | 0, hk => cases hk; exact ⟨rfl, rfl⟩
  · refine VRs.cons (VR.mono (β := []) (γ := [_]) ?_) (VRs.cons (.ptr 0 0 b 0 rfl) (VRs.nil _))
    refine .agg _ _ rfl ?_
    intro i v u hv hu
    rw [hv] at hu; cases hu
    match i, hv with
    | 0, hv => cases hv; exact .bool _
    | 1, hv => cases hv; exact .bool _
    | 2, hv => cases hv; exact .int _ _
    | 3, hv => cases hv; exact .int _ _
    | 4, hv => cases hv; exact .int _ _
    | 5, hv => cases hv; exact .int _ _
  · rintro e w' ⟨g, q, C', fr', rfl, h1, h2, h3, h4, h5, h6⟩
    refine ⟨g, q, rfl, h1, ⟨C', fr', h2, h3, h4⟩, ?_, h6⟩
    have := h5 (0, .int .i64 0) (List.mem_singleton.2 rfl)
    rw [cell_of_row _ _ _ _ _ _ h2]
    simpa using this
theorem kind0 (w : World) : Calls Try.prog 33 #[.int .i64 0] w fun e w' => e = .returned (.int .i64 0) ∧ w = w' := by
  go_enter Try.func33, Try.ntmps33
  go_wp2
  go_ret
  exact ⟨rfl, rfl⟩
theorem kind7 (w : World) : Calls Try.prog 33 #[.int .i64 7] w fun e w' => e = .returned (.int .i64 5) ∧ w = w' := by
  go_enter Try.func33, Try.ntmps33
  go_wp2
  go_ret
  exact ⟨rfl, rfl⟩
theorem fault_any (w : World) (g q : Nat) (r : Int) (h : w.cell? ⟨g, q, none⟩ = some (.int .i64 r)) : Calls Try.prog 34 #[.pointer (some ⟨g, q, none⟩)] w fun e w' => e = .returned (.int .i64 r) ∧ w = w' := by
  go_enter Try.func34, Try.ntmps34
  go_wp2
  go_ret
  exact ⟨rfl, rfl⟩
end Go.Proofs.A1
