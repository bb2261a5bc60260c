/- A part of the proof: what functions of the program answer, for all arguments that meet the conditions named in each theorem. -/
import Derived.Test.YtlmcimelkklanaaDoorNd
import Derived.WalkKit
import Derived.KernelRfl
import Derived.Below
import Derived.Lib.Hide
import Derived.LoopTactic
import Derived.Outline
import Derived.Deep.DeepCutAuto
import Derived.ProofKit
namespace Go.Proofs.N1
open Go.AM Go.RowKit
set_option linter.unusedVariables false
set_option maxRecDepth 100000 in
set_option maxHeartbeats 2000000 in
theorem law_true3 (w : World) (q : Int) (h0 : 0 ≤ 9 * q + 3) (h1 : 9 * q + 3 ≤ 255) (he : EofOk w) : Calls Tryd.prog 3 #[.bool true, .int .u8 (9 * q + 3)] w fun e w' => e = .returned (.bool true) ∧ Below w.heap.size w w' := by
  go_enter Tryd.func3, Tryd.ntmps3
  go_upto_region 2 with (fail)
  obtain ⟨be, oe, C0, f0, e0, hc0, hw0⟩ := he
  have HC0 := Lib.hid hc0
  have HW0 := Lib.hid hw0
  clear hc0 hw0
  go_upto_region 3 with (fail)
  refine Go.AM.am_seqC (by assumption) (n := 57) (l := [(0, .bool true), (6, .string ⟨#[38, 10]⟩)]) (t := 4) (r := .bool true) (ret := true) noNum callOk (law_HR HC0.out (al_of HW0.out _)) law_G follows (by kernel_rfl) rfl (by decide) (Go.AM.flc (Go.AM.slg (by decide) rfl rfl) (Go.AM.fl1 (Go.AM.slg (by decide) rfl rfl))) (by kernel_rfl) ?_
  intro tm' w' hb hs ht'
  rw [if_pos rfl]
  go_ret
  exact ⟨by rw [Array.getD_eq_getD_getElem?, ht']; rfl, (Below.refl _ _ |>.alloc (Nat.le_refl _) _).trans (hb.mono (by simp))⟩
set_option maxRecDepth 100000 in
set_option maxHeartbeats 2000000 in
theorem law_true4 (w : World) (q : Int) (h0 : 0 ≤ 9 * q + 4) (h1 : 9 * q + 4 ≤ 255) (he : EofOk w) : Calls Tryd.prog 3 #[.bool true, .int .u8 (9 * q + 4)] w fun e w' => e = .returned (.bool true) ∧ Below w.heap.size w w' := by
  go_enter Tryd.func3, Tryd.ntmps3
  go_upto_region 2 with (fail)
  obtain ⟨be, oe, C0, f0, e0, hc0, hw0⟩ := he
  have HC0 := Lib.hid hc0
  have HW0 := Lib.hid hw0
  clear hc0 hw0
  go_upto_region 3 with (fail)
  refine Go.AM.am_seqC (by assumption) (n := 57) (l := [(0, .bool true), (6, .string ⟨#[38, 44]⟩)]) (t := 4) (r := .bool true) (ret := true) noNum callOk (law_HR HC0.out (al_of HW0.out _)) law_G follows (by kernel_rfl) rfl (by decide) (Go.AM.flc (Go.AM.slg (by decide) rfl rfl) (Go.AM.fl1 (Go.AM.slg (by decide) rfl rfl))) (by kernel_rfl) ?_
  intro tm' w' hb hs ht'
  rw [if_pos rfl]
  go_ret
  exact ⟨by rw [Array.getD_eq_getD_getElem?, ht']; rfl, (Below.refl _ _ |>.alloc (Nat.le_refl _) _).trans (hb.mono (by simp))⟩
set_option maxRecDepth 100000 in
set_option maxHeartbeats 2000000 in
theorem law_true5 (w : World) (q : Int) (h0 : 0 ≤ 9 * q + 5) (h1 : 9 * q + 5 ≤ 255) (he : EofOk w) : Calls Tryd.prog 3 #[.bool true, .int .u8 (9 * q + 5)] w fun e w' => e = .returned (.bool true) ∧ Below w.heap.size w w' := by
  go_enter Tryd.func3, Tryd.ntmps3
  go_upto_region 2 with (fail)
  obtain ⟨be, oe, C0, f0, e0, hc0, hw0⟩ := he
  have HC0 := Lib.hid hc0
  have HW0 := Lib.hid hw0
  clear hc0 hw0
  go_upto_region 3 with (fail)
  refine Go.AM.am_seqC (by assumption) (n := 57) (l := [(0, .bool true), (6, .string ⟨#[38, 93]⟩)]) (t := 4) (r := .bool true) (ret := true) noNum callOk (law_HR HC0.out (al_of HW0.out _)) law_G follows (by kernel_rfl) rfl (by decide) (Go.AM.flc (Go.AM.slg (by decide) rfl rfl) (Go.AM.fl1 (Go.AM.slg (by decide) rfl rfl))) (by kernel_rfl) ?_
  intro tm' w' hb hs ht'
  rw [if_pos rfl]
  go_ret
  exact ⟨by rw [Array.getD_eq_getD_getElem?, ht']; rfl, (Below.refl _ _ |>.alloc (Nat.le_refl _) _).trans (hb.mono (by simp))⟩
end Go.Proofs.N1
