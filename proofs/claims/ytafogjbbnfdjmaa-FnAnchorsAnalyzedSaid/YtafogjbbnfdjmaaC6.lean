/- A part of the proof: what functions of the program answer, for all arguments that meet the conditions named in each theorem. -/
import Derived.Test.YtafogjbbnfdjmaaC4
import Derived.Test.YtafogjbbnfdjmaaC5
namespace Go.Proofs.C1
open Go.RowKit
set_option linter.unusedVariables false
/-- Behind the text, and ahead of it. -/
theorem iclass_out (w : World) (a : Option Addr) (ts : List Int) (cap : Nat) (c i : Int) (hc : ts.length ≤ 2147483648) (hi : i < 0 ∨ ts.length ≤ i) :
    Calls Try.prog 8 #[.int .i64 c, .slice a ts.length cap, .int .i64 i] w fun e w' => e = .returned (.bool false) ∧ Below w.heap.size w w' := by
  rcases hi with hi | hi
  · go_enter Try.func8, Try.ntmps8
    go_wp2
    go_ret
    exact ⟨rfl, Below.refl _ _⟩
  · go_enter Try.func8, Try.ntmps8
    go_wp2
    all_goals
      go_ret
      exact ⟨rfl, Below.refl _ _⟩
theorem sclass_out (w : World) (a : Option Addr) (ts : List Int) (cap : Nat) (c i : Int) (hc : ts.length ≤ 2147483648) (hi : i < 0 ∨ ts.length ≤ i) :
    Calls Try.prog 9 #[.int .i64 c, .slice a ts.length cap, .int .i64 i] w fun e w' => e = .returned (.bool false) ∧ Below w.heap.size w w' := by
  rcases hi with hi | hi
  · go_enter Try.func9, Try.ntmps9
    go_wp2
    go_ret
    exact ⟨rfl, Below.refl _ _⟩
  · go_enter Try.func9, Try.ntmps9
    go_wp2
    all_goals
      go_ret
      exact ⟨rfl, Below.refl _ _⟩
/-- A number that is no class. -/
def NoClass (c : Int) : Prop := c < 0 ∨ 14 < c
set_option maxRecDepth 100000 in
set_option maxHeartbeats 2000000 in
theorem iclass_no (w : World) (a : Option Addr) (ts : List Int) (cap : Nat) (c : Int) (i : Nat) (h : NoClass c) (hc : ts.length ≤ 2147483648) (ht : Hid (Txt w a ts)) (hi2 : i < ts.length) :
    Calls Try.prog 8 #[.int .i64 c, .slice a ts.length cap, .int .i64 i] w fun e w' => e = .returned (.bool false) ∧ Below w.heap.size w w' := by
  obtain ⟨y0, rfl, _⟩ := ht.out.2 0 (by omega)
  obtain ⟨i0, hi0, hz0, hz1, hz2⟩ := info_parts info5
  have hown0 : (w.alloc (.cells #[] 5)).ownsRow w.heap.size 5 1 (.slice (some ⟨w.heap.size, 0, none⟩) 0 0) 0 [] := World.ownsRow_lit w #[] 0 (Nat.le_refl _) (by decide) rfl
  have hcells := cells_kept (.cells #[] 5) ht.out
  have HO := Lib.hid hown0
  have HC := Lib.hid hcells
  clear hown0 hcells
  unfold NoClass at h
  go_enter Try.func8, Try.ntmps8
  go_wp2_with (first
    | (at_builtin; refine wpList_append_own _ rfl (.tmp 16) (.tmp 17) 29 rfl w.heap.size 5 i0 (.int .u8 0) 1 1 Try.underlying29 hi0 hz0 hz1 hz2 rfl (by decide) _ 0 [] rfl HO.out y0 ts.length cap (ts.map (Value.int .u8)) rfl (by simp) HC.out (by intro u hu; simp at hu; obtain ⟨_, _, rfl⟩ := hu; rfl) (by unfold maxLen; omega) (by omega) (by simp) ?_; intro v1 w1 hown1 hgrow1 hnil1; have HO1 := Lib.hid hown1; have HG1 := Lib.hid hgrow1; clear hown1 hgrow1 hnil1)
    | (at_builtin; refine wpList_append_own _ rfl (.tmp 18) (.tmp 19) 29 rfl w.heap.size 5 i0 (.int .u8 0) 1 1 Try.underlying29 hi0 hz0 hz1 hz2 rfl (by decide) _ _ _ rfl (HO1.out.alloc _) ⟨w1.heap.size, 0, none⟩ 2 2 [.int .u8 0, .int .u8 0] rfl rfl (cells_two _ _ _ _) (by intro u hu; simp at hu; rcases hu with rfl; rfl) (by unfold maxLen; omega) (by omega) (size1 HG1.out _) ?_; intro v2 w2 hown2 hgrow2 hnil2; have HO2 := Lib.hid hown2; have HB2 := Lib.hid (below2 rfl HG1.out HO1.out hgrow2); clear hown2 hgrow2 hnil2 HG1 HO1))
  all_goals
    go_ret
    exact ⟨rfl, HB2.out⟩
set_option maxRecDepth 100000 in
set_option maxHeartbeats 2000000 in
theorem sclass_no (w : World) (a : Option Addr) (ts : List Int) (cap : Nat) (c : Int) (i : Nat) (x : Int) (h : NoClass c) (hc : ts.length ≤ 2147483648) (ht : Hid (Txt w a ts)) (hi2 : i < ts.length) (ex : Hid (byt ts i = x)) :
    Calls Try.prog 9 #[.int .i64 c, .slice a ts.length cap, .int .i64 i] w fun e w' => e = .returned (.bool false) ∧ Below w.heap.size w w' := by
  unfold NoClass at h
  go_enter Try.func9, Try.ntmps9
  go_wp2_with (first | (go_at_call 29; refine (byteAt_any w a ts cap _ (by omega) (by omega) (by omega) ht.out).mono ?_; rintro e w' ⟨rfl, rfl⟩; rw [ex.out]))
  all_goals
    go_ret
    exact ⟨rfl, Below.refl _ _⟩
end Go.Proofs.C1
