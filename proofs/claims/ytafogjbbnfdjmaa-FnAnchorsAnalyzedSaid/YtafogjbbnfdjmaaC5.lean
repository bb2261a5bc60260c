/- A part of the proof: what functions of the program answer, for all arguments that meet the conditions named in each theorem. -/
import Derived.Test.YtafogjbbnfdjmaaC2
namespace Go.Proofs.C1
open Go.RowKit
set_option linter.unusedVariables false
theorem ret_b {a b : Bool} (h : a = b) : Ending.returned (.bool a) = .returned (.bool b) := by rw [h]
set_option maxRecDepth 100000 in
set_option maxHeartbeats 2000000 in
theorem sclass0 (w : World) (a : Option Addr) (ts : List Int) (cap : Nat) (i : Nat) (x : Int) (r : Bool) (hr : Hid (decide (48 ≤ x ∧ x ≤ 57 ∨ 65 ≤ x ∧ x ≤ 90 ∨ 97 ≤ x ∧ x ≤ 122 ∨ x = 95 ∨ x = 45) = r)) (hc : ts.length ≤ 2147483648) (ht : Hid (Txt w a ts)) (hi2 : i < ts.length)
    (ex : Hid (byt ts i = x)) (qx : Hid (0 ≤ x ∧ x ≤ 255)) :
    Calls Try.prog 9 #[.int .i64 0, .slice a ts.length cap, .int .i64 i] w fun e w' => e = .returned (.bool r) ∧ Below w.heap.size w w' := by
  go_enter Try.func9, Try.ntmps9
  go_upto_region 4 with (first | (go_at_call 29; refine (byteAt_any w a ts cap _ (by omega) (by omega) (by omega) ht.out).mono ?_; rintro e w' ⟨rfl, rfl⟩))
  rw [ex.out]
  have qx := qx.out
  rcases (show (0 ≤ x ∧ x ≤ 0) ∨ (1 ≤ x ∧ x ≤ 8) ∨ (9 ≤ x ∧ x ≤ 9) ∨ (10 ≤ x ∧ x ≤ 31) ∨ (32 ≤ x ∧ x ≤ 32) ∨ (33 ≤ x ∧ x ≤ 44) ∨ (45 ≤ x ∧ x ≤ 45) ∨ (46 ≤ x ∧ x ≤ 47) ∨ (48 ≤ x ∧ x ≤ 48) ∨ (49 ≤ x ∧ x ≤ 56) ∨ (57 ≤ x ∧ x ≤ 57) ∨ (58 ≤ x ∧ x ≤ 64) ∨ (65 ≤ x ∧ x ≤ 65) ∨ (66 ≤ x ∧ x ≤ 89) ∨ (90 ≤ x ∧ x ≤ 90) ∨ (91 ≤ x ∧ x ≤ 94) ∨ (95 ≤ x ∧ x ≤ 95) ∨ (96 ≤ x ∧ x ≤ 96) ∨ (97 ≤ x ∧ x ≤ 97) ∨ (98 ≤ x ∧ x ≤ 121) ∨ (122 ≤ x ∧ x ≤ 122) ∨ (123 ≤ x ∧ x ≤ 255) by omega) with ⟨h01, h02⟩ | ⟨h01, h02⟩ | ⟨h01, h02⟩ | ⟨h01, h02⟩ | ⟨h01, h02⟩ | ⟨h01, h02⟩ | ⟨h01, h02⟩ | ⟨h01, h02⟩ | ⟨h01, h02⟩ | ⟨h01, h02⟩ | ⟨h01, h02⟩ | ⟨h01, h02⟩ | ⟨h01, h02⟩ | ⟨h01, h02⟩ | ⟨h01, h02⟩ | ⟨h01, h02⟩ | ⟨h01, h02⟩ | ⟨h01, h02⟩ | ⟨h01, h02⟩ | ⟨h01, h02⟩ | ⟨h01, h02⟩ | ⟨h01, h02⟩
  ·
    rw [decide_eq_false (show ¬ (48 ≤ x ∧ x ≤ 57 ∨ 65 ≤ x ∧ x ≤ 90 ∨ 97 ≤ x ∧ x ≤ 122 ∨ x = 95 ∨ x = 45) by omega)] at hr
    have hr' := hr.out
    subst hr'
    refine Go.AM.am_seq (by assumption) (n := 153) (l := [(0, .int .i64 0), (7, Go.AM.at64 0 0)]) (t := 6) (r := .bool false) (ret := true) LF.noNum LF.follows (by kernel_rfl) rfl (by decide) (Go.AM.flc (Go.AM.slg (by decide) rfl rfl) (Go.AM.fl1 (Go.AM.sl64 (by decide) rfl h01 h02))) (by kernel_rfl) ?_
    intro tm' w' hb hs ht'
    rw [if_pos rfl]
    go_ret
    exact ⟨by rw [Array.getD_eq_getD_getElem?, ht']; rfl, hb⟩
  ·
    rw [decide_eq_false (show ¬ (48 ≤ x ∧ x ≤ 57 ∨ 65 ≤ x ∧ x ≤ 90 ∨ 97 ≤ x ∧ x ≤ 122 ∨ x = 95 ∨ x = 45) by omega)] at hr
    have hr' := hr.out
    subst hr'
    refine Go.AM.am_seq (by assumption) (n := 153) (l := [(0, .int .i64 0), (7, Go.AM.at64 1 8)]) (t := 6) (r := .bool false) (ret := true) LF.noNum LF.follows (by kernel_rfl) rfl (by decide) (Go.AM.flc (Go.AM.slg (by decide) rfl rfl) (Go.AM.fl1 (Go.AM.sl64 (by decide) rfl h01 h02))) (by kernel_rfl) ?_
    intro tm' w' hb hs ht'
    rw [if_pos rfl]
    go_ret
    exact ⟨by rw [Array.getD_eq_getD_getElem?, ht']; rfl, hb⟩
  ·
    rw [decide_eq_false (show ¬ (48 ≤ x ∧ x ≤ 57 ∨ 65 ≤ x ∧ x ≤ 90 ∨ 97 ≤ x ∧ x ≤ 122 ∨ x = 95 ∨ x = 45) by omega)] at hr
    have hr' := hr.out
    subst hr'
    refine Go.AM.am_seq (by assumption) (n := 153) (l := [(0, .int .i64 0), (7, Go.AM.at64 9 9)]) (t := 6) (r := .bool false) (ret := true) LF.noNum LF.follows (by kernel_rfl) rfl (by decide) (Go.AM.flc (Go.AM.slg (by decide) rfl rfl) (Go.AM.fl1 (Go.AM.sl64 (by decide) rfl h01 h02))) (by kernel_rfl) ?_
    intro tm' w' hb hs ht'
    rw [if_pos rfl]
    go_ret
    exact ⟨by rw [Array.getD_eq_getD_getElem?, ht']; rfl, hb⟩
  ·
    rw [decide_eq_false (show ¬ (48 ≤ x ∧ x ≤ 57 ∨ 65 ≤ x ∧ x ≤ 90 ∨ 97 ≤ x ∧ x ≤ 122 ∨ x = 95 ∨ x = 45) by omega)] at hr
    have hr' := hr.out
    subst hr'
    refine Go.AM.am_seq (by assumption) (n := 153) (l := [(0, .int .i64 0), (7, Go.AM.at64 10 31)]) (t := 6) (r := .bool false) (ret := true) LF.noNum LF.follows (by kernel_rfl) rfl (by decide) (Go.AM.flc (Go.AM.slg (by decide) rfl rfl) (Go.AM.fl1 (Go.AM.sl64 (by decide) rfl h01 h02))) (by kernel_rfl) ?_
    intro tm' w' hb hs ht'
    rw [if_pos rfl]
    go_ret
    exact ⟨by rw [Array.getD_eq_getD_getElem?, ht']; rfl, hb⟩
  ·
    rw [decide_eq_false (show ¬ (48 ≤ x ∧ x ≤ 57 ∨ 65 ≤ x ∧ x ≤ 90 ∨ 97 ≤ x ∧ x ≤ 122 ∨ x = 95 ∨ x = 45) by omega)] at hr
    have hr' := hr.out
    subst hr'
    refine Go.AM.am_seq (by assumption) (n := 153) (l := [(0, .int .i64 0), (7, Go.AM.at64 32 32)]) (t := 6) (r := .bool false) (ret := true) LF.noNum LF.follows (by kernel_rfl) rfl (by decide) (Go.AM.flc (Go.AM.slg (by decide) rfl rfl) (Go.AM.fl1 (Go.AM.sl64 (by decide) rfl h01 h02))) (by kernel_rfl) ?_
    intro tm' w' hb hs ht'
    rw [if_pos rfl]
    go_ret
    exact ⟨by rw [Array.getD_eq_getD_getElem?, ht']; rfl, hb⟩
  ·
    rw [decide_eq_false (show ¬ (48 ≤ x ∧ x ≤ 57 ∨ 65 ≤ x ∧ x ≤ 90 ∨ 97 ≤ x ∧ x ≤ 122 ∨ x = 95 ∨ x = 45) by omega)] at hr
    have hr' := hr.out
    subst hr'
    refine Go.AM.am_seq (by assumption) (n := 153) (l := [(0, .int .i64 0), (7, Go.AM.at64 33 44)]) (t := 6) (r := .bool false) (ret := true) LF.noNum LF.follows (by kernel_rfl) rfl (by decide) (Go.AM.flc (Go.AM.slg (by decide) rfl rfl) (Go.AM.fl1 (Go.AM.sl64 (by decide) rfl h01 h02))) (by kernel_rfl) ?_
    intro tm' w' hb hs ht'
    rw [if_pos rfl]
    go_ret
    exact ⟨by rw [Array.getD_eq_getD_getElem?, ht']; rfl, hb⟩
  ·
    rw [decide_eq_true (show 48 ≤ x ∧ x ≤ 57 ∨ 65 ≤ x ∧ x ≤ 90 ∨ 97 ≤ x ∧ x ≤ 122 ∨ x = 95 ∨ x = 45 by omega)] at hr
    have hr' := hr.out
    subst hr'
    refine Go.AM.am_seq (by assumption) (n := 153) (l := [(0, .int .i64 0), (7, Go.AM.at64 45 45)]) (t := 6) (r := .bool true) (ret := true) LF.noNum LF.follows (by kernel_rfl) rfl (by decide) (Go.AM.flc (Go.AM.slg (by decide) rfl rfl) (Go.AM.fl1 (Go.AM.sl64 (by decide) rfl h01 h02))) (by kernel_rfl) ?_
    intro tm' w' hb hs ht'
    rw [if_pos rfl]
    go_ret
    exact ⟨by rw [Array.getD_eq_getD_getElem?, ht']; rfl, hb⟩
  ·
    rw [decide_eq_false (show ¬ (48 ≤ x ∧ x ≤ 57 ∨ 65 ≤ x ∧ x ≤ 90 ∨ 97 ≤ x ∧ x ≤ 122 ∨ x = 95 ∨ x = 45) by omega)] at hr
    have hr' := hr.out
    subst hr'
    refine Go.AM.am_seq (by assumption) (n := 153) (l := [(0, .int .i64 0), (7, Go.AM.at64 46 47)]) (t := 6) (r := .bool false) (ret := true) LF.noNum LF.follows (by kernel_rfl) rfl (by decide) (Go.AM.flc (Go.AM.slg (by decide) rfl rfl) (Go.AM.fl1 (Go.AM.sl64 (by decide) rfl h01 h02))) (by kernel_rfl) ?_
    intro tm' w' hb hs ht'
    rw [if_pos rfl]
    go_ret
    exact ⟨by rw [Array.getD_eq_getD_getElem?, ht']; rfl, hb⟩
  ·
    rw [decide_eq_true (show 48 ≤ x ∧ x ≤ 57 ∨ 65 ≤ x ∧ x ≤ 90 ∨ 97 ≤ x ∧ x ≤ 122 ∨ x = 95 ∨ x = 45 by omega)] at hr
    have hr' := hr.out
    subst hr'
    refine Go.AM.am_seq (by assumption) (n := 153) (l := [(0, .int .i64 0), (7, Go.AM.at64 48 48)]) (t := 6) (r := .bool true) (ret := true) LF.noNum LF.follows (by kernel_rfl) rfl (by decide) (Go.AM.flc (Go.AM.slg (by decide) rfl rfl) (Go.AM.fl1 (Go.AM.sl64 (by decide) rfl h01 h02))) (by kernel_rfl) ?_
    intro tm' w' hb hs ht'
    rw [if_pos rfl]
    go_ret
    exact ⟨by rw [Array.getD_eq_getD_getElem?, ht']; rfl, hb⟩
  ·
    rw [decide_eq_true (show 48 ≤ x ∧ x ≤ 57 ∨ 65 ≤ x ∧ x ≤ 90 ∨ 97 ≤ x ∧ x ≤ 122 ∨ x = 95 ∨ x = 45 by omega)] at hr
    have hr' := hr.out
    subst hr'
    refine Go.AM.am_seq (by assumption) (n := 153) (l := [(0, .int .i64 0), (7, Go.AM.at64 49 56)]) (t := 6) (r := .bool true) (ret := true) LF.noNum LF.follows (by kernel_rfl) rfl (by decide) (Go.AM.flc (Go.AM.slg (by decide) rfl rfl) (Go.AM.fl1 (Go.AM.sl64 (by decide) rfl h01 h02))) (by kernel_rfl) ?_
    intro tm' w' hb hs ht'
    rw [if_pos rfl]
    go_ret
    exact ⟨by rw [Array.getD_eq_getD_getElem?, ht']; rfl, hb⟩
  ·
    rw [decide_eq_true (show 48 ≤ x ∧ x ≤ 57 ∨ 65 ≤ x ∧ x ≤ 90 ∨ 97 ≤ x ∧ x ≤ 122 ∨ x = 95 ∨ x = 45 by omega)] at hr
    have hr' := hr.out
    subst hr'
    refine Go.AM.am_seq (by assumption) (n := 153) (l := [(0, .int .i64 0), (7, Go.AM.at64 57 57)]) (t := 6) (r := .bool true) (ret := true) LF.noNum LF.follows (by kernel_rfl) rfl (by decide) (Go.AM.flc (Go.AM.slg (by decide) rfl rfl) (Go.AM.fl1 (Go.AM.sl64 (by decide) rfl h01 h02))) (by kernel_rfl) ?_
    intro tm' w' hb hs ht'
    rw [if_pos rfl]
    go_ret
    exact ⟨by rw [Array.getD_eq_getD_getElem?, ht']; rfl, hb⟩
  ·
    rw [decide_eq_false (show ¬ (48 ≤ x ∧ x ≤ 57 ∨ 65 ≤ x ∧ x ≤ 90 ∨ 97 ≤ x ∧ x ≤ 122 ∨ x = 95 ∨ x = 45) by omega)] at hr
    have hr' := hr.out
    subst hr'
    refine Go.AM.am_seq (by assumption) (n := 153) (l := [(0, .int .i64 0), (7, Go.AM.at64 58 64)]) (t := 6) (r := .bool false) (ret := true) LF.noNum LF.follows (by kernel_rfl) rfl (by decide) (Go.AM.flc (Go.AM.slg (by decide) rfl rfl) (Go.AM.fl1 (Go.AM.sl64 (by decide) rfl h01 h02))) (by kernel_rfl) ?_
    intro tm' w' hb hs ht'
    rw [if_pos rfl]
    go_ret
    exact ⟨by rw [Array.getD_eq_getD_getElem?, ht']; rfl, hb⟩
  ·
    rw [decide_eq_true (show 48 ≤ x ∧ x ≤ 57 ∨ 65 ≤ x ∧ x ≤ 90 ∨ 97 ≤ x ∧ x ≤ 122 ∨ x = 95 ∨ x = 45 by omega)] at hr
    have hr' := hr.out
    subst hr'
    refine Go.AM.am_seq (by assumption) (n := 153) (l := [(0, .int .i64 0), (7, Go.AM.at64 65 65)]) (t := 6) (r := .bool true) (ret := true) LF.noNum LF.follows (by kernel_rfl) rfl (by decide) (Go.AM.flc (Go.AM.slg (by decide) rfl rfl) (Go.AM.fl1 (Go.AM.sl64 (by decide) rfl h01 h02))) (by kernel_rfl) ?_
    intro tm' w' hb hs ht'
    rw [if_pos rfl]
    go_ret
    exact ⟨by rw [Array.getD_eq_getD_getElem?, ht']; rfl, hb⟩
  ·
    rw [decide_eq_true (show 48 ≤ x ∧ x ≤ 57 ∨ 65 ≤ x ∧ x ≤ 90 ∨ 97 ≤ x ∧ x ≤ 122 ∨ x = 95 ∨ x = 45 by omega)] at hr
    have hr' := hr.out
    subst hr'
    refine Go.AM.am_seq (by assumption) (n := 153) (l := [(0, .int .i64 0), (7, Go.AM.at64 66 89)]) (t := 6) (r := .bool true) (ret := true) LF.noNum LF.follows (by kernel_rfl) rfl (by decide) (Go.AM.flc (Go.AM.slg (by decide) rfl rfl) (Go.AM.fl1 (Go.AM.sl64 (by decide) rfl h01 h02))) (by kernel_rfl) ?_
    intro tm' w' hb hs ht'
    rw [if_pos rfl]
    go_ret
    exact ⟨by rw [Array.getD_eq_getD_getElem?, ht']; rfl, hb⟩
  ·
    rw [decide_eq_true (show 48 ≤ x ∧ x ≤ 57 ∨ 65 ≤ x ∧ x ≤ 90 ∨ 97 ≤ x ∧ x ≤ 122 ∨ x = 95 ∨ x = 45 by omega)] at hr
    have hr' := hr.out
    subst hr'
    refine Go.AM.am_seq (by assumption) (n := 153) (l := [(0, .int .i64 0), (7, Go.AM.at64 90 90)]) (t := 6) (r := .bool true) (ret := true) LF.noNum LF.follows (by kernel_rfl) rfl (by decide) (Go.AM.flc (Go.AM.slg (by decide) rfl rfl) (Go.AM.fl1 (Go.AM.sl64 (by decide) rfl h01 h02))) (by kernel_rfl) ?_
    intro tm' w' hb hs ht'
    rw [if_pos rfl]
    go_ret
    exact ⟨by rw [Array.getD_eq_getD_getElem?, ht']; rfl, hb⟩
  ·
    rw [decide_eq_false (show ¬ (48 ≤ x ∧ x ≤ 57 ∨ 65 ≤ x ∧ x ≤ 90 ∨ 97 ≤ x ∧ x ≤ 122 ∨ x = 95 ∨ x = 45) by omega)] at hr
    have hr' := hr.out
    subst hr'
    refine Go.AM.am_seq (by assumption) (n := 153) (l := [(0, .int .i64 0), (7, Go.AM.at64 91 94)]) (t := 6) (r := .bool false) (ret := true) LF.noNum LF.follows (by kernel_rfl) rfl (by decide) (Go.AM.flc (Go.AM.slg (by decide) rfl rfl) (Go.AM.fl1 (Go.AM.sl64 (by decide) rfl h01 h02))) (by kernel_rfl) ?_
    intro tm' w' hb hs ht'
    rw [if_pos rfl]
    go_ret
    exact ⟨by rw [Array.getD_eq_getD_getElem?, ht']; rfl, hb⟩
  ·
    rw [decide_eq_true (show 48 ≤ x ∧ x ≤ 57 ∨ 65 ≤ x ∧ x ≤ 90 ∨ 97 ≤ x ∧ x ≤ 122 ∨ x = 95 ∨ x = 45 by omega)] at hr
    have hr' := hr.out
    subst hr'
    refine Go.AM.am_seq (by assumption) (n := 153) (l := [(0, .int .i64 0), (7, Go.AM.at64 95 95)]) (t := 6) (r := .bool true) (ret := true) LF.noNum LF.follows (by kernel_rfl) rfl (by decide) (Go.AM.flc (Go.AM.slg (by decide) rfl rfl) (Go.AM.fl1 (Go.AM.sl64 (by decide) rfl h01 h02))) (by kernel_rfl) ?_
    intro tm' w' hb hs ht'
    rw [if_pos rfl]
    go_ret
    exact ⟨by rw [Array.getD_eq_getD_getElem?, ht']; rfl, hb⟩
  ·
    rw [decide_eq_false (show ¬ (48 ≤ x ∧ x ≤ 57 ∨ 65 ≤ x ∧ x ≤ 90 ∨ 97 ≤ x ∧ x ≤ 122 ∨ x = 95 ∨ x = 45) by omega)] at hr
    have hr' := hr.out
    subst hr'
    refine Go.AM.am_seq (by assumption) (n := 153) (l := [(0, .int .i64 0), (7, Go.AM.at64 96 96)]) (t := 6) (r := .bool false) (ret := true) LF.noNum LF.follows (by kernel_rfl) rfl (by decide) (Go.AM.flc (Go.AM.slg (by decide) rfl rfl) (Go.AM.fl1 (Go.AM.sl64 (by decide) rfl h01 h02))) (by kernel_rfl) ?_
    intro tm' w' hb hs ht'
    rw [if_pos rfl]
    go_ret
    exact ⟨by rw [Array.getD_eq_getD_getElem?, ht']; rfl, hb⟩
  ·
    rw [decide_eq_true (show 48 ≤ x ∧ x ≤ 57 ∨ 65 ≤ x ∧ x ≤ 90 ∨ 97 ≤ x ∧ x ≤ 122 ∨ x = 95 ∨ x = 45 by omega)] at hr
    have hr' := hr.out
    subst hr'
    refine Go.AM.am_seq (by assumption) (n := 153) (l := [(0, .int .i64 0), (7, Go.AM.at64 97 97)]) (t := 6) (r := .bool true) (ret := true) LF.noNum LF.follows (by kernel_rfl) rfl (by decide) (Go.AM.flc (Go.AM.slg (by decide) rfl rfl) (Go.AM.fl1 (Go.AM.sl64 (by decide) rfl h01 h02))) (by kernel_rfl) ?_
    intro tm' w' hb hs ht'
    rw [if_pos rfl]
    go_ret
    exact ⟨by rw [Array.getD_eq_getD_getElem?, ht']; rfl, hb⟩
  ·
    rw [decide_eq_true (show 48 ≤ x ∧ x ≤ 57 ∨ 65 ≤ x ∧ x ≤ 90 ∨ 97 ≤ x ∧ x ≤ 122 ∨ x = 95 ∨ x = 45 by omega)] at hr
    have hr' := hr.out
    subst hr'
    refine Go.AM.am_seq (by assumption) (n := 153) (l := [(0, .int .i64 0), (7, Go.AM.at64 98 121)]) (t := 6) (r := .bool true) (ret := true) LF.noNum LF.follows (by kernel_rfl) rfl (by decide) (Go.AM.flc (Go.AM.slg (by decide) rfl rfl) (Go.AM.fl1 (Go.AM.sl64 (by decide) rfl h01 h02))) (by kernel_rfl) ?_
    intro tm' w' hb hs ht'
    rw [if_pos rfl]
    go_ret
    exact ⟨by rw [Array.getD_eq_getD_getElem?, ht']; rfl, hb⟩
  ·
    rw [decide_eq_true (show 48 ≤ x ∧ x ≤ 57 ∨ 65 ≤ x ∧ x ≤ 90 ∨ 97 ≤ x ∧ x ≤ 122 ∨ x = 95 ∨ x = 45 by omega)] at hr
    have hr' := hr.out
    subst hr'
    refine Go.AM.am_seq (by assumption) (n := 153) (l := [(0, .int .i64 0), (7, Go.AM.at64 122 122)]) (t := 6) (r := .bool true) (ret := true) LF.noNum LF.follows (by kernel_rfl) rfl (by decide) (Go.AM.flc (Go.AM.slg (by decide) rfl rfl) (Go.AM.fl1 (Go.AM.sl64 (by decide) rfl h01 h02))) (by kernel_rfl) ?_
    intro tm' w' hb hs ht'
    rw [if_pos rfl]
    go_ret
    exact ⟨by rw [Array.getD_eq_getD_getElem?, ht']; rfl, hb⟩
  ·
    rw [decide_eq_false (show ¬ (48 ≤ x ∧ x ≤ 57 ∨ 65 ≤ x ∧ x ≤ 90 ∨ 97 ≤ x ∧ x ≤ 122 ∨ x = 95 ∨ x = 45) by omega)] at hr
    have hr' := hr.out
    subst hr'
    refine Go.AM.am_seq (by assumption) (n := 153) (l := [(0, .int .i64 0), (7, Go.AM.at64 123 255)]) (t := 6) (r := .bool false) (ret := true) LF.noNum LF.follows (by kernel_rfl) rfl (by decide) (Go.AM.flc (Go.AM.slg (by decide) rfl rfl) (Go.AM.fl1 (Go.AM.sl64 (by decide) rfl h01 h02))) (by kernel_rfl) ?_
    intro tm' w' hb hs ht'
    rw [if_pos rfl]
    go_ret
    exact ⟨by rw [Array.getD_eq_getD_getElem?, ht']; rfl, hb⟩
set_option maxRecDepth 100000 in
set_option maxHeartbeats 2000000 in
theorem sclass1 (w : World) (a : Option Addr) (ts : List Int) (cap : Nat) (i : Nat) (x : Int) (r : Bool) (hr : Hid (decide (48 ≤ x ∧ x ≤ 57) = r)) (hc : ts.length ≤ 2147483648) (ht : Hid (Txt w a ts)) (hi2 : i < ts.length)
    (ex : Hid (byt ts i = x)) (qx : Hid (0 ≤ x ∧ x ≤ 255)) :
    Calls Try.prog 9 #[.int .i64 1, .slice a ts.length cap, .int .i64 i] w fun e w' => e = .returned (.bool r) ∧ Below w.heap.size w w' := by
  go_enter Try.func9, Try.ntmps9
  go_upto_region 4 with (first | (go_at_call 29; refine (byteAt_any w a ts cap _ (by omega) (by omega) (by omega) ht.out).mono ?_; rintro e w' ⟨rfl, rfl⟩))
  rw [ex.out]
  have qx := qx.out
  rcases (show (0 ≤ x ∧ x ≤ 0) ∨ (1 ≤ x ∧ x ≤ 8) ∨ (9 ≤ x ∧ x ≤ 9) ∨ (10 ≤ x ∧ x ≤ 31) ∨ (32 ≤ x ∧ x ≤ 32) ∨ (33 ≤ x ∧ x ≤ 47) ∨ (48 ≤ x ∧ x ≤ 48) ∨ (49 ≤ x ∧ x ≤ 56) ∨ (57 ≤ x ∧ x ≤ 57) ∨ (58 ≤ x ∧ x ≤ 255) by omega) with ⟨h01, h02⟩ | ⟨h01, h02⟩ | ⟨h01, h02⟩ | ⟨h01, h02⟩ | ⟨h01, h02⟩ | ⟨h01, h02⟩ | ⟨h01, h02⟩ | ⟨h01, h02⟩ | ⟨h01, h02⟩ | ⟨h01, h02⟩
  ·
    rw [decide_eq_false (show ¬ (48 ≤ x ∧ x ≤ 57) by omega)] at hr
    have hr' := hr.out
    subst hr'
    refine Go.AM.am_seq (by assumption) (n := 153) (l := [(0, .int .i64 1), (7, Go.AM.at64 0 0)]) (t := 6) (r := .bool false) (ret := true) LF.noNum LF.follows (by kernel_rfl) rfl (by decide) (Go.AM.flc (Go.AM.slg (by decide) rfl rfl) (Go.AM.fl1 (Go.AM.sl64 (by decide) rfl h01 h02))) (by kernel_rfl) ?_
    intro tm' w' hb hs ht'
    rw [if_pos rfl]
    go_ret
    exact ⟨by rw [Array.getD_eq_getD_getElem?, ht']; rfl, hb⟩
  ·
    rw [decide_eq_false (show ¬ (48 ≤ x ∧ x ≤ 57) by omega)] at hr
    have hr' := hr.out
    subst hr'
    refine Go.AM.am_seq (by assumption) (n := 153) (l := [(0, .int .i64 1), (7, Go.AM.at64 1 8)]) (t := 6) (r := .bool false) (ret := true) LF.noNum LF.follows (by kernel_rfl) rfl (by decide) (Go.AM.flc (Go.AM.slg (by decide) rfl rfl) (Go.AM.fl1 (Go.AM.sl64 (by decide) rfl h01 h02))) (by kernel_rfl) ?_
    intro tm' w' hb hs ht'
    rw [if_pos rfl]
    go_ret
    exact ⟨by rw [Array.getD_eq_getD_getElem?, ht']; rfl, hb⟩
  ·
    rw [decide_eq_false (show ¬ (48 ≤ x ∧ x ≤ 57) by omega)] at hr
    have hr' := hr.out
    subst hr'
    refine Go.AM.am_seq (by assumption) (n := 153) (l := [(0, .int .i64 1), (7, Go.AM.at64 9 9)]) (t := 6) (r := .bool false) (ret := true) LF.noNum LF.follows (by kernel_rfl) rfl (by decide) (Go.AM.flc (Go.AM.slg (by decide) rfl rfl) (Go.AM.fl1 (Go.AM.sl64 (by decide) rfl h01 h02))) (by kernel_rfl) ?_
    intro tm' w' hb hs ht'
    rw [if_pos rfl]
    go_ret
    exact ⟨by rw [Array.getD_eq_getD_getElem?, ht']; rfl, hb⟩
  ·
    rw [decide_eq_false (show ¬ (48 ≤ x ∧ x ≤ 57) by omega)] at hr
    have hr' := hr.out
    subst hr'
    refine Go.AM.am_seq (by assumption) (n := 153) (l := [(0, .int .i64 1), (7, Go.AM.at64 10 31)]) (t := 6) (r := .bool false) (ret := true) LF.noNum LF.follows (by kernel_rfl) rfl (by decide) (Go.AM.flc (Go.AM.slg (by decide) rfl rfl) (Go.AM.fl1 (Go.AM.sl64 (by decide) rfl h01 h02))) (by kernel_rfl) ?_
    intro tm' w' hb hs ht'
    rw [if_pos rfl]
    go_ret
    exact ⟨by rw [Array.getD_eq_getD_getElem?, ht']; rfl, hb⟩
  ·
    rw [decide_eq_false (show ¬ (48 ≤ x ∧ x ≤ 57) by omega)] at hr
    have hr' := hr.out
    subst hr'
    refine Go.AM.am_seq (by assumption) (n := 153) (l := [(0, .int .i64 1), (7, Go.AM.at64 32 32)]) (t := 6) (r := .bool false) (ret := true) LF.noNum LF.follows (by kernel_rfl) rfl (by decide) (Go.AM.flc (Go.AM.slg (by decide) rfl rfl) (Go.AM.fl1 (Go.AM.sl64 (by decide) rfl h01 h02))) (by kernel_rfl) ?_
    intro tm' w' hb hs ht'
    rw [if_pos rfl]
    go_ret
    exact ⟨by rw [Array.getD_eq_getD_getElem?, ht']; rfl, hb⟩
  ·
    rw [decide_eq_false (show ¬ (48 ≤ x ∧ x ≤ 57) by omega)] at hr
    have hr' := hr.out
    subst hr'
    refine Go.AM.am_seq (by assumption) (n := 153) (l := [(0, .int .i64 1), (7, Go.AM.at64 33 47)]) (t := 6) (r := .bool false) (ret := true) LF.noNum LF.follows (by kernel_rfl) rfl (by decide) (Go.AM.flc (Go.AM.slg (by decide) rfl rfl) (Go.AM.fl1 (Go.AM.sl64 (by decide) rfl h01 h02))) (by kernel_rfl) ?_
    intro tm' w' hb hs ht'
    rw [if_pos rfl]
    go_ret
    exact ⟨by rw [Array.getD_eq_getD_getElem?, ht']; rfl, hb⟩
  ·
    rw [decide_eq_true (show 48 ≤ x ∧ x ≤ 57 by omega)] at hr
    have hr' := hr.out
    subst hr'
    refine Go.AM.am_seq (by assumption) (n := 153) (l := [(0, .int .i64 1), (7, Go.AM.at64 48 48)]) (t := 6) (r := .bool true) (ret := true) LF.noNum LF.follows (by kernel_rfl) rfl (by decide) (Go.AM.flc (Go.AM.slg (by decide) rfl rfl) (Go.AM.fl1 (Go.AM.sl64 (by decide) rfl h01 h02))) (by kernel_rfl) ?_
    intro tm' w' hb hs ht'
    rw [if_pos rfl]
    go_ret
    exact ⟨by rw [Array.getD_eq_getD_getElem?, ht']; rfl, hb⟩
  ·
    rw [decide_eq_true (show 48 ≤ x ∧ x ≤ 57 by omega)] at hr
    have hr' := hr.out
    subst hr'
    refine Go.AM.am_seq (by assumption) (n := 153) (l := [(0, .int .i64 1), (7, Go.AM.at64 49 56)]) (t := 6) (r := .bool true) (ret := true) LF.noNum LF.follows (by kernel_rfl) rfl (by decide) (Go.AM.flc (Go.AM.slg (by decide) rfl rfl) (Go.AM.fl1 (Go.AM.sl64 (by decide) rfl h01 h02))) (by kernel_rfl) ?_
    intro tm' w' hb hs ht'
    rw [if_pos rfl]
    go_ret
    exact ⟨by rw [Array.getD_eq_getD_getElem?, ht']; rfl, hb⟩
  ·
    rw [decide_eq_true (show 48 ≤ x ∧ x ≤ 57 by omega)] at hr
    have hr' := hr.out
    subst hr'
    refine Go.AM.am_seq (by assumption) (n := 153) (l := [(0, .int .i64 1), (7, Go.AM.at64 57 57)]) (t := 6) (r := .bool true) (ret := true) LF.noNum LF.follows (by kernel_rfl) rfl (by decide) (Go.AM.flc (Go.AM.slg (by decide) rfl rfl) (Go.AM.fl1 (Go.AM.sl64 (by decide) rfl h01 h02))) (by kernel_rfl) ?_
    intro tm' w' hb hs ht'
    rw [if_pos rfl]
    go_ret
    exact ⟨by rw [Array.getD_eq_getD_getElem?, ht']; rfl, hb⟩
  ·
    rw [decide_eq_false (show ¬ (48 ≤ x ∧ x ≤ 57) by omega)] at hr
    have hr' := hr.out
    subst hr'
    refine Go.AM.am_seq (by assumption) (n := 153) (l := [(0, .int .i64 1), (7, Go.AM.at64 58 255)]) (t := 6) (r := .bool false) (ret := true) LF.noNum LF.follows (by kernel_rfl) rfl (by decide) (Go.AM.flc (Go.AM.slg (by decide) rfl rfl) (Go.AM.fl1 (Go.AM.sl64 (by decide) rfl h01 h02))) (by kernel_rfl) ?_
    intro tm' w' hb hs ht'
    rw [if_pos rfl]
    go_ret
    exact ⟨by rw [Array.getD_eq_getD_getElem?, ht']; rfl, hb⟩
set_option maxRecDepth 100000 in
set_option maxHeartbeats 2000000 in
theorem sclass2 (w : World) (a : Option Addr) (ts : List Int) (cap : Nat) (i : Nat) (x : Int) (r : Bool) (hr : Hid (decide (48 ≤ x ∧ x ≤ 57 ∨ 65 ≤ x ∧ x ≤ 70 ∨ 97 ≤ x ∧ x ≤ 102) = r)) (hc : ts.length ≤ 2147483648) (ht : Hid (Txt w a ts)) (hi2 : i < ts.length)
    (ex : Hid (byt ts i = x)) (qx : Hid (0 ≤ x ∧ x ≤ 255)) :
    Calls Try.prog 9 #[.int .i64 2, .slice a ts.length cap, .int .i64 i] w fun e w' => e = .returned (.bool r) ∧ Below w.heap.size w w' := by
  go_enter Try.func9, Try.ntmps9
  go_upto_region 4 with (first | (go_at_call 29; refine (byteAt_any w a ts cap _ (by omega) (by omega) (by omega) ht.out).mono ?_; rintro e w' ⟨rfl, rfl⟩))
  rw [ex.out]
  have qx := qx.out
  rcases (show (0 ≤ x ∧ x ≤ 0) ∨ (1 ≤ x ∧ x ≤ 8) ∨ (9 ≤ x ∧ x ≤ 9) ∨ (10 ≤ x ∧ x ≤ 31) ∨ (32 ≤ x ∧ x ≤ 32) ∨ (33 ≤ x ∧ x ≤ 47) ∨ (48 ≤ x ∧ x ≤ 48) ∨ (49 ≤ x ∧ x ≤ 56) ∨ (57 ≤ x ∧ x ≤ 57) ∨ (58 ≤ x ∧ x ≤ 64) ∨ (65 ≤ x ∧ x ≤ 65) ∨ (66 ≤ x ∧ x ≤ 69) ∨ (70 ≤ x ∧ x ≤ 70) ∨ (71 ≤ x ∧ x ≤ 96) ∨ (97 ≤ x ∧ x ≤ 97) ∨ (98 ≤ x ∧ x ≤ 101) ∨ (102 ≤ x ∧ x ≤ 102) ∨ (103 ≤ x ∧ x ≤ 255) by omega) with ⟨h01, h02⟩ | ⟨h01, h02⟩ | ⟨h01, h02⟩ | ⟨h01, h02⟩ | ⟨h01, h02⟩ | ⟨h01, h02⟩ | ⟨h01, h02⟩ | ⟨h01, h02⟩ | ⟨h01, h02⟩ | ⟨h01, h02⟩ | ⟨h01, h02⟩ | ⟨h01, h02⟩ | ⟨h01, h02⟩ | ⟨h01, h02⟩ | ⟨h01, h02⟩ | ⟨h01, h02⟩ | ⟨h01, h02⟩ | ⟨h01, h02⟩
  ·
    rw [decide_eq_false (show ¬ (48 ≤ x ∧ x ≤ 57 ∨ 65 ≤ x ∧ x ≤ 70 ∨ 97 ≤ x ∧ x ≤ 102) by omega)] at hr
    have hr' := hr.out
    subst hr'
    refine Go.AM.am_seq (by assumption) (n := 153) (l := [(0, .int .i64 2), (7, Go.AM.at64 0 0)]) (t := 6) (r := .bool false) (ret := true) LF.noNum LF.follows (by kernel_rfl) rfl (by decide) (Go.AM.flc (Go.AM.slg (by decide) rfl rfl) (Go.AM.fl1 (Go.AM.sl64 (by decide) rfl h01 h02))) (by kernel_rfl) ?_
    intro tm' w' hb hs ht'
    rw [if_pos rfl]
    go_ret
    exact ⟨by rw [Array.getD_eq_getD_getElem?, ht']; rfl, hb⟩
  ·
    rw [decide_eq_false (show ¬ (48 ≤ x ∧ x ≤ 57 ∨ 65 ≤ x ∧ x ≤ 70 ∨ 97 ≤ x ∧ x ≤ 102) by omega)] at hr
    have hr' := hr.out
    subst hr'
    refine Go.AM.am_seq (by assumption) (n := 153) (l := [(0, .int .i64 2), (7, Go.AM.at64 1 8)]) (t := 6) (r := .bool false) (ret := true) LF.noNum LF.follows (by kernel_rfl) rfl (by decide) (Go.AM.flc (Go.AM.slg (by decide) rfl rfl) (Go.AM.fl1 (Go.AM.sl64 (by decide) rfl h01 h02))) (by kernel_rfl) ?_
    intro tm' w' hb hs ht'
    rw [if_pos rfl]
    go_ret
    exact ⟨by rw [Array.getD_eq_getD_getElem?, ht']; rfl, hb⟩
  ·
    rw [decide_eq_false (show ¬ (48 ≤ x ∧ x ≤ 57 ∨ 65 ≤ x ∧ x ≤ 70 ∨ 97 ≤ x ∧ x ≤ 102) by omega)] at hr
    have hr' := hr.out
    subst hr'
    refine Go.AM.am_seq (by assumption) (n := 153) (l := [(0, .int .i64 2), (7, Go.AM.at64 9 9)]) (t := 6) (r := .bool false) (ret := true) LF.noNum LF.follows (by kernel_rfl) rfl (by decide) (Go.AM.flc (Go.AM.slg (by decide) rfl rfl) (Go.AM.fl1 (Go.AM.sl64 (by decide) rfl h01 h02))) (by kernel_rfl) ?_
    intro tm' w' hb hs ht'
    rw [if_pos rfl]
    go_ret
    exact ⟨by rw [Array.getD_eq_getD_getElem?, ht']; rfl, hb⟩
  ·
    rw [decide_eq_false (show ¬ (48 ≤ x ∧ x ≤ 57 ∨ 65 ≤ x ∧ x ≤ 70 ∨ 97 ≤ x ∧ x ≤ 102) by omega)] at hr
    have hr' := hr.out
    subst hr'
    refine Go.AM.am_seq (by assumption) (n := 153) (l := [(0, .int .i64 2), (7, Go.AM.at64 10 31)]) (t := 6) (r := .bool false) (ret := true) LF.noNum LF.follows (by kernel_rfl) rfl (by decide) (Go.AM.flc (Go.AM.slg (by decide) rfl rfl) (Go.AM.fl1 (Go.AM.sl64 (by decide) rfl h01 h02))) (by kernel_rfl) ?_
    intro tm' w' hb hs ht'
    rw [if_pos rfl]
    go_ret
    exact ⟨by rw [Array.getD_eq_getD_getElem?, ht']; rfl, hb⟩
  ·
    rw [decide_eq_false (show ¬ (48 ≤ x ∧ x ≤ 57 ∨ 65 ≤ x ∧ x ≤ 70 ∨ 97 ≤ x ∧ x ≤ 102) by omega)] at hr
    have hr' := hr.out
    subst hr'
    refine Go.AM.am_seq (by assumption) (n := 153) (l := [(0, .int .i64 2), (7, Go.AM.at64 32 32)]) (t := 6) (r := .bool false) (ret := true) LF.noNum LF.follows (by kernel_rfl) rfl (by decide) (Go.AM.flc (Go.AM.slg (by decide) rfl rfl) (Go.AM.fl1 (Go.AM.sl64 (by decide) rfl h01 h02))) (by kernel_rfl) ?_
    intro tm' w' hb hs ht'
    rw [if_pos rfl]
    go_ret
    exact ⟨by rw [Array.getD_eq_getD_getElem?, ht']; rfl, hb⟩
  ·
    rw [decide_eq_false (show ¬ (48 ≤ x ∧ x ≤ 57 ∨ 65 ≤ x ∧ x ≤ 70 ∨ 97 ≤ x ∧ x ≤ 102) by omega)] at hr
    have hr' := hr.out
    subst hr'
    refine Go.AM.am_seq (by assumption) (n := 153) (l := [(0, .int .i64 2), (7, Go.AM.at64 33 47)]) (t := 6) (r := .bool false) (ret := true) LF.noNum LF.follows (by kernel_rfl) rfl (by decide) (Go.AM.flc (Go.AM.slg (by decide) rfl rfl) (Go.AM.fl1 (Go.AM.sl64 (by decide) rfl h01 h02))) (by kernel_rfl) ?_
    intro tm' w' hb hs ht'
    rw [if_pos rfl]
    go_ret
    exact ⟨by rw [Array.getD_eq_getD_getElem?, ht']; rfl, hb⟩
  ·
    rw [decide_eq_true (show 48 ≤ x ∧ x ≤ 57 ∨ 65 ≤ x ∧ x ≤ 70 ∨ 97 ≤ x ∧ x ≤ 102 by omega)] at hr
    have hr' := hr.out
    subst hr'
    refine Go.AM.am_seq (by assumption) (n := 153) (l := [(0, .int .i64 2), (7, Go.AM.at64 48 48)]) (t := 6) (r := .bool true) (ret := true) LF.noNum LF.follows (by kernel_rfl) rfl (by decide) (Go.AM.flc (Go.AM.slg (by decide) rfl rfl) (Go.AM.fl1 (Go.AM.sl64 (by decide) rfl h01 h02))) (by kernel_rfl) ?_
    intro tm' w' hb hs ht'
    rw [if_pos rfl]
    go_ret
    exact ⟨by rw [Array.getD_eq_getD_getElem?, ht']; rfl, hb⟩
  ·
    rw [decide_eq_true (show 48 ≤ x ∧ x ≤ 57 ∨ 65 ≤ x ∧ x ≤ 70 ∨ 97 ≤ x ∧ x ≤ 102 by omega)] at hr
    have hr' := hr.out
    subst hr'
    refine Go.AM.am_seq (by assumption) (n := 153) (l := [(0, .int .i64 2), (7, Go.AM.at64 49 56)]) (t := 6) (r := .bool true) (ret := true) LF.noNum LF.follows (by kernel_rfl) rfl (by decide) (Go.AM.flc (Go.AM.slg (by decide) rfl rfl) (Go.AM.fl1 (Go.AM.sl64 (by decide) rfl h01 h02))) (by kernel_rfl) ?_
    intro tm' w' hb hs ht'
    rw [if_pos rfl]
    go_ret
    exact ⟨by rw [Array.getD_eq_getD_getElem?, ht']; rfl, hb⟩
  ·
    rw [decide_eq_true (show 48 ≤ x ∧ x ≤ 57 ∨ 65 ≤ x ∧ x ≤ 70 ∨ 97 ≤ x ∧ x ≤ 102 by omega)] at hr
    have hr' := hr.out
    subst hr'
    refine Go.AM.am_seq (by assumption) (n := 153) (l := [(0, .int .i64 2), (7, Go.AM.at64 57 57)]) (t := 6) (r := .bool true) (ret := true) LF.noNum LF.follows (by kernel_rfl) rfl (by decide) (Go.AM.flc (Go.AM.slg (by decide) rfl rfl) (Go.AM.fl1 (Go.AM.sl64 (by decide) rfl h01 h02))) (by kernel_rfl) ?_
    intro tm' w' hb hs ht'
    rw [if_pos rfl]
    go_ret
    exact ⟨by rw [Array.getD_eq_getD_getElem?, ht']; rfl, hb⟩
  ·
    rw [decide_eq_false (show ¬ (48 ≤ x ∧ x ≤ 57 ∨ 65 ≤ x ∧ x ≤ 70 ∨ 97 ≤ x ∧ x ≤ 102) by omega)] at hr
    have hr' := hr.out
    subst hr'
    refine Go.AM.am_seq (by assumption) (n := 153) (l := [(0, .int .i64 2), (7, Go.AM.at64 58 64)]) (t := 6) (r := .bool false) (ret := true) LF.noNum LF.follows (by kernel_rfl) rfl (by decide) (Go.AM.flc (Go.AM.slg (by decide) rfl rfl) (Go.AM.fl1 (Go.AM.sl64 (by decide) rfl h01 h02))) (by kernel_rfl) ?_
    intro tm' w' hb hs ht'
    rw [if_pos rfl]
    go_ret
    exact ⟨by rw [Array.getD_eq_getD_getElem?, ht']; rfl, hb⟩
  ·
    rw [decide_eq_true (show 48 ≤ x ∧ x ≤ 57 ∨ 65 ≤ x ∧ x ≤ 70 ∨ 97 ≤ x ∧ x ≤ 102 by omega)] at hr
    have hr' := hr.out
    subst hr'
    refine Go.AM.am_seq (by assumption) (n := 153) (l := [(0, .int .i64 2), (7, Go.AM.at64 65 65)]) (t := 6) (r := .bool true) (ret := true) LF.noNum LF.follows (by kernel_rfl) rfl (by decide) (Go.AM.flc (Go.AM.slg (by decide) rfl rfl) (Go.AM.fl1 (Go.AM.sl64 (by decide) rfl h01 h02))) (by kernel_rfl) ?_
    intro tm' w' hb hs ht'
    rw [if_pos rfl]
    go_ret
    exact ⟨by rw [Array.getD_eq_getD_getElem?, ht']; rfl, hb⟩
  ·
    rw [decide_eq_true (show 48 ≤ x ∧ x ≤ 57 ∨ 65 ≤ x ∧ x ≤ 70 ∨ 97 ≤ x ∧ x ≤ 102 by omega)] at hr
    have hr' := hr.out
    subst hr'
    refine Go.AM.am_seq (by assumption) (n := 153) (l := [(0, .int .i64 2), (7, Go.AM.at64 66 69)]) (t := 6) (r := .bool true) (ret := true) LF.noNum LF.follows (by kernel_rfl) rfl (by decide) (Go.AM.flc (Go.AM.slg (by decide) rfl rfl) (Go.AM.fl1 (Go.AM.sl64 (by decide) rfl h01 h02))) (by kernel_rfl) ?_
    intro tm' w' hb hs ht'
    rw [if_pos rfl]
    go_ret
    exact ⟨by rw [Array.getD_eq_getD_getElem?, ht']; rfl, hb⟩
  ·
    rw [decide_eq_true (show 48 ≤ x ∧ x ≤ 57 ∨ 65 ≤ x ∧ x ≤ 70 ∨ 97 ≤ x ∧ x ≤ 102 by omega)] at hr
    have hr' := hr.out
    subst hr'
    refine Go.AM.am_seq (by assumption) (n := 153) (l := [(0, .int .i64 2), (7, Go.AM.at64 70 70)]) (t := 6) (r := .bool true) (ret := true) LF.noNum LF.follows (by kernel_rfl) rfl (by decide) (Go.AM.flc (Go.AM.slg (by decide) rfl rfl) (Go.AM.fl1 (Go.AM.sl64 (by decide) rfl h01 h02))) (by kernel_rfl) ?_
    intro tm' w' hb hs ht'
    rw [if_pos rfl]
    go_ret
    exact ⟨by rw [Array.getD_eq_getD_getElem?, ht']; rfl, hb⟩
  ·
    rw [decide_eq_false (show ¬ (48 ≤ x ∧ x ≤ 57 ∨ 65 ≤ x ∧ x ≤ 70 ∨ 97 ≤ x ∧ x ≤ 102) by omega)] at hr
    have hr' := hr.out
    subst hr'
    refine Go.AM.am_seq (by assumption) (n := 153) (l := [(0, .int .i64 2), (7, Go.AM.at64 71 96)]) (t := 6) (r := .bool false) (ret := true) LF.noNum LF.follows (by kernel_rfl) rfl (by decide) (Go.AM.flc (Go.AM.slg (by decide) rfl rfl) (Go.AM.fl1 (Go.AM.sl64 (by decide) rfl h01 h02))) (by kernel_rfl) ?_
    intro tm' w' hb hs ht'
    rw [if_pos rfl]
    go_ret
    exact ⟨by rw [Array.getD_eq_getD_getElem?, ht']; rfl, hb⟩
  ·
    rw [decide_eq_true (show 48 ≤ x ∧ x ≤ 57 ∨ 65 ≤ x ∧ x ≤ 70 ∨ 97 ≤ x ∧ x ≤ 102 by omega)] at hr
    have hr' := hr.out
    subst hr'
    refine Go.AM.am_seq (by assumption) (n := 153) (l := [(0, .int .i64 2), (7, Go.AM.at64 97 97)]) (t := 6) (r := .bool true) (ret := true) LF.noNum LF.follows (by kernel_rfl) rfl (by decide) (Go.AM.flc (Go.AM.slg (by decide) rfl rfl) (Go.AM.fl1 (Go.AM.sl64 (by decide) rfl h01 h02))) (by kernel_rfl) ?_
    intro tm' w' hb hs ht'
    rw [if_pos rfl]
    go_ret
    exact ⟨by rw [Array.getD_eq_getD_getElem?, ht']; rfl, hb⟩
  ·
    rw [decide_eq_true (show 48 ≤ x ∧ x ≤ 57 ∨ 65 ≤ x ∧ x ≤ 70 ∨ 97 ≤ x ∧ x ≤ 102 by omega)] at hr
    have hr' := hr.out
    subst hr'
    refine Go.AM.am_seq (by assumption) (n := 153) (l := [(0, .int .i64 2), (7, Go.AM.at64 98 101)]) (t := 6) (r := .bool true) (ret := true) LF.noNum LF.follows (by kernel_rfl) rfl (by decide) (Go.AM.flc (Go.AM.slg (by decide) rfl rfl) (Go.AM.fl1 (Go.AM.sl64 (by decide) rfl h01 h02))) (by kernel_rfl) ?_
    intro tm' w' hb hs ht'
    rw [if_pos rfl]
    go_ret
    exact ⟨by rw [Array.getD_eq_getD_getElem?, ht']; rfl, hb⟩
  ·
    rw [decide_eq_true (show 48 ≤ x ∧ x ≤ 57 ∨ 65 ≤ x ∧ x ≤ 70 ∨ 97 ≤ x ∧ x ≤ 102 by omega)] at hr
    have hr' := hr.out
    subst hr'
    refine Go.AM.am_seq (by assumption) (n := 153) (l := [(0, .int .i64 2), (7, Go.AM.at64 102 102)]) (t := 6) (r := .bool true) (ret := true) LF.noNum LF.follows (by kernel_rfl) rfl (by decide) (Go.AM.flc (Go.AM.slg (by decide) rfl rfl) (Go.AM.fl1 (Go.AM.sl64 (by decide) rfl h01 h02))) (by kernel_rfl) ?_
    intro tm' w' hb hs ht'
    rw [if_pos rfl]
    go_ret
    exact ⟨by rw [Array.getD_eq_getD_getElem?, ht']; rfl, hb⟩
  ·
    rw [decide_eq_false (show ¬ (48 ≤ x ∧ x ≤ 57 ∨ 65 ≤ x ∧ x ≤ 70 ∨ 97 ≤ x ∧ x ≤ 102) by omega)] at hr
    have hr' := hr.out
    subst hr'
    refine Go.AM.am_seq (by assumption) (n := 153) (l := [(0, .int .i64 2), (7, Go.AM.at64 103 255)]) (t := 6) (r := .bool false) (ret := true) LF.noNum LF.follows (by kernel_rfl) rfl (by decide) (Go.AM.flc (Go.AM.slg (by decide) rfl rfl) (Go.AM.fl1 (Go.AM.sl64 (by decide) rfl h01 h02))) (by kernel_rfl) ?_
    intro tm' w' hb hs ht'
    rw [if_pos rfl]
    go_ret
    exact ⟨by rw [Array.getD_eq_getD_getElem?, ht']; rfl, hb⟩
set_option maxRecDepth 100000 in
set_option maxHeartbeats 2000000 in
theorem sclass3 (w : World) (a : Option Addr) (ts : List Int) (cap : Nat) (i : Nat) (x : Int) (r : Bool) (hr : Hid (decide (x ≤ 127) = r)) (hc : ts.length ≤ 2147483648) (ht : Hid (Txt w a ts)) (hi2 : i < ts.length)
    (ex : Hid (byt ts i = x)) (qx : Hid (0 ≤ x ∧ x ≤ 255)) :
    Calls Try.prog 9 #[.int .i64 3, .slice a ts.length cap, .int .i64 i] w fun e w' => e = .returned (.bool r) ∧ Below w.heap.size w w' := by
  go_enter Try.func9, Try.ntmps9
  go_upto_region 4 with (first | (go_at_call 29; refine (byteAt_any w a ts cap _ (by omega) (by omega) (by omega) ht.out).mono ?_; rintro e w' ⟨rfl, rfl⟩))
  rw [ex.out]
  have qx := qx.out
  rcases (show (0 ≤ x ∧ x ≤ 0) ∨ (1 ≤ x ∧ x ≤ 8) ∨ (9 ≤ x ∧ x ≤ 9) ∨ (10 ≤ x ∧ x ≤ 31) ∨ (32 ≤ x ∧ x ≤ 32) ∨ (33 ≤ x ∧ x ≤ 47) ∨ (48 ≤ x ∧ x ≤ 48) ∨ (49 ≤ x ∧ x ≤ 56) ∨ (57 ≤ x ∧ x ≤ 57) ∨ (58 ≤ x ∧ x ≤ 126) ∨ (127 ≤ x ∧ x ≤ 127) ∨ (128 ≤ x ∧ x ≤ 255) by omega) with ⟨h01, h02⟩ | ⟨h01, h02⟩ | ⟨h01, h02⟩ | ⟨h01, h02⟩ | ⟨h01, h02⟩ | ⟨h01, h02⟩ | ⟨h01, h02⟩ | ⟨h01, h02⟩ | ⟨h01, h02⟩ | ⟨h01, h02⟩ | ⟨h01, h02⟩ | ⟨h01, h02⟩
  ·
    rw [decide_eq_true (show x ≤ 127 by omega)] at hr
    have hr' := hr.out
    subst hr'
    refine Go.AM.am_seq (by assumption) (n := 153) (l := [(0, .int .i64 3), (7, Go.AM.at64 0 0)]) (t := 6) (r := .bool true) (ret := true) LF.noNum LF.follows (by kernel_rfl) rfl (by decide) (Go.AM.flc (Go.AM.slg (by decide) rfl rfl) (Go.AM.fl1 (Go.AM.sl64 (by decide) rfl h01 h02))) (by kernel_rfl) ?_
    intro tm' w' hb hs ht'
    rw [if_pos rfl]
    go_ret
    exact ⟨by rw [Array.getD_eq_getD_getElem?, ht']; rfl, hb⟩
  ·
    rw [decide_eq_true (show x ≤ 127 by omega)] at hr
    have hr' := hr.out
    subst hr'
    refine Go.AM.am_seq (by assumption) (n := 153) (l := [(0, .int .i64 3), (7, Go.AM.at64 1 8)]) (t := 6) (r := .bool true) (ret := true) LF.noNum LF.follows (by kernel_rfl) rfl (by decide) (Go.AM.flc (Go.AM.slg (by decide) rfl rfl) (Go.AM.fl1 (Go.AM.sl64 (by decide) rfl h01 h02))) (by kernel_rfl) ?_
    intro tm' w' hb hs ht'
    rw [if_pos rfl]
    go_ret
    exact ⟨by rw [Array.getD_eq_getD_getElem?, ht']; rfl, hb⟩
  ·
    rw [decide_eq_true (show x ≤ 127 by omega)] at hr
    have hr' := hr.out
    subst hr'
    refine Go.AM.am_seq (by assumption) (n := 153) (l := [(0, .int .i64 3), (7, Go.AM.at64 9 9)]) (t := 6) (r := .bool true) (ret := true) LF.noNum LF.follows (by kernel_rfl) rfl (by decide) (Go.AM.flc (Go.AM.slg (by decide) rfl rfl) (Go.AM.fl1 (Go.AM.sl64 (by decide) rfl h01 h02))) (by kernel_rfl) ?_
    intro tm' w' hb hs ht'
    rw [if_pos rfl]
    go_ret
    exact ⟨by rw [Array.getD_eq_getD_getElem?, ht']; rfl, hb⟩
  ·
    rw [decide_eq_true (show x ≤ 127 by omega)] at hr
    have hr' := hr.out
    subst hr'
    refine Go.AM.am_seq (by assumption) (n := 153) (l := [(0, .int .i64 3), (7, Go.AM.at64 10 31)]) (t := 6) (r := .bool true) (ret := true) LF.noNum LF.follows (by kernel_rfl) rfl (by decide) (Go.AM.flc (Go.AM.slg (by decide) rfl rfl) (Go.AM.fl1 (Go.AM.sl64 (by decide) rfl h01 h02))) (by kernel_rfl) ?_
    intro tm' w' hb hs ht'
    rw [if_pos rfl]
    go_ret
    exact ⟨by rw [Array.getD_eq_getD_getElem?, ht']; rfl, hb⟩
  ·
    rw [decide_eq_true (show x ≤ 127 by omega)] at hr
    have hr' := hr.out
    subst hr'
    refine Go.AM.am_seq (by assumption) (n := 153) (l := [(0, .int .i64 3), (7, Go.AM.at64 32 32)]) (t := 6) (r := .bool true) (ret := true) LF.noNum LF.follows (by kernel_rfl) rfl (by decide) (Go.AM.flc (Go.AM.slg (by decide) rfl rfl) (Go.AM.fl1 (Go.AM.sl64 (by decide) rfl h01 h02))) (by kernel_rfl) ?_
    intro tm' w' hb hs ht'
    rw [if_pos rfl]
    go_ret
    exact ⟨by rw [Array.getD_eq_getD_getElem?, ht']; rfl, hb⟩
  ·
    rw [decide_eq_true (show x ≤ 127 by omega)] at hr
    have hr' := hr.out
    subst hr'
    refine Go.AM.am_seq (by assumption) (n := 153) (l := [(0, .int .i64 3), (7, Go.AM.at64 33 47)]) (t := 6) (r := .bool true) (ret := true) LF.noNum LF.follows (by kernel_rfl) rfl (by decide) (Go.AM.flc (Go.AM.slg (by decide) rfl rfl) (Go.AM.fl1 (Go.AM.sl64 (by decide) rfl h01 h02))) (by kernel_rfl) ?_
    intro tm' w' hb hs ht'
    rw [if_pos rfl]
    go_ret
    exact ⟨by rw [Array.getD_eq_getD_getElem?, ht']; rfl, hb⟩
  ·
    rw [decide_eq_true (show x ≤ 127 by omega)] at hr
    have hr' := hr.out
    subst hr'
    refine Go.AM.am_seq (by assumption) (n := 153) (l := [(0, .int .i64 3), (7, Go.AM.at64 48 48)]) (t := 6) (r := .bool true) (ret := true) LF.noNum LF.follows (by kernel_rfl) rfl (by decide) (Go.AM.flc (Go.AM.slg (by decide) rfl rfl) (Go.AM.fl1 (Go.AM.sl64 (by decide) rfl h01 h02))) (by kernel_rfl) ?_
    intro tm' w' hb hs ht'
    rw [if_pos rfl]
    go_ret
    exact ⟨by rw [Array.getD_eq_getD_getElem?, ht']; rfl, hb⟩
  ·
    rw [decide_eq_true (show x ≤ 127 by omega)] at hr
    have hr' := hr.out
    subst hr'
    refine Go.AM.am_seq (by assumption) (n := 153) (l := [(0, .int .i64 3), (7, Go.AM.at64 49 56)]) (t := 6) (r := .bool true) (ret := true) LF.noNum LF.follows (by kernel_rfl) rfl (by decide) (Go.AM.flc (Go.AM.slg (by decide) rfl rfl) (Go.AM.fl1 (Go.AM.sl64 (by decide) rfl h01 h02))) (by kernel_rfl) ?_
    intro tm' w' hb hs ht'
    rw [if_pos rfl]
    go_ret
    exact ⟨by rw [Array.getD_eq_getD_getElem?, ht']; rfl, hb⟩
  ·
    rw [decide_eq_true (show x ≤ 127 by omega)] at hr
    have hr' := hr.out
    subst hr'
    refine Go.AM.am_seq (by assumption) (n := 153) (l := [(0, .int .i64 3), (7, Go.AM.at64 57 57)]) (t := 6) (r := .bool true) (ret := true) LF.noNum LF.follows (by kernel_rfl) rfl (by decide) (Go.AM.flc (Go.AM.slg (by decide) rfl rfl) (Go.AM.fl1 (Go.AM.sl64 (by decide) rfl h01 h02))) (by kernel_rfl) ?_
    intro tm' w' hb hs ht'
    rw [if_pos rfl]
    go_ret
    exact ⟨by rw [Array.getD_eq_getD_getElem?, ht']; rfl, hb⟩
  ·
    rw [decide_eq_true (show x ≤ 127 by omega)] at hr
    have hr' := hr.out
    subst hr'
    refine Go.AM.am_seq (by assumption) (n := 153) (l := [(0, .int .i64 3), (7, Go.AM.at64 58 126)]) (t := 6) (r := .bool true) (ret := true) LF.noNum LF.follows (by kernel_rfl) rfl (by decide) (Go.AM.flc (Go.AM.slg (by decide) rfl rfl) (Go.AM.fl1 (Go.AM.sl64 (by decide) rfl h01 h02))) (by kernel_rfl) ?_
    intro tm' w' hb hs ht'
    rw [if_pos rfl]
    go_ret
    exact ⟨by rw [Array.getD_eq_getD_getElem?, ht']; rfl, hb⟩
  ·
    rw [decide_eq_true (show x ≤ 127 by omega)] at hr
    have hr' := hr.out
    subst hr'
    refine Go.AM.am_seq (by assumption) (n := 153) (l := [(0, .int .i64 3), (7, Go.AM.at64 127 127)]) (t := 6) (r := .bool true) (ret := true) LF.noNum LF.follows (by kernel_rfl) rfl (by decide) (Go.AM.flc (Go.AM.slg (by decide) rfl rfl) (Go.AM.fl1 (Go.AM.sl64 (by decide) rfl h01 h02))) (by kernel_rfl) ?_
    intro tm' w' hb hs ht'
    rw [if_pos rfl]
    go_ret
    exact ⟨by rw [Array.getD_eq_getD_getElem?, ht']; rfl, hb⟩
  ·
    rw [decide_eq_false (show ¬ (x ≤ 127) by omega)] at hr
    have hr' := hr.out
    subst hr'
    refine Go.AM.am_seq (by assumption) (n := 153) (l := [(0, .int .i64 3), (7, Go.AM.at64 128 255)]) (t := 6) (r := .bool false) (ret := true) LF.noNum LF.follows (by kernel_rfl) rfl (by decide) (Go.AM.flc (Go.AM.slg (by decide) rfl rfl) (Go.AM.fl1 (Go.AM.sl64 (by decide) rfl h01 h02))) (by kernel_rfl) ?_
    intro tm' w' hb hs ht'
    rw [if_pos rfl]
    go_ret
    exact ⟨by rw [Array.getD_eq_getD_getElem?, ht']; rfl, hb⟩
set_option maxRecDepth 100000 in
set_option maxHeartbeats 2000000 in
theorem sclass5 (w : World) (a : Option Addr) (ts : List Int) (cap : Nat) (i : Nat) (x : Int) (r : Bool) (hr : Hid (decide (x = 0) = r)) (hc : ts.length ≤ 2147483648) (ht : Hid (Txt w a ts)) (hi2 : i < ts.length)
    (ex : Hid (byt ts i = x)) (qx : Hid (0 ≤ x ∧ x ≤ 255)) :
    Calls Try.prog 9 #[.int .i64 5, .slice a ts.length cap, .int .i64 i] w fun e w' => e = .returned (.bool r) ∧ Below w.heap.size w w' := by
  go_enter Try.func9, Try.ntmps9
  go_upto_region 4 with (first | (go_at_call 29; refine (byteAt_any w a ts cap _ (by omega) (by omega) (by omega) ht.out).mono ?_; rintro e w' ⟨rfl, rfl⟩))
  rw [ex.out]
  have qx := qx.out
  rcases (show (0 ≤ x ∧ x ≤ 0) ∨ (1 ≤ x ∧ x ≤ 8) ∨ (9 ≤ x ∧ x ≤ 9) ∨ (10 ≤ x ∧ x ≤ 31) ∨ (32 ≤ x ∧ x ≤ 32) ∨ (33 ≤ x ∧ x ≤ 47) ∨ (48 ≤ x ∧ x ≤ 48) ∨ (49 ≤ x ∧ x ≤ 56) ∨ (57 ≤ x ∧ x ≤ 57) ∨ (58 ≤ x ∧ x ≤ 255) by omega) with ⟨h01, h02⟩ | ⟨h01, h02⟩ | ⟨h01, h02⟩ | ⟨h01, h02⟩ | ⟨h01, h02⟩ | ⟨h01, h02⟩ | ⟨h01, h02⟩ | ⟨h01, h02⟩ | ⟨h01, h02⟩ | ⟨h01, h02⟩
  ·
    rw [decide_eq_true (show x = 0 by omega)] at hr
    have hr' := hr.out
    subst hr'
    refine Go.AM.am_seq (by assumption) (n := 153) (l := [(0, .int .i64 5), (7, Go.AM.at64 0 0)]) (t := 6) (r := .bool true) (ret := true) LF.noNum LF.follows (by kernel_rfl) rfl (by decide) (Go.AM.flc (Go.AM.slg (by decide) rfl rfl) (Go.AM.fl1 (Go.AM.sl64 (by decide) rfl h01 h02))) (by kernel_rfl) ?_
    intro tm' w' hb hs ht'
    rw [if_pos rfl]
    go_ret
    exact ⟨by rw [Array.getD_eq_getD_getElem?, ht']; rfl, hb⟩
  ·
    rw [decide_eq_false (show ¬ (x = 0) by omega)] at hr
    have hr' := hr.out
    subst hr'
    refine Go.AM.am_seq (by assumption) (n := 153) (l := [(0, .int .i64 5), (7, Go.AM.at64 1 8)]) (t := 6) (r := .bool false) (ret := true) LF.noNum LF.follows (by kernel_rfl) rfl (by decide) (Go.AM.flc (Go.AM.slg (by decide) rfl rfl) (Go.AM.fl1 (Go.AM.sl64 (by decide) rfl h01 h02))) (by kernel_rfl) ?_
    intro tm' w' hb hs ht'
    rw [if_pos rfl]
    go_ret
    exact ⟨by rw [Array.getD_eq_getD_getElem?, ht']; rfl, hb⟩
  ·
    rw [decide_eq_false (show ¬ (x = 0) by omega)] at hr
    have hr' := hr.out
    subst hr'
    refine Go.AM.am_seq (by assumption) (n := 153) (l := [(0, .int .i64 5), (7, Go.AM.at64 9 9)]) (t := 6) (r := .bool false) (ret := true) LF.noNum LF.follows (by kernel_rfl) rfl (by decide) (Go.AM.flc (Go.AM.slg (by decide) rfl rfl) (Go.AM.fl1 (Go.AM.sl64 (by decide) rfl h01 h02))) (by kernel_rfl) ?_
    intro tm' w' hb hs ht'
    rw [if_pos rfl]
    go_ret
    exact ⟨by rw [Array.getD_eq_getD_getElem?, ht']; rfl, hb⟩
  ·
    rw [decide_eq_false (show ¬ (x = 0) by omega)] at hr
    have hr' := hr.out
    subst hr'
    refine Go.AM.am_seq (by assumption) (n := 153) (l := [(0, .int .i64 5), (7, Go.AM.at64 10 31)]) (t := 6) (r := .bool false) (ret := true) LF.noNum LF.follows (by kernel_rfl) rfl (by decide) (Go.AM.flc (Go.AM.slg (by decide) rfl rfl) (Go.AM.fl1 (Go.AM.sl64 (by decide) rfl h01 h02))) (by kernel_rfl) ?_
    intro tm' w' hb hs ht'
    rw [if_pos rfl]
    go_ret
    exact ⟨by rw [Array.getD_eq_getD_getElem?, ht']; rfl, hb⟩
  ·
    rw [decide_eq_false (show ¬ (x = 0) by omega)] at hr
    have hr' := hr.out
    subst hr'
    refine Go.AM.am_seq (by assumption) (n := 153) (l := [(0, .int .i64 5), (7, Go.AM.at64 32 32)]) (t := 6) (r := .bool false) (ret := true) LF.noNum LF.follows (by kernel_rfl) rfl (by decide) (Go.AM.flc (Go.AM.slg (by decide) rfl rfl) (Go.AM.fl1 (Go.AM.sl64 (by decide) rfl h01 h02))) (by kernel_rfl) ?_
    intro tm' w' hb hs ht'
    rw [if_pos rfl]
    go_ret
    exact ⟨by rw [Array.getD_eq_getD_getElem?, ht']; rfl, hb⟩
  ·
    rw [decide_eq_false (show ¬ (x = 0) by omega)] at hr
    have hr' := hr.out
    subst hr'
    refine Go.AM.am_seq (by assumption) (n := 153) (l := [(0, .int .i64 5), (7, Go.AM.at64 33 47)]) (t := 6) (r := .bool false) (ret := true) LF.noNum LF.follows (by kernel_rfl) rfl (by decide) (Go.AM.flc (Go.AM.slg (by decide) rfl rfl) (Go.AM.fl1 (Go.AM.sl64 (by decide) rfl h01 h02))) (by kernel_rfl) ?_
    intro tm' w' hb hs ht'
    rw [if_pos rfl]
    go_ret
    exact ⟨by rw [Array.getD_eq_getD_getElem?, ht']; rfl, hb⟩
  ·
    rw [decide_eq_false (show ¬ (x = 0) by omega)] at hr
    have hr' := hr.out
    subst hr'
    refine Go.AM.am_seq (by assumption) (n := 153) (l := [(0, .int .i64 5), (7, Go.AM.at64 48 48)]) (t := 6) (r := .bool false) (ret := true) LF.noNum LF.follows (by kernel_rfl) rfl (by decide) (Go.AM.flc (Go.AM.slg (by decide) rfl rfl) (Go.AM.fl1 (Go.AM.sl64 (by decide) rfl h01 h02))) (by kernel_rfl) ?_
    intro tm' w' hb hs ht'
    rw [if_pos rfl]
    go_ret
    exact ⟨by rw [Array.getD_eq_getD_getElem?, ht']; rfl, hb⟩
  ·
    rw [decide_eq_false (show ¬ (x = 0) by omega)] at hr
    have hr' := hr.out
    subst hr'
    refine Go.AM.am_seq (by assumption) (n := 153) (l := [(0, .int .i64 5), (7, Go.AM.at64 49 56)]) (t := 6) (r := .bool false) (ret := true) LF.noNum LF.follows (by kernel_rfl) rfl (by decide) (Go.AM.flc (Go.AM.slg (by decide) rfl rfl) (Go.AM.fl1 (Go.AM.sl64 (by decide) rfl h01 h02))) (by kernel_rfl) ?_
    intro tm' w' hb hs ht'
    rw [if_pos rfl]
    go_ret
    exact ⟨by rw [Array.getD_eq_getD_getElem?, ht']; rfl, hb⟩
  ·
    rw [decide_eq_false (show ¬ (x = 0) by omega)] at hr
    have hr' := hr.out
    subst hr'
    refine Go.AM.am_seq (by assumption) (n := 153) (l := [(0, .int .i64 5), (7, Go.AM.at64 57 57)]) (t := 6) (r := .bool false) (ret := true) LF.noNum LF.follows (by kernel_rfl) rfl (by decide) (Go.AM.flc (Go.AM.slg (by decide) rfl rfl) (Go.AM.fl1 (Go.AM.sl64 (by decide) rfl h01 h02))) (by kernel_rfl) ?_
    intro tm' w' hb hs ht'
    rw [if_pos rfl]
    go_ret
    exact ⟨by rw [Array.getD_eq_getD_getElem?, ht']; rfl, hb⟩
  ·
    rw [decide_eq_false (show ¬ (x = 0) by omega)] at hr
    have hr' := hr.out
    subst hr'
    refine Go.AM.am_seq (by assumption) (n := 153) (l := [(0, .int .i64 5), (7, Go.AM.at64 58 255)]) (t := 6) (r := .bool false) (ret := true) LF.noNum LF.follows (by kernel_rfl) rfl (by decide) (Go.AM.flc (Go.AM.slg (by decide) rfl rfl) (Go.AM.fl1 (Go.AM.sl64 (by decide) rfl h01 h02))) (by kernel_rfl) ?_
    intro tm' w' hb hs ht'
    rw [if_pos rfl]
    go_ret
    exact ⟨by rw [Array.getD_eq_getD_getElem?, ht']; rfl, hb⟩
set_option maxRecDepth 100000 in
set_option maxHeartbeats 2000000 in
theorem sclass7 (w : World) (a : Option Addr) (ts : List Int) (cap : Nat) (i : Nat) (x : Int) (r : Bool) (hr : Hid (decide (x = 32) = r)) (hc : ts.length ≤ 2147483648) (ht : Hid (Txt w a ts)) (hi2 : i < ts.length)
    (ex : Hid (byt ts i = x)) (qx : Hid (0 ≤ x ∧ x ≤ 255)) :
    Calls Try.prog 9 #[.int .i64 7, .slice a ts.length cap, .int .i64 i] w fun e w' => e = .returned (.bool r) ∧ Below w.heap.size w w' := by
  go_enter Try.func9, Try.ntmps9
  go_upto_region 4 with (first | (go_at_call 29; refine (byteAt_any w a ts cap _ (by omega) (by omega) (by omega) ht.out).mono ?_; rintro e w' ⟨rfl, rfl⟩))
  rw [ex.out]
  have qx := qx.out
  rcases (show (0 ≤ x ∧ x ≤ 0) ∨ (1 ≤ x ∧ x ≤ 8) ∨ (9 ≤ x ∧ x ≤ 9) ∨ (10 ≤ x ∧ x ≤ 31) ∨ (32 ≤ x ∧ x ≤ 32) ∨ (33 ≤ x ∧ x ≤ 47) ∨ (48 ≤ x ∧ x ≤ 48) ∨ (49 ≤ x ∧ x ≤ 56) ∨ (57 ≤ x ∧ x ≤ 57) ∨ (58 ≤ x ∧ x ≤ 255) by omega) with ⟨h01, h02⟩ | ⟨h01, h02⟩ | ⟨h01, h02⟩ | ⟨h01, h02⟩ | ⟨h01, h02⟩ | ⟨h01, h02⟩ | ⟨h01, h02⟩ | ⟨h01, h02⟩ | ⟨h01, h02⟩ | ⟨h01, h02⟩
  ·
    rw [decide_eq_false (show ¬ (x = 32) by omega)] at hr
    have hr' := hr.out
    subst hr'
    refine Go.AM.am_seq (by assumption) (n := 153) (l := [(0, .int .i64 7), (7, Go.AM.at64 0 0)]) (t := 6) (r := .bool false) (ret := true) LF.noNum LF.follows (by kernel_rfl) rfl (by decide) (Go.AM.flc (Go.AM.slg (by decide) rfl rfl) (Go.AM.fl1 (Go.AM.sl64 (by decide) rfl h01 h02))) (by kernel_rfl) ?_
    intro tm' w' hb hs ht'
    rw [if_pos rfl]
    go_ret
    exact ⟨by rw [Array.getD_eq_getD_getElem?, ht']; rfl, hb⟩
  ·
    rw [decide_eq_false (show ¬ (x = 32) by omega)] at hr
    have hr' := hr.out
    subst hr'
    refine Go.AM.am_seq (by assumption) (n := 153) (l := [(0, .int .i64 7), (7, Go.AM.at64 1 8)]) (t := 6) (r := .bool false) (ret := true) LF.noNum LF.follows (by kernel_rfl) rfl (by decide) (Go.AM.flc (Go.AM.slg (by decide) rfl rfl) (Go.AM.fl1 (Go.AM.sl64 (by decide) rfl h01 h02))) (by kernel_rfl) ?_
    intro tm' w' hb hs ht'
    rw [if_pos rfl]
    go_ret
    exact ⟨by rw [Array.getD_eq_getD_getElem?, ht']; rfl, hb⟩
  ·
    rw [decide_eq_false (show ¬ (x = 32) by omega)] at hr
    have hr' := hr.out
    subst hr'
    refine Go.AM.am_seq (by assumption) (n := 153) (l := [(0, .int .i64 7), (7, Go.AM.at64 9 9)]) (t := 6) (r := .bool false) (ret := true) LF.noNum LF.follows (by kernel_rfl) rfl (by decide) (Go.AM.flc (Go.AM.slg (by decide) rfl rfl) (Go.AM.fl1 (Go.AM.sl64 (by decide) rfl h01 h02))) (by kernel_rfl) ?_
    intro tm' w' hb hs ht'
    rw [if_pos rfl]
    go_ret
    exact ⟨by rw [Array.getD_eq_getD_getElem?, ht']; rfl, hb⟩
  ·
    rw [decide_eq_false (show ¬ (x = 32) by omega)] at hr
    have hr' := hr.out
    subst hr'
    refine Go.AM.am_seq (by assumption) (n := 153) (l := [(0, .int .i64 7), (7, Go.AM.at64 10 31)]) (t := 6) (r := .bool false) (ret := true) LF.noNum LF.follows (by kernel_rfl) rfl (by decide) (Go.AM.flc (Go.AM.slg (by decide) rfl rfl) (Go.AM.fl1 (Go.AM.sl64 (by decide) rfl h01 h02))) (by kernel_rfl) ?_
    intro tm' w' hb hs ht'
    rw [if_pos rfl]
    go_ret
    exact ⟨by rw [Array.getD_eq_getD_getElem?, ht']; rfl, hb⟩
  ·
    rw [decide_eq_true (show x = 32 by omega)] at hr
    have hr' := hr.out
    subst hr'
    refine Go.AM.am_seq (by assumption) (n := 153) (l := [(0, .int .i64 7), (7, Go.AM.at64 32 32)]) (t := 6) (r := .bool true) (ret := true) LF.noNum LF.follows (by kernel_rfl) rfl (by decide) (Go.AM.flc (Go.AM.slg (by decide) rfl rfl) (Go.AM.fl1 (Go.AM.sl64 (by decide) rfl h01 h02))) (by kernel_rfl) ?_
    intro tm' w' hb hs ht'
    rw [if_pos rfl]
    go_ret
    exact ⟨by rw [Array.getD_eq_getD_getElem?, ht']; rfl, hb⟩
  ·
    rw [decide_eq_false (show ¬ (x = 32) by omega)] at hr
    have hr' := hr.out
    subst hr'
    refine Go.AM.am_seq (by assumption) (n := 153) (l := [(0, .int .i64 7), (7, Go.AM.at64 33 47)]) (t := 6) (r := .bool false) (ret := true) LF.noNum LF.follows (by kernel_rfl) rfl (by decide) (Go.AM.flc (Go.AM.slg (by decide) rfl rfl) (Go.AM.fl1 (Go.AM.sl64 (by decide) rfl h01 h02))) (by kernel_rfl) ?_
    intro tm' w' hb hs ht'
    rw [if_pos rfl]
    go_ret
    exact ⟨by rw [Array.getD_eq_getD_getElem?, ht']; rfl, hb⟩
  ·
    rw [decide_eq_false (show ¬ (x = 32) by omega)] at hr
    have hr' := hr.out
    subst hr'
    refine Go.AM.am_seq (by assumption) (n := 153) (l := [(0, .int .i64 7), (7, Go.AM.at64 48 48)]) (t := 6) (r := .bool false) (ret := true) LF.noNum LF.follows (by kernel_rfl) rfl (by decide) (Go.AM.flc (Go.AM.slg (by decide) rfl rfl) (Go.AM.fl1 (Go.AM.sl64 (by decide) rfl h01 h02))) (by kernel_rfl) ?_
    intro tm' w' hb hs ht'
    rw [if_pos rfl]
    go_ret
    exact ⟨by rw [Array.getD_eq_getD_getElem?, ht']; rfl, hb⟩
  ·
    rw [decide_eq_false (show ¬ (x = 32) by omega)] at hr
    have hr' := hr.out
    subst hr'
    refine Go.AM.am_seq (by assumption) (n := 153) (l := [(0, .int .i64 7), (7, Go.AM.at64 49 56)]) (t := 6) (r := .bool false) (ret := true) LF.noNum LF.follows (by kernel_rfl) rfl (by decide) (Go.AM.flc (Go.AM.slg (by decide) rfl rfl) (Go.AM.fl1 (Go.AM.sl64 (by decide) rfl h01 h02))) (by kernel_rfl) ?_
    intro tm' w' hb hs ht'
    rw [if_pos rfl]
    go_ret
    exact ⟨by rw [Array.getD_eq_getD_getElem?, ht']; rfl, hb⟩
  ·
    rw [decide_eq_false (show ¬ (x = 32) by omega)] at hr
    have hr' := hr.out
    subst hr'
    refine Go.AM.am_seq (by assumption) (n := 153) (l := [(0, .int .i64 7), (7, Go.AM.at64 57 57)]) (t := 6) (r := .bool false) (ret := true) LF.noNum LF.follows (by kernel_rfl) rfl (by decide) (Go.AM.flc (Go.AM.slg (by decide) rfl rfl) (Go.AM.fl1 (Go.AM.sl64 (by decide) rfl h01 h02))) (by kernel_rfl) ?_
    intro tm' w' hb hs ht'
    rw [if_pos rfl]
    go_ret
    exact ⟨by rw [Array.getD_eq_getD_getElem?, ht']; rfl, hb⟩
  ·
    rw [decide_eq_false (show ¬ (x = 32) by omega)] at hr
    have hr' := hr.out
    subst hr'
    refine Go.AM.am_seq (by assumption) (n := 153) (l := [(0, .int .i64 7), (7, Go.AM.at64 58 255)]) (t := 6) (r := .bool false) (ret := true) LF.noNum LF.follows (by kernel_rfl) rfl (by decide) (Go.AM.flc (Go.AM.slg (by decide) rfl rfl) (Go.AM.fl1 (Go.AM.sl64 (by decide) rfl h01 h02))) (by kernel_rfl) ?_
    intro tm' w' hb hs ht'
    rw [if_pos rfl]
    go_ret
    exact ⟨by rw [Array.getD_eq_getD_getElem?, ht']; rfl, hb⟩
set_option maxRecDepth 100000 in
set_option maxHeartbeats 2000000 in
theorem sclass8 (w : World) (a : Option Addr) (ts : List Int) (cap : Nat) (i : Nat) (x : Int) (r : Bool) (hr : Hid (decide (x = 9) = r)) (hc : ts.length ≤ 2147483648) (ht : Hid (Txt w a ts)) (hi2 : i < ts.length)
    (ex : Hid (byt ts i = x)) (qx : Hid (0 ≤ x ∧ x ≤ 255)) :
    Calls Try.prog 9 #[.int .i64 8, .slice a ts.length cap, .int .i64 i] w fun e w' => e = .returned (.bool r) ∧ Below w.heap.size w w' := by
  go_enter Try.func9, Try.ntmps9
  go_upto_region 4 with (first | (go_at_call 29; refine (byteAt_any w a ts cap _ (by omega) (by omega) (by omega) ht.out).mono ?_; rintro e w' ⟨rfl, rfl⟩))
  rw [ex.out]
  have qx := qx.out
  rcases (show (0 ≤ x ∧ x ≤ 0) ∨ (1 ≤ x ∧ x ≤ 8) ∨ (9 ≤ x ∧ x ≤ 9) ∨ (10 ≤ x ∧ x ≤ 31) ∨ (32 ≤ x ∧ x ≤ 32) ∨ (33 ≤ x ∧ x ≤ 47) ∨ (48 ≤ x ∧ x ≤ 48) ∨ (49 ≤ x ∧ x ≤ 56) ∨ (57 ≤ x ∧ x ≤ 57) ∨ (58 ≤ x ∧ x ≤ 255) by omega) with ⟨h01, h02⟩ | ⟨h01, h02⟩ | ⟨h01, h02⟩ | ⟨h01, h02⟩ | ⟨h01, h02⟩ | ⟨h01, h02⟩ | ⟨h01, h02⟩ | ⟨h01, h02⟩ | ⟨h01, h02⟩ | ⟨h01, h02⟩
  ·
    rw [decide_eq_false (show ¬ (x = 9) by omega)] at hr
    have hr' := hr.out
    subst hr'
    refine Go.AM.am_seq (by assumption) (n := 153) (l := [(0, .int .i64 8), (7, Go.AM.at64 0 0)]) (t := 6) (r := .bool false) (ret := true) LF.noNum LF.follows (by kernel_rfl) rfl (by decide) (Go.AM.flc (Go.AM.slg (by decide) rfl rfl) (Go.AM.fl1 (Go.AM.sl64 (by decide) rfl h01 h02))) (by kernel_rfl) ?_
    intro tm' w' hb hs ht'
    rw [if_pos rfl]
    go_ret
    exact ⟨by rw [Array.getD_eq_getD_getElem?, ht']; rfl, hb⟩
  ·
    rw [decide_eq_false (show ¬ (x = 9) by omega)] at hr
    have hr' := hr.out
    subst hr'
    refine Go.AM.am_seq (by assumption) (n := 153) (l := [(0, .int .i64 8), (7, Go.AM.at64 1 8)]) (t := 6) (r := .bool false) (ret := true) LF.noNum LF.follows (by kernel_rfl) rfl (by decide) (Go.AM.flc (Go.AM.slg (by decide) rfl rfl) (Go.AM.fl1 (Go.AM.sl64 (by decide) rfl h01 h02))) (by kernel_rfl) ?_
    intro tm' w' hb hs ht'
    rw [if_pos rfl]
    go_ret
    exact ⟨by rw [Array.getD_eq_getD_getElem?, ht']; rfl, hb⟩
  ·
    rw [decide_eq_true (show x = 9 by omega)] at hr
    have hr' := hr.out
    subst hr'
    refine Go.AM.am_seq (by assumption) (n := 153) (l := [(0, .int .i64 8), (7, Go.AM.at64 9 9)]) (t := 6) (r := .bool true) (ret := true) LF.noNum LF.follows (by kernel_rfl) rfl (by decide) (Go.AM.flc (Go.AM.slg (by decide) rfl rfl) (Go.AM.fl1 (Go.AM.sl64 (by decide) rfl h01 h02))) (by kernel_rfl) ?_
    intro tm' w' hb hs ht'
    rw [if_pos rfl]
    go_ret
    exact ⟨by rw [Array.getD_eq_getD_getElem?, ht']; rfl, hb⟩
  ·
    rw [decide_eq_false (show ¬ (x = 9) by omega)] at hr
    have hr' := hr.out
    subst hr'
    refine Go.AM.am_seq (by assumption) (n := 153) (l := [(0, .int .i64 8), (7, Go.AM.at64 10 31)]) (t := 6) (r := .bool false) (ret := true) LF.noNum LF.follows (by kernel_rfl) rfl (by decide) (Go.AM.flc (Go.AM.slg (by decide) rfl rfl) (Go.AM.fl1 (Go.AM.sl64 (by decide) rfl h01 h02))) (by kernel_rfl) ?_
    intro tm' w' hb hs ht'
    rw [if_pos rfl]
    go_ret
    exact ⟨by rw [Array.getD_eq_getD_getElem?, ht']; rfl, hb⟩
  ·
    rw [decide_eq_false (show ¬ (x = 9) by omega)] at hr
    have hr' := hr.out
    subst hr'
    refine Go.AM.am_seq (by assumption) (n := 153) (l := [(0, .int .i64 8), (7, Go.AM.at64 32 32)]) (t := 6) (r := .bool false) (ret := true) LF.noNum LF.follows (by kernel_rfl) rfl (by decide) (Go.AM.flc (Go.AM.slg (by decide) rfl rfl) (Go.AM.fl1 (Go.AM.sl64 (by decide) rfl h01 h02))) (by kernel_rfl) ?_
    intro tm' w' hb hs ht'
    rw [if_pos rfl]
    go_ret
    exact ⟨by rw [Array.getD_eq_getD_getElem?, ht']; rfl, hb⟩
  ·
    rw [decide_eq_false (show ¬ (x = 9) by omega)] at hr
    have hr' := hr.out
    subst hr'
    refine Go.AM.am_seq (by assumption) (n := 153) (l := [(0, .int .i64 8), (7, Go.AM.at64 33 47)]) (t := 6) (r := .bool false) (ret := true) LF.noNum LF.follows (by kernel_rfl) rfl (by decide) (Go.AM.flc (Go.AM.slg (by decide) rfl rfl) (Go.AM.fl1 (Go.AM.sl64 (by decide) rfl h01 h02))) (by kernel_rfl) ?_
    intro tm' w' hb hs ht'
    rw [if_pos rfl]
    go_ret
    exact ⟨by rw [Array.getD_eq_getD_getElem?, ht']; rfl, hb⟩
  ·
    rw [decide_eq_false (show ¬ (x = 9) by omega)] at hr
    have hr' := hr.out
    subst hr'
    refine Go.AM.am_seq (by assumption) (n := 153) (l := [(0, .int .i64 8), (7, Go.AM.at64 48 48)]) (t := 6) (r := .bool false) (ret := true) LF.noNum LF.follows (by kernel_rfl) rfl (by decide) (Go.AM.flc (Go.AM.slg (by decide) rfl rfl) (Go.AM.fl1 (Go.AM.sl64 (by decide) rfl h01 h02))) (by kernel_rfl) ?_
    intro tm' w' hb hs ht'
    rw [if_pos rfl]
    go_ret
    exact ⟨by rw [Array.getD_eq_getD_getElem?, ht']; rfl, hb⟩
  ·
    rw [decide_eq_false (show ¬ (x = 9) by omega)] at hr
    have hr' := hr.out
    subst hr'
    refine Go.AM.am_seq (by assumption) (n := 153) (l := [(0, .int .i64 8), (7, Go.AM.at64 49 56)]) (t := 6) (r := .bool false) (ret := true) LF.noNum LF.follows (by kernel_rfl) rfl (by decide) (Go.AM.flc (Go.AM.slg (by decide) rfl rfl) (Go.AM.fl1 (Go.AM.sl64 (by decide) rfl h01 h02))) (by kernel_rfl) ?_
    intro tm' w' hb hs ht'
    rw [if_pos rfl]
    go_ret
    exact ⟨by rw [Array.getD_eq_getD_getElem?, ht']; rfl, hb⟩
  ·
    rw [decide_eq_false (show ¬ (x = 9) by omega)] at hr
    have hr' := hr.out
    subst hr'
    refine Go.AM.am_seq (by assumption) (n := 153) (l := [(0, .int .i64 8), (7, Go.AM.at64 57 57)]) (t := 6) (r := .bool false) (ret := true) LF.noNum LF.follows (by kernel_rfl) rfl (by decide) (Go.AM.flc (Go.AM.slg (by decide) rfl rfl) (Go.AM.fl1 (Go.AM.sl64 (by decide) rfl h01 h02))) (by kernel_rfl) ?_
    intro tm' w' hb hs ht'
    rw [if_pos rfl]
    go_ret
    exact ⟨by rw [Array.getD_eq_getD_getElem?, ht']; rfl, hb⟩
  ·
    rw [decide_eq_false (show ¬ (x = 9) by omega)] at hr
    have hr' := hr.out
    subst hr'
    refine Go.AM.am_seq (by assumption) (n := 153) (l := [(0, .int .i64 8), (7, Go.AM.at64 58 255)]) (t := 6) (r := .bool false) (ret := true) LF.noNum LF.follows (by kernel_rfl) rfl (by decide) (Go.AM.flc (Go.AM.slg (by decide) rfl rfl) (Go.AM.fl1 (Go.AM.sl64 (by decide) rfl h01 h02))) (by kernel_rfl) ?_
    intro tm' w' hb hs ht'
    rw [if_pos rfl]
    go_ret
    exact ⟨by rw [Array.getD_eq_getD_getElem?, ht']; rfl, hb⟩
set_option maxRecDepth 100000 in
set_option maxHeartbeats 2000000 in
theorem sclass9 (w : World) (a : Option Addr) (ts : List Int) (cap : Nat) (i : Nat) (x : Int) (r : Bool) (hr : Hid (decide (x = 32 ∨ x = 9) = r)) (hc : ts.length ≤ 2147483648) (ht : Hid (Txt w a ts)) (hi2 : i < ts.length)
    (ex : Hid (byt ts i = x)) (qx : Hid (0 ≤ x ∧ x ≤ 255)) :
    Calls Try.prog 9 #[.int .i64 9, .slice a ts.length cap, .int .i64 i] w fun e w' => e = .returned (.bool r) ∧ Below w.heap.size w w' := by
  go_enter Try.func9, Try.ntmps9
  go_upto_region 4 with (first | (go_at_call 29; refine (byteAt_any w a ts cap _ (by omega) (by omega) (by omega) ht.out).mono ?_; rintro e w' ⟨rfl, rfl⟩))
  rw [ex.out]
  have qx := qx.out
  rcases (show (0 ≤ x ∧ x ≤ 0) ∨ (1 ≤ x ∧ x ≤ 8) ∨ (9 ≤ x ∧ x ≤ 9) ∨ (10 ≤ x ∧ x ≤ 31) ∨ (32 ≤ x ∧ x ≤ 32) ∨ (33 ≤ x ∧ x ≤ 47) ∨ (48 ≤ x ∧ x ≤ 48) ∨ (49 ≤ x ∧ x ≤ 56) ∨ (57 ≤ x ∧ x ≤ 57) ∨ (58 ≤ x ∧ x ≤ 255) by omega) with ⟨h01, h02⟩ | ⟨h01, h02⟩ | ⟨h01, h02⟩ | ⟨h01, h02⟩ | ⟨h01, h02⟩ | ⟨h01, h02⟩ | ⟨h01, h02⟩ | ⟨h01, h02⟩ | ⟨h01, h02⟩ | ⟨h01, h02⟩
  ·
    rw [decide_eq_false (show ¬ (x = 32 ∨ x = 9) by omega)] at hr
    have hr' := hr.out
    subst hr'
    refine Go.AM.am_seq (by assumption) (n := 153) (l := [(0, .int .i64 9), (7, Go.AM.at64 0 0)]) (t := 6) (r := .bool false) (ret := true) LF.noNum LF.follows (by kernel_rfl) rfl (by decide) (Go.AM.flc (Go.AM.slg (by decide) rfl rfl) (Go.AM.fl1 (Go.AM.sl64 (by decide) rfl h01 h02))) (by kernel_rfl) ?_
    intro tm' w' hb hs ht'
    rw [if_pos rfl]
    go_ret
    exact ⟨by rw [Array.getD_eq_getD_getElem?, ht']; rfl, hb⟩
  ·
    rw [decide_eq_false (show ¬ (x = 32 ∨ x = 9) by omega)] at hr
    have hr' := hr.out
    subst hr'
    refine Go.AM.am_seq (by assumption) (n := 153) (l := [(0, .int .i64 9), (7, Go.AM.at64 1 8)]) (t := 6) (r := .bool false) (ret := true) LF.noNum LF.follows (by kernel_rfl) rfl (by decide) (Go.AM.flc (Go.AM.slg (by decide) rfl rfl) (Go.AM.fl1 (Go.AM.sl64 (by decide) rfl h01 h02))) (by kernel_rfl) ?_
    intro tm' w' hb hs ht'
    rw [if_pos rfl]
    go_ret
    exact ⟨by rw [Array.getD_eq_getD_getElem?, ht']; rfl, hb⟩
  ·
    rw [decide_eq_true (show x = 32 ∨ x = 9 by omega)] at hr
    have hr' := hr.out
    subst hr'
    refine Go.AM.am_seq (by assumption) (n := 153) (l := [(0, .int .i64 9), (7, Go.AM.at64 9 9)]) (t := 6) (r := .bool true) (ret := true) LF.noNum LF.follows (by kernel_rfl) rfl (by decide) (Go.AM.flc (Go.AM.slg (by decide) rfl rfl) (Go.AM.fl1 (Go.AM.sl64 (by decide) rfl h01 h02))) (by kernel_rfl) ?_
    intro tm' w' hb hs ht'
    rw [if_pos rfl]
    go_ret
    exact ⟨by rw [Array.getD_eq_getD_getElem?, ht']; rfl, hb⟩
  ·
    rw [decide_eq_false (show ¬ (x = 32 ∨ x = 9) by omega)] at hr
    have hr' := hr.out
    subst hr'
    refine Go.AM.am_seq (by assumption) (n := 153) (l := [(0, .int .i64 9), (7, Go.AM.at64 10 31)]) (t := 6) (r := .bool false) (ret := true) LF.noNum LF.follows (by kernel_rfl) rfl (by decide) (Go.AM.flc (Go.AM.slg (by decide) rfl rfl) (Go.AM.fl1 (Go.AM.sl64 (by decide) rfl h01 h02))) (by kernel_rfl) ?_
    intro tm' w' hb hs ht'
    rw [if_pos rfl]
    go_ret
    exact ⟨by rw [Array.getD_eq_getD_getElem?, ht']; rfl, hb⟩
  ·
    rw [decide_eq_true (show x = 32 ∨ x = 9 by omega)] at hr
    have hr' := hr.out
    subst hr'
    refine Go.AM.am_seq (by assumption) (n := 153) (l := [(0, .int .i64 9), (7, Go.AM.at64 32 32)]) (t := 6) (r := .bool true) (ret := true) LF.noNum LF.follows (by kernel_rfl) rfl (by decide) (Go.AM.flc (Go.AM.slg (by decide) rfl rfl) (Go.AM.fl1 (Go.AM.sl64 (by decide) rfl h01 h02))) (by kernel_rfl) ?_
    intro tm' w' hb hs ht'
    rw [if_pos rfl]
    go_ret
    exact ⟨by rw [Array.getD_eq_getD_getElem?, ht']; rfl, hb⟩
  ·
    rw [decide_eq_false (show ¬ (x = 32 ∨ x = 9) by omega)] at hr
    have hr' := hr.out
    subst hr'
    refine Go.AM.am_seq (by assumption) (n := 153) (l := [(0, .int .i64 9), (7, Go.AM.at64 33 47)]) (t := 6) (r := .bool false) (ret := true) LF.noNum LF.follows (by kernel_rfl) rfl (by decide) (Go.AM.flc (Go.AM.slg (by decide) rfl rfl) (Go.AM.fl1 (Go.AM.sl64 (by decide) rfl h01 h02))) (by kernel_rfl) ?_
    intro tm' w' hb hs ht'
    rw [if_pos rfl]
    go_ret
    exact ⟨by rw [Array.getD_eq_getD_getElem?, ht']; rfl, hb⟩
  ·
    rw [decide_eq_false (show ¬ (x = 32 ∨ x = 9) by omega)] at hr
    have hr' := hr.out
    subst hr'
    refine Go.AM.am_seq (by assumption) (n := 153) (l := [(0, .int .i64 9), (7, Go.AM.at64 48 48)]) (t := 6) (r := .bool false) (ret := true) LF.noNum LF.follows (by kernel_rfl) rfl (by decide) (Go.AM.flc (Go.AM.slg (by decide) rfl rfl) (Go.AM.fl1 (Go.AM.sl64 (by decide) rfl h01 h02))) (by kernel_rfl) ?_
    intro tm' w' hb hs ht'
    rw [if_pos rfl]
    go_ret
    exact ⟨by rw [Array.getD_eq_getD_getElem?, ht']; rfl, hb⟩
  ·
    rw [decide_eq_false (show ¬ (x = 32 ∨ x = 9) by omega)] at hr
    have hr' := hr.out
    subst hr'
    refine Go.AM.am_seq (by assumption) (n := 153) (l := [(0, .int .i64 9), (7, Go.AM.at64 49 56)]) (t := 6) (r := .bool false) (ret := true) LF.noNum LF.follows (by kernel_rfl) rfl (by decide) (Go.AM.flc (Go.AM.slg (by decide) rfl rfl) (Go.AM.fl1 (Go.AM.sl64 (by decide) rfl h01 h02))) (by kernel_rfl) ?_
    intro tm' w' hb hs ht'
    rw [if_pos rfl]
    go_ret
    exact ⟨by rw [Array.getD_eq_getD_getElem?, ht']; rfl, hb⟩
  ·
    rw [decide_eq_false (show ¬ (x = 32 ∨ x = 9) by omega)] at hr
    have hr' := hr.out
    subst hr'
    refine Go.AM.am_seq (by assumption) (n := 153) (l := [(0, .int .i64 9), (7, Go.AM.at64 57 57)]) (t := 6) (r := .bool false) (ret := true) LF.noNum LF.follows (by kernel_rfl) rfl (by decide) (Go.AM.flc (Go.AM.slg (by decide) rfl rfl) (Go.AM.fl1 (Go.AM.sl64 (by decide) rfl h01 h02))) (by kernel_rfl) ?_
    intro tm' w' hb hs ht'
    rw [if_pos rfl]
    go_ret
    exact ⟨by rw [Array.getD_eq_getD_getElem?, ht']; rfl, hb⟩
  ·
    rw [decide_eq_false (show ¬ (x = 32 ∨ x = 9) by omega)] at hr
    have hr' := hr.out
    subst hr'
    refine Go.AM.am_seq (by assumption) (n := 153) (l := [(0, .int .i64 9), (7, Go.AM.at64 58 255)]) (t := 6) (r := .bool false) (ret := true) LF.noNum LF.follows (by kernel_rfl) rfl (by decide) (Go.AM.flc (Go.AM.slg (by decide) rfl rfl) (Go.AM.fl1 (Go.AM.sl64 (by decide) rfl h01 h02))) (by kernel_rfl) ?_
    intro tm' w' hb hs ht'
    rw [if_pos rfl]
    go_ret
    exact ⟨by rw [Array.getD_eq_getD_getElem?, ht']; rfl, hb⟩
set_option maxRecDepth 100000 in
set_option maxHeartbeats 2000000 in
theorem sclass10 (w : World) (a : Option Addr) (ts : List Int) (cap : Nat) (i : Nat) (x y z : Int) (r : Bool) (hr : Hid (decide (LF.Brk x y z) = r)) (hc : ts.length ≤ 2147483648) (ht : Hid (Txt w a ts)) (hi2 : i < ts.length)
    (ex : Hid (byt ts i = x)) (qx : Hid (0 ≤ x ∧ x ≤ 255)) (ey : Hid (byt ts (i + 1) = y)) (qy : Hid (0 ≤ y ∧ y ≤ 255)) (ez : Hid (byt ts (i + 2) = z)) (qz : Hid (0 ≤ z ∧ z ≤ 255)) :
    Calls Try.prog 9 #[.int .i64 10, .slice a ts.length cap, .int .i64 i] w fun e w' => e = .returned (.bool r) ∧ Below w.heap.size w w' := by
  obtain ⟨q, hq⟩ : ∃ q, decide (LF.Brk x y z) = q := ⟨_, rfl⟩
  have hB := breaks_xyz w a ts cap i x y z (by omega) ht (by omega) (by omega) ex ey ez qx.out qy.out qz.out
  rw [hq] at hB
  have HB := Lib.hid hB
  have HQ := Lib.hid hq
  clear hB hq
  go_enter Try.func9, Try.ntmps9
  go_upto_region 4 with (first | (go_at_call 29; refine (byteAt_any w a ts cap _ (by omega) (by omega) (by omega) ht.out).mono ?_; rintro e w' ⟨rfl, rfl⟩))
  rw [ex.out]
  go_upto_region 24 with (fail)
  all_goals
    rcases (show True by trivial) with h1
    · cases q
      · go_wp2_with (go_at_call 30; refine (HB.out).mono ?_; rintro e w' ⟨rfl, hb⟩); go_ret
        have hf := of_decide_eq_false HQ.out
        refine ⟨ret_b ?_, hb⟩
        rw [← hr.out, decide_eq_false (p := LF.Brk x y z) (by exact hf)]
      · go_wp2_with (go_at_call 30; refine (HB.out).mono ?_; rintro e w' ⟨rfl, hb⟩); go_ret
        refine ⟨ret_b ?_, hb⟩
        rw [← hr.out, decide_eq_true (p := LF.Brk x y z) (of_decide_eq_true HQ.out)]
set_option maxRecDepth 100000 in
set_option maxHeartbeats 2000000 in
theorem sclass11 (w : World) (a : Option Addr) (ts : List Int) (cap : Nat) (i : Nat) (x y : Int) (r : Bool) (hr : Hid (decide (x = 13 ∧ y = 10) = r)) (hc : ts.length ≤ 2147483648) (ht : Hid (Txt w a ts)) (hi2 : i < ts.length)
    (ex : Hid (byt ts i = x)) (qx : Hid (0 ≤ x ∧ x ≤ 255)) (ey : Hid (byt ts (i + 1) = y)) (qy : Hid (0 ≤ y ∧ y ≤ 255)) :
    Calls Try.prog 9 #[.int .i64 11, .slice a ts.length cap, .int .i64 i] w fun e w' => e = .returned (.bool r) ∧ Below w.heap.size w w' := by
  go_enter Try.func9, Try.ntmps9
  go_upto_region 4 with (first | (go_at_call 29; refine (byteAt_any w a ts cap _ (by omega) (by omega) (by omega) ht.out).mono ?_; rintro e w' ⟨rfl, rfl⟩))
  rw [ex.out]
  go_upto_region 26 with (fail)
  all_goals
    rcases (show x = 13 ∨ x ≠ 13 by omega) with hx | hx
    · go_wp2_with (go_at_call 29; refine (byteAt_any w a ts cap _ (by omega) (by omega) (by omega) ht.out).mono ?_; rintro e w' ⟨rfl, rfl⟩; rw [ey.out])
      go_ret
      exact ⟨(ret_b (by rw [← hr.out]; simp [hx]; rfl)), Below.refl _ _⟩
    · go_wp2_with (fail)
      go_ret
      exact ⟨(ret_b (by rw [← hr.out]; simp [hx])), Below.refl _ _⟩
set_option maxRecDepth 100000 in
set_option maxHeartbeats 2000000 in
theorem sclass12 (w : World) (a : Option Addr) (ts : List Int) (cap : Nat) (i : Nat) (x y z : Int) (r : Bool) (hr : Hid (decide (LF.Brk x y z ∨ x = 0) = r)) (hc : ts.length ≤ 2147483648) (ht : Hid (Txt w a ts)) (hi2 : i < ts.length)
    (ex : Hid (byt ts i = x)) (qx : Hid (0 ≤ x ∧ x ≤ 255)) (ey : Hid (byt ts (i + 1) = y)) (qy : Hid (0 ≤ y ∧ y ≤ 255)) (ez : Hid (byt ts (i + 2) = z)) (qz : Hid (0 ≤ z ∧ z ≤ 255)) :
    Calls Try.prog 9 #[.int .i64 12, .slice a ts.length cap, .int .i64 i] w fun e w' => e = .returned (.bool r) ∧ Below w.heap.size w w' := by
  obtain ⟨q, hq⟩ : ∃ q, decide (LF.Brk x y z) = q := ⟨_, rfl⟩
  have hB := breaks_xyz w a ts cap i x y z (by omega) ht (by omega) (by omega) ex ey ez qx.out qy.out qz.out
  rw [hq] at hB
  have HB := Lib.hid hB
  have HQ := Lib.hid hq
  clear hB hq
  go_enter Try.func9, Try.ntmps9
  go_upto_region 4 with (first | (go_at_call 29; refine (byteAt_any w a ts cap _ (by omega) (by omega) (by omega) ht.out).mono ?_; rintro e w' ⟨rfl, rfl⟩))
  rw [ex.out]
  go_upto_region 28 with (fail)
  all_goals
    rcases (show x = 0 ∨ (x ≠ 0) by omega) with h1 | ⟨h1⟩
    · cases q <;> (go_wp2_with (go_at_call 30; refine (HB.out).mono ?_; rintro e w' ⟨rfl, hb⟩); go_ret; exact ⟨ret_b (Eq.trans (Eq.symm (decide_eq_true (by omega))) hr.out), hb⟩)
    · cases q
      · go_wp2_with (go_at_call 30; refine (HB.out).mono ?_; rintro e w' ⟨rfl, hb⟩); go_ret
        have hf := of_decide_eq_false HQ.out
        refine ⟨ret_b ?_, hb⟩
        rw [← hr.out, decide_eq_false (p := LF.Brk x y z ∨ x = 0) (by rintro (h | h) <;> first | exact hf h | omega)]
        simp [h1]
      · go_wp2_with (go_at_call 30; refine (HB.out).mono ?_; rintro e w' ⟨rfl, hb⟩); go_ret
        refine ⟨ret_b ?_, hb⟩
        rw [← hr.out, decide_eq_true (p := LF.Brk x y z ∨ x = 0) (.inl (of_decide_eq_true HQ.out))]
set_option maxRecDepth 100000 in
set_option maxHeartbeats 2000000 in
theorem sclass13 (w : World) (a : Option Addr) (ts : List Int) (cap : Nat) (i : Nat) (x y z : Int) (r : Bool) (hr : Hid (decide (LF.Brk x y z ∨ x = 0 ∨ x = 32) = r)) (hc : ts.length ≤ 2147483648) (ht : Hid (Txt w a ts)) (hi2 : i < ts.length)
    (ex : Hid (byt ts i = x)) (qx : Hid (0 ≤ x ∧ x ≤ 255)) (ey : Hid (byt ts (i + 1) = y)) (qy : Hid (0 ≤ y ∧ y ≤ 255)) (ez : Hid (byt ts (i + 2) = z)) (qz : Hid (0 ≤ z ∧ z ≤ 255)) :
    Calls Try.prog 9 #[.int .i64 13, .slice a ts.length cap, .int .i64 i] w fun e w' => e = .returned (.bool r) ∧ Below w.heap.size w w' := by
  obtain ⟨q, hq⟩ : ∃ q, decide (LF.Brk x y z) = q := ⟨_, rfl⟩
  have hB := breaks_xyz w a ts cap i x y z (by omega) ht (by omega) (by omega) ex ey ez qx.out qy.out qz.out
  rw [hq] at hB
  have HB := Lib.hid hB
  have HQ := Lib.hid hq
  clear hB hq
  go_enter Try.func9, Try.ntmps9
  go_upto_region 4 with (first | (go_at_call 29; refine (byteAt_any w a ts cap _ (by omega) (by omega) (by omega) ht.out).mono ?_; rintro e w' ⟨rfl, rfl⟩))
  rw [ex.out]
  go_upto_region 30 with (fail)
  all_goals
    rcases (show x = 0 ∨ x = 32 ∨ (x ≠ 0 ∧ x ≠ 32) by omega) with h1 | h1 | ⟨h1, h2⟩
    · cases q <;> (go_wp2_with (go_at_call 30; refine (HB.out).mono ?_; rintro e w' ⟨rfl, hb⟩); go_ret; exact ⟨ret_b (Eq.trans (Eq.symm (decide_eq_true (by omega))) hr.out), hb⟩)
    · cases q <;> (go_wp2_with (go_at_call 30; refine (HB.out).mono ?_; rintro e w' ⟨rfl, hb⟩); go_ret; exact ⟨ret_b (Eq.trans (Eq.symm (decide_eq_true (by omega))) hr.out), hb⟩)
    · cases q
      · go_wp2_with (go_at_call 30; refine (HB.out).mono ?_; rintro e w' ⟨rfl, hb⟩); go_ret
        have hf := of_decide_eq_false HQ.out
        refine ⟨ret_b ?_, hb⟩
        rw [← hr.out, decide_eq_false (p := LF.Brk x y z ∨ x = 0 ∨ x = 32) (by rintro (h | h | h) <;> first | exact hf h | omega)]
        simp [h1, h2]
      · go_wp2_with (go_at_call 30; refine (HB.out).mono ?_; rintro e w' ⟨rfl, hb⟩); go_ret
        refine ⟨ret_b ?_, hb⟩
        rw [← hr.out, decide_eq_true (p := LF.Brk x y z ∨ x = 0 ∨ x = 32) (.inl (of_decide_eq_true HQ.out))]
set_option maxRecDepth 100000 in
set_option maxHeartbeats 2000000 in
theorem sclass14 (w : World) (a : Option Addr) (ts : List Int) (cap : Nat) (i : Nat) (x y z : Int) (r : Bool) (hr : Hid (decide (LF.Brk x y z ∨ x = 0 ∨ x = 32 ∨ x = 9) = r)) (hc : ts.length ≤ 2147483648) (ht : Hid (Txt w a ts)) (hi2 : i < ts.length)
    (ex : Hid (byt ts i = x)) (qx : Hid (0 ≤ x ∧ x ≤ 255)) (ey : Hid (byt ts (i + 1) = y)) (qy : Hid (0 ≤ y ∧ y ≤ 255)) (ez : Hid (byt ts (i + 2) = z)) (qz : Hid (0 ≤ z ∧ z ≤ 255)) :
    Calls Try.prog 9 #[.int .i64 14, .slice a ts.length cap, .int .i64 i] w fun e w' => e = .returned (.bool r) ∧ Below w.heap.size w w' := by
  obtain ⟨q, hq⟩ : ∃ q, decide (LF.Brk x y z) = q := ⟨_, rfl⟩
  have hB := breaks_xyz w a ts cap i x y z (by omega) ht (by omega) (by omega) ex ey ez qx.out qy.out qz.out
  rw [hq] at hB
  have HB := Lib.hid hB
  have HQ := Lib.hid hq
  clear hB hq
  go_enter Try.func9, Try.ntmps9
  go_upto_region 4 with (first | (go_at_call 29; refine (byteAt_any w a ts cap _ (by omega) (by omega) (by omega) ht.out).mono ?_; rintro e w' ⟨rfl, rfl⟩))
  rw [ex.out]
  go_upto_region 32 with (fail)
  all_goals
    rcases (show x = 0 ∨ x = 32 ∨ x = 9 ∨ (x ≠ 0 ∧ x ≠ 32 ∧ x ≠ 9) by omega) with h1 | h1 | h1 | ⟨h1, h2, h3⟩
    · cases q <;> (go_wp2_with (go_at_call 30; refine (HB.out).mono ?_; rintro e w' ⟨rfl, hb⟩); go_ret; exact ⟨ret_b (Eq.trans (Eq.symm (decide_eq_true (by omega))) hr.out), hb⟩)
    · cases q <;> (go_wp2_with (go_at_call 30; refine (HB.out).mono ?_; rintro e w' ⟨rfl, hb⟩); go_ret; exact ⟨ret_b (Eq.trans (Eq.symm (decide_eq_true (by omega))) hr.out), hb⟩)
    · cases q <;> (go_wp2_with (go_at_call 30; refine (HB.out).mono ?_; rintro e w' ⟨rfl, hb⟩); go_ret; exact ⟨ret_b (Eq.trans (Eq.symm (decide_eq_true (by omega))) hr.out), hb⟩)
    · cases q
      · go_wp2_with (go_at_call 30; refine (HB.out).mono ?_; rintro e w' ⟨rfl, hb⟩); go_ret
        have hf := of_decide_eq_false HQ.out
        refine ⟨ret_b ?_, hb⟩
        rw [← hr.out, decide_eq_false (p := LF.Brk x y z ∨ x = 0 ∨ x = 32 ∨ x = 9) (by rintro (h | h | h | h) <;> first | exact hf h | omega)]
        simp [h1, h2, h3]
      · go_wp2_with (go_at_call 30; refine (HB.out).mono ?_; rintro e w' ⟨rfl, hb⟩); go_ret
        refine ⟨ret_b ?_, hb⟩
        rw [← hr.out, decide_eq_true (p := LF.Brk x y z ∨ x = 0 ∨ x = 32 ∨ x = 9) (.inl (of_decide_eq_true HQ.out))]
end Go.Proofs.C1
