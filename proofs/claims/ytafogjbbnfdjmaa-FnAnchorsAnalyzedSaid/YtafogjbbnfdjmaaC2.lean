/- A part of the proof: what functions of the program answer, for all arguments that meet the conditions named in each theorem. -/
import Derived.Test.YtafogjbbnfdjmaaProg
import Derived.WalkKit
import Derived.KernelRfl
import Derived.Below
import Derived.Lib.Hide
import Derived.LoopTactic
import Derived.Outline
import Derived.Test.YtafogjbbnfdjmaaLG
import Derived.Test.YtafogjbbnfdjmaaAMq
import Derived.Deep.DeepCutAuto
namespace Go.Proofs.C1
open Go.RowKit
set_option linter.unusedVariables false

/-- What a slice of bytes holds: nothing, or cells of bytes. -/
def Txt (w : World) (a : Option Addr) (ts : List Int) : Prop := (∀ n ∈ ts, 0 ≤ n ∧ n ≤ 255) ∧ (∀ i, i < ts.length → ∃ x, a = some x ∧ w.cell? (x.add i) = some (.int .u8 (ts.getD i 0)))

def byt (ts : List Int) (i : Int) : Int := if i < ts.length then ts.getD i.toNat 0 else 0

theorem byteAt_any (w : World) (a : Option Addr) (ts : List Int) (cap : Nat) (i : Int) (hi : 0 ≤ i) (hi2 : i ≤ 4294967296) (hc : ts.length ≤ 4294967296) (ht : Txt w a ts) :
    Calls Try.prog 29 #[.slice a ts.length cap, .int .i64 i] w fun e w' => e = .returned (.int .i64 (byt ts i)) ∧ w = w' := by
  by_cases hlt : i < ts.length
  · obtain ⟨k, rfl⟩ : ∃ k : Nat, i = k := ⟨i.toNat, by omega⟩
    obtain ⟨x, rfl, hx⟩ := ht.2 k (by omega)
    have hr := ht.1 (ts.getD k 0) (by
      have hk : k < ts.length := by omega
      rw [List.getD_eq_getElem?_getD, List.getElem?_eq_getElem hk]; exact List.getElem_mem hk)
    have hb : ts.getD k 0 = byt ts k := by unfold byt; rw [if_pos hlt]; rfl
    rw [hb] at hx hr
    generalize byt ts k = v at *
    have HB := Lib.hid hb
    have HT := Lib.hid ht
    clear hb ht
    obtain ⟨h0, h1⟩ := hr
    go_enter Try.func29, Try.ntmps29
    go_wp2
    go_ret

    exact ⟨rfl, rfl⟩
  · have hb : byt ts i = 0 := by unfold byt; rw [if_neg hlt]
    rw [hb]
    have HT := Lib.hid ht
    clear hb ht
    go_enter Try.func29, Try.ntmps29
    go_wp2
    go_ret
    exact ⟨rfl, rfl⟩
set_option maxRecDepth 100000 in
set_option maxHeartbeats 2000000 in
theorem breaks_xyz (w : World) (a : Option Addr) (ts : List Int) (cap : Nat) (i x y z : Int) (hc : ts.length ≤ 4294967296) (ht : Hid (Txt w a ts)) (hi : 0 ≤ i) (hi2 : i ≤ 2147483648)
    (ex : Hid (byt ts i = x)) (ey : Hid (byt ts (i + 1) = y)) (ez : Hid (byt ts (i + 2) = z)) (qx : 0 ≤ x ∧ x ≤ 255) (qy : 0 ≤ y ∧ y ≤ 255) (qz : 0 ≤ z ∧ z ≤ 255) :
    Calls Try.prog 30 #[.slice a ts.length cap, .int .i64 i] w fun e w' => e = .returned (.bool (decide (LF.Brk x y z))) ∧ Below w.heap.size w w' := by
  go_enter Try.func30, Try.ntmps30
  go_upto_region 2 with (go_at_call 29; refine (byteAt_any w a ts cap _ (by omega) (by omega) hc ht.out).mono ?_; rintro e w' ⟨rfl, rfl⟩)
  rw [ex.out, ey.out, ez.out]
  rcases (show (0 ≤ x ∧ x ≤ 9) ∨ (10 ≤ x ∧ x ≤ 10) ∨ (11 ≤ x ∧ x ≤ 12) ∨ (13 ≤ x ∧ x ≤ 13) ∨ (14 ≤ x ∧ x ≤ 193) ∨ (194 ≤ x ∧ x ≤ 194) ∨ (195 ≤ x ∧ x ≤ 225) ∨ (226 ≤ x ∧ x ≤ 226) ∨ (227 ≤ x ∧ x ≤ 255) by omega) with ⟨h01, h02⟩ | ⟨h01, h02⟩ | ⟨h01, h02⟩ | ⟨h01, h02⟩ | ⟨h01, h02⟩ | ⟨h01, h02⟩ | ⟨h01, h02⟩ | ⟨h01, h02⟩ | ⟨h01, h02⟩
  ·
    refine Go.AM.am_rest (n := 49) (l := [(5, Go.AM.at64 0 9)]) (t := 4) (r := .bool false) (ret := false) LF.noNum LF.follows (by kernel_rfl) rfl (by decide) (Go.AM.fl1 (Go.AM.sl64 (by decide) rfl h01 h02)) (by kernel_rfl) ?_
    intro tm' w' hb hs ht
    rw [if_neg (by decide)]
    go_wp2
    go_ret
    rw [decide_eq_false (show ¬ LF.Brk x y z by unfold LF.Brk; omega)]
    exact ⟨by rw [Array.getD_eq_getD_getElem?, ht]; rfl, hb⟩
  ·
    refine Go.AM.am_rest (n := 49) (l := [(5, Go.AM.at64 10 10)]) (t := 4) (r := .bool true) (ret := false) LF.noNum LF.follows (by kernel_rfl) rfl (by decide) (Go.AM.fl1 (Go.AM.sl64 (by decide) rfl h01 h02)) (by kernel_rfl) ?_
    intro tm' w' hb hs ht
    rw [if_neg (by decide)]
    go_wp2
    go_ret
    rw [decide_eq_true (show LF.Brk x y z by unfold LF.Brk; omega)]
    exact ⟨by rw [Array.getD_eq_getD_getElem?, ht]; rfl, hb⟩
  ·
    refine Go.AM.am_rest (n := 49) (l := [(5, Go.AM.at64 11 12)]) (t := 4) (r := .bool false) (ret := false) LF.noNum LF.follows (by kernel_rfl) rfl (by decide) (Go.AM.fl1 (Go.AM.sl64 (by decide) rfl h01 h02)) (by kernel_rfl) ?_
    intro tm' w' hb hs ht
    rw [if_neg (by decide)]
    go_wp2
    go_ret
    rw [decide_eq_false (show ¬ LF.Brk x y z by unfold LF.Brk; omega)]
    exact ⟨by rw [Array.getD_eq_getD_getElem?, ht]; rfl, hb⟩
  ·
    refine Go.AM.am_rest (n := 49) (l := [(5, Go.AM.at64 13 13)]) (t := 4) (r := .bool true) (ret := false) LF.noNum LF.follows (by kernel_rfl) rfl (by decide) (Go.AM.fl1 (Go.AM.sl64 (by decide) rfl h01 h02)) (by kernel_rfl) ?_
    intro tm' w' hb hs ht
    rw [if_neg (by decide)]
    go_wp2
    go_ret
    rw [decide_eq_true (show LF.Brk x y z by unfold LF.Brk; omega)]
    exact ⟨by rw [Array.getD_eq_getD_getElem?, ht]; rfl, hb⟩
  ·
    refine Go.AM.am_rest (n := 49) (l := [(5, Go.AM.at64 14 193)]) (t := 4) (r := .bool false) (ret := false) LF.noNum LF.follows (by kernel_rfl) rfl (by decide) (Go.AM.fl1 (Go.AM.sl64 (by decide) rfl h01 h02)) (by kernel_rfl) ?_
    intro tm' w' hb hs ht
    rw [if_neg (by decide)]
    go_wp2
    go_ret
    rw [decide_eq_false (show ¬ LF.Brk x y z by unfold LF.Brk; omega)]
    exact ⟨by rw [Array.getD_eq_getD_getElem?, ht]; rfl, hb⟩
  ·
    rcases (show (0 ≤ y ∧ y ≤ 132) ∨ (133 ≤ y ∧ y ≤ 133) ∨ (134 ≤ y ∧ y ≤ 255) by omega) with ⟨h11, h12⟩ | ⟨h11, h12⟩ | ⟨h11, h12⟩
    ·
      refine Go.AM.am_rest (n := 49) (l := [(5, Go.AM.at64 194 194), (6, Go.AM.at64 0 132)]) (t := 4) (r := .bool false) (ret := false) LF.noNum LF.follows (by kernel_rfl) rfl (by decide) (Go.AM.flc (Go.AM.sl64 (by decide) rfl h01 h02) (Go.AM.fl1 (Go.AM.sl64 (by decide) rfl h11 h12))) (by kernel_rfl) ?_
      intro tm' w' hb hs ht
      rw [if_neg (by decide)]
      go_wp2
      go_ret
      rw [decide_eq_false (show ¬ LF.Brk x y z by unfold LF.Brk; omega)]
      exact ⟨by rw [Array.getD_eq_getD_getElem?, ht]; rfl, hb⟩
    ·
      refine Go.AM.am_rest (n := 49) (l := [(5, Go.AM.at64 194 194), (6, Go.AM.at64 133 133)]) (t := 4) (r := .bool true) (ret := false) LF.noNum LF.follows (by kernel_rfl) rfl (by decide) (Go.AM.flc (Go.AM.sl64 (by decide) rfl h01 h02) (Go.AM.fl1 (Go.AM.sl64 (by decide) rfl h11 h12))) (by kernel_rfl) ?_
      intro tm' w' hb hs ht
      rw [if_neg (by decide)]
      go_wp2
      go_ret
      rw [decide_eq_true (show LF.Brk x y z by unfold LF.Brk; omega)]
      exact ⟨by rw [Array.getD_eq_getD_getElem?, ht]; rfl, hb⟩
    ·
      refine Go.AM.am_rest (n := 49) (l := [(5, Go.AM.at64 194 194), (6, Go.AM.at64 134 255)]) (t := 4) (r := .bool false) (ret := false) LF.noNum LF.follows (by kernel_rfl) rfl (by decide) (Go.AM.flc (Go.AM.sl64 (by decide) rfl h01 h02) (Go.AM.fl1 (Go.AM.sl64 (by decide) rfl h11 h12))) (by kernel_rfl) ?_
      intro tm' w' hb hs ht
      rw [if_neg (by decide)]
      go_wp2
      go_ret
      rw [decide_eq_false (show ¬ LF.Brk x y z by unfold LF.Brk; omega)]
      exact ⟨by rw [Array.getD_eq_getD_getElem?, ht]; rfl, hb⟩
  ·
    refine Go.AM.am_rest (n := 49) (l := [(5, Go.AM.at64 195 225)]) (t := 4) (r := .bool false) (ret := false) LF.noNum LF.follows (by kernel_rfl) rfl (by decide) (Go.AM.fl1 (Go.AM.sl64 (by decide) rfl h01 h02)) (by kernel_rfl) ?_
    intro tm' w' hb hs ht
    rw [if_neg (by decide)]
    go_wp2
    go_ret
    rw [decide_eq_false (show ¬ LF.Brk x y z by unfold LF.Brk; omega)]
    exact ⟨by rw [Array.getD_eq_getD_getElem?, ht]; rfl, hb⟩
  ·
    rcases (show (0 ≤ y ∧ y ≤ 127) ∨ (128 ≤ y ∧ y ≤ 128) ∨ (129 ≤ y ∧ y ≤ 255) by omega) with ⟨h11, h12⟩ | ⟨h11, h12⟩ | ⟨h11, h12⟩
    ·
      refine Go.AM.am_rest (n := 49) (l := [(5, Go.AM.at64 226 226), (6, Go.AM.at64 0 127)]) (t := 4) (r := .bool false) (ret := false) LF.noNum LF.follows (by kernel_rfl) rfl (by decide) (Go.AM.flc (Go.AM.sl64 (by decide) rfl h01 h02) (Go.AM.fl1 (Go.AM.sl64 (by decide) rfl h11 h12))) (by kernel_rfl) ?_
      intro tm' w' hb hs ht
      rw [if_neg (by decide)]
      go_wp2
      go_ret
      rw [decide_eq_false (show ¬ LF.Brk x y z by unfold LF.Brk; omega)]
      exact ⟨by rw [Array.getD_eq_getD_getElem?, ht]; rfl, hb⟩
    ·
      rcases (show (0 ≤ z ∧ z ≤ 167) ∨ (168 ≤ z ∧ z ≤ 168) ∨ (169 ≤ z ∧ z ≤ 169) ∨ (170 ≤ z ∧ z ≤ 255) by omega) with ⟨h21, h22⟩ | ⟨h21, h22⟩ | ⟨h21, h22⟩ | ⟨h21, h22⟩
      ·
        refine Go.AM.am_rest (n := 49) (l := [(5, Go.AM.at64 226 226), (6, Go.AM.at64 128 128), (7, Go.AM.at64 0 167)]) (t := 4) (r := .bool false) (ret := false) LF.noNum LF.follows (by kernel_rfl) rfl (by decide) (Go.AM.flc (Go.AM.sl64 (by decide) rfl h01 h02) (Go.AM.flc (Go.AM.sl64 (by decide) rfl h11 h12) (Go.AM.fl1 (Go.AM.sl64 (by decide) rfl h21 h22)))) (by kernel_rfl) ?_
        intro tm' w' hb hs ht
        rw [if_neg (by decide)]
        go_wp2
        go_ret
        rw [decide_eq_false (show ¬ LF.Brk x y z by unfold LF.Brk; omega)]
        exact ⟨by rw [Array.getD_eq_getD_getElem?, ht]; rfl, hb⟩
      ·
        refine Go.AM.am_rest (n := 49) (l := [(5, Go.AM.at64 226 226), (6, Go.AM.at64 128 128), (7, Go.AM.at64 168 168)]) (t := 4) (r := .bool true) (ret := false) LF.noNum LF.follows (by kernel_rfl) rfl (by decide) (Go.AM.flc (Go.AM.sl64 (by decide) rfl h01 h02) (Go.AM.flc (Go.AM.sl64 (by decide) rfl h11 h12) (Go.AM.fl1 (Go.AM.sl64 (by decide) rfl h21 h22)))) (by kernel_rfl) ?_
        intro tm' w' hb hs ht
        rw [if_neg (by decide)]
        go_wp2
        go_ret
        rw [decide_eq_true (show LF.Brk x y z by unfold LF.Brk; omega)]
        exact ⟨by rw [Array.getD_eq_getD_getElem?, ht]; rfl, hb⟩
      ·
        refine Go.AM.am_rest (n := 49) (l := [(5, Go.AM.at64 226 226), (6, Go.AM.at64 128 128), (7, Go.AM.at64 169 169)]) (t := 4) (r := .bool true) (ret := false) LF.noNum LF.follows (by kernel_rfl) rfl (by decide) (Go.AM.flc (Go.AM.sl64 (by decide) rfl h01 h02) (Go.AM.flc (Go.AM.sl64 (by decide) rfl h11 h12) (Go.AM.fl1 (Go.AM.sl64 (by decide) rfl h21 h22)))) (by kernel_rfl) ?_
        intro tm' w' hb hs ht
        rw [if_neg (by decide)]
        go_wp2
        go_ret
        rw [decide_eq_true (show LF.Brk x y z by unfold LF.Brk; omega)]
        exact ⟨by rw [Array.getD_eq_getD_getElem?, ht]; rfl, hb⟩
      ·
        refine Go.AM.am_rest (n := 49) (l := [(5, Go.AM.at64 226 226), (6, Go.AM.at64 128 128), (7, Go.AM.at64 170 255)]) (t := 4) (r := .bool false) (ret := false) LF.noNum LF.follows (by kernel_rfl) rfl (by decide) (Go.AM.flc (Go.AM.sl64 (by decide) rfl h01 h02) (Go.AM.flc (Go.AM.sl64 (by decide) rfl h11 h12) (Go.AM.fl1 (Go.AM.sl64 (by decide) rfl h21 h22)))) (by kernel_rfl) ?_
        intro tm' w' hb hs ht
        rw [if_neg (by decide)]
        go_wp2
        go_ret
        rw [decide_eq_false (show ¬ LF.Brk x y z by unfold LF.Brk; omega)]
        exact ⟨by rw [Array.getD_eq_getD_getElem?, ht]; rfl, hb⟩
    ·
      refine Go.AM.am_rest (n := 49) (l := [(5, Go.AM.at64 226 226), (6, Go.AM.at64 129 255)]) (t := 4) (r := .bool false) (ret := false) LF.noNum LF.follows (by kernel_rfl) rfl (by decide) (Go.AM.flc (Go.AM.sl64 (by decide) rfl h01 h02) (Go.AM.fl1 (Go.AM.sl64 (by decide) rfl h11 h12))) (by kernel_rfl) ?_
      intro tm' w' hb hs ht
      rw [if_neg (by decide)]
      go_wp2
      go_ret
      rw [decide_eq_false (show ¬ LF.Brk x y z by unfold LF.Brk; omega)]
      exact ⟨by rw [Array.getD_eq_getD_getElem?, ht]; rfl, hb⟩
  ·
    refine Go.AM.am_rest (n := 49) (l := [(5, Go.AM.at64 227 255)]) (t := 4) (r := .bool false) (ret := false) LF.noNum LF.follows (by kernel_rfl) rfl (by decide) (Go.AM.fl1 (Go.AM.sl64 (by decide) rfl h01 h02)) (by kernel_rfl) ?_
    intro tm' w' hb hs ht
    rw [if_neg (by decide)]
    go_wp2
    go_ret
    rw [decide_eq_false (show ¬ LF.Brk x y z by unfold LF.Brk; omega)]
    exact ⟨by rw [Array.getD_eq_getD_getElem?, ht]; rfl, hb⟩

end Go.Proofs.C1
