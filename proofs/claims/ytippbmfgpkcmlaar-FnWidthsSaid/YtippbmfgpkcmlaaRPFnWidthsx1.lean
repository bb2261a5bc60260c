-- PRINTED BY print.sh 35421559b90ae4d0a3588c463048766b98c2df88dd9212a6774a882060cdf62d: not written by this session
import Derived.Test.YtippbmfgpkcmlaaRPFnWidthsx0
namespace Go.Proofs.YtippbmfgpkcmlaaR.PFnWidths
open Go.RowKit Go.Proofs.YtippbmfgpkcmlaaRW.PrintWords Go.Proofs.YtippbmfgpkcmlaaRW.PrintLast Go.Proofs.YtippbmfgpkcmlaaRW.PrintMore
attribute [local go_sem] max2_int min2_int max_two min_two max_three min_three max_four min_four   -- for this text's walks alone
set_option linter.unusedVariables false
set_option linter.unusedSimpArgs false

/-! ### yaml_width: function 59 -/
def yaml_width.f (a0 : Int) : Option (Int) := if (Go.bits .and .u8 a0 128) = 0 then (some 1) else (if (Go.bits .and .u8 a0 224) = 192 then (some 2) else (if (Go.bits .and .u8 a0 240) = 224 then (some 3) else (if (Go.bits .and .u8 a0 248) = 240 then (some 4) else (some 0))))
set_option maxHeartbeats 8000000 in
set_option maxRecDepth 100000 in
theorem yaml_width.calls (a0 : Int) (r : Int) (w : World) (h : yaml_width.f a0 = some r) :
    Calls Try.prog 59 #[.int .u8 a0] w fun e w' => e = .returned (.int .i64 r) ∧ Drawn0 w w' := by
  have H : (if (Go.bits .and .u8 a0 128) = 0 then (some 1) else (if (Go.bits .and .u8 a0 224) = 192 then (some 2) else (if (Go.bits .and .u8 a0 240) = 224 then (some 3) else (if (Go.bits .and .u8 a0 248) = 240 then (some 4) else (some 0))))) = some r := h
  clear h
  by_cases c2 : (Go.bits .and .u8 a0 128) = 0
  · rw [if_pos c2] at H
    have c2b0 : ((Go.bits .and .u8 a0 128) == 0) = true := beq_iff_eq.mpr c2
    have c2b1 : ((Go.bits .and .u8 a0 128) != 0) = false := bne_eq_false_iff_eq.mpr c2
    clear c2
    obtain rfl := Option.some.inj H
    go_enter Try.func59, Try.ntmps59
    go_wp2
    go_ret
    exact ⟨by first | rfl | (simp; done) | (simp [*]; done), by repeat (first | exact Drawn0.refl _ | apply Drawn0.step)⟩
  · rw [if_neg c2] at H
    have c2b0 : ((Go.bits .and .u8 a0 128) == 0) = false := beq_eq_false_iff_ne.mpr c2
    have c2b1 : ((Go.bits .and .u8 a0 128) != 0) = true := bne_iff_ne.mpr c2
    by_cases c3 : (Go.bits .and .u8 a0 224) = 192
    · rw [if_pos c3] at H
      have c3b0 : ((Go.bits .and .u8 a0 224) == 192) = true := beq_iff_eq.mpr c3
      have c3b1 : ((Go.bits .and .u8 a0 224) != 192) = false := bne_eq_false_iff_eq.mpr c3
      clear c3
      obtain rfl := Option.some.inj H
      go_enter Try.func59, Try.ntmps59
      go_wp2
      go_ret
      exact ⟨by first | rfl | (simp; done) | (simp [*]; done), by repeat (first | exact Drawn0.refl _ | apply Drawn0.step)⟩
    · rw [if_neg c3] at H
      have c3b0 : ((Go.bits .and .u8 a0 224) == 192) = false := beq_eq_false_iff_ne.mpr c3
      have c3b1 : ((Go.bits .and .u8 a0 224) != 192) = true := bne_iff_ne.mpr c3
      by_cases c4 : (Go.bits .and .u8 a0 240) = 224
      · rw [if_pos c4] at H
        have c4b0 : ((Go.bits .and .u8 a0 240) == 224) = true := beq_iff_eq.mpr c4
        have c4b1 : ((Go.bits .and .u8 a0 240) != 224) = false := bne_eq_false_iff_eq.mpr c4
        clear c4
        obtain rfl := Option.some.inj H
        go_enter Try.func59, Try.ntmps59
        go_wp2
        go_ret
        exact ⟨by first | rfl | (simp; done) | (simp [*]; done), by repeat (first | exact Drawn0.refl _ | apply Drawn0.step)⟩
      · rw [if_neg c4] at H
        have c4b0 : ((Go.bits .and .u8 a0 240) == 224) = false := beq_eq_false_iff_ne.mpr c4
        have c4b1 : ((Go.bits .and .u8 a0 240) != 224) = true := bne_iff_ne.mpr c4
        by_cases c5 : (Go.bits .and .u8 a0 248) = 240
        · rw [if_pos c5] at H
          have c5b0 : ((Go.bits .and .u8 a0 248) == 240) = true := beq_iff_eq.mpr c5
          have c5b1 : ((Go.bits .and .u8 a0 248) != 240) = false := bne_eq_false_iff_eq.mpr c5
          clear c5
          obtain rfl := Option.some.inj H
          go_enter Try.func59, Try.ntmps59
          go_wp2
          go_ret
          exact ⟨by first | rfl | (simp; done) | (simp [*]; done), by repeat (first | exact Drawn0.refl _ | apply Drawn0.step)⟩
        · rw [if_neg c5] at H
          have c5b0 : ((Go.bits .and .u8 a0 248) == 240) = false := beq_eq_false_iff_ne.mpr c5
          have c5b1 : ((Go.bits .and .u8 a0 248) != 240) = true := bne_iff_ne.mpr c5
          obtain rfl := Option.some.inj H
          go_enter Try.func59, Try.ntmps59
          go_wp2
          go_ret
          exact ⟨by first | rfl | (simp; done) | (simp [*]; done), by repeat (first | exact Drawn0.refl _ | apply Drawn0.step)⟩

/-! ### yaml_ZzWidth: function 29 -/
def yaml_ZzWidth.f (a0 : Int) : Option (Int) := (yaml_width.f a0).bind fun t101 => (some t101)
set_option maxHeartbeats 8000000 in
set_option maxRecDepth 100000 in
theorem yaml_ZzWidth.calls (a0 : Int) (r : Int) (w : World) (h : yaml_ZzWidth.f a0 = some r) :
    Calls Try.prog 29 #[.int .u8 a0] w fun e w' => e = .returned (.int .i64 r) ∧ Drawn0 w w' := by
  have H : ((yaml_width.f a0).bind fun t101 => (some t101)) = some r := h
  clear h
  replace H := Option.bind_eq_some_iff.mp H
  obtain ⟨t101, A20, H⟩ := H
  replace H : (some t101) = some r := H
  have A2 := Aside0.mk A20
  clear A20
  obtain rfl := Option.some.inj H
  go_enter Try.func29, Try.ntmps29
  go_wp2_with (first | ((with_reducible refine gate_callee (f := 59) rfl ?_); refine goesL_ (some 4) rfl rfl Try.func59 (by kernel_rfl) rfl #[.int .u8 a0] rfl (by (try simp only [List.map_toArray, List.map_cons, List.map_nil]); first | done | rfl | (simp only [List.length_drop, List.length_take]; rfl)) ?_; (with_reducible refine (yaml_width.calls a0 t101 _ A2.out).mono ?_); rintro e w' ⟨rfl, ⟨nd, rfl⟩⟩; refine ⟨_, rfl, ?_⟩))
  go_ret
  exact ⟨by first | rfl | (simp; done) | (simp [*]; done), by repeat (first | exact Drawn0.refl _ | apply Drawn0.step)⟩

/-! ### impl_Width: function 13 -/
def impl_Width.f (a0 : Int) : Option (Int) := (yaml_ZzWidth.f a0).bind fun t102 => (some t102)
set_option maxHeartbeats 8000000 in
set_option maxRecDepth 100000 in
theorem impl_Width.calls (a0 : Int) (r : Int) (w : World) (h : impl_Width.f a0 = some r) :
    Calls Try.prog 13 #[.int .u8 a0] w fun e w' => e = .returned (.int .i64 r) ∧ Drawn0 w w' := by
  have H : ((yaml_ZzWidth.f a0).bind fun t102 => (some t102)) = some r := h
  clear h
  replace H := Option.bind_eq_some_iff.mp H
  obtain ⟨t102, A20, H⟩ := H
  replace H : (some t102) = some r := H
  have A2 := Aside0.mk A20
  clear A20
  obtain rfl := Option.some.inj H
  go_enter Try.func13, Try.ntmps13
  go_wp2_with (first | ((with_reducible refine gate_callee (f := 29) rfl ?_); refine goesL_ (some 4) rfl rfl Try.func29 (by kernel_rfl) rfl #[.int .u8 a0] rfl (by (try simp only [List.map_toArray, List.map_cons, List.map_nil]); first | done | rfl | (simp only [List.length_drop, List.length_take]; rfl)) ?_; (with_reducible refine (yaml_ZzWidth.calls a0 t102 _ A2.out).mono ?_); rintro e w' ⟨rfl, ⟨nd, rfl⟩⟩; refine ⟨_, rfl, ?_⟩))
  go_ret
  exact ⟨by first | rfl | (simp; done) | (simp [*]; done), by repeat (first | exact Drawn0.refl _ | apply Drawn0.step)⟩

/-! ### spec_Wide: function 14 -/
mutual
def spec_Wide.j0 : Nat → Int → Bool → Option (Int)
  | 0, _, _ => none
  | k + 1, x0, x6 => if x6 = true then (some 2) else (if x0 ≥ 224 then (spec_Wide.j1 k x0 (decide (x0 < 240))) else (spec_Wide.j1 k x0 false))
def spec_Wide.j1 : Nat → Int → Bool → Option (Int)
  | 0, _, _ => none
  | k + 1, x0, x13 => if x13 = true then (some 3) else (if x0 ≥ 240 then (if x0 < 248 then (some 4) else (some 0)) else (some 0))
end
def spec_Wide.f (k : Nat) (a0 : Int) : Option (Int) := if a0 < 128 then (some 1) else (if a0 ≥ 192 then (spec_Wide.j0 k a0 (decide (a0 < 224))) else (spec_Wide.j0 k a0 false))
theorem spec_Wide.mono_l : ∀ k, (∀ y0 y1, LeO (spec_Wide.j0 k y0 y1) (spec_Wide.j0 (k + 1) y0 y1)) ∧ (∀ y0 y1, LeO (spec_Wide.j1 k y0 y1) (spec_Wide.j1 (k + 1) y0 y1))
  | 0 => ⟨fun _ _ r h => by simp [spec_Wide.j0] at h, fun _ _ r h => by simp [spec_Wide.j1] at h⟩
  | k + 1 => by
    obtain ⟨ih0, ih1⟩ := spec_Wide.mono_l k
    refine ⟨?_, ?_⟩
    · intro y0 y1
      unfold spec_Wide.j0
      repeat' first
      | (with_reducible exact ih0 _ _)
      | (with_reducible exact ih1 _ _)
      | (with_reducible exact LeO.refl _)
      | (with_reducible exact LeO.none _)
      | (with_reducible refine LeO.ite ?_ ?_)
      | (with_reducible refine LeO.bind ?_ (fun _ => ?_))
      | exact ih0 _ _
      | exact ih1 _ _
      | exact LeO.none _
      | refine LeO.ite ?_ ?_
      | refine LeO.bind ?_ (fun _ => ?_)
    · intro y0 y1
      unfold spec_Wide.j1
      repeat' first
      | (with_reducible exact ih0 _ _)
      | (with_reducible exact ih1 _ _)
      | (with_reducible exact LeO.refl _)
      | (with_reducible exact LeO.none _)
      | (with_reducible refine LeO.ite ?_ ?_)
      | (with_reducible refine LeO.bind ?_ (fun _ => ?_))
      | exact ih0 _ _
      | exact ih1 _ _
      | exact LeO.none _
      | refine LeO.ite ?_ ?_
      | refine LeO.bind ?_ (fun _ => ?_)
theorem spec_Wide.mono : ∀ a0 k, LeO (spec_Wide.f k a0) (spec_Wide.f (k + 1) a0) := by
  intro a0 k
  obtain ⟨ih0, ih1⟩ := spec_Wide.mono_l k
  unfold spec_Wide.f
  repeat' first
      | (with_reducible exact ih0 _ _)
      | (with_reducible exact ih1 _ _)
      | (with_reducible exact LeO.refl _)
      | (with_reducible exact LeO.none _)
      | (with_reducible refine LeO.ite ?_ ?_)
      | (with_reducible refine LeO.bind ?_ (fun _ => ?_))
      | exact ih0 _ _
      | exact ih1 _ _
      | exact LeO.none _
      | refine LeO.ite ?_ ?_
      | refine LeO.bind ?_ (fun _ => ?_)
set_option maxHeartbeats 8000000 in
set_option maxRecDepth 100000 in
theorem spec_Wide.calls (k : Nat) (a0 : Int) (r : Int) (w : World) (h : spec_Wide.f k a0 = some r) :
    Calls Try.prog 14 #[.int .u8 a0] w fun e w' => e = .returned (.int .i64 r) ∧ Drawn0 w w' := by
  have H : (if a0 < 128 then (some 1) else (if a0 ≥ 192 then (spec_Wide.j0 k a0 (decide (a0 < 224))) else (spec_Wide.j0 k a0 false))) = some r := h
  clear h
  by_cases c2 : a0 < 128
  · rw [if_pos c2] at H
    have c2b0 : decide (a0 < 128) = true := decide_eq_true c2
    clear c2
    obtain rfl := Option.some.inj H
    go_enter Try.func14, Try.ntmps14
    go_wp2
    go_ret
    exact ⟨by first | rfl | (simp; done) | (simp [*]; done), by repeat (first | exact Drawn0.refl _ | apply Drawn0.step)⟩
  · rw [if_neg c2] at H
    have c2b0 : decide (a0 < 128) = false := decide_eq_false c2
    clear c2
    have HC3 := Aside0.mk H
    clear H
    go_enter Try.func14, Try.ntmps14
    go_upto_region 3 with (fail)
    go_cut [6] (fun v6 wc => ∃ (kq : Nat) (x6_2 : Bool), v6 = .bool x6_2 ∧ Aside0 (spec_Wide.j0 kq a0 x6_2 = some r) ∧ Aside0 (kq ≤ k) ∧ Drawn0 w wc)
    case first =>
      have H := HC3.out
      clear HC3
      by_cases c4 : a0 ≥ 192
      · rw [if_pos c4] at H
        have c4b0 : decide (192 ≤ a0) = true := decide_eq_true c4
        clear c4
        (first | rw [c4b0] | (simp only [i64_w, i32_w]; rw [c4b0]) | skip)
        have H' := Aside0.mk H
        clear H
        go_wp2
        go_meet
        case rel => exact ⟨_, (decide (a0 < 224)), (by first | rfl | (simp; done) | (simp [*]; done)), H', ⟨by first | omega | exact Nat.le_refl _⟩, by repeat (first | exact Drawn0.refl _ | apply Drawn0.step)⟩
      · rw [if_neg c4] at H
        have c4b0 : decide (192 ≤ a0) = false := decide_eq_false c4
        clear c4
        (first | rw [c4b0] | (simp only [i64_w, i32_w]; rw [c4b0]) | skip)
        have H' := Aside0.mk H
        clear H
        go_wp2
        go_meet
        case rel => exact ⟨_, (false), (by first | rfl | (simp; done) | (simp [*]; done)), H', ⟨by first | omega | exact Nat.le_refl _⟩, by repeat (first | exact Drawn0.refl _ | apply Drawn0.step)⟩
    case rest =>
      clear HC3
      try clear c1
      try clear c2
      try clear c2b0
      try clear p2
      try clear c4
      try clear c4b0
      obtain ⟨kq, x6_2, rfl, HA, HJ2, ⟨mc2, rfl⟩⟩ := hcut
      cases kq with
      | zero => exact absurd HA.out (by simp [spec_Wide.j0])
      | succ kj2 =>
        have H := HA.out
        clear HA
        simp only [spec_Wide.j0] at H
        by_cases c5 : x6_2 = true
        · subst c5
          have H1 : (some 2) = some r := by rw [if_pos rfl] at H; exact H
          clear H
          have H := H1
          clear H1
          obtain rfl := Option.some.inj H
          go_wp2
          go_ret
          exact ⟨by first | rfl | (simp; done) | (simp [*]; done), by repeat (first | exact Drawn0.refl _ | apply Drawn0.step)⟩
        · replace c5 := Bool.eq_false_iff.mpr c5
          subst c5
          have H1 : (if a0 ≥ 224 then (spec_Wide.j1 kj2 a0 (decide (a0 < 240))) else (spec_Wide.j1 kj2 a0 false)) = some r := by rw [if_neg (show ¬ (false = true) by decide)] at H; exact H
          clear H
          have H := H1
          clear H1
          have HC6 := Aside0.mk H
          clear H
          go_upto_region 5 with (fail)
          go_cut [13] (fun v13 wc => ∃ (kq : Nat) (x13_5 : Bool), v13 = .bool x13_5 ∧ Aside0 (spec_Wide.j1 kq a0 x13_5 = some r) ∧ Aside0 (kq ≤ kj2) ∧ Drawn0 w wc)
          case first =>
            have H := HC6.out
            clear HC6
            by_cases c7 : a0 ≥ 224
            · rw [if_pos c7] at H
              have c7b0 : decide (224 ≤ a0) = true := decide_eq_true c7
              clear c7
              (first | rw [c7b0] | (simp only [i64_w, i32_w]; rw [c7b0]) | skip)
              have H' := Aside0.mk H
              clear H
              go_wp2
              go_meet
              case rel => exact ⟨_, (decide (a0 < 240)), (by first | rfl | (simp; done) | (simp [*]; done)), H', ⟨by have := HJ2.out; first | omega | exact Nat.le_refl _⟩, by repeat (first | exact Drawn0.refl _ | apply Drawn0.step)⟩
            · rw [if_neg c7] at H
              have c7b0 : decide (224 ≤ a0) = false := decide_eq_false c7
              clear c7
              (first | rw [c7b0] | (simp only [i64_w, i32_w]; rw [c7b0]) | skip)
              have H' := Aside0.mk H
              clear H
              go_wp2
              go_meet
              case rel => exact ⟨_, (false), (by first | rfl | (simp; done) | (simp [*]; done)), H', ⟨by have := HJ2.out; first | omega | exact Nat.le_refl _⟩, by repeat (first | exact Drawn0.refl _ | apply Drawn0.step)⟩
          case rest =>
            clear HC6
            try clear c1
            try clear c2
            try clear c2b0
            try clear p2
            try clear c4
            try clear c4b0
            try clear c5
            try clear c7
            try clear c7b0
            try clear p2
            obtain ⟨kq, x13_5, rfl, HA, HJ5, ⟨mc5, rfl⟩⟩ := hcut
            cases kq with
            | zero => exact absurd HA.out (by simp [spec_Wide.j1])
            | succ kj5 =>
              have H := HA.out
              clear HA
              simp only [spec_Wide.j1] at H
              by_cases c8 : x13_5 = true
              · subst c8
                have H1 : (some 3) = some r := by rw [if_pos rfl] at H; exact H
                clear H
                have H := H1
                clear H1
                obtain rfl := Option.some.inj H
                go_wp2
                go_ret
                exact ⟨by first | rfl | (simp; done) | (simp [*]; done), by repeat (first | exact Drawn0.refl _ | apply Drawn0.step)⟩
              · replace c8 := Bool.eq_false_iff.mpr c8
                subst c8
                have H1 : (if a0 ≥ 240 then (if a0 < 248 then (some 4) else (some 0)) else (some 0)) = some r := by rw [if_neg (show ¬ (false = true) by decide)] at H; exact H
                clear H
                have H := H1
                clear H1
                by_cases c9 : a0 ≥ 240
                · rw [if_pos c9] at H
                  have c9b0 : decide (240 ≤ a0) = true := decide_eq_true c9
                  clear c9
                  by_cases c10 : a0 < 248
                  · rw [if_pos c10] at H
                    have c10b0 : decide (a0 < 248) = true := decide_eq_true c10
                    clear c10
                    obtain rfl := Option.some.inj H
                    go_wp2
                    go_ret
                    exact ⟨by first | rfl | (simp; done) | (simp [*]; done), by repeat (first | exact Drawn0.refl _ | apply Drawn0.step)⟩
                  · rw [if_neg c10] at H
                    have c10b0 : decide (a0 < 248) = false := decide_eq_false c10
                    clear c10
                    obtain rfl := Option.some.inj H
                    go_wp2
                    go_ret
                    exact ⟨by first | rfl | (simp; done) | (simp [*]; done), by repeat (first | exact Drawn0.refl _ | apply Drawn0.step)⟩
                · rw [if_neg c9] at H
                  have c9b0 : decide (240 ≤ a0) = false := decide_eq_false c9
                  clear c9
                  obtain rfl := Option.some.inj H
                  go_wp2
                  go_ret
                  exact ⟨by first | rfl | (simp; done) | (simp [*]; done), by repeat (first | exact Drawn0.refl _ | apply Drawn0.step)⟩

/-! ### laws_FnWidths: function 4 -/
def laws_FnWidths.f (k : Nat) (a0 : Int) : Option (Bool) := (impl_Width.f a0).bind fun t103 => ((spec_Wide.f k a0).bind fun t104 => (some (t103 == t104)))
theorem laws_FnWidths.mono : ∀ a0 k, LeO (laws_FnWidths.f k a0) (laws_FnWidths.f (k + 1) a0) := by
  intro a0 k
  unfold laws_FnWidths.f
  repeat' first
      | (with_reducible exact spec_Wide.mono _ _)
      | (with_reducible exact LeO.refl _)
      | (with_reducible exact LeO.none _)
      | (with_reducible refine LeO.ite ?_ ?_)
      | (with_reducible refine LeO.bind ?_ (fun _ => ?_))
      | exact spec_Wide.mono _ _
      | exact LeO.none _
      | refine LeO.ite ?_ ?_
      | refine LeO.bind ?_ (fun _ => ?_)
set_option maxHeartbeats 8000000 in
set_option maxRecDepth 100000 in
theorem laws_FnWidths.calls (k : Nat) (a0 : Int) (r : Bool) (w : World) (h : laws_FnWidths.f k a0 = some r) :
    Calls Try.prog 4 #[.int .u8 a0] w fun e w' => e = .returned (.bool r) ∧ Drawn0 w w' := by
  have H : ((impl_Width.f a0).bind fun t103 => ((spec_Wide.f k a0).bind fun t104 => (some (t103 == t104)))) = some r := h
  clear h
  replace H := Option.bind_eq_some_iff.mp H
  obtain ⟨t103, A20, H⟩ := H
  replace H : ((spec_Wide.f k a0).bind fun t104 => (some (t103 == t104))) = some r := H
  have A2 := Aside0.mk A20
  clear A20
  replace H := Option.bind_eq_some_iff.mp H
  obtain ⟨t104, A30, H⟩ := H
  replace H : (some (t103 == t104)) = some r := H
  have A3 := Aside0.mk A30
  clear A30
  obtain rfl := Option.some.inj H
  go_enter Try.func4, Try.ntmps4
  go_wp2_with (first | ((with_reducible refine gate_callee (f := 13) rfl ?_); refine goesL_ (some 4) rfl rfl Try.func13 (by kernel_rfl) rfl #[.int .u8 a0] rfl (by (try simp only [List.map_toArray, List.map_cons, List.map_nil]); first | done | rfl | (simp only [List.length_drop, List.length_take]; rfl)) ?_; (with_reducible refine (impl_Width.calls a0 t103 _ A2.out).mono ?_); rintro e w' ⟨rfl, ⟨nd, rfl⟩⟩; refine ⟨_, rfl, ?_⟩) | ((with_reducible refine gate_callee (f := 14) rfl ?_); refine goesL_ (some 6) rfl rfl Try.func14 (by kernel_rfl) rfl #[.int .u8 a0] rfl (by (try simp only [List.map_toArray, List.map_cons, List.map_nil]); first | done | rfl | (simp only [List.length_drop, List.length_take]; rfl)) ?_; (with_reducible refine (spec_Wide.calls k a0 t104 _ A3.out).mono ?_); rintro e w' ⟨rfl, ⟨nd, rfl⟩⟩; refine ⟨_, rfl, ?_⟩))
  go_ret
  exact ⟨by first | rfl | (simp; done) | (simp [*]; done), by repeat (first | exact Drawn0.refl _ | apply Drawn0.step)⟩

/-- THE ONE PURE STATEMENT of laws_FnWidths: yours. -/
def laws_FnWidths.Pure : Prop := ∀ (a0 : Int), (Lit.int .u8 a0).wf = true → ∃ k, laws_FnWidths.f k a0 = some true
theorem laws_FnWidths.walk (P : laws_FnWidths.Pure) (a0 : Int) (w : World) (w0 : (Lit.int .u8 a0).wf = true) :
    Calls Try.prog 4 #[.int .u8 a0] w fun e w' => e = .returned (.bool true) ∧ Below w.heap.size w w' := by
  obtain ⟨k, h⟩ := P a0 w0
  refine (laws_FnWidths.calls k a0 true w h).mono ?_
  rintro e w' ⟨rfl, hd⟩
  exact ⟨rfl, hd.below⟩

end Go.Proofs.YtippbmfgpkcmlaaR.PFnWidths
