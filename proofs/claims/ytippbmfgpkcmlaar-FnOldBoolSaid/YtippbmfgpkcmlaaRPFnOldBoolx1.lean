-- PRINTED BY print.sh 35421559b90ae4d0a3588c463048766b98c2df88dd9212a6774a882060cdf62d: not written by this session
import Derived.Test.YtippbmfgpkcmlaaRPFnOldBoolx0
namespace Go.Proofs.YtippbmfgpkcmlaaR.PFnOldBool
open Go.RowKit Go.Proofs.YtippbmfgpkcmlaaRW.PrintWords Go.Proofs.YtippbmfgpkcmlaaRW.PrintLast Go.Proofs.YtippbmfgpkcmlaaRW.PrintMore
attribute [local go_sem] max2_int min2_int max_two min_two max_three min_three max_four min_four   -- for this text's walks alone
set_option linter.unusedVariables false
set_option linter.unusedSimpArgs false

/-! ### yaml_isOldBool: function 58 -/
def yaml_isOldBool.f (a0 : ByteArray) : Option (Bool) := if a0.toList = ([121] : List UInt8) then (some true) else (if a0.toList = ([89] : List UInt8) then (some true) else (if a0.toList = ([121, 101, 115] : List UInt8) then (some true) else (if a0.toList = ([89, 101, 115] : List UInt8) then (some true) else (if a0.toList = ([89, 69, 83] : List UInt8) then (some true) else (if a0.toList = ([111, 110] : List UInt8) then (some true) else (if a0.toList = ([79, 110] : List UInt8) then (some true) else (if a0.toList = ([79, 78] : List UInt8) then (some true) else (if a0.toList = ([110] : List UInt8) then (some true) else (if a0.toList = ([78] : List UInt8) then (some true) else (if a0.toList = ([110, 111] : List UInt8) then (some true) else (if a0.toList = ([78, 111] : List UInt8) then (some true) else (if a0.toList = ([78, 79] : List UInt8) then (some true) else (if a0.toList = ([111, 102, 102] : List UInt8) then (some true) else (if a0.toList = ([79, 102, 102] : List UInt8) then (some true) else (if a0.toList = ([79, 70, 70] : List UInt8) then (some true) else (some false))))))))))))))))
set_option maxHeartbeats 8000000 in
set_option maxRecDepth 100000 in
theorem yaml_isOldBool.calls (a0 : ByteArray) (r : Bool) (w : World) (h : yaml_isOldBool.f a0 = some r) :
    Calls Try.prog 58 #[.string a0] w fun e w' => e = .returned (.bool r) ∧ Drawn0 w w' := by
  have H : (if a0.toList = ([121] : List UInt8) then (some true) else (if a0.toList = ([89] : List UInt8) then (some true) else (if a0.toList = ([121, 101, 115] : List UInt8) then (some true) else (if a0.toList = ([89, 101, 115] : List UInt8) then (some true) else (if a0.toList = ([89, 69, 83] : List UInt8) then (some true) else (if a0.toList = ([111, 110] : List UInt8) then (some true) else (if a0.toList = ([79, 110] : List UInt8) then (some true) else (if a0.toList = ([79, 78] : List UInt8) then (some true) else (if a0.toList = ([110] : List UInt8) then (some true) else (if a0.toList = ([78] : List UInt8) then (some true) else (if a0.toList = ([110, 111] : List UInt8) then (some true) else (if a0.toList = ([78, 111] : List UInt8) then (some true) else (if a0.toList = ([78, 79] : List UInt8) then (some true) else (if a0.toList = ([111, 102, 102] : List UInt8) then (some true) else (if a0.toList = ([79, 102, 102] : List UInt8) then (some true) else (if a0.toList = ([79, 70, 70] : List UInt8) then (some true) else (some false))))))))))))))))) = some r := h
  clear h
  by_cases c2 : a0.toList = ([121] : List UInt8)
  · rw [if_pos c2] at H
    have c2b0 : (a0.toList == ([121] : List UInt8)) = true := beq_iff_eq.mpr c2
    have c2b1 : (a0.toList != ([121] : List UInt8)) = false := bne_eq_false_iff_eq.mpr c2
    clear c2
    obtain rfl := Option.some.inj H
    go_enter Try.func58, Try.ntmps58
    go_wp2
    go_ret
    exact ⟨by first | rfl | (simp; done) | (simp [*]; done), by repeat (first | exact Drawn0.refl _ | apply Drawn0.step)⟩
  · rw [if_neg c2] at H
    have c2b0 : (a0.toList == ([121] : List UInt8)) = false := beq_eq_false_iff_ne.mpr c2
    have c2b1 : (a0.toList != ([121] : List UInt8)) = true := bne_iff_ne.mpr c2
    by_cases c3 : a0.toList = ([89] : List UInt8)
    · rw [if_pos c3] at H
      have c3b0 : (a0.toList == ([89] : List UInt8)) = true := beq_iff_eq.mpr c3
      have c3b1 : (a0.toList != ([89] : List UInt8)) = false := bne_eq_false_iff_eq.mpr c3
      clear c3
      obtain rfl := Option.some.inj H
      go_enter Try.func58, Try.ntmps58
      go_wp2
      go_ret
      exact ⟨by first | rfl | (simp; done) | (simp [*]; done), by repeat (first | exact Drawn0.refl _ | apply Drawn0.step)⟩
    · rw [if_neg c3] at H
      have c3b0 : (a0.toList == ([89] : List UInt8)) = false := beq_eq_false_iff_ne.mpr c3
      have c3b1 : (a0.toList != ([89] : List UInt8)) = true := bne_iff_ne.mpr c3
      by_cases c4 : a0.toList = ([121, 101, 115] : List UInt8)
      · rw [if_pos c4] at H
        have c4b0 : (a0.toList == ([121, 101, 115] : List UInt8)) = true := beq_iff_eq.mpr c4
        have c4b1 : (a0.toList != ([121, 101, 115] : List UInt8)) = false := bne_eq_false_iff_eq.mpr c4
        clear c4
        obtain rfl := Option.some.inj H
        go_enter Try.func58, Try.ntmps58
        go_wp2
        go_ret
        exact ⟨by first | rfl | (simp; done) | (simp [*]; done), by repeat (first | exact Drawn0.refl _ | apply Drawn0.step)⟩
      · rw [if_neg c4] at H
        have c4b0 : (a0.toList == ([121, 101, 115] : List UInt8)) = false := beq_eq_false_iff_ne.mpr c4
        have c4b1 : (a0.toList != ([121, 101, 115] : List UInt8)) = true := bne_iff_ne.mpr c4
        by_cases c5 : a0.toList = ([89, 101, 115] : List UInt8)
        · rw [if_pos c5] at H
          have c5b0 : (a0.toList == ([89, 101, 115] : List UInt8)) = true := beq_iff_eq.mpr c5
          have c5b1 : (a0.toList != ([89, 101, 115] : List UInt8)) = false := bne_eq_false_iff_eq.mpr c5
          clear c5
          obtain rfl := Option.some.inj H
          go_enter Try.func58, Try.ntmps58
          go_wp2
          go_ret
          exact ⟨by first | rfl | (simp; done) | (simp [*]; done), by repeat (first | exact Drawn0.refl _ | apply Drawn0.step)⟩
        · rw [if_neg c5] at H
          have c5b0 : (a0.toList == ([89, 101, 115] : List UInt8)) = false := beq_eq_false_iff_ne.mpr c5
          have c5b1 : (a0.toList != ([89, 101, 115] : List UInt8)) = true := bne_iff_ne.mpr c5
          by_cases c6 : a0.toList = ([89, 69, 83] : List UInt8)
          · rw [if_pos c6] at H
            have c6b0 : (a0.toList == ([89, 69, 83] : List UInt8)) = true := beq_iff_eq.mpr c6
            have c6b1 : (a0.toList != ([89, 69, 83] : List UInt8)) = false := bne_eq_false_iff_eq.mpr c6
            clear c6
            obtain rfl := Option.some.inj H
            go_enter Try.func58, Try.ntmps58
            go_wp2
            go_ret
            exact ⟨by first | rfl | (simp; done) | (simp [*]; done), by repeat (first | exact Drawn0.refl _ | apply Drawn0.step)⟩
          · rw [if_neg c6] at H
            have c6b0 : (a0.toList == ([89, 69, 83] : List UInt8)) = false := beq_eq_false_iff_ne.mpr c6
            have c6b1 : (a0.toList != ([89, 69, 83] : List UInt8)) = true := bne_iff_ne.mpr c6
            by_cases c7 : a0.toList = ([111, 110] : List UInt8)
            · rw [if_pos c7] at H
              have c7b0 : (a0.toList == ([111, 110] : List UInt8)) = true := beq_iff_eq.mpr c7
              have c7b1 : (a0.toList != ([111, 110] : List UInt8)) = false := bne_eq_false_iff_eq.mpr c7
              clear c7
              obtain rfl := Option.some.inj H
              go_enter Try.func58, Try.ntmps58
              go_wp2
              go_ret
              exact ⟨by first | rfl | (simp; done) | (simp [*]; done), by repeat (first | exact Drawn0.refl _ | apply Drawn0.step)⟩
            · rw [if_neg c7] at H
              have c7b0 : (a0.toList == ([111, 110] : List UInt8)) = false := beq_eq_false_iff_ne.mpr c7
              have c7b1 : (a0.toList != ([111, 110] : List UInt8)) = true := bne_iff_ne.mpr c7
              by_cases c8 : a0.toList = ([79, 110] : List UInt8)
              · rw [if_pos c8] at H
                have c8b0 : (a0.toList == ([79, 110] : List UInt8)) = true := beq_iff_eq.mpr c8
                have c8b1 : (a0.toList != ([79, 110] : List UInt8)) = false := bne_eq_false_iff_eq.mpr c8
                clear c8
                obtain rfl := Option.some.inj H
                go_enter Try.func58, Try.ntmps58
                go_wp2
                go_ret
                exact ⟨by first | rfl | (simp; done) | (simp [*]; done), by repeat (first | exact Drawn0.refl _ | apply Drawn0.step)⟩
              · rw [if_neg c8] at H
                have c8b0 : (a0.toList == ([79, 110] : List UInt8)) = false := beq_eq_false_iff_ne.mpr c8
                have c8b1 : (a0.toList != ([79, 110] : List UInt8)) = true := bne_iff_ne.mpr c8
                by_cases c9 : a0.toList = ([79, 78] : List UInt8)
                · rw [if_pos c9] at H
                  have c9b0 : (a0.toList == ([79, 78] : List UInt8)) = true := beq_iff_eq.mpr c9
                  have c9b1 : (a0.toList != ([79, 78] : List UInt8)) = false := bne_eq_false_iff_eq.mpr c9
                  clear c9
                  obtain rfl := Option.some.inj H
                  go_enter Try.func58, Try.ntmps58
                  go_wp2
                  go_ret
                  exact ⟨by first | rfl | (simp; done) | (simp [*]; done), by repeat (first | exact Drawn0.refl _ | apply Drawn0.step)⟩
                · rw [if_neg c9] at H
                  have c9b0 : (a0.toList == ([79, 78] : List UInt8)) = false := beq_eq_false_iff_ne.mpr c9
                  have c9b1 : (a0.toList != ([79, 78] : List UInt8)) = true := bne_iff_ne.mpr c9
                  by_cases c10 : a0.toList = ([110] : List UInt8)
                  · rw [if_pos c10] at H
                    have c10b0 : (a0.toList == ([110] : List UInt8)) = true := beq_iff_eq.mpr c10
                    have c10b1 : (a0.toList != ([110] : List UInt8)) = false := bne_eq_false_iff_eq.mpr c10
                    clear c10
                    obtain rfl := Option.some.inj H
                    go_enter Try.func58, Try.ntmps58
                    go_wp2
                    go_ret
                    exact ⟨by first | rfl | (simp; done) | (simp [*]; done), by repeat (first | exact Drawn0.refl _ | apply Drawn0.step)⟩
                  · rw [if_neg c10] at H
                    have c10b0 : (a0.toList == ([110] : List UInt8)) = false := beq_eq_false_iff_ne.mpr c10
                    have c10b1 : (a0.toList != ([110] : List UInt8)) = true := bne_iff_ne.mpr c10
                    by_cases c11 : a0.toList = ([78] : List UInt8)
                    · rw [if_pos c11] at H
                      have c11b0 : (a0.toList == ([78] : List UInt8)) = true := beq_iff_eq.mpr c11
                      have c11b1 : (a0.toList != ([78] : List UInt8)) = false := bne_eq_false_iff_eq.mpr c11
                      clear c11
                      obtain rfl := Option.some.inj H
                      go_enter Try.func58, Try.ntmps58
                      go_wp2
                      go_ret
                      exact ⟨by first | rfl | (simp; done) | (simp [*]; done), by repeat (first | exact Drawn0.refl _ | apply Drawn0.step)⟩
                    · rw [if_neg c11] at H
                      have c11b0 : (a0.toList == ([78] : List UInt8)) = false := beq_eq_false_iff_ne.mpr c11
                      have c11b1 : (a0.toList != ([78] : List UInt8)) = true := bne_iff_ne.mpr c11
                      by_cases c12 : a0.toList = ([110, 111] : List UInt8)
                      · rw [if_pos c12] at H
                        have c12b0 : (a0.toList == ([110, 111] : List UInt8)) = true := beq_iff_eq.mpr c12
                        have c12b1 : (a0.toList != ([110, 111] : List UInt8)) = false := bne_eq_false_iff_eq.mpr c12
                        clear c12
                        obtain rfl := Option.some.inj H
                        go_enter Try.func58, Try.ntmps58
                        go_wp2
                        go_ret
                        exact ⟨by first | rfl | (simp; done) | (simp [*]; done), by repeat (first | exact Drawn0.refl _ | apply Drawn0.step)⟩
                      · rw [if_neg c12] at H
                        have c12b0 : (a0.toList == ([110, 111] : List UInt8)) = false := beq_eq_false_iff_ne.mpr c12
                        have c12b1 : (a0.toList != ([110, 111] : List UInt8)) = true := bne_iff_ne.mpr c12
                        by_cases c13 : a0.toList = ([78, 111] : List UInt8)
                        · rw [if_pos c13] at H
                          have c13b0 : (a0.toList == ([78, 111] : List UInt8)) = true := beq_iff_eq.mpr c13
                          have c13b1 : (a0.toList != ([78, 111] : List UInt8)) = false := bne_eq_false_iff_eq.mpr c13
                          clear c13
                          obtain rfl := Option.some.inj H
                          go_enter Try.func58, Try.ntmps58
                          go_wp2
                          go_ret
                          exact ⟨by first | rfl | (simp; done) | (simp [*]; done), by repeat (first | exact Drawn0.refl _ | apply Drawn0.step)⟩
                        · rw [if_neg c13] at H
                          have c13b0 : (a0.toList == ([78, 111] : List UInt8)) = false := beq_eq_false_iff_ne.mpr c13
                          have c13b1 : (a0.toList != ([78, 111] : List UInt8)) = true := bne_iff_ne.mpr c13
                          by_cases c14 : a0.toList = ([78, 79] : List UInt8)
                          · rw [if_pos c14] at H
                            have c14b0 : (a0.toList == ([78, 79] : List UInt8)) = true := beq_iff_eq.mpr c14
                            have c14b1 : (a0.toList != ([78, 79] : List UInt8)) = false := bne_eq_false_iff_eq.mpr c14
                            clear c14
                            obtain rfl := Option.some.inj H
                            go_enter Try.func58, Try.ntmps58
                            go_wp2
                            go_ret
                            exact ⟨by first | rfl | (simp; done) | (simp [*]; done), by repeat (first | exact Drawn0.refl _ | apply Drawn0.step)⟩
                          · rw [if_neg c14] at H
                            have c14b0 : (a0.toList == ([78, 79] : List UInt8)) = false := beq_eq_false_iff_ne.mpr c14
                            have c14b1 : (a0.toList != ([78, 79] : List UInt8)) = true := bne_iff_ne.mpr c14
                            by_cases c15 : a0.toList = ([111, 102, 102] : List UInt8)
                            · rw [if_pos c15] at H
                              have c15b0 : (a0.toList == ([111, 102, 102] : List UInt8)) = true := beq_iff_eq.mpr c15
                              have c15b1 : (a0.toList != ([111, 102, 102] : List UInt8)) = false := bne_eq_false_iff_eq.mpr c15
                              clear c15
                              obtain rfl := Option.some.inj H
                              go_enter Try.func58, Try.ntmps58
                              go_wp2
                              go_ret
                              exact ⟨by first | rfl | (simp; done) | (simp [*]; done), by repeat (first | exact Drawn0.refl _ | apply Drawn0.step)⟩
                            · rw [if_neg c15] at H
                              have c15b0 : (a0.toList == ([111, 102, 102] : List UInt8)) = false := beq_eq_false_iff_ne.mpr c15
                              have c15b1 : (a0.toList != ([111, 102, 102] : List UInt8)) = true := bne_iff_ne.mpr c15
                              by_cases c16 : a0.toList = ([79, 102, 102] : List UInt8)
                              · rw [if_pos c16] at H
                                have c16b0 : (a0.toList == ([79, 102, 102] : List UInt8)) = true := beq_iff_eq.mpr c16
                                have c16b1 : (a0.toList != ([79, 102, 102] : List UInt8)) = false := bne_eq_false_iff_eq.mpr c16
                                clear c16
                                obtain rfl := Option.some.inj H
                                go_enter Try.func58, Try.ntmps58
                                go_wp2
                                go_ret
                                exact ⟨by first | rfl | (simp; done) | (simp [*]; done), by repeat (first | exact Drawn0.refl _ | apply Drawn0.step)⟩
                              · rw [if_neg c16] at H
                                have c16b0 : (a0.toList == ([79, 102, 102] : List UInt8)) = false := beq_eq_false_iff_ne.mpr c16
                                have c16b1 : (a0.toList != ([79, 102, 102] : List UInt8)) = true := bne_iff_ne.mpr c16
                                by_cases c17 : a0.toList = ([79, 70, 70] : List UInt8)
                                · rw [if_pos c17] at H
                                  have c17b0 : (a0.toList == ([79, 70, 70] : List UInt8)) = true := beq_iff_eq.mpr c17
                                  have c17b1 : (a0.toList != ([79, 70, 70] : List UInt8)) = false := bne_eq_false_iff_eq.mpr c17
                                  clear c17
                                  obtain rfl := Option.some.inj H
                                  go_enter Try.func58, Try.ntmps58
                                  go_wp2
                                  go_ret
                                  exact ⟨by first | rfl | (simp; done) | (simp [*]; done), by repeat (first | exact Drawn0.refl _ | apply Drawn0.step)⟩
                                · rw [if_neg c17] at H
                                  have c17b0 : (a0.toList == ([79, 70, 70] : List UInt8)) = false := beq_eq_false_iff_ne.mpr c17
                                  have c17b1 : (a0.toList != ([79, 70, 70] : List UInt8)) = true := bne_iff_ne.mpr c17
                                  obtain rfl := Option.some.inj H
                                  go_enter Try.func58, Try.ntmps58
                                  go_wp2
                                  go_ret
                                  exact ⟨by first | rfl | (simp; done) | (simp [*]; done), by repeat (first | exact Drawn0.refl _ | apply Drawn0.step)⟩

/-! ### yaml_ZzOldBool: function 27 -/
def yaml_ZzOldBool.f (a0 : ByteArray) : Option (Bool) := (yaml_isOldBool.f a0).bind fun t101 => (some t101)
set_option maxHeartbeats 8000000 in
set_option maxRecDepth 100000 in
theorem yaml_ZzOldBool.calls (a0 : ByteArray) (r : Bool) (w : World) (h : yaml_ZzOldBool.f a0 = some r) :
    Calls Try.prog 27 #[.string a0] w fun e w' => e = .returned (.bool r) ∧ Drawn0 w w' := by
  have H : ((yaml_isOldBool.f a0).bind fun t101 => (some t101)) = some r := h
  clear h
  replace H := Option.bind_eq_some_iff.mp H
  obtain ⟨t101, A20, H⟩ := H
  replace H : (some t101) = some r := H
  have A2 := Aside0.mk A20
  clear A20
  obtain rfl := Option.some.inj H
  go_enter Try.func27, Try.ntmps27
  go_wp2_with (first | ((with_reducible refine gate_callee (f := 58) rfl ?_); refine goesL_ (some 4) rfl rfl Try.func58 (by kernel_rfl) rfl #[.string a0] rfl (by (try simp only [List.map_toArray, List.map_cons, List.map_nil]); first | done | rfl | (simp only [List.length_drop, List.length_take]; rfl)) ?_; (with_reducible refine (yaml_isOldBool.calls a0 t101 _ A2.out).mono ?_); rintro e w' ⟨rfl, ⟨nd, rfl⟩⟩; refine ⟨_, rfl, ?_⟩))
  go_ret
  exact ⟨by first | rfl | (simp; done) | (simp [*]; done), by repeat (first | exact Drawn0.refl _ | apply Drawn0.step)⟩

/-! ### impl_OldBool: function 11 -/
def impl_OldBool.f (a0 : ByteArray) : Option (Bool) := (yaml_ZzOldBool.f a0).bind fun t102 => (some t102)
set_option maxHeartbeats 8000000 in
set_option maxRecDepth 100000 in
theorem impl_OldBool.calls (a0 : ByteArray) (r : Bool) (w : World) (h : impl_OldBool.f a0 = some r) :
    Calls Try.prog 11 #[.string a0] w fun e w' => e = .returned (.bool r) ∧ Drawn0 w w' := by
  have H : ((yaml_ZzOldBool.f a0).bind fun t102 => (some t102)) = some r := h
  clear h
  replace H := Option.bind_eq_some_iff.mp H
  obtain ⟨t102, A20, H⟩ := H
  replace H : (some t102) = some r := H
  have A2 := Aside0.mk A20
  clear A20
  obtain rfl := Option.some.inj H
  go_enter Try.func11, Try.ntmps11
  go_wp2_with (first | ((with_reducible refine gate_callee (f := 27) rfl ?_); refine goesL_ (some 4) rfl rfl Try.func27 (by kernel_rfl) rfl #[.string a0] rfl (by (try simp only [List.map_toArray, List.map_cons, List.map_nil]); first | done | rfl | (simp only [List.length_drop, List.length_take]; rfl)) ?_; (with_reducible refine (yaml_ZzOldBool.calls a0 t102 _ A2.out).mono ?_); rintro e w' ⟨rfl, ⟨nd, rfl⟩⟩; refine ⟨_, rfl, ?_⟩))
  go_ret
  exact ⟨by first | rfl | (simp; done) | (simp [*]; done), by repeat (first | exact Drawn0.refl _ | apply Drawn0.step)⟩

/-! ### spec_oneOf: function 28 -/
def spec_oneOf.l0 : Nat → ByteArray → List ByteArray → Int → Int → Option (Bool)
  | 0, _, _, _, _ => none
  | k + 1, x0, x7, x8, x9 => if x9 < x8 then (if 0 ≤ x9 then (if x9 < (x7.length : Int) then (if x0.toList = (rdOf ByteArray.empty x7 x9).toList then (some true) else (spec_oneOf.l0 k x0 x7 x8 (wrap64 (x9 + 1)))) else (none)) else (none)) else (some false)
def spec_oneOf.f (k : Nat) (a0 : ByteArray) (l1 : List ByteArray) : Option (Bool) := spec_oneOf.l0 k a0 l1 (l1.length : Int) 0
theorem spec_oneOf.mono_l : ∀ k, (∀ y0 y1 y2 y3, LeO (spec_oneOf.l0 k y0 y1 y2 y3) (spec_oneOf.l0 (k + 1) y0 y1 y2 y3))
  | 0 => fun _ _ _ _ r h => by simp [spec_oneOf.l0] at h
  | k + 1 => by
    have ih0 := spec_oneOf.mono_l k
    · intro y0 y1 y2 y3
      unfold spec_oneOf.l0
      repeat' first
      | (with_reducible exact ih0 _ _ _ _)
      | (with_reducible exact LeO.refl _)
      | (with_reducible exact LeO.none _)
      | (with_reducible refine LeO.ite ?_ ?_)
      | (with_reducible refine LeO.bind ?_ (fun _ => ?_))
      | exact ih0 _ _ _ _
      | exact LeO.none _
      | refine LeO.ite ?_ ?_
      | refine LeO.bind ?_ (fun _ => ?_)
theorem spec_oneOf.mono : ∀ a0 a1 k, LeO (spec_oneOf.f k a0 a1) (spec_oneOf.f (k + 1) a0 a1) := by
  intro a0 a1 k
  have ih0 := spec_oneOf.mono_l k
  unfold spec_oneOf.f
  repeat' first
      | (with_reducible exact ih0 _ _ _ _)
      | (with_reducible exact LeO.refl _)
      | (with_reducible exact LeO.none _)
      | (with_reducible refine LeO.ite ?_ ?_)
      | (with_reducible refine LeO.bind ?_ (fun _ => ?_))
      | exact ih0 _ _ _ _
      | exact LeO.none _
      | refine LeO.ite ?_ ?_
      | refine LeO.bind ?_ (fun _ => ?_)
set_option maxHeartbeats 8000000 in
set_option maxRecDepth 100000 in
theorem spec_oneOf.calls (k : Nat) (a0 : ByteArray) (A1 : Option Addr) (c1 : Nat) (l1 : List ByteArray) (r : Bool) (w : World) (hr1 : Kd.C Kd.string w A1 l1.length l1) (hc1 : l1.length ≤ c1) (h : spec_oneOf.f k a0 l1 = some r) :
    Calls Try.prog 28 #[.string a0, .slice A1 l1.length c1] w fun e w' => e = .returned (.bool r) ∧ Drawn0 w w' := by
  have HR1 := Aside0.mk hr1
  have HC1 := Aside0.mk hc1
  clear hr1 hc1
  have H : (spec_oneOf.l0 k a0 l1 (l1.length : Int) 0) = some r := h
  clear h
  have H' := Aside0.mk H
  clear H
  go_enter Try.func28, Try.ntmps28
  go_wp2
  go_loopg [9] k (fun kq v9 w' => ∃ (x9_1 : Int), v9 = .int .i64 x9_1 ∧ Aside0 (spec_oneOf.l0 kq a0 l1 (l1.length : Int) x9_1 = some r) ∧ Aside0 (kq ≤ k) ∧ Drawn0 w w')
  case atStart => exact ⟨(0), (by first | rfl | (simp; done) | (simp [*]; done)), H', ⟨Nat.le_refl _⟩, by repeat (first | exact Drawn0.refl _ | apply Drawn0.step)⟩
  case round =>
    clear H'
    try clear c1
    try clear c2
    try clear p2
    obtain ⟨x9_1, rfl, HA, HK1, ⟨m1, rfl⟩⟩ := hrel
    cases gk with
    | zero => exact absurd HA.out (by simp [spec_oneOf.l0])
    | succ k1 =>
      have H := HA.out
      clear HA
      simp only [spec_oneOf.l0] at H
      by_cases c3 : x9_1 < (l1.length : Int)
      · rw [if_pos c3] at H
        have c3b0 : decide (x9_1 < (l1.length : Int)) = true := decide_eq_true c3
        clear c3
        by_cases c4 : 0 ≤ x9_1
        · rw [if_pos c4] at H
          have c4b0 : decide (0 ≤ x9_1) = true := decide_eq_true c4
          clear c4
          by_cases c5 : x9_1 < (l1.length : Int)
          · rw [if_pos c5] at H
            have c5b0 : decide (x9_1 < (l1.length : Int)) = true := decide_eq_true c5
            clear c5
            by_cases c6 : a0.toList = (rdOf ByteArray.empty l1 x9_1).toList
            · rw [if_pos c6] at H
              have c6b0 : (a0.toList == (rdOf ByteArray.empty l1 x9_1).toList) = true := beq_iff_eq.mpr c6
              have c6b1 : (a0.toList != (rdOf ByteArray.empty l1 x9_1).toList) = false := bne_eq_false_iff_eq.mpr c6
              clear c6
              obtain rfl := Option.some.inj H
              have p103 : 0 ≤ (x9_1 : Int) := of_decide_eq_true (by first | (with_reducible assumption) | assumption)
              have q103 : x9_1 < (l1.length : Int) := of_decide_eq_true (by first | (with_reducible assumption) | assumption)
              obtain ⟨ad103, e103, hx103_0⟩ := Kd.at_string HR1.out x9_1 p103 q103
              cases e103
              replace p103 := eq_true p103
              replace q103 := eq_true q103
              go_wp2
              go_ret
              exact ⟨by first | rfl | (simp; done) | (simp [*]; done), by repeat (first | exact Drawn0.refl _ | apply Drawn0.step)⟩
            · rw [if_neg c6] at H
              have c6b0 : (a0.toList == (rdOf ByteArray.empty l1 x9_1).toList) = false := beq_eq_false_iff_ne.mpr c6
              have c6b1 : (a0.toList != (rdOf ByteArray.empty l1 x9_1).toList) = true := bne_iff_ne.mpr c6
              have H' := Aside0.mk H
              clear H
              have p103 : 0 ≤ (x9_1 : Int) := of_decide_eq_true (by first | (with_reducible assumption) | assumption)
              have q103 : x9_1 < (l1.length : Int) := of_decide_eq_true (by first | (with_reducible assumption) | assumption)
              obtain ⟨ad103, e103, hx103_0⟩ := Kd.at_string HR1.out x9_1 p103 q103
              cases e103
              replace p103 := eq_true p103
              replace q103 := eq_true q103
              go_wp2
              go_roundg k1
              case measure => have := HK1.out; omega
              case rel => exact ⟨(wrap64 (x9_1 + 1)), (by first | rfl | (simp; done) | (simp [*]; done)), H', ⟨by have := HK1.out; omega⟩, by repeat (first | exact Drawn0.refl _ | apply Drawn0.step)⟩
          · rw [if_neg c5] at H
            exact absurd H (by simp)
        · rw [if_neg c4] at H
          exact absurd H (by simp)
      · rw [if_neg c3] at H
        have c3b0 : decide (x9_1 < (l1.length : Int)) = false := decide_eq_false c3
        clear c3
        obtain rfl := Option.some.inj H
        go_wp2
        go_ret
        exact ⟨by first | rfl | (simp; done) | (simp [*]; done), by repeat (first | exact Drawn0.refl _ | apply Drawn0.step)⟩

/-! ### spec_OldTruth: function 12 -/
def spec_OldTruth.f (k : Nat) (a0 : ByteArray) : Option (Bool) := (spec_oneOf.f k a0 (([(⟨#[121]⟩ : ByteArray), (⟨#[89]⟩ : ByteArray), (⟨#[121, 101, 115]⟩ : ByteArray), (⟨#[89, 101, 115]⟩ : ByteArray), (⟨#[89, 69, 83]⟩ : ByteArray), (⟨#[111, 110]⟩ : ByteArray), (⟨#[79, 110]⟩ : ByteArray), (⟨#[79, 78]⟩ : ByteArray), (⟨#[110]⟩ : ByteArray), (⟨#[78]⟩ : ByteArray), (⟨#[110, 111]⟩ : ByteArray), (⟨#[78, 111]⟩ : ByteArray), (⟨#[78, 79]⟩ : ByteArray), (⟨#[111, 102, 102]⟩ : ByteArray), (⟨#[79, 102, 102]⟩ : ByteArray), (⟨#[79, 70, 70]⟩ : ByteArray)] : List ByteArray))).bind fun t107 => (some t107)
theorem spec_OldTruth.mono : ∀ a0 k, LeO (spec_OldTruth.f k a0) (spec_OldTruth.f (k + 1) a0) := by
  intro a0 k
  unfold spec_OldTruth.f
  repeat' first
      | (with_reducible exact spec_oneOf.mono _ _ _)
      | (with_reducible exact LeO.refl _)
      | (with_reducible exact LeO.none _)
      | (with_reducible refine LeO.ite ?_ ?_)
      | (with_reducible refine LeO.bind ?_ (fun _ => ?_))
      | exact spec_oneOf.mono _ _ _
      | exact LeO.none _
      | refine LeO.ite ?_ ?_
      | refine LeO.bind ?_ (fun _ => ?_)
set_option maxHeartbeats 8000000 in
set_option maxRecDepth 100000 in
theorem spec_OldTruth.calls (k : Nat) (a0 : ByteArray) (r : Bool) (w : World) (h : spec_OldTruth.f k a0 = some r) :
    Calls Try.prog 12 #[.string a0] w fun e w' => e = .returned (.bool r) ∧ Below w.heap.size w w' := by
  have HB := Aside0.mk (Below.refl w.heap.size w)
  have H : ((spec_oneOf.f k a0 (([(⟨#[121]⟩ : ByteArray), (⟨#[89]⟩ : ByteArray), (⟨#[121, 101, 115]⟩ : ByteArray), (⟨#[89, 101, 115]⟩ : ByteArray), (⟨#[89, 69, 83]⟩ : ByteArray), (⟨#[111, 110]⟩ : ByteArray), (⟨#[79, 110]⟩ : ByteArray), (⟨#[79, 78]⟩ : ByteArray), (⟨#[110]⟩ : ByteArray), (⟨#[78]⟩ : ByteArray), (⟨#[110, 111]⟩ : ByteArray), (⟨#[78, 111]⟩ : ByteArray), (⟨#[78, 79]⟩ : ByteArray), (⟨#[111, 102, 102]⟩ : ByteArray), (⟨#[79, 102, 102]⟩ : ByteArray), (⟨#[79, 70, 70]⟩ : ByteArray)] : List ByteArray))).bind fun t107 => (some t107)) = some r := h
  clear h
  obtain ⟨y104, hy104⟩ : ∃ y_ : List ByteArray, y_ = (([(⟨#[121]⟩ : ByteArray), (⟨#[89]⟩ : ByteArray), (⟨#[121, 101, 115]⟩ : ByteArray), (⟨#[89, 101, 115]⟩ : ByteArray), (⟨#[89, 69, 83]⟩ : ByteArray), (⟨#[111, 110]⟩ : ByteArray), (⟨#[79, 110]⟩ : ByteArray), (⟨#[79, 78]⟩ : ByteArray), (⟨#[110]⟩ : ByteArray), (⟨#[78]⟩ : ByteArray), (⟨#[110, 111]⟩ : ByteArray), (⟨#[78, 111]⟩ : ByteArray), (⟨#[78, 79]⟩ : ByteArray), (⟨#[111, 102, 102]⟩ : ByteArray), (⟨#[79, 102, 102]⟩ : ByteArray), (⟨#[79, 70, 70]⟩ : ByteArray)] : List ByteArray)) := ⟨_, rfl⟩
  replace H : ((spec_oneOf.f k a0 y104).bind fun t107 => (some t107)) = some r := by first | (rw [hy104]; with_reducible exact H) | (have H2_ := (Option.bind_some _ _).symm.trans H; rw [hy104]; with_reducible exact H2_) | (have H2_ := (Option.bind_some _ _).symm.trans H; with_reducible exact H2_) | with_reducible exact H | (rw [hy104]; exact H) | exact H
  have Ny104 := Aside0.mk hy104
  clear hy104
  replace H := Option.bind_eq_some_iff.mp H
  obtain ⟨t107, A20, H⟩ := H
  replace H : (some t107) = some r := H
  have A2 := Aside0.mk A20
  clear A20
  obtain rfl := Option.some.inj H
  go_enter Try.func12, Try.ntmps12
  go_wp2_with (first | ((with_reducible refine gate_dst (N := 4) rfl ?_); refine Kd.R_lit Kd.string _ 9 ?hg (N := 4) ?hd (xs := ([(⟨#[121]⟩ : ByteArray), (⟨#[89]⟩ : ByteArray), (⟨#[121, 101, 115]⟩ : ByteArray), (⟨#[89, 101, 115]⟩ : ByteArray), (⟨#[89, 69, 83]⟩ : ByteArray), (⟨#[111, 110]⟩ : ByteArray), (⟨#[79, 110]⟩ : ByteArray), (⟨#[79, 78]⟩ : ByteArray), (⟨#[110]⟩ : ByteArray), (⟨#[78]⟩ : ByteArray), (⟨#[110, 111]⟩ : ByteArray), (⟨#[78, 111]⟩ : ByteArray), (⟨#[78, 79]⟩ : ByteArray), (⟨#[111, 102, 102]⟩ : ByteArray), (⟨#[79, 102, 102]⟩ : ByteArray), (⟨#[79, 70, 70]⟩ : ByteArray)] : List ByteArray)) (inner := [.string (⟨#[121]⟩ : ByteArray), .string (⟨#[89]⟩ : ByteArray), .string (⟨#[121, 101, 115]⟩ : ByteArray), .string (⟨#[89, 101, 115]⟩ : ByteArray), .string (⟨#[89, 69, 83]⟩ : ByteArray), .string (⟨#[111, 110]⟩ : ByteArray), .string (⟨#[79, 110]⟩ : ByteArray), .string (⟨#[79, 78]⟩ : ByteArray), .string (⟨#[110]⟩ : ByteArray), .string (⟨#[78]⟩ : ByteArray), .string (⟨#[110, 111]⟩ : ByteArray), .string (⟨#[78, 111]⟩ : ByteArray), .string (⟨#[78, 79]⟩ : ByteArray), .string (⟨#[111, 102, 102]⟩ : ByteArray), .string (⟨#[79, 102, 102]⟩ : ByteArray), .string (⟨#[79, 70, 70]⟩ : ByteArray)]) (ok := fun _ => True) (okp := fun _ => True) ?hr ?hp (fun _ hk => hk) trivial (Below.refl _ _) (Nat.le_refl _) (by simp) ?_; (case hd => rfl); (case hg => rfl); (case hr => first | (go_simp; done) | (go_simp; rfl)); (case hp => exact (Reps.one (show Kd.M Kd.string _ _ _ (⟨#[121]⟩ : ByteArray) [.string (⟨#[121]⟩ : ByteArray)] from rfl) (Reps.one (show Kd.M Kd.string _ _ _ (⟨#[89]⟩ : ByteArray) [.string (⟨#[89]⟩ : ByteArray)] from rfl) (Reps.one (show Kd.M Kd.string _ _ _ (⟨#[121, 101, 115]⟩ : ByteArray) [.string (⟨#[121, 101, 115]⟩ : ByteArray)] from rfl) (Reps.one (show Kd.M Kd.string _ _ _ (⟨#[89, 101, 115]⟩ : ByteArray) [.string (⟨#[89, 101, 115]⟩ : ByteArray)] from rfl) (Reps.one (show Kd.M Kd.string _ _ _ (⟨#[89, 69, 83]⟩ : ByteArray) [.string (⟨#[89, 69, 83]⟩ : ByteArray)] from rfl) (Reps.one (show Kd.M Kd.string _ _ _ (⟨#[111, 110]⟩ : ByteArray) [.string (⟨#[111, 110]⟩ : ByteArray)] from rfl) (Reps.one (show Kd.M Kd.string _ _ _ (⟨#[79, 110]⟩ : ByteArray) [.string (⟨#[79, 110]⟩ : ByteArray)] from rfl) (Reps.one (show Kd.M Kd.string _ _ _ (⟨#[79, 78]⟩ : ByteArray) [.string (⟨#[79, 78]⟩ : ByteArray)] from rfl) (Reps.one (show Kd.M Kd.string _ _ _ (⟨#[110]⟩ : ByteArray) [.string (⟨#[110]⟩ : ByteArray)] from rfl) (Reps.one (show Kd.M Kd.string _ _ _ (⟨#[78]⟩ : ByteArray) [.string (⟨#[78]⟩ : ByteArray)] from rfl) (Reps.one (show Kd.M Kd.string _ _ _ (⟨#[110, 111]⟩ : ByteArray) [.string (⟨#[110, 111]⟩ : ByteArray)] from rfl) (Reps.one (show Kd.M Kd.string _ _ _ (⟨#[78, 111]⟩ : ByteArray) [.string (⟨#[78, 111]⟩ : ByteArray)] from rfl) (Reps.one (show Kd.M Kd.string _ _ _ (⟨#[78, 79]⟩ : ByteArray) [.string (⟨#[78, 79]⟩ : ByteArray)] from rfl) (Reps.one (show Kd.M Kd.string _ _ _ (⟨#[111, 102, 102]⟩ : ByteArray) [.string (⟨#[111, 102, 102]⟩ : ByteArray)] from rfl) (Reps.one (show Kd.M Kd.string _ _ _ (⟨#[79, 102, 102]⟩ : ByteArray) [.string (⟨#[79, 102, 102]⟩ : ByteArray)] from rfl) (Reps.one (show Kd.M Kd.string _ _ _ (⟨#[79, 70, 70]⟩ : ByteArray) [.string (⟨#[79, 70, 70]⟩ : ByteArray)] from rfl) (Reps.none _ _)))))))))))))))))); intro v105 w3 ho4 hb hg_ hnew_; clear hg_ hnew_; (first | rw [← Ny104.out] at ho4 | (simp only [Int.reduceToNat] at ho4; rw [← Ny104.out] at ho4)); have n0_ := Aside0.mk (Kd.R_lower ho4 (below_size (by repeat (first | (with_reducible first | exact HB.out | apply below_alloc | apply pw_below_drewN | apply below_drew1) | exact HB.out)))); have n1_ := Aside0.mk (below_step (by repeat (first | (with_reducible first | exact HB.out | apply below_alloc | apply pw_below_drewN | apply below_drew1) | exact HB.out)) hb); clear HB; have HO106 := n0_; have HB := n1_; clear n0_ n1_; clear hb ho4; obtain ⟨Ao5, co5, eo5⟩ := Kd.R_slice HO106.out; subst eo5) | ((with_reducible refine gate_callee (f := 28) rfl ?_); refine goesL_ (some 5) rfl rfl Try.func28 (by kernel_rfl) rfl #[.string a0, .slice Ao5 y104.length co5] rfl (by (try simp only [List.map_toArray, List.map_cons, List.map_nil]); first | done | rfl | (simp only [List.length_drop, List.length_take]; rfl)) ?_; (with_reducible refine (spec_oneOf.calls k a0 _ _ y104 t107 _ ?side1 ?side2 A2.out).mono ?_); (case side1 => repeat (first | exact (Kd.R_reads' HO106.out).2.2 | (with_reducible refine Kd.C_alloc ?_ _) | (with_reducible refine Kd.C_drewN ?_ _) | (with_reducible refine Kd.C_drew ?_))); (case side2 => exact (Kd.R_reads' HO106.out).2.1); rintro e w' ⟨rfl, ⟨nd, rfl⟩⟩; refine ⟨_, rfl, ?_⟩))
  go_ret
  exact ⟨by first | rfl | (simp [errW_none, errW_some] <;> rfl) | (simp [*, errW_none, errW_some] <;> rfl), by repeat (first | (with_reducible first | exact HB.out | apply below_alloc | apply pw_below_drewN | apply below_drew1) | exact HB.out)⟩

/-! ### laws_FnOldBool: function 3 -/
def laws_FnOldBool.f (k : Nat) (a0 : ByteArray) : Option (Bool) := if (a0.size : Int) > 2147483647 then (some true) else ((impl_OldBool.f a0).bind fun t108 => ((spec_OldTruth.f k a0).bind fun t109 => (some (t108 == t109))))
theorem laws_FnOldBool.mono : ∀ a0 k, LeO (laws_FnOldBool.f k a0) (laws_FnOldBool.f (k + 1) a0) := by
  intro a0 k
  unfold laws_FnOldBool.f
  repeat' first
      | (with_reducible exact spec_OldTruth.mono _ _)
      | (with_reducible exact LeO.refl _)
      | (with_reducible exact LeO.none _)
      | (with_reducible refine LeO.ite ?_ ?_)
      | (with_reducible refine LeO.bind ?_ (fun _ => ?_))
      | exact spec_OldTruth.mono _ _
      | exact LeO.none _
      | refine LeO.ite ?_ ?_
      | refine LeO.bind ?_ (fun _ => ?_)
set_option maxHeartbeats 8000000 in
set_option maxRecDepth 100000 in
theorem laws_FnOldBool.calls (k : Nat) (a0 : ByteArray) (r : Bool) (w : World) (h : laws_FnOldBool.f k a0 = some r) :
    Calls Try.prog 3 #[.string a0] w fun e w' => e = .returned (.bool r) ∧ Below w.heap.size w w' := by
  have HB := Aside0.mk (Below.refl w.heap.size w)
  have H : (if (a0.size : Int) > 2147483647 then (some true) else ((impl_OldBool.f a0).bind fun t108 => ((spec_OldTruth.f k a0).bind fun t109 => (some (t108 == t109))))) = some r := h
  clear h
  by_cases c2 : (a0.size : Int) > 2147483647
  · rw [if_pos c2] at H
    have c2b0 : decide (2147483647 < (a0.size : Int)) = true := decide_eq_true c2
    have c2b1 : decide (2147483647 < a0.size) = true := decide_eq_true (by omega)
    clear c2
    obtain rfl := Option.some.inj H
    go_enter Try.func3, Try.ntmps3
    go_wp2
    go_ret
    exact ⟨by first | rfl | (simp [errW_none, errW_some] <;> rfl) | (simp [*, errW_none, errW_some] <;> rfl), by repeat (first | (with_reducible first | exact HB.out | apply below_alloc | apply pw_below_drewN | apply below_drew1) | exact HB.out)⟩
  · rw [if_neg c2] at H
    have c2b0 : decide (2147483647 < (a0.size : Int)) = false := decide_eq_false c2
    have c2b1 : decide (2147483647 < a0.size) = false := decide_eq_false (by omega)
    clear c2
    replace H := Option.bind_eq_some_iff.mp H
    obtain ⟨t108, A30, H⟩ := H
    replace H : ((spec_OldTruth.f k a0).bind fun t109 => (some (t108 == t109))) = some r := H
    have A3 := Aside0.mk A30
    clear A30
    replace H := Option.bind_eq_some_iff.mp H
    obtain ⟨t109, A40, H⟩ := H
    replace H : (some (t108 == t109)) = some r := H
    have A4 := Aside0.mk A40
    clear A40
    obtain rfl := Option.some.inj H
    go_enter Try.func3, Try.ntmps3
    go_wp2_with (first | ((with_reducible refine gate_callee (f := 11) rfl ?_); refine goesL_ (some 7) rfl rfl Try.func11 (by kernel_rfl) rfl #[.string a0] rfl (by (try simp only [List.map_toArray, List.map_cons, List.map_nil]); first | done | rfl | (simp only [List.length_drop, List.length_take]; rfl)) ?_; (with_reducible refine (impl_OldBool.calls a0 t108 _ A3.out).mono ?_); rintro e w' ⟨rfl, ⟨nd, rfl⟩⟩; refine ⟨_, rfl, ?_⟩) | ((with_reducible refine gate_callee (f := 12) rfl ?_); refine goesL_ (some 9) rfl rfl Try.func12 (by kernel_rfl) rfl #[.string a0] rfl (by (try simp only [List.map_toArray, List.map_cons, List.map_nil]); first | done | rfl | (simp only [List.length_drop, List.length_take]; rfl)) ?_; (with_reducible refine (spec_OldTruth.calls k a0 t109 _ A4.out).mono ?_); rintro e w5 ⟨rfl, hb⟩; refine ⟨_, rfl, ?_⟩; have n0_ := Aside0.mk (below_step (by repeat (first | (with_reducible first | exact HB.out | apply below_alloc | apply pw_below_drewN | apply below_drew1) | exact HB.out)) hb); clear HB; have HB := n0_; clear n0_; (try clear hb); (try clear hb2); (try clear hk); (try clear hi)))
    go_ret
    exact ⟨by first | rfl | (simp [errW_none, errW_some] <;> rfl) | (simp [*, errW_none, errW_some] <;> rfl), by repeat (first | (with_reducible first | exact HB.out | apply below_alloc | apply pw_below_drewN | apply below_drew1) | exact HB.out)⟩

/-- THE ONE PURE STATEMENT of laws_FnOldBool: yours. -/
def laws_FnOldBool.Pure : Prop := ∀ (a0 : ByteArray), a0.size ≤ 140737488351232 → ∃ k, laws_FnOldBool.f k a0 = some true
theorem laws_FnOldBool.walk (P : laws_FnOldBool.Pure) (a0 : ByteArray) (w : World) (w0 : a0.size ≤ 140737488351232) :
    Calls Try.prog 3 #[.string a0] w fun e w' => e = .returned (.bool true) ∧ Below w.heap.size w w' := by
  obtain ⟨k, h⟩ := P a0 w0
  refine (laws_FnOldBool.calls k a0 true w h).mono ?_
  rintro e w' ⟨rfl, hd⟩
  exact ⟨rfl, hd⟩

end Go.Proofs.YtippbmfgpkcmlaaR.PFnOldBool
