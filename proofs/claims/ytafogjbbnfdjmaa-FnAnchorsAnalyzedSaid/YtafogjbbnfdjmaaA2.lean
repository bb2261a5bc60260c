/- A part of the proof: what functions of the program answer, for all arguments that meet the conditions named in each theorem. -/
import Derived.Test.YtafogjbbnfdjmaaA1
import Derived.Test.YtafogjbbnfdjmaaC7
namespace Go.Proofs.A1
open Go.RowKit Go.AM Go.Proofs.C1
set_option linter.unusedVariables false
/-- A text that lies below a block. -/
def TxtB (w : World) (g : Nat) (a : Option Addr) (ts : List Int) : Prop := Txt w a ts ∧ ∀ x, a = some x → 0 < ts.length → x.block < g
theorem cell_kept {w w' : World} {B : Nat} {p : Addr} {v : Value} (hb : Below B w w') (hp : p.block < B) (h : w.cell? p = some v) : w'.cell? p = some v := by rw [hb.cell hp]; exact h
theorem EB.later {w w' : World} {g q : Nat} (h : EB w g q) (hb : Below w.heap.size w w') : EB w' g q := by
  obtain ⟨C, fr, hw, hs, hf⟩ := h
  have hl : g < w.heap.size := by
    rcases Nat.lt_or_ge g w.heap.size with h1 | h1
    · exact h1
    · rw [Array.getElem?_eq_none h1] at hw; cases hw
  exact ⟨C, fr, by rw [hb.block g hl]; exact hw, hs, hf⟩
theorem EB.lt {w : World} {g q : Nat} (h : EB w g q) : g < w.heap.size := by
  obtain ⟨C, fr, hw, hs, hf⟩ := h
  rcases Nat.lt_or_ge g w.heap.size with h1 | h1
  · exact h1
  · rw [Array.getElem?_eq_none h1] at hw; cases hw
theorem anch_empty (w : World) (g q : Nat) (a : Option Addr) (cap : Nat) (al : Bool) (he : EB w g q) :
    Calls Try.prog 62 #[.pointer (some ⟨g, q, none⟩), .slice a 0 cap, .bool al] w fun e w' => ∃ b, e = .returned (.bool b) ∧ w'.cell? ⟨g, q, none⟩ = some (.int .i64 7) ∧ Below g w w' := by
  have HE := Lib.hid he
  clear he
  go_enter Try.func62, Try.ntmps62
  go_wp2_with (go_at_call 71; refine (set_error _ _ _ _ HE.out).mono ?_; rintro e w' ⟨rfl, hc, hb⟩; have HC := Lib.hid hc; have HB := Lib.hid hb; clear hc hb)
  all_goals
    go_ret
    exact ⟨_, rfl, HC.out, HB.out⟩
theorem txt_row {w : World} {y : Addr} {ts : List Int} (ht : Txt w (some y) ts) (h0 : 0 < ts.length) : ∃ b off C e fr, y = ⟨b, off, none⟩ ∧ w.heap[b]? = some (.cells C e fr) ∧ ∀ i : Nat, i < ts.length → C[off + i]? = some (.int .u8 (byt ts i)) := by
  obtain ⟨b, off, sp⟩ := y
  obtain ⟨x, hx, hc⟩ := ht.2 0 h0
  cases hx
  have hsp : sp = none := by simpa [Addr.add] using World.cell?_spot hc
  subst hsp
  unfold World.cell? at hc
  split at hc
  rotate_left
  · cases hc
  rename_i C e fr hw
  refine ⟨b, off, C, e, fr, rfl, by simpa [Addr.add] using hw, fun i hi => ?_⟩
  obtain ⟨x, hx, hi2⟩ := ht.2 i hi
  cases hx
  have hw' : w.heap[b]? = some (.cells C e fr) := by simpa [Addr.add] using hw
  rw [Go.AM.add_at, cell_of_row _ _ _ _ _ _ hw'] at hi2
  rw [hi2]
  unfold byt
  rw [if_pos (by omega)]; rfl
theorem alpha_yes {w : World} {b off i n cap : Nat} {e : TypeId} {C : Array Value} {fr : Nat × Nat} {x : Int} (hw : w.heap[b]? = some (.cells C e fr)) (hn : i + 1 ≤ n) (hi : i ≤ 2 ^ 61) (hx : C[off + i]? = some (.int .u8 x)) (qx : 0 ≤ x ∧ x ≤ 255) (h : Alnum x) :
    Calls Try.prog 38 #[.slice (some ⟨b, off, none⟩) n cap, .int .i64 i] w fun e w' => e = .returned (.bool true) ∧ Below w.heap.size w w' := by
  refine (LH.alpha_any hw hn hi hx qx).mono ?_
  rintro e w' ⟨he, hb⟩
  exact ⟨by rw [he]; exact congrArg (fun b => Ending.returned (Value.bool b)) (decide_eq_true h), hb⟩
theorem alpha_no {w : World} {b off i n cap : Nat} {e : TypeId} {C : Array Value} {fr : Nat × Nat} {x : Int} (hw : w.heap[b]? = some (.cells C e fr)) (hn : i + 1 ≤ n) (hi : i ≤ 2 ^ 61) (hx : C[off + i]? = some (.int .u8 x)) (qx : 0 ≤ x ∧ x ≤ 255) (h : ¬ Alnum x) :
    Calls Try.prog 38 #[.slice (some ⟨b, off, none⟩) n cap, .int .i64 i] w fun e w' => e = .returned (.bool false) ∧ Below w.heap.size w w' := by
  refine (LH.alpha_any hw hn hi hx qx).mono ?_
  rintro e w' ⟨he, hb⟩
  exact ⟨by rw [he]; exact congrArg (fun b => Ending.returned (Value.bool b)) (decide_eq_false h), hb⟩
set_option maxHeartbeats 1000000 in
theorem anch_any (w : World) (g q : Nat) (y : Addr) (ts : List Int) (cap : Nat) (al : Bool) (he : EB w g q) (h0 : w.cell? ⟨g, q, none⟩ = some (.int .i64 0)) (ht : Txt w (some y) ts) (hy : y.block < g) (hn : 0 < ts.length) (hn2 : ts.length ≤ 1024) :
    Calls Try.prog 62 #[.pointer (some ⟨g, q, none⟩), .slice (some y) ts.length cap, .bool al] w fun e w' => ∃ b, e = .returned (.bool b) ∧ Below g w w' ∧ ((w'.cell? ⟨g, q, none⟩ = some (.int .i64 0) ∧ ∀ i : Nat, i < ts.length → Alnum (byt ts i)) ∨ (w'.cell? ⟨g, q, none⟩ = some (.int .i64 7) ∧ ∃ i : Nat, i < ts.length ∧ ¬ Alnum (byt ts i))) := by
  have hg := he.lt
  have hR := txt_row ht hn
  obtain ⟨b, off, C, e, fr, rfl, hw, hC⟩ := hR
  have hbw : b < w.heap.size := Nat.lt_trans hy hg
  have HE := Lib.hid he
  have H0 := Lib.hid h0
  have HT := Lib.hid ht
  have HW := Lib.hid hw
  have HC := Lib.hid hC
  clear he h0 ht hw hC
  go_enter Try.func62, Try.ntmps62
  go_wp2
  go_loopw [8] (fun i wr => ∃ k : Nat, k ≤ ts.length ∧ i = .int .i64 k ∧ Below w.heap.size w wr ∧ ∀ j : Nat, j < k → Alnum (byt ts j)) (fun i _ => ts.length - (intOf i).toNat)
  case atStart => exact ⟨0, Nat.zero_le _, rfl, Below.refl _ _, fun j hj => by omega⟩
  case round =>
    obtain ⟨k, hk, rfl, hb, ha⟩ := hrel
    have HA := Lib.hid ha
    have hw2 : wr.heap[b]? = some (.cells C e fr) := by rw [hb.block b hbw]; exact HW.out
    have hcx : k < ts.length → wr.cell? ⟨b, off + k, none⟩ = some (.int .u8 (byt ts k)) := fun h => by
      rw [cell_of_row _ _ _ _ _ _ hw2]; exact HC.out k h
    have hq := byt_rng HT.out k
    have HW2 := Lib.hid hw2
    have HB := Lib.hid hb
    have HQ := Lib.hid hq
    clear ha hw2 hb hq
    by_cases hlt : k < ts.length
    · have hcx := hcx hlt
      have HX := Lib.hid hcx
      clear hcx
      by_cases hal : Alnum (byt ts k)
      · have h127 : byt ts k ≤ 127 := by unfold Alnum at hal; omega
        have HL := Lib.hid hal
        clear hal
        go_wp2_with (first
          | (go_at_call 38; refine (alpha_yes HW2.out (by omega) (by omega) (HC.out k hlt) HQ.out HL.out).mono ?_; rintro e1 w1 ⟨rfl, hb1⟩; have hcx1 := cell_kept hb1 (show b < _ by have := HB.out.size; omega) HX.out; have HB1 := Lib.hid (HB.out.trans (hb1.mono HB.out.size)); clear hb1)
          | (go_at_call 72; refine (width_any _ _ HQ.out.1 h127).mono ?_; rintro e2 w2 ⟨rfl, hb2⟩; have HB2 := Lib.hid (HB1.out.trans (hb2.mono HB1.out.size)); clear hb2))
        go_roundw
        case rel => exact ⟨k + 1, by omega, by go_num, HB2.out, fun j hj => by
          by_cases hjk : j = k
          · rw [hjk]; exact HL.out
          · exact HA.out j (by omega)⟩
        case measure => simp [intOf]; omega
      · have HL := Lib.hid hal
        clear hal
        go_wp2_with (first
          | (go_at_call 38; refine (alpha_no HW2.out (by omega) (by omega) (HC.out k hlt) HQ.out HL.out).mono ?_; rintro e1 w1 ⟨rfl, hb1⟩; have HB1 := Lib.hid (HB.out.trans (hb1.mono HB.out.size)); clear hb1)
          | (go_at_call 71; refine (set_error _ _ _ _ (HE.out.later HB1.out)).mono ?_; rintro e' w' ⟨rfl, hc2, hb2⟩; have HC2 := Lib.hid hc2; have HB2 := Lib.hid ((HB1.out.mono (Nat.le_of_lt hg)).trans hb2); clear hc2 hb2))
        all_goals
          go_ret
          exact ⟨_, rfl, HB2.out, .inr ⟨HC2.out, k, hlt, HL.out⟩⟩
    · have hk2 : k = ts.length := by omega
      have HK := Lib.hid hk2
      clear hk2 hcx
      have hE := HE.out.later HB.out
      have h00 := cell_kept HB.out hg H0.out
      obtain ⟨⟨v1, c1⟩, f1⟩ := hE.cell 34 (by omega)
      obtain ⟨⟨v2, c2⟩, f2⟩ := hE.cell 35 (by omega)
      rw [show q + 35 = q + 34 + 1 from rfl] at c2 f2
      go_wp2
      go_ret
      refine ⟨_, rfl, (((HB.out.mono (Nat.le_of_lt hg)).setCell (Nat.le_refl _) _).setCell (Nat.le_refl _) _), .inl ⟨?_, fun i hi => HA.out i (by have := HK.out; omega)⟩⟩
      go_simp
end Go.Proofs.A1
