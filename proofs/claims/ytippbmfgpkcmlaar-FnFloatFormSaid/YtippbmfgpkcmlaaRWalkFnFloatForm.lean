/- A text has the form of a float just if the reference says so: the walk. For every text (the statement itself passes over those of more than 1000 bytes). -/
import Derived.Test.YtippbmfgpkcmlaaRProg
import Derived.WalkKit
import Derived.KernelRfl
import Derived.Below
import Derived.Lib.Hide
import Derived.Lib.Strings
import Derived.LoopTactic
import Derived.Outline
import Derived.Deep.DeepCutAuto
namespace Go.Proofs.YtippbmfgpkcmlaaR.FnFloatFormWalk
open Go.RowKit

/-- How many digits a list of bytes begins with. -/
def dgl : List UInt8 → Nat
  | [] => 0
  | c :: l => if 48 ≤ (c.toNat : Int) ∧ (c.toNat : Int) ≤ 57 then dgl l + 1 else 0
theorem dgl_le : ∀ l, dgl l ≤ l.length
  | [] => Nat.le_refl 0
  | c :: l => by unfold dgl; have := dgl_le l; split <;> simp <;> omega
theorem dgl_drop (l : List UInt8) (k : Nat) (h : k < l.length) : dgl (l.drop k) = if 48 ≤ (l[k].toNat : Int) ∧ (l[k].toNat : Int) ≤ 57 then dgl (l.drop (k + 1)) + 1 else 0 := by
  rw [List.drop_eq_getElem_cons h]; rfl
theorem ret_int {k : IntKind} {a b : Int} (h : a = b) : Ending.returned (.int k a) = .returned (.int k b) := by rw [h]

set_option maxHeartbeats 400000 in
theorem zz_any (s : ByteArray) (w : World) (hs : s.size ≤ 4294967296) :
    Calls Try.prog 94 #[.string s] w fun e w' => e = .returned (.int .i64 (dgl s.data.toList : Nat)) ∧ w = w' := by
  go_enter Try.func94, Try.ntmps94
  go_wp2
  go_loop [3] (fun i => ∃ k : Nat, k ≤ s.size ∧ i = .int .i64 k ∧ dgl s.data.toList = k + dgl (s.data.toList.drop k)) (fun i => s.size - (intOf i).toNat)
  case atStart => exact ⟨0, Nat.zero_le _, rfl, by simp⟩
  case round =>
    obtain ⟨k, hk, rfl, hd⟩ := hrel
    by_cases hlt : k < s.size
    · have hstep := dgl_drop s.data.toList k (by simpa using hlt)
      have HD := Lib.hid hd
      have HS := Lib.hid hstep
      clear hd hstep
      go_wp2
      · refine ⟨⟨k + 1, by omega, by go_num, ?_⟩, by simp [intOf]; omega⟩
        have h1 : 48 ≤ (s.data.toList[k].toNat : Int) := by assumption
        have h2 : (s.data.toList[k].toNat : Int) ≤ 57 := by assumption
        have e1 := HD.out
        have e2 := HS.out
        rw [if_pos ⟨h1, h2⟩] at e2
        omega
      all_goals
        go_ret
        have e1 := HD.out
        have e2 := HS.out
        have hn : ¬ (48 ≤ (s.data.toList[k].toNat : Int) ∧ (s.data.toList[k].toNat : Int) ≤ 57) := by
          intro hc
          have hc1 : 48 ≤ (s[k].toNat : Int) := hc.1
          have hc2 : (s[k].toNat : Int) ≤ 57 := hc.2
          omega
        rw [if_neg hn] at e2
        exact ⟨ret_int (by omega), rfl⟩
    · have hk' : k = s.size := by omega
      have hz : dgl (List.drop k s.data.toList) = 0 := by
        rw [List.drop_of_length_le (by simp; omega)]; rfl
      have HD := Lib.hid hd
      have HZ := Lib.hid hz
      have HK := Lib.hid hk'
      clear hd hz hk'
      go_wp2
      go_ret
      have e1 := HD.out
      have e2 := HZ.out
      exact ⟨ret_int (by omega), rfl⟩

/-- How many digits stand from a place on. -/
def dg (s : ByteArray) (i : Nat) : Nat := dgl (s.data.toList.drop i)
theorem dg_le (s : ByteArray) (i : Nat) : dg s i ≤ s.size - i := by
  have := dgl_le (s.data.toList.drop i)
  rw [List.length_drop, Array.length_toList] at this
  exact this
theorem dg_end (s : ByteArray) (i : Nat) (h : s.size ≤ i) : dg s i = 0 := by have := dg_le s i; omega
theorem zz_at (s : ByteArray) (i : Nat) (w : World) (hs : s.size ≤ 1000) :
    Calls Try.prog 94 #[.string (s.extract i s.size)] w fun e w' => e = .returned (.int .i64 (dg s i : Nat)) ∧ w = w' := by
  have := zz_any (s.extract i s.size) w (by simp; omega)
  rw [Lib.extract_data] at this
  rw [List.take_of_length_le (by rw [List.length_drop, Array.length_toList]; exact Nat.le_refl _)] at this
  exact this

/-- A byte of a text, 0 behind it. -/
def byt (s : ByteArray) (i : Nat) : Int := if h : i < s.size then (s[i].toNat : Int) else 0
theorem byt_at (s : ByteArray) (i : Nat) (h : i < s.size) : (s[i].toNat : Int) = byt s i := by unfold byt; rw [dif_pos h]

theorem rsDigit_any (c : Int) (w : World) (h : 0 ≤ c ∧ c ≤ 255) :
    Calls Try.prog 62 #[.int .u8 c] w fun e w' => ∃ r : Int, e = .returned (.int .i64 r) ∧ 0 ≤ r ∧ r ≤ 99 ∧ (r < 10 ↔ 48 ≤ c ∧ c ≤ 57) ∧ w = w' := by
  obtain ⟨h0, h1⟩ := h
  go_enter Try.func62, Try.ntmps62
  go_wp2
  all_goals
    go_ret
    refine ⟨_, rfl, ?_, ?_, ?_, rfl⟩ <;> omega

theorem dg_step (s : ByteArray) (i : Nat) (h : i < s.size) : dg s i = if 48 ≤ byt s i ∧ byt s i ≤ 57 then dg s (i + 1) + 1 else 0 := by
  unfold dg
  rw [dgl_drop s.data.toList i (by simpa using h)]
  have : (s.data.toList[i]'(by simpa using h)).toNat = byt s i := by rw [← byt_at s i h]; rfl
  rw [this]

set_option maxHeartbeats 400000 in
theorem digits_any (s : ByteArray) (i : Nat) (w : World) (hs : s.size ≤ 1000) (hi : i ≤ s.size + 2) :
    Calls Try.prog 33 #[.string s, .int .i64 i, .int .i64 10] w fun e w' => e = .returned (.int .i64 (dg s i : Nat)) ∧ w = w' := by
  go_enter Try.func33, Try.ntmps33
  go_wp2
  go_loop [7] (fun u => ∃ k : Nat, (i + k ≤ s.size ∨ k = 0) ∧ u = .int .i64 k ∧ dg s i = k + dg s (i + k)) (fun u => s.size - (intOf u).toNat)
  case atStart => exact ⟨0, .inr rfl, rfl, by simp⟩
  case round =>
    obtain ⟨k, hk, rfl, hd⟩ := hrel
    have hk2 : k ≤ 1000 := by omega
    have HD := Lib.hid hd
    have HK := Lib.hid hk
    clear hd hk
    by_cases hlt : i + k < s.size
    · have hstep := dg_step s (i + k) hlt
      have HS := Lib.hid hstep
      clear hstep
      have hb := byt_at s (i + k) hlt
      have HB := Lib.hid hb
      clear hb
      go_wp2_with (go_at_call 62; refine (rsDigit_any _ _ (by have := (s[i + k]).toNat_lt; omega)).mono ?_; rintro e w' ⟨r, rfl, hr0, hr1, hr, rfl⟩; have HR := Lib.hid hr; clear hr)
      · refine ⟨⟨k + 1, by omega, by go_num, ?_⟩, by simp [intOf]; omega⟩
        have h1 : r < 10 := by assumption
        have h2 := HR.out.1 h1
        have e1 := HD.out
        have e2 := HS.out
        rw [HB.out] at h2
        rw [if_pos h2] at e2
        rw [show i + (k + 1) = i + k + 1 from by omega]
        omega
      · go_ret
        have h1 : 10 ≤ r := by assumption
        have e1 := HD.out
        have e2 := HS.out
        have h2 : ¬ (48 ≤ byt s (i + k) ∧ byt s (i + k) ≤ 57) := by
          rw [← HB.out]
          intro h3
          have := HR.out.2 h3
          omega
        rw [if_neg h2] at e2
        exact ⟨ret_int (by omega), rfl⟩
    · have hz := dg_end s (i + k) (by omega)
      have HZ := Lib.hid hz
      clear hz
      have hk3 : k ≤ 1000 := hk2
      go_wp2
      go_ret
      have e1 := HD.out
      have e2 := HZ.out
      exact ⟨ret_int (by omega), rfl⟩

/-- Where a text goes on behind a sign. -/
def sgnB (s : ByteArray) (i : Nat) : Bool := decide (i < s.size) && (byt s i == 45 || byt s i == 43)
def expB (s : ByteArray) (i : Nat) : Bool := decide (i < s.size) && (byt s i == 101 || byt s i == 69)
def dotB (s : ByteArray) (i : Nat) : Bool := decide (i < s.size) && (byt s i == 46)
/-- What is behind the digits and the point: an exponent or none, and the end. -/
def expo (s : ByteArray) (q : Nat) : Bool := if dg s q = 0 then false else q + dg s q == s.size
def fin (s : ByteArray) (i n : Nat) : Bool :=
  if n = 0 then false
  else if expB s i = true then
    if sgnB s (i + 1) = true then expo s (i + 2) else expo s (i + 1)
  else i == s.size
def mid (s : ByteArray) (i : Nat) : Bool :=
  if dotB s (i + dg s i) = true then fin s (i + dg s i + (1 + dg s (i + dg s i + 1))) (dg s i + dg s (i + dg s i + 1)) else fin s (i + dg s i) (dg s i)
def whole (s : ByteArray) : Bool := mid s (if sgnB s 0 = true then 1 else 0)

theorem sgnB_le (s : ByteArray) (i : Nat) (h : sgnB s i = true) : i < s.size := by simp [sgnB] at h; exact h.1
theorem expB_le (s : ByteArray) (i : Nat) (h : expB s i = true) : i < s.size := by simp [expB] at h; exact h.1
theorem dotB_le (s : ByteArray) (i : Nat) (h : dotB s i = true) : i < s.size := by simp [dotB] at h; exact h.1

theorem bool_of {a b : Bool} (h : a = b) : Value.bool a = Value.bool b := by rw [h]
theorem sgnB_of (s : ByteArray) (i : Nat) (h : i < s.size) (b : Bool) (hb : (((s[i].toNat : Int) == 45) || ((s[i].toNat : Int) == 43)) = b) : sgnB s i = b := by
  unfold sgnB; rw [← byt_at s i h]; simp [h, ← hb]

theorem zz_eq (s : ByteArray) (i n : Nat) (w : World) (hs : s.size ≤ 1000) (h : dg s i = n) :
    Calls Try.prog 94 #[.string (s.extract i s.size)] w fun e w' => e = .returned (.int .i64 (n : Nat)) ∧ w = w' := by
  subst h; exact zz_at s i w hs
theorem int_beq (a b : Nat) : (((a : Int) == (b : Int)) : Bool) = (a == b) := by
  by_cases h : a = b
  · simp [h]
  · have h' : ¬ (a : Int) = (b : Int) := by omega
    rw [beq_eq_false_iff_ne.2 h, beq_eq_false_iff_ne.2 h']

theorem bb (c k l : Int) (b : Bool) (h : (c == k || c == l) = b) : (c = k → b = true) ∧ (¬ c = k → (c == l) = b) := by
  subst h
  constructor
  · intro h; simp [h]
  · intro h; simp [h]

set_option maxHeartbeats 1000000 in
set_option maxRecDepth 100000 in
theorem styleFloat (s : ByteArray) (w : World) (hs : s.size ≤ 1000) :
    Calls Try.prog 61 #[.string s] w fun e w' => e = .returned (.bool (whole s)) ∧ w = w' := by
  obtain ⟨b, hb⟩ : ∃ b, sgnB s 0 = b := ⟨_, rfl⟩
  obtain ⟨p, hp⟩ : ∃ p : Nat, p = if b = true then 1 else 0 := ⟨_, rfl⟩
  obtain ⟨n, hn⟩ : ∃ n, dg s p = n := ⟨_, rfl⟩
  obtain ⟨d, hd⟩ : ∃ d, dotB s (p + n) = d := ⟨_, rfl⟩
  obtain ⟨n2, hn2⟩ : ∃ n2, dg s (p + n + 1) = n2 := ⟨_, rfl⟩
  obtain ⟨q, hq⟩ : ∃ q : Nat, q = if d = true then p + n + (1 + n2) else p + n := ⟨_, rfl⟩
  obtain ⟨m, hm⟩ : ∃ m : Nat, m = if d = true then n + n2 else n := ⟨_, rfl⟩
  obtain ⟨x, hx⟩ : ∃ x, expB s q = x := ⟨_, rfl⟩
  obtain ⟨y, hy⟩ : ∃ y, sgnB s (q + 1) = y := ⟨_, rfl⟩
  obtain ⟨t, ht⟩ : ∃ t : Nat, t = if y = true then q + 2 else q + 1 := ⟨_, rfl⟩
  obtain ⟨k, hk⟩ : ∃ k, dg s t = k := ⟨_, rfl⟩
  have hw : whole s = if m = 0 then false else if x = true then (if k = 0 then false else t + k == s.size) else q == s.size := by
    unfold whole mid
    rw [hb, ← hp, hn, hd, hn2]
    have e : (if d = true then fin s (p + n + (1 + n2)) (n + n2) else fin s (p + n) n) = fin s q m := by subst hq hm; cases d <;> rfl
    rw [e]
    unfold fin
    rw [hx, hy]
    have e2 : (if y = true then expo s (q + 2) else expo s (q + 1)) = expo s t := by subst ht; cases y <;> rfl
    rw [e2]
    unfold expo
    rw [hk]
  have lp : p ≤ s.size := by
    rw [hp]; split
    · rename_i h; rw [h] at hb; have := sgnB_le s 0 hb; omega
    · omega
  have ln : p + n ≤ s.size := by have := dg_le s p; omega
  have ld : d = true → p + n + 1 + n2 ≤ s.size := by
    intro h; rw [h] at hd; have := dotB_le s (p + n) hd; have := dg_le s (p + n + 1); omega
  have lq : q ≤ s.size := by
    rw [hq]; split
    · rename_i h; have := ld h; omega
    · omega
  have lm : m ≤ s.size := by
    rw [hm]; split
    · rename_i h; have := ld h; omega
    · omega
  have lx : x = true → q + 1 ≤ s.size := fun h => by rw [h] at hx; exact expB_le s q hx
  have lt : x = true → t ≤ s.size := by
    intro h; have := lx h; rw [ht]; split
    · rename_i g; rw [g] at hy; have := sgnB_le s (q + 1) hy; omega
    · omega
  have lk : t + k ≤ 2000 := by
    have := dg_le s t
    have : t ≤ q + 2 := by rw [ht]; split <;> omega
    omega
  have HW := Lib.hid hw
  have HB := Lib.hid hb
  have HP := Lib.hid hp
  have HN := Lib.hid hn
  have HD := Lib.hid hd
  have HN2 := Lib.hid hn2
  have HQ := Lib.hid hq
  have HM := Lib.hid hm
  have HX := Lib.hid hx
  have HY := Lib.hid hy
  have HT := Lib.hid ht
  have HK := Lib.hid hk
  have LD := Lib.hid ld
  have LX := Lib.hid lx
  have LT := Lib.hid lt
  clear hw hb hp hn hd hn2 hq hm hx hy ht hk ld lx lt
  go_enter Try.func61, Try.ntmps61
  go_upto_region 2 with (fail)
  go_cut [21] (fun u wx => u = .bool b ∧ wx = w)
  case first =>
    by_cases h : 0 < s.size
    · have hc := byt_at s 0 h
      have hb := bb _ _ _ _ (show (byt s 0 == 45 || byt s 0 == 43) = b by rw [← HB.out]; simp [sgnB, h])
      have HC := Lib.hid hb
      clear hb
      go_wp2_with (fail)
      all_goals
        go_meet
        first | exact ⟨bool_of (HC.out.1 (by assumption)).symm, rfl⟩ | exact ⟨bool_of (by have g := HC.out.2 (by assumption); simp [*]), rfl⟩
    · have hb : false = b := by rw [← HB.out]; simp [sgnB, h]
      subst hb
      go_wp2_with (fail)
      go_meet
      exact ⟨rfl, rfl⟩
  case rest =>
    obtain ⟨rfl, rfl⟩ := hcut
    go_upto_if 21 with (fail)
    go_cut [3] (fun u wx => u = .int .i64 (p : Int) ∧ wx = wc)
    case first =>
      cases b
      all_goals
        go_wp2_with (fail)
        go_meet
        exact ⟨by rw [HP.out]; rfl, rfl⟩
    case rest =>
      obtain ⟨rfl, rfl⟩ := hcut
      go_wp2_with (fail)
      refine (zz_eq s p n _ hs HN.out).mono ?_
      rintro e w' ⟨rfl, rfl⟩
      go_upto_region 6 with (fail)
      go_cut [40] (fun u wx => u = .bool d ∧ wx = wc)
      case first =>
        by_cases h : p + n < s.size
        · have hc := byt_at s (p + n) h
          have hb : (byt s (p + n) == 46) = d := by rw [← HD.out]; simp [dotB, h]
          go_wp2_with (fail)
          go_meet
          exact ⟨bool_of (by simp [*]), rfl⟩
        · have hb : false = d := by rw [← HD.out]; simp [dotB, h]
          subst hb
          go_wp2_with (fail)
          go_meet
          exact ⟨rfl, rfl⟩
      case rest =>
        obtain ⟨rfl, rfl⟩ := hcut
        go_upto_if 40 with (fail)
        go_cut [3, 4, 5] (fun u v _ wx => u = .int .i64 (q : Int) ∧ v = .int .i64 (m : Int) ∧ wx = wc)
        case first =>
          cases d
          · go_wp2_with (fail)
            go_meet
            exact ⟨by rw [HQ.out]; rfl, by rw [HM.out]; rfl, rfl⟩
          · have l2 := LD.out rfl
            go_wp2_with (fail)
            refine (zz_eq s (p + n + 1) n2 _ hs HN2.out).mono ?_
            rintro e w' ⟨rfl, rfl⟩
            go_wp2_with (fail)
            go_meet
            exact ⟨by rw [HQ.out]; go_num, by rw [HM.out]; go_num, rfl⟩
        case rest =>
          obtain ⟨rfl, rfl, rfl⟩ := hcut
          by_cases hm : m = 0
          · have e1 : whole s = false := by rw [HW.out, if_pos hm]
            have E1 := Lib.hid e1
            subst hm
            clear e1
            go_wp2
            go_ret
            exact ⟨by rw [E1.out]; rfl, rfl⟩
          · have e1 : whole s = if x = true then (if k = 0 then false else t + k == s.size) else q == s.size := by rw [HW.out, if_neg hm]
            have E1 := Lib.hid e1
            have hm2 : ((m : Int) == 0) = false := by simp; omega
            clear e1 hm
            go_upto_region 12 with (fail)
            go_cut [70] (fun u wx => u = .bool x ∧ wx = wc)
            case first =>
              by_cases h : q < s.size
              · have hc := byt_at s q h
                have hb := bb _ _ _ _ (show (byt s q == 101 || byt s q == 69) = x by rw [← HX.out]; simp [expB, h])
                have HC := Lib.hid hb
                clear hb
                go_wp2_with (fail)
                all_goals
                  go_meet
                  first | exact ⟨bool_of (HC.out.1 (by assumption)).symm, rfl⟩ | exact ⟨bool_of (by have g := HC.out.2 (by assumption); simp [*]), rfl⟩
              · have hb : false = x := by rw [← HX.out]; simp [expB, h]
                subst hb
                go_wp2_with (fail)
                go_meet
                exact ⟨rfl, rfl⟩
            case rest =>
              obtain ⟨rfl, rfl⟩ := hcut
              cases x
              · go_wp2
                go_ret
                exact ⟨by rw [E1.out]; first | rfl | simp [int_beq], rfl⟩
              · have l2 := LX.out rfl
                have l3 := LT.out rfl
                go_upto_region 14 with (fail)
                go_cut [88] (fun u wx => u = .bool y ∧ wx = wc)
                case first =>
                  by_cases h : q + 1 < s.size
                  · have hc := byt_at s (q + 1) h
                    have hb := bb _ _ _ _ (show (byt s (q + 1) == 45 || byt s (q + 1) == 43) = y by rw [← HY.out]; simp [sgnB, h])
                    have HC := Lib.hid hb
                    clear hb
                    go_wp2_with (fail)
                    all_goals
                      go_meet
                      first | exact ⟨bool_of (HC.out.1 (by assumption)).symm, rfl⟩ | exact ⟨bool_of (by have g := HC.out.2 (by assumption); simp [*]), rfl⟩
                  · have hb : false = y := by rw [← HY.out]; simp [sgnB, h]
                    subst hb
                    go_wp2_with (fail)
                    go_meet
                    exact ⟨rfl, rfl⟩
                case rest =>
                  obtain ⟨rfl, rfl⟩ := hcut
                  go_upto_if 88 with (fail)
                  go_cut [3] (fun u wx => u = .int .i64 (t : Int) ∧ wx = wc)
                  case first =>
                    cases y
                    all_goals
                      go_wp2_with (fail)
                      go_meet
                      exact ⟨by rw [HT.out]; go_num, rfl⟩
                  case rest =>
                    obtain ⟨rfl, rfl⟩ := hcut
                    go_wp2_with (fail)
                    refine (zz_eq s t k _ hs HK.out).mono ?_
                    rintro e w' ⟨rfl, rfl⟩
                    by_cases hk : k = 0
                    · have e2 : whole s = false := by rw [E1.out]; simp [hk]
                      have E2 := Lib.hid e2
                      subst hk
                      clear e2
                      go_wp2
                      go_ret
                      exact ⟨by rw [E2.out]; rfl, rfl⟩
                    · have e2 : whole s = (t + k == s.size) := by rw [E1.out]; simp [hk]
                      have E2 := Lib.hid e2
                      have hk2 : ((k : Int) == 0) = false := by simp; omega
                      clear e2 hk
                      go_wp2
                      go_ret
                      exact ⟨by rw [E2.out, ← int_beq]; first | rfl | simp, rfl⟩

theorem digits_eq (s : ByteArray) (i n : Nat) (w : World) (hs : s.size ≤ 1000) (hi : i ≤ s.size + 2) (h : dg s i = n) :
    Calls Try.prog 33 #[.string s, .int .i64 i, .int .i64 10] w fun e w' => e = .returned (.int .i64 (n : Nat)) ∧ w = w' := by
  subst h; exact digits_any s i w hs hi

theorem signed_eq (s : ByteArray) (b : Bool) (p : Nat) (w : World) (hb : sgnB s 0 = b) (hp : p = if b = true then 1 else 0) :
    Calls Try.prog 32 #[.string s] w fun e w' => e = .returned (.int .i64 (p : Nat)) ∧ w = w' := by
  have HB := Lib.hid hb
  have HP := Lib.hid hp
  clear hb hp
  by_cases h : 0 < s.size
  · have hne : s.toList.isEmpty = false := by
      rw [ByteArray.toList_eq]
      cases hl : s.data.toList with
      | nil => have := congrArg List.length hl; rw [Array.length_toList] at this; have e : s.data.size = s.size := rfl; have e0 : ([] : List UInt8).length = 0 := rfl; omega
      | cons a l => rfl
    have hc := byt_at s 0 h
    have hb := bb _ _ _ _ (show (byt s 0 == 45 || byt s 0 == 43) = b by rw [← HB.out]; simp [sgnB, h])
    have HC := Lib.hid hb
    clear hb
    go_enter Try.func32, Try.ntmps32
    go_wp2
    · go_ret
      have := HC.out.1 (by assumption)
      exact ⟨ret_int (by rw [HP.out, this]; rfl), rfl⟩
    · go_ret
      have g := HC.out.2 (by assumption)
      have g1 : (byt s 0 == 45) = true ∨ (byt s 0 == 43) = true := by assumption
      have g2 : (byt s 0 == 43) = true := g1.elim (fun x => absurd (beq_iff_eq.1 x) (by assumption)) id
      rw [g2] at g
      exact ⟨ret_int (by rw [HP.out, ← g]; rfl), rfl⟩
    · go_ret
      have g := HC.out.2 (by assumption)
      have g2 : (byt s 0 == 43) = false := by first | assumption | (simp only [not_or] at *; simp [*]; done) | simp_all
      rw [g2] at g
      exact ⟨ret_int (by rw [HP.out, ← g]; rfl), rfl⟩
  · have hne : s.toList.isEmpty = true := by
      rw [ByteArray.toList_eq]
      cases hl : s.data.toList with
      | nil => rfl
      | cons a l => have := congrArg List.length hl; rw [Array.length_toList] at this; exact absurd this (by have e : s.data.size = s.size := rfl; simp; omega)
    have hb : false = b := by rw [← HB.out]; simp [sgnB, h]
    have hp : (0 : Int) = p := by rw [HP.out, ← hb]; rfl
    have HP2 := Lib.hid hp
    clear hb hp
    go_enter Try.func32, Try.ntmps32
    go_wp2
    go_ret
    exact ⟨ret_int HP2.out, rfl⟩

set_option maxHeartbeats 1000000 in
set_option maxRecDepth 100000 in
theorem specFloats (s : ByteArray) (W0 : World) (hs : s.size ≤ 1000) :
    Calls Try.prog 18 #[.string s] W0 fun e w' => e = .returned (.bool (whole s)) ∧ W0 = w' := by
  obtain ⟨b, hb⟩ : ∃ b, sgnB s 0 = b := ⟨_, rfl⟩
  obtain ⟨p, hp⟩ : ∃ p : Nat, p = if b = true then 1 else 0 := ⟨_, rfl⟩
  obtain ⟨n, hn⟩ : ∃ n, dg s p = n := ⟨_, rfl⟩
  obtain ⟨d, hd⟩ : ∃ d, dotB s (p + n) = d := ⟨_, rfl⟩
  obtain ⟨n2, hn2⟩ : ∃ n2, dg s (p + n + 1) = n2 := ⟨_, rfl⟩
  obtain ⟨q, hq⟩ : ∃ q : Nat, q = if d = true then p + n + (1 + n2) else p + n := ⟨_, rfl⟩
  obtain ⟨m, hm⟩ : ∃ m : Nat, m = if d = true then n + n2 else n := ⟨_, rfl⟩
  obtain ⟨x, hx⟩ : ∃ x, expB s q = x := ⟨_, rfl⟩
  obtain ⟨y, hy⟩ : ∃ y, sgnB s (q + 1) = y := ⟨_, rfl⟩
  obtain ⟨t, ht⟩ : ∃ t : Nat, t = if y = true then q + 2 else q + 1 := ⟨_, rfl⟩
  obtain ⟨k, hk⟩ : ∃ k, dg s t = k := ⟨_, rfl⟩
  have hw : whole s = if m = 0 then false else if x = true then (if k = 0 then false else t + k == s.size) else q == s.size := by
    unfold whole mid
    rw [hb, ← hp, hn, hd, hn2]
    have e : (if d = true then fin s (p + n + (1 + n2)) (n + n2) else fin s (p + n) n) = fin s q m := by subst hq hm; cases d <;> rfl
    rw [e]
    unfold fin
    rw [hx, hy]
    have e2 : (if y = true then expo s (q + 2) else expo s (q + 1)) = expo s t := by subst ht; cases y <;> rfl
    rw [e2]
    unfold expo
    rw [hk]
  have lp : p ≤ s.size := by
    rw [hp]; split
    · rename_i h; rw [h] at hb; have := sgnB_le s 0 hb; omega
    · omega
  have ln : p + n ≤ s.size := by have := dg_le s p; omega
  have ld : d = true → p + n + 1 + n2 ≤ s.size := by
    intro h; rw [h] at hd; have := dotB_le s (p + n) hd; have := dg_le s (p + n + 1); omega
  have lq : q ≤ s.size := by
    rw [hq]; split
    · rename_i h; have := ld h; omega
    · omega
  have lm : m ≤ s.size := by
    rw [hm]; split
    · rename_i h; have := ld h; omega
    · omega
  have lx : x = true → q + 1 ≤ s.size := fun h => by rw [h] at hx; exact expB_le s q hx
  have lt : x = true → t ≤ s.size := by
    intro h; have := lx h; rw [ht]; split
    · rename_i g; rw [g] at hy; have := sgnB_le s (q + 1) hy; omega
    · omega
  have lk : t + k ≤ 2000 := by
    have := dg_le s t
    have : t ≤ q + 2 := by rw [ht]; split <;> omega
    omega
  have HW := Lib.hid hw
  have HB := Lib.hid hb
  have HP := Lib.hid hp
  have HN := Lib.hid hn
  have HD := Lib.hid hd
  have HN2 := Lib.hid hn2
  have HQ := Lib.hid hq
  have HM := Lib.hid hm
  have HX := Lib.hid hx
  have HY := Lib.hid hy
  have HT := Lib.hid ht
  have HK := Lib.hid hk
  have LD := Lib.hid ld
  have LX := Lib.hid lx
  have LT := Lib.hid lt
  clear hw hb hp hn hd hn2 hq hm hx hy ht hk ld lx lt
  go_enter Try.func18, Try.ntmps18
  go_wp2_with (fail)
  refine (signed_eq s b p _ HB.out HP.out).mono ?_
  rintro e w' ⟨rfl, rfl⟩
  go_wp2_with (fail)
  refine (digits_eq s p n _ hs (by omega) HN.out).mono ?_
  rintro e w' ⟨rfl, rfl⟩
  go_upto_region 4 with (fail)
  go_cut [25] (fun u wx => u = .bool d ∧ wx = W0)
  case first =>
    by_cases h : p + n < s.size
    · have hc := byt_at s (p + n) h
      have hb : (byt s (p + n) == 46) = d := by rw [← HD.out]; simp [dotB, h]
      go_wp2_with (fail)
      go_meet
      exact ⟨bool_of (by simp [*]), rfl⟩
    · have hb : false = d := by rw [← HD.out]; simp [dotB, h]
      subst hb
      go_wp2_with (fail)
      go_meet
      exact ⟨rfl, rfl⟩
  case rest =>
    obtain ⟨rfl, hwc⟩ := hcut; subst hwc
    go_upto_if 25 with (fail)
    go_cut [3, 4, 5] (fun u v _ wx => u = .int .i64 (q : Int) ∧ v = .int .i64 (m : Int) ∧ wx = wc)
    case first =>
      cases d
      · go_wp2_with (fail)
        go_meet
        exact ⟨by rw [HQ.out]; rfl, by rw [HM.out]; rfl, rfl⟩
      · have l2 := LD.out rfl
        go_wp2_with (fail)
        refine (digits_eq s (p + n + 1) n2 _ hs (by omega) HN2.out).mono ?_
        rintro e w' ⟨rfl, rfl⟩
        go_wp2_with (fail)
        go_meet
        exact ⟨by rw [HQ.out]; go_num, by rw [HM.out]; go_num, rfl⟩
    case rest =>
      obtain ⟨rfl, rfl, hwc⟩ := hcut; subst hwc
      by_cases hm : m = 0
      · have e1 : whole s = false := by rw [HW.out, if_pos hm]
        have E1 := Lib.hid e1
        subst hm
        clear e1
        go_wp2
        go_ret
        exact ⟨by rw [E1.out]; rfl, rfl⟩
      · have e1 : whole s = if x = true then (if k = 0 then false else t + k == s.size) else q == s.size := by rw [HW.out, if_neg hm]
        have E1 := Lib.hid e1
        have hm2 : ((m : Int) == 0) = false := by simp; omega
        clear e1 hm
        go_upto_region 10 with (fail)
        go_cut [54] (fun u wx => u = .bool x ∧ wx = wc)
        case first =>
          by_cases h : q < s.size
          · have hc := byt_at s q h
            have hb := bb _ _ _ _ (show (byt s q == 101 || byt s q == 69) = x by rw [← HX.out]; simp [expB, h])
            have HC := Lib.hid hb
            clear hb
            go_wp2_with (fail)
            all_goals
              go_meet
              first | exact ⟨bool_of (HC.out.1 (by assumption)).symm, rfl⟩ | exact ⟨bool_of (by have g := HC.out.2 (by assumption); simp [*]), rfl⟩
          · have hb : false = x := by rw [← HX.out]; simp [expB, h]
            subst hb
            go_wp2_with (fail)
            go_meet
            exact ⟨rfl, rfl⟩
        case rest =>
          obtain ⟨rfl, hwc⟩ := hcut; subst hwc
          cases x
          · go_wp2
            go_ret
            exact ⟨by rw [E1.out]; first | rfl | simp [int_beq], rfl⟩
          · have l2 := LX.out rfl
            have l3 := LT.out rfl
            go_upto_region 12 with (fail)
            go_cut [72] (fun u wx => u = .bool y ∧ wx = wc)
            case first =>
              by_cases h : q + 1 < s.size
              · have hc := byt_at s (q + 1) h
                have hb := bb _ _ _ _ (show (byt s (q + 1) == 45 || byt s (q + 1) == 43) = y by rw [← HY.out]; simp [sgnB, h])
                have HC := Lib.hid hb
                clear hb
                go_wp2_with (fail)
                all_goals
                  go_meet
                  first | exact ⟨bool_of (HC.out.1 (by assumption)).symm, rfl⟩ | exact ⟨bool_of (by have g := HC.out.2 (by assumption); simp [*]), rfl⟩
              · have hb : false = y := by rw [← HY.out]; simp [sgnB, h]
                subst hb
                go_wp2_with (fail)
                go_meet
                exact ⟨rfl, rfl⟩
            case rest =>
              obtain ⟨rfl, hwc⟩ := hcut; subst hwc
              go_upto_if 72 with (fail)
              go_cut [6] (fun u wx => u = .int .i64 (t : Int) ∧ wx = wc)
              case first =>
                cases y
                all_goals
                  go_wp2_with (fail)
                  go_meet
                  exact ⟨by rw [HT.out]; go_num, rfl⟩
              case rest =>
                obtain ⟨rfl, hwc⟩ := hcut; subst hwc
                go_wp2_with (fail)
                refine (digits_eq s t k _ hs (by omega) HK.out).mono ?_
                rintro e w' ⟨rfl, rfl⟩
                by_cases hk : k = 0
                · have e2 : whole s = false := by rw [E1.out]; simp [hk]
                  have E2 := Lib.hid e2
                  subst hk
                  clear e2
                  go_wp2
                  go_ret
                  exact ⟨by rw [E2.out]; rfl, rfl⟩
                · have e2 : whole s = (t + k == s.size) := by rw [E1.out]; simp [hk]
                  have E2 := Lib.hid e2
                  have hk2 : ((k : Int) == 0) = false := by simp; omega
                  clear e2 hk
                  go_wp2
                  go_ret
                  exact ⟨by rw [E2.out, ← int_beq]; first | rfl | simp, rfl⟩

theorem zzStyle_any (s : ByteArray) (w : World) (hs : s.size ≤ 1000) :
    Calls Try.prog 31 #[.string s] w fun e w' => e = .returned (.bool (whole s)) ∧ w = w' := by
  have H := Lib.hid hs
  clear hs
  go_enter Try.func31, Try.ntmps31
  go_wp2_with (go_at_call 61; refine (styleFloat _ _ H.out).mono ?_; rintro e w' ⟨rfl, rfl⟩)
  go_ret
  exact ⟨rfl, rfl⟩
theorem implForm_any (s : ByteArray) (w : World) (hs : s.size ≤ 1000) :
    Calls Try.prog 17 #[.string s] w fun e w' => e = .returned (.bool (whole s)) ∧ w = w' := by
  have H := Lib.hid hs
  clear hs
  go_enter Try.func17, Try.ntmps17
  go_wp2_with (go_at_call 31; refine (zzStyle_any _ _ H.out).mono ?_; rintro e w' ⟨rfl, rfl⟩)
  go_ret
  exact ⟨rfl, rfl⟩

/-- The law's walk. -/
theorem law_walk (s : ByteArray) (w : World) (_w0 : s.size ≤ 140737488351232) :
    Calls Try.prog 6 #[.string s] w fun e w' => e = .returned (.bool true) ∧ Below w.heap.size w w' := by
  by_cases h : s.size ≤ 1000
  · have c1 : decide ((2147483647 : Int) < (s.size : Int)) = false := by simp; omega
    have c3 : decide ((1000 : Int) < (s.size : Int)) = false := by simp; omega
    have H := Lib.hid h
    clear h
    obtain ⟨b, hb⟩ : ∃ b, whole s = b := ⟨_, rfl⟩
    have HB := Lib.hid hb
    clear hb
    go_enter Try.func6, Try.ntmps6
    go_wp2_with (first | (go_at_call 17; refine (implForm_any _ _ H.out).mono ?_; rw [HB.out]; rintro e w' ⟨rfl, rfl⟩) | (go_at_call 18; refine (specFloats _ _ H.out).mono ?_; rw [HB.out]; rintro e w' ⟨rfl, rfl⟩))
    go_ret
    exact ⟨rfl, Below.refl _ _⟩
  · by_cases h2 : s.size ≤ 2147483647
    · have c1 : decide ((2147483647 : Int) < (s.size : Int)) = false := by simp; omega
      have c3 : decide ((1000 : Int) < (s.size : Int)) = true := by simp; omega
      clear h h2
      go_enter Try.func6, Try.ntmps6
      go_wp2
      go_ret
      exact ⟨rfl, Below.refl _ _⟩
    · have c1 : decide ((2147483647 : Int) < (s.size : Int)) = true := by simp; omega
      clear h h2
      go_enter Try.func6, Try.ntmps6
      go_wp2
      go_ret
      exact ⟨rfl, Below.refl _ _⟩

end Go.Proofs.YtippbmfgpkcmlaaR.FnFloatFormWalk
