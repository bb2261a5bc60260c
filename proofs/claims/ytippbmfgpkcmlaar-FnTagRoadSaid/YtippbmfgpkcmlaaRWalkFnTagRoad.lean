/- The short form of a long form is the short form, and the long form of a short form the long form: the walk. For every tag. -/
import Derived.Test.YtippbmfgpkcmlaaRProg
import Derived.WalkKit
import Derived.KernelRfl
import Derived.Below
import Derived.Lib.Hide
import Derived.Lib.Strings
namespace Go.Proofs.YtippbmfgpkcmlaaR.FnTagRoadWalk
open Go.RowKit

theorem toL (s : ByteArray) : s.toList = s.data.toList := ByteArray.toList_eq s

/-- A text's beginning, as 'HasPrefix' asks for it. -/
def Pre (s p : ByteArray) : Prop := p.size ≤ s.size ∧ (s.extract 0 p.size).toList = p.toList
theorem liteHas_yes (s p : ByteArray) (w : World) (h : Pre s p) : Calls Try.prog 104 #[.string s, .string p] w fun e w' => e = .returned (.bool true) ∧ w = w' := by
  obtain ⟨h1, h2⟩ := h
  have c1 : decide ((p.size : Int) ≤ (s.size : Int)) = true := by simp; omega
  have c2 : decide (p.size ≤ s.size) = true := by simpa using h1
  have c3 : ((s.extract 0 p.size).toList == p.toList) = true := by simp [h2]
  clear h2
  go_enter Try.func104, Try.ntmps104
  go_wp2
  go_ret
  exact ⟨by simp [*], rfl⟩
theorem liteHas_no (s p : ByteArray) (w : World) (h : ¬ Pre s p) : Calls Try.prog 104 #[.string s, .string p] w fun e w' => e = .returned (.bool false) ∧ w = w' := by
  by_cases h1 : p.size ≤ s.size
  · have h2 : ¬ (s.extract 0 p.size).toList = p.toList := fun x => h ⟨h1, x⟩
    have c1 : decide ((p.size : Int) ≤ (s.size : Int)) = true := by simp; omega
    have c2 : decide (p.size ≤ s.size) = true := by simpa using h1
    have c3 : ((s.extract 0 p.size).toList == p.toList) = false := by simp [h2]
    clear h2 h
    go_enter Try.func104, Try.ntmps104
    go_wp2
    go_ret
    exact ⟨by simp [*], rfl⟩
  · have c1 : decide ((p.size : Int) ≤ (s.size : Int)) = false := by simp; omega
    have c2 : decide (p.size ≤ s.size) = false := by simpa using h1
    clear h
    go_enter Try.func104, Try.ntmps104
    go_wp2
    go_ret
    exact ⟨by simp [*], rfl⟩
theorem has_yes (s p : ByteArray) (w : World) (h : Pre s p) : Calls Try.prog 92 #[.string s, .string p] w fun e w' => e = .returned (.bool true) ∧ w = w' := by
  have H := Lib.hid h
  clear h
  go_enter Try.func92, Try.ntmps92
  go_wp2_with (go_at_call 104; refine (liteHas_yes _ _ _ H.out).mono ?_; rintro e w' ⟨rfl, rfl⟩)
  go_ret
  exact ⟨rfl, rfl⟩
theorem has_no (s p : ByteArray) (w : World) (h : ¬ Pre s p) : Calls Try.prog 92 #[.string s, .string p] w fun e w' => e = .returned (.bool false) ∧ w = w' := by
  have H := Lib.hid h
  clear h
  go_enter Try.func92, Try.ntmps92
  go_wp2_with (go_at_call 104; refine (liteHas_no _ _ _ H.out).mono ?_; rintro e w' ⟨rfl, rfl⟩)
  go_ret
  exact ⟨rfl, rfl⟩
theorem known_any (s : ByteArray) (w : World) : Calls Try.prog 93 #[.string s] w fun e w' => ∃ b, e = .returned (.bool b) ∧ w = w' := by
  go_enter Try.func93, Try.ntmps93
  go_wp2
  all_goals
    go_ret
    exact ⟨_, rfl, rfl⟩

/-- The standard's beginning of a tag, and the two marks of its short form. -/
def longPre : ByteArray := ⟨#[116, 97, 103, 58, 121, 97, 109, 108, 46, 111, 114, 103, 44, 50, 48, 48, 50, 58]⟩
def twoPre : ByteArray := ⟨#[33, 33]⟩

theorem shortTag_yes (s : ByteArray) (w : World) (h : Pre s longPre) (hs : s.size ≤ 4294967296) :
    Calls Try.prog 60 #[.string s] w fun e w' => e = .returned (.string (twoPre ++ s.extract 18 s.size)) ∧ w = w' := by
  have h18 : 18 ≤ s.size := h.1
  have H := Lib.hid h
  clear h
  go_enter Try.func60, Try.ntmps60
  go_wp2_with (go_at_call 92; refine (has_yes _ _ _ H.out).mono ?_; rintro e w' ⟨rfl, rfl⟩)
  refine (known_any _ _).mono ?_
  rintro e w' ⟨b, rfl, rfl⟩
  cases b
  all_goals
    go_wp2
    go_ret
    exact ⟨rfl, rfl⟩
theorem shortTag_no (s : ByteArray) (w : World) (h : ¬ Pre s longPre) :
    Calls Try.prog 60 #[.string s] w fun e w' => e = .returned (.string s) ∧ w = w' := by
  have H := Lib.hid h
  clear h
  go_enter Try.func60, Try.ntmps60
  go_wp2_with (go_at_call 92; refine (has_no _ _ _ H.out).mono ?_; rintro e w' ⟨rfl, rfl⟩)
  go_ret
  exact ⟨rfl, rfl⟩

/-- The short and the long form, outright. -/
def shortOf (s : ByteArray) : ByteArray := if s.data.toList.take 18 = longPre.data.toList then twoPre ++ s.extract 18 s.size else s
def longOf (s : ByteArray) : ByteArray := if s.data.toList.take 2 = twoPre.data.toList then longPre ++ s.extract 2 s.size else s

theorem ex_toL (s : ByteArray) (a b : Nat) : (s.extract a b).toList = (s.data.toList.drop a).take (b - a) := by
  rw [toL]; exact Lib.extract_data s a b
theorem pre_iff (s p : ByteArray) : Pre s p ↔ s.data.toList.take p.size = p.data.toList := by
  unfold Pre
  rw [ex_toL, toL]
  simp only [List.drop_zero, Nat.sub_zero]
  constructor
  · exact fun h => h.2
  · intro h
    refine ⟨?_, h⟩
    have := congrArg List.length h
    rw [List.length_take, Array.length_toList, Array.length_toList] at this
    have e1 : p.data.size = p.size := rfl
    have e2 : s.data.size = s.size := rfl
    omega
theorem shortOf_yes (s : ByteArray) (h : Pre s longPre) : shortOf s = twoPre ++ s.extract 18 s.size := if_pos ((pre_iff s longPre).1 h)
theorem shortOf_no (s : ByteArray) (h : ¬ Pre s longPre) : shortOf s = s := if_neg (fun x => h ((pre_iff s longPre).2 x))
theorem longOf_yes (s : ByteArray) (h : Pre s twoPre) : longOf s = longPre ++ s.extract 2 s.size := if_pos ((pre_iff s twoPre).1 h)
theorem longOf_no (s : ByteArray) (h : ¬ Pre s twoPre) : longOf s = s := if_neg (fun x => h ((pre_iff s twoPre).2 x))

theorem shortTag_any (s : ByteArray) (w : World) (hs : s.size ≤ 4294967296) :
    Calls Try.prog 60 #[.string s] w fun e w' => e = .returned (.string (shortOf s)) ∧ w = w' := by
  by_cases h : Pre s longPre
  · rw [shortOf_yes s h]; exact shortTag_yes s w h hs
  · rw [shortOf_no s h]; exact shortTag_no s w h
theorem zzShort_any (s : ByteArray) (w : World) (hs : s.size ≤ 4294967296) :
    Calls Try.prog 30 #[.string s] w fun e w' => e = .returned (.string (shortOf s)) ∧ w = w' := by
  have H := Lib.hid hs
  clear hs
  go_enter Try.func30, Try.ntmps30
  go_wp2_with (go_at_call 60; refine (shortTag_any _ _ H.out).mono ?_; rintro e w' ⟨rfl, rfl⟩)
  go_ret
  exact ⟨rfl, rfl⟩
theorem implShort_any (s : ByteArray) (w : World) (hs : s.size ≤ 4294967296) :
    Calls Try.prog 15 #[.string s] w fun e w' => e = .returned (.string (shortOf s)) ∧ w = w' := by
  have H := Lib.hid hs
  clear hs
  go_enter Try.func15, Try.ntmps15
  go_wp2_with (go_at_call 30; refine (zzShort_any _ _ H.out).mono ?_; rintro e w' ⟨rfl, rfl⟩)
  go_ret
  exact ⟨rfl, rfl⟩

theorem specShort_any (s : ByteArray) (w : World) (hs : s.size ≤ 4294967296) :
    Calls Try.prog 16 #[.string s] w fun e w' => e = .returned (.string (shortOf s)) ∧ w = w' := by
  by_cases h : Pre s longPre
  · rw [shortOf_yes s h]
    have c1 : decide ((18 : Int) ≤ (s.size : Int)) = true := by have : 18 ≤ s.size := h.1; simp; omega
    have c2 : decide (18 ≤ s.size) = true := by have : 18 ≤ s.size := h.1; simpa using this
    have c3 : ((s.extract 0 18).toList == [116, 97, 103, 58, 121, 97, 109, 108, 46, 111, 114, 103, 44, 50, 48, 48, 50, 58]) = true := by
      rw [show s.extract 0 18 = s.extract 0 longPre.size from rfl, h.2, toL]; rfl
    have h18 : 18 ≤ s.size := h.1
    clear h
    go_enter Try.func16, Try.ntmps16
    go_wp2
    go_ret
    exact ⟨rfl, rfl⟩
  · rw [shortOf_no s h]
    by_cases h1 : 18 ≤ s.size
    · have h2 : ¬ (s.extract 0 18).toList = [116, 97, 103, 58, 121, 97, 109, 108, 46, 111, 114, 103, 44, 50, 48, 48, 50, 58] := fun x => h ⟨h1, by rw [show s.extract 0 longPre.size = s.extract 0 18 from rfl, x, toL]; rfl⟩
      have c1 : decide ((18 : Int) ≤ (s.size : Int)) = true := by simp; omega
      have c2 : decide (18 ≤ s.size) = true := by simpa using h1
      have c3 : ((s.extract 0 18).toList == [116, 97, 103, 58, 121, 97, 109, 108, 46, 111, 114, 103, 44, 50, 48, 48, 50, 58]) = false := by simp [h2]
      clear h2 h
      go_enter Try.func16, Try.ntmps16
      go_wp2
      go_ret
      exact ⟨rfl, rfl⟩
    · have c1 : decide ((18 : Int) ≤ (s.size : Int)) = false := by simp; omega
      clear h
      go_enter Try.func16, Try.ntmps16
      go_wp2
      go_ret
      exact ⟨rfl, rfl⟩

theorem shortOf_size (s : ByteArray) : (shortOf s).size ≤ s.size + 2 := by
  unfold shortOf
  split
  · rw [ByteArray.size_append]
    have : (s.extract 18 s.size).size ≤ s.size := by simp
    have e : twoPre.size = 2 := rfl
    omega
  · omega
theorem longOf_size (s : ByteArray) : (longOf s).size ≤ s.size + 18 := by
  unfold longOf
  split
  · rw [ByteArray.size_append]
    have : (s.extract 2 s.size).size ≤ s.size := by simp
    have e : longPre.size = 18 := rfl
    omega
  · omega

theorem longTag_any (s : ByteArray) (w : World) (hs : s.size ≤ 4294967296) :
    Calls Try.prog 63 #[.string s] w fun e w' => e = .returned (.string (longOf s)) ∧ w = w' := by
  by_cases h : Pre s twoPre
  · rw [longOf_yes s h]
    have h2 : 2 ≤ s.size := h.1
    have H := Lib.hid h
    clear h
    go_enter Try.func63, Try.ntmps63
    go_wp2_with (go_at_call 92; refine (has_yes _ _ _ H.out).mono ?_; rintro e w' ⟨rfl, rfl⟩)
    refine (known_any _ _).mono ?_
    rintro e w' ⟨b, rfl, rfl⟩
    cases b
    all_goals
      go_wp2
      go_ret
      exact ⟨rfl, rfl⟩
  · rw [longOf_no s h]
    have H := Lib.hid h
    clear h
    go_enter Try.func63, Try.ntmps63
    go_wp2_with (go_at_call 92; refine (has_no _ _ _ H.out).mono ?_; rintro e w' ⟨rfl, rfl⟩)
    go_ret
    exact ⟨rfl, rfl⟩
theorem zzLong_any (s : ByteArray) (w : World) (hs : s.size ≤ 4294967296) :
    Calls Try.prog 34 #[.string s] w fun e w' => e = .returned (.string (longOf s)) ∧ w = w' := by
  have H := Lib.hid hs
  clear hs
  go_enter Try.func34, Try.ntmps34
  go_wp2_with (go_at_call 63; refine (longTag_any _ _ H.out).mono ?_; rintro e w' ⟨rfl, rfl⟩)
  go_ret
  exact ⟨rfl, rfl⟩
theorem implLong_any (s : ByteArray) (w : World) (hs : s.size ≤ 4294967296) :
    Calls Try.prog 19 #[.string s] w fun e w' => e = .returned (.string (longOf s)) ∧ w = w' := by
  have H := Lib.hid hs
  clear hs
  go_enter Try.func19, Try.ntmps19
  go_wp2_with (go_at_call 34; refine (zzLong_any _ _ H.out).mono ?_; rintro e w' ⟨rfl, rfl⟩)
  go_ret
  exact ⟨rfl, rfl⟩
theorem specLong_any (s : ByteArray) (w : World) (hs : s.size ≤ 4294967296) :
    Calls Try.prog 20 #[.string s] w fun e w' => e = .returned (.string (longOf s)) ∧ w = w' := by
  by_cases h : Pre s twoPre
  · rw [longOf_yes s h]
    have c1 : decide ((2 : Int) ≤ (s.size : Int)) = true := by have : 2 ≤ s.size := h.1; simp; omega
    have c2 : decide (2 ≤ s.size) = true := by have : 2 ≤ s.size := h.1; simpa using this
    have c3 : ((s.extract 0 2).toList == [33, 33]) = true := by
      rw [show s.extract 0 2 = s.extract 0 twoPre.size from rfl, h.2, toL]; rfl
    have h18 : 2 ≤ s.size := h.1
    clear h
    go_enter Try.func20, Try.ntmps20
    go_wp2
    go_ret
    exact ⟨rfl, rfl⟩
  · rw [longOf_no s h]
    by_cases h1 : 2 ≤ s.size
    · have h2 : ¬ (s.extract 0 2).toList = [33, 33] := fun x => h ⟨h1, by rw [show s.extract 0 twoPre.size = s.extract 0 2 from rfl, x, toL]; rfl⟩
      have c1 : decide ((2 : Int) ≤ (s.size : Int)) = true := by simp; omega
      have c2 : decide (2 ≤ s.size) = true := by simpa using h1
      have c3 : ((s.extract 0 2).toList == [33, 33]) = false := by simp [h2]
      clear h2 h
      go_enter Try.func20, Try.ntmps20
      go_wp2
      go_ret
      exact ⟨rfl, rfl⟩
    · have c1 : decide ((2 : Int) ≤ (s.size : Int)) = false := by simp; omega
      clear h
      go_enter Try.func20, Try.ntmps20
      go_wp2
      go_ret
      exact ⟨rfl, rfl⟩

theorem extB {a b : ByteArray} (h : a.data.toList = b.data.toList) : a = b := by
  cases a; cases b
  congr
  exact Array.toList_inj.1 h
theorem app_data (a b : ByteArray) : (a ++ b).data.toList = a.data.toList ++ b.data.toList := by simp

/-- The short form of a long form is the short form. -/
theorem short_long (s : ByteArray) : shortOf (longOf s) = shortOf s := by
  by_cases h : s.data.toList.take 2 = twoPre.data.toList
  · have hl : longOf s = longPre ++ s.extract 2 s.size := if_pos h
    have hn : shortOf s = s := by
      refine if_neg fun g => ?_
      have : s.data.toList.take 2 = [116, 97] := by
        have := congrArg (List.take 2) g
        rw [List.take_take] at this
        exact this
      rw [h] at this
      exact absurd this (by decide)
    rw [hn, hl]
    have hy : shortOf (longPre ++ s.extract 2 s.size) = twoPre ++ (longPre ++ s.extract 2 s.size).extract 18 (longPre ++ s.extract 2 s.size).size := by
      refine if_pos ?_
      rw [app_data]; rfl
    rw [hy]
    apply extB
    rw [app_data, Lib.extract_data, app_data, Lib.extract_data, ByteArray.size_append]
    have e1 : List.drop 18 (longPre.data.toList ++ List.take (s.size - 2) (List.drop 2 s.data.toList)) = List.take (s.size - 2) (List.drop 2 s.data.toList) := rfl
    rw [e1]
    have e2 : (List.take (s.size - 2) (List.drop 2 s.data.toList)) = List.drop 2 s.data.toList := List.take_of_length_le (by rw [List.length_drop, Array.length_toList]; exact Nat.le_refl _)
    rw [e2, ← h]
    have e3 : List.take (longPre.size + (s.extract 2 s.size).size - 18) (List.drop 2 s.data.toList) = List.drop 2 s.data.toList := by
      refine List.take_of_length_le ?_
      rw [List.length_drop, Array.length_toList]
      have : (s.extract 2 s.size).size = s.size - 2 := by simp
      have e : longPre.size = 18 := rfl
      have e4 : s.data.size = s.size := rfl
      omega
    rw [e3]
    exact List.take_append_drop 2 s.data.toList
  · have hl : longOf s = s := if_neg h
    rw [hl]

/-- The law's walk. -/
theorem law_walk (s : ByteArray) (w : World) (_w0 : s.size ≤ 140737488351232) :
    Calls Try.prog 7 #[.string s] w fun e w' => e = .returned (.bool true) ∧ Below w.heap.size w w' := by
  by_cases h : s.size ≤ 2147483647
  · have c1 : decide ((2147483647 : Int) < (s.size : Int)) = false := by simp; omega
    have H := Lib.hid h
    have c2 : ((shortOf (longOf s)).toList == (shortOf s).toList) = true := by rw [short_long s]; simp
    have c3 : ((longOf (shortOf s)).toList == (longOf (shortOf s)).toList) = true := by simp
    have k1 := Lib.hid (longOf_size s)
    have k2 := Lib.hid (shortOf_size s)
    clear h
    go_enter Try.func7, Try.ntmps7
    go_wp2_with (first | (go_at_call 15; refine (implShort_any _ _ (by have := H.out; have := k1.out; omega)).mono ?_; rintro e w' ⟨rfl, rfl⟩) | (go_at_call 16; refine (specShort_any _ _ (by have := H.out; omega)).mono ?_; rintro e w' ⟨rfl, rfl⟩) | (go_at_call 19; refine (implLong_any _ _ (by have := H.out; have := k2.out; omega)).mono ?_; rintro e w' ⟨rfl, rfl⟩) | (go_at_call 20; refine (specLong_any _ _ (by have := H.out; have := k2.out; omega)).mono ?_; rintro e w' ⟨rfl, rfl⟩))
    go_ret
    exact ⟨by first | rfl | simp, Below.refl _ _⟩
  · have c1 : decide ((2147483647 : Int) < (s.size : Int)) = true := by simp; omega
    clear h
    go_enter Try.func7, Try.ntmps7
    go_wp2
    go_ret
    exact ⟨rfl, Below.refl _ _⟩

end Go.Proofs.YtippbmfgpkcmlaaR.FnTagRoadWalk
