/- The short form of a tag, as the program and the reference tell it: the walk. For every tag. -/
import Derived.Test.YtippbmfgpkcmlaaRProg
import Derived.WalkKit
import Derived.KernelRfl
import Derived.Below
import Derived.Lib.Hide
import Derived.Lib.Strings
namespace Go.Proofs.YtippbmfgpkcmlaaR.FnTagShortWalk
open Go.RowKit

theorem toL (s : ByteArray) : s.toList = s.data.toList := ByteArray.toList_eq s

/-- A text's beginning, as 'HasPrefix' asks for it. -/
def Pre (s p : ByteArray) : Prop := p.size ≤ s.size ∧ (s.extract 0 p.size).toList = p.toList
theorem liteHas_yes (s p : ByteArray) (w : World) (h : Pre s p) : Calls Try.prog 104 #[.string s, .string p] w fun e w' => e = .returned (.bool true) ∧ w = w' := by
  obtain ⟨h1, h2⟩ := h
  have c1 : decide ((p.size : Int) ≤ (s.size : Int)) = true := by simp; omega
  have c2 : decide (p.size ≤ s.size) = true := by simpa using h1
  have c3 : ((s.extract 0 p.size).toList == p.toList) = true := by simp [h2]
  clear h2
  go_enter Try.func104, Try.ntmps104
  go_wp2
  go_ret
  exact ⟨by simp [*], rfl⟩
theorem liteHas_no (s p : ByteArray) (w : World) (h : ¬ Pre s p) : Calls Try.prog 104 #[.string s, .string p] w fun e w' => e = .returned (.bool false) ∧ w = w' := by
  by_cases h1 : p.size ≤ s.size
  · have h2 : ¬ (s.extract 0 p.size).toList = p.toList := fun x => h ⟨h1, x⟩
    have c1 : decide ((p.size : Int) ≤ (s.size : Int)) = true := by simp; omega
    have c2 : decide (p.size ≤ s.size) = true := by simpa using h1
    have c3 : ((s.extract 0 p.size).toList == p.toList) = false := by simp [h2]
    clear h2 h
    go_enter Try.func104, Try.ntmps104
    go_wp2
    go_ret
    exact ⟨by simp [*], rfl⟩
  · have c1 : decide ((p.size : Int) ≤ (s.size : Int)) = false := by simp; omega
    have c2 : decide (p.size ≤ s.size) = false := by simpa using h1
    clear h
    go_enter Try.func104, Try.ntmps104
    go_wp2
    go_ret
    exact ⟨by simp [*], rfl⟩
theorem has_yes (s p : ByteArray) (w : World) (h : Pre s p) : Calls Try.prog 92 #[.string s, .string p] w fun e w' => e = .returned (.bool true) ∧ w = w' := by
  have H := Lib.hid h
  clear h
  go_enter Try.func92, Try.ntmps92
  go_wp2_with (go_at_call 104; refine (liteHas_yes _ _ _ H.out).mono ?_; rintro e w' ⟨rfl, rfl⟩)
  go_ret
  exact ⟨rfl, rfl⟩
theorem has_no (s p : ByteArray) (w : World) (h : ¬ Pre s p) : Calls Try.prog 92 #[.string s, .string p] w fun e w' => e = .returned (.bool false) ∧ w = w' := by
  have H := Lib.hid h
  clear h
  go_enter Try.func92, Try.ntmps92
  go_wp2_with (go_at_call 104; refine (liteHas_no _ _ _ H.out).mono ?_; rintro e w' ⟨rfl, rfl⟩)
  go_ret
  exact ⟨rfl, rfl⟩
theorem known_any (s : ByteArray) (w : World) : Calls Try.prog 93 #[.string s] w fun e w' => ∃ b, e = .returned (.bool b) ∧ w = w' := by
  go_enter Try.func93, Try.ntmps93
  go_wp2
  all_goals
    go_ret
    exact ⟨_, rfl, rfl⟩

/-- The standard's beginning of a tag, and the two marks of its short form. -/
def longPre : ByteArray := ⟨#[116, 97, 103, 58, 121, 97, 109, 108, 46, 111, 114, 103, 44, 50, 48, 48, 50, 58]⟩
def twoPre : ByteArray := ⟨#[33, 33]⟩

theorem shortTag_yes (s : ByteArray) (w : World) (h : Pre s longPre) (hs : s.size ≤ 4294967296) :
    Calls Try.prog 60 #[.string s] w fun e w' => e = .returned (.string (twoPre ++ s.extract 18 s.size)) ∧ w = w' := by
  have h18 : 18 ≤ s.size := h.1
  have H := Lib.hid h
  clear h
  go_enter Try.func60, Try.ntmps60
  go_wp2_with (go_at_call 92; refine (has_yes _ _ _ H.out).mono ?_; rintro e w' ⟨rfl, rfl⟩)
  refine (known_any _ _).mono ?_
  rintro e w' ⟨b, rfl, rfl⟩
  cases b
  all_goals
    go_wp2
    go_ret
    exact ⟨rfl, rfl⟩
theorem shortTag_no (s : ByteArray) (w : World) (h : ¬ Pre s longPre) :
    Calls Try.prog 60 #[.string s] w fun e w' => e = .returned (.string s) ∧ w = w' := by
  have H := Lib.hid h
  clear h
  go_enter Try.func60, Try.ntmps60
  go_wp2_with (go_at_call 92; refine (has_no _ _ _ H.out).mono ?_; rintro e w' ⟨rfl, rfl⟩)
  go_ret
  exact ⟨rfl, rfl⟩

/-- The short and the long form, outright. -/
def shortOf (s : ByteArray) : ByteArray := if s.data.toList.take 18 = longPre.data.toList then twoPre ++ s.extract 18 s.size else s
def longOf (s : ByteArray) : ByteArray := if s.data.toList.take 2 = twoPre.data.toList then longPre ++ s.extract 2 s.size else s

theorem ex_toL (s : ByteArray) (a b : Nat) : (s.extract a b).toList = (s.data.toList.drop a).take (b - a) := by
  rw [toL]; exact Lib.extract_data s a b
theorem pre_iff (s p : ByteArray) : Pre s p ↔ s.data.toList.take p.size = p.data.toList := by
  unfold Pre
  rw [ex_toL, toL]
  simp only [List.drop_zero, Nat.sub_zero]
  constructor
  · exact fun h => h.2
  · intro h
    refine ⟨?_, h⟩
    have := congrArg List.length h
    rw [List.length_take, Array.length_toList, Array.length_toList] at this
    have e1 : p.data.size = p.size := rfl
    have e2 : s.data.size = s.size := rfl
    omega
theorem shortOf_yes (s : ByteArray) (h : Pre s longPre) : shortOf s = twoPre ++ s.extract 18 s.size := if_pos ((pre_iff s longPre).1 h)
theorem shortOf_no (s : ByteArray) (h : ¬ Pre s longPre) : shortOf s = s := if_neg (fun x => h ((pre_iff s longPre).2 x))
theorem longOf_yes (s : ByteArray) (h : Pre s twoPre) : longOf s = longPre ++ s.extract 2 s.size := if_pos ((pre_iff s twoPre).1 h)
theorem longOf_no (s : ByteArray) (h : ¬ Pre s twoPre) : longOf s = s := if_neg (fun x => h ((pre_iff s twoPre).2 x))

theorem shortTag_any (s : ByteArray) (w : World) (hs : s.size ≤ 4294967296) :
    Calls Try.prog 60 #[.string s] w fun e w' => e = .returned (.string (shortOf s)) ∧ w = w' := by
  by_cases h : Pre s longPre
  · rw [shortOf_yes s h]; exact shortTag_yes s w h hs
  · rw [shortOf_no s h]; exact shortTag_no s w h
theorem zzShort_any (s : ByteArray) (w : World) (hs : s.size ≤ 4294967296) :
    Calls Try.prog 30 #[.string s] w fun e w' => e = .returned (.string (shortOf s)) ∧ w = w' := by
  have H := Lib.hid hs
  clear hs
  go_enter Try.func30, Try.ntmps30
  go_wp2_with (go_at_call 60; refine (shortTag_any _ _ H.out).mono ?_; rintro e w' ⟨rfl, rfl⟩)
  go_ret
  exact ⟨rfl, rfl⟩
theorem implShort_any (s : ByteArray) (w : World) (hs : s.size ≤ 4294967296) :
    Calls Try.prog 15 #[.string s] w fun e w' => e = .returned (.string (shortOf s)) ∧ w = w' := by
  have H := Lib.hid hs
  clear hs
  go_enter Try.func15, Try.ntmps15
  go_wp2_with (go_at_call 30; refine (zzShort_any _ _ H.out).mono ?_; rintro e w' ⟨rfl, rfl⟩)
  go_ret
  exact ⟨rfl, rfl⟩

theorem specShort_any (s : ByteArray) (w : World) (hs : s.size ≤ 4294967296) :
    Calls Try.prog 16 #[.string s] w fun e w' => e = .returned (.string (shortOf s)) ∧ w = w' := by
  by_cases h : Pre s longPre
  · rw [shortOf_yes s h]
    have c1 : decide ((18 : Int) ≤ (s.size : Int)) = true := by have : 18 ≤ s.size := h.1; simp; omega
    have c2 : decide (18 ≤ s.size) = true := by have : 18 ≤ s.size := h.1; simpa using this
    have c3 : ((s.extract 0 18).toList == [116, 97, 103, 58, 121, 97, 109, 108, 46, 111, 114, 103, 44, 50, 48, 48, 50, 58]) = true := by
      rw [show s.extract 0 18 = s.extract 0 longPre.size from rfl, h.2, toL]; rfl
    have h18 : 18 ≤ s.size := h.1
    clear h
    go_enter Try.func16, Try.ntmps16
    go_wp2
    go_ret
    exact ⟨rfl, rfl⟩
  · rw [shortOf_no s h]
    by_cases h1 : 18 ≤ s.size
    · have h2 : ¬ (s.extract 0 18).toList = [116, 97, 103, 58, 121, 97, 109, 108, 46, 111, 114, 103, 44, 50, 48, 48, 50, 58] := fun x => h ⟨h1, by rw [show s.extract 0 longPre.size = s.extract 0 18 from rfl, x, toL]; rfl⟩
      have c1 : decide ((18 : Int) ≤ (s.size : Int)) = true := by simp; omega
      have c2 : decide (18 ≤ s.size) = true := by simpa using h1
      have c3 : ((s.extract 0 18).toList == [116, 97, 103, 58, 121, 97, 109, 108, 46, 111, 114, 103, 44, 50, 48, 48, 50, 58]) = false := by simp [h2]
      clear h2 h
      go_enter Try.func16, Try.ntmps16
      go_wp2
      go_ret
      exact ⟨rfl, rfl⟩
    · have c1 : decide ((18 : Int) ≤ (s.size : Int)) = false := by simp; omega
      clear h
      go_enter Try.func16, Try.ntmps16
      go_wp2
      go_ret
      exact ⟨rfl, rfl⟩

theorem shortOf_size (s : ByteArray) : (shortOf s).size ≤ s.size + 2 := by
  unfold shortOf
  split
  · rw [ByteArray.size_append]
    have : (s.extract 18 s.size).size ≤ s.size := by simp
    have e : twoPre.size = 2 := rfl
    omega
  · omega
theorem longOf_size (s : ByteArray) : (longOf s).size ≤ s.size + 18 := by
  unfold longOf
  split
  · rw [ByteArray.size_append]
    have : (s.extract 2 s.size).size ≤ s.size := by simp
    have e : longPre.size = 18 := rfl
    omega
  · omega

/-- The law's walk. -/
theorem law_walk (s : ByteArray) (w : World) (_w0 : s.size ≤ 140737488351232) :
    Calls Try.prog 5 #[.string s] w fun e w' => e = .returned (.bool true) ∧ Below w.heap.size w w' := by
  by_cases h : s.size ≤ 2147483647
  · have c1 : decide ((2147483647 : Int) < (s.size : Int)) = false := by simp; omega
    have H := Lib.hid h
    have c2 : ((shortOf s).toList == (shortOf s).toList) = true := by simp
    clear h
    go_enter Try.func5, Try.ntmps5
    go_wp2_with (first | (go_at_call 15; refine (implShort_any _ _ (by have := H.out; omega)).mono ?_; rintro e w' ⟨rfl, rfl⟩) | (go_at_call 16; refine (specShort_any _ _ (by have := H.out; omega)).mono ?_; rintro e w' ⟨rfl, rfl⟩))
    go_ret
    exact ⟨by first | rfl | simp, Below.refl _ _⟩
  · have c1 : decide ((2147483647 : Int) < (s.size : Int)) = true := by simp; omega
    clear h
    go_enter Try.func5, Try.ntmps5
    go_wp2
    go_ret
    exact ⟨rfl, Below.refl _ _⟩

end Go.Proofs.YtippbmfgpkcmlaaR.FnTagShortWalk
