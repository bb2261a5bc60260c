/- A part of the proof: what functions of the program answer, for all arguments that meet the conditions named in each theorem. -/
import Derived.Test.YtafogjbbnfdjmaaC6
namespace Go.Proofs.C1
open Go.RowKit
set_option linter.unusedVariables false
theorem byt_rng {w : World} {a : Option Addr} {ts : List Int} (ht : Txt w a ts) (i : Int) : 0 ≤ byt ts i ∧ byt ts i ≤ 255 := by
  unfold byt
  split
  · rename_i h
    rw [List.getD_eq_getElem?_getD]
    rcases Nat.lt_or_ge i.toNat ts.length with hk | hk
    · rw [List.getElem?_eq_getElem hk]; exact ht.1 _ (List.getElem_mem hk)
    · rw [List.getElem?_eq_none hk]; exact ⟨by decide, by decide⟩
  · exact ⟨by decide, by decide⟩
theorem Txt.below {w w' : World} {a : Option Addr} {ts : List Int} (ht : Txt w a ts) (hb : Below w.heap.size w w') : Txt w' a ts := by
  refine ⟨ht.1, fun i hi => ?_⟩
  obtain ⟨x, hx, hc⟩ := ht.2 i hi
  exact ⟨x, hx, by rw [hb.cell (cell_lt hc)]; exact hc⟩
theorem both (w : World) (a : Option Addr) (ts : List Int) (cap : Nat) (c i : Int) (hc : ts.length ≤ 2147483648) (ht : Txt w a ts) (h4 : c ≠ 4) (h6 : c ≠ 6) :
    ∃ r : Bool, (∀ w1, Txt w1 a ts → Calls Try.prog 8 #[.int .i64 c, .slice a ts.length cap, .int .i64 i] w1 fun e w' => e = .returned (.bool r) ∧ Below w1.heap.size w1 w') ∧
      (∀ w1, Txt w1 a ts → Calls Try.prog 9 #[.int .i64 c, .slice a ts.length cap, .int .i64 i] w1 fun e w' => e = .returned (.bool r) ∧ Below w1.heap.size w1 w') := by
  by_cases hi : i < 0 ∨ ts.length ≤ i
  · exact ⟨false, fun w1 _ => iclass_out w1 a ts cap c i hc hi, fun w1 _ => sclass_out w1 a ts cap c i hc hi⟩
  obtain ⟨k, rfl⟩ : ∃ k : Nat, i = k := ⟨i.toNat, by omega⟩
  have hk : k < ts.length := by omega
  have q0 := byt_rng ht k
  have q1 := byt_rng ht (k + 1)
  have q2 := byt_rng ht (k + 2)
  by_cases hn : NoClass c
  · exact ⟨false, fun w1 h1 => iclass_no w1 a ts cap c k hn hc h1 hk, fun w1 h1 => sclass_no w1 a ts cap c k _ hn hc h1 hk rfl⟩
  have : c = 0 ∨ c = 1 ∨ c = 2 ∨ c = 3 ∨ c = 5 ∨ c = 7 ∨ c = 8 ∨ c = 9 ∨ c = 10 ∨ c = 11 ∨ c = 12 ∨ c = 13 ∨ c = 14 := by unfold NoClass at hn; omega
  rcases this with rfl | rfl | rfl | rfl | rfl | rfl | rfl | rfl | rfl | rfl | rfl | rfl | rfl
  · exact ⟨_, fun w1 h1 => iclass0 w1 a ts cap k _ _ rfl hc h1 hk rfl q0, fun w1 h1 => sclass0 w1 a ts cap k _ _ rfl hc h1 hk rfl q0⟩
  · exact ⟨_, fun w1 h1 => iclass1 w1 a ts cap k _ _ rfl hc h1 hk rfl q0, fun w1 h1 => sclass1 w1 a ts cap k _ _ rfl hc h1 hk rfl q0⟩
  · exact ⟨_, fun w1 h1 => iclass2 w1 a ts cap k _ _ rfl hc h1 hk rfl q0, fun w1 h1 => sclass2 w1 a ts cap k _ _ rfl hc h1 hk rfl q0⟩
  · exact ⟨_, fun w1 h1 => iclass3 w1 a ts cap k _ _ rfl hc h1 hk rfl q0, fun w1 h1 => sclass3 w1 a ts cap k _ _ rfl hc h1 hk rfl q0⟩
  · exact ⟨_, fun w1 h1 => iclass5 w1 a ts cap k _ _ rfl hc h1 hk rfl q0, fun w1 h1 => sclass5 w1 a ts cap k _ _ rfl hc h1 hk rfl q0⟩
  · exact ⟨_, fun w1 h1 => iclass7 w1 a ts cap k _ _ rfl hc h1 hk rfl q0, fun w1 h1 => sclass7 w1 a ts cap k _ _ rfl hc h1 hk rfl q0⟩
  · exact ⟨_, fun w1 h1 => iclass8 w1 a ts cap k _ _ rfl hc h1 hk rfl q0, fun w1 h1 => sclass8 w1 a ts cap k _ _ rfl hc h1 hk rfl q0⟩
  · exact ⟨_, fun w1 h1 => iclass9 w1 a ts cap k _ _ rfl hc h1 hk rfl q0, fun w1 h1 => sclass9 w1 a ts cap k _ _ rfl hc h1 hk rfl q0⟩
  · exact ⟨_, fun w1 h1 => iclass10 w1 a ts cap k _ _ _ _ rfl hc h1 hk rfl q0 rfl q1 rfl q2, fun w1 h1 => sclass10 w1 a ts cap k _ _ _ _ rfl hc h1 hk rfl q0 rfl q1 rfl q2⟩
  · exact ⟨_, fun w1 h1 => iclass11 w1 a ts cap k _ _ _ rfl hc h1 hk rfl q0 rfl q1, fun w1 h1 => sclass11 w1 a ts cap k _ _ _ rfl hc h1 hk rfl q0 rfl q1⟩
  · exact ⟨_, fun w1 h1 => iclass12 w1 a ts cap k _ _ _ _ rfl hc h1 hk rfl q0 rfl q1 rfl q2, fun w1 h1 => sclass12 w1 a ts cap k _ _ _ _ rfl hc h1 hk rfl q0 rfl q1 rfl q2⟩
  · exact ⟨_, fun w1 h1 => iclass13 w1 a ts cap k _ _ _ _ rfl hc h1 hk rfl q0 rfl q1 rfl q2, fun w1 h1 => sclass13 w1 a ts cap k _ _ _ _ rfl hc h1 hk rfl q0 rfl q1 rfl q2⟩
  · exact ⟨_, fun w1 h1 => iclass14 w1 a ts cap k _ _ _ _ rfl hc h1 hk rfl q0 rfl q1 rfl q2, fun w1 h1 => sclass14 w1 a ts cap k _ _ _ _ rfl hc h1 hk rfl q0 rfl q1 rfl q2⟩

/-- The law. -/
theorem law_walk (a : Option Addr) (n cap : Nat) (ts : List Int) (c i : Int) (w : World) (hn : n = ts.length) (ht : Txt w a ts) :
    Calls Try.prog 4 #[.int .i64 c, .slice a n cap, .int .i64 i] w fun e w' => e = .returned (.bool true) ∧ Below w.heap.size w w' := by
  subst hn
  by_cases hs : 2147483647 < ts.length
  · go_enter Try.func4, Try.ntmps4
    go_wp2
    go_ret
    exact ⟨rfl, Below.refl _ _⟩
  by_cases h46 : c = 4 ∨ c = 6
  · rcases h46 with rfl | rfl
    · go_enter Try.func4, Try.ntmps4
      go_wp2
      all_goals
        go_ret
        exact ⟨rfl, Below.refl _ _⟩
    · go_enter Try.func4, Try.ntmps4
      go_wp2
      all_goals
        go_ret
        exact ⟨rfl, Below.refl _ _⟩
  obtain ⟨r, h1, h2⟩ := both w a ts cap c i (by omega) ht (by omega) (by omega)
  have h4 : (c == 4) = false := by simp; omega
  have h6 : (c == 6) = false := by simp; omega
  have H1 := Lib.hid h1
  have H2 := Lib.hid h2
  have HT := Lib.hid ht
  clear h1 h2 ht
  go_enter Try.func4, Try.ntmps4
  go_wp2_with (first
    | (go_at_call 8; refine (H1.out _ HT.out).mono ?_; rintro e w1 ⟨rfl, hb1⟩; have HB1 := Lib.hid hb1; clear hb1)
    | (go_at_call 9; refine (H2.out _ (HT.out.below HB1.out)).mono ?_; rintro e w2 ⟨rfl, hb2⟩; have HB2 := Lib.hid (HB1.out.trans (hb2.mono HB1.out.size)); clear hb2))
  all_goals
    go_ret
    exact ⟨rfl, HB2.out⟩
theorem law_row (c : Int) (a : Option Addr) (n cap : Nat) (ts : List Int) (i : Int) (w : World) (_ : (Lit.int .i64 c).wf = true) (hn : n = ts.length) (ht : (∀ m ∈ ts, 0 ≤ m ∧ m ≤ 255) ∧ ∀ i, i < ts.length → ∃ x, a = some x ∧ w.cell? (x.add i) = some (.int .u8 (ts.getD i 0))) (_ : (Lit.int .i64 i).wf = true) :
    Calls Try.prog 4 #[.int .i64 c, .slice a n cap, .int .i64 i] w fun e w' => e = .returned (.bool true) ∧ Below w.heap.size w w' := law_walk a n cap ts c i w hn ht
end Go.Proofs.C1
