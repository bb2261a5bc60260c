/- A part of the proof: what functions of the program answer, for all arguments that meet the conditions named in each theorem. -/
import Derived.Test.YtafogjbbnfdjmaaA7
import Derived.Test.YtafogjbbnfdjmaaA8
namespace Go.Proofs.A1
open Go.RowKit Go.AM Go.Proofs.C1
set_option linter.unusedVariables false
theorem tabT (b : Nat) (hb : b < 128) : chkG Try.prog prim10 52 c11 [(5, .bool true), (7, .int .u8 (b : Nat))] [(5, 5), (26, 36)] [(5, .bool (alnumB b))] = true := by
  have key : ∀ (lo n : Nat), chkT lo n = true → lo ≤ b → b < lo + n → chkG Try.prog prim10 52 c11 [(5, .bool true), (7, .int .u8 (b : Nat))] [(5, 5), (26, 36)] [(5, .bool (alnumB b))] = true := by
    intro lo n hc h1 h2
    unfold chkT at hc
    rw [List.all_eq_true] at hc
    have := hc (b - lo) (List.mem_range.2 (by omega))
    rw [show lo + (b - lo) = b from by omega] at this
    exact this
  have : b < 16 ∨ (16 ≤ b ∧ b < 32) ∨ (32 ≤ b ∧ b < 48) ∨ (48 ≤ b ∧ b < 64) ∨ (64 ≤ b ∧ b < 80) ∨ (80 ≤ b ∧ b < 96) ∨ (96 ≤ b ∧ b < 112) ∨ (112 ≤ b ∧ b < 128) := by omega
  rcases this with h | h | h | h | h | h | h | h
  · exact key 0 16 t0 (by omega) (by omega)
  · exact key 16 16 t16 (by omega) (by omega)
  · exact key 32 16 t32 (by omega) (by omega)
  · exact key 48 16 t48 (by omega) (by omega)
  · exact key 64 16 t64 (by omega) (by omega)
  · exact key 80 16 t80 (by omega) (by omega)
  · exact key 96 16 t96 (by omega) (by omega)
  · exact key 112 16 t112 (by omega) (by omega)
theorem alnumB_iff (b : Nat) : alnumB b = true ↔ Alnum b := by
  unfold alnumB Alnum
  simp only [Bool.or_eq_true, Bool.and_eq_true, Nat.ble_eq, Nat.beq_eq]
  omega
def GoodT (ts : List Int) : Prop := 0 < ts.length ∧ ∀ i : Nat, i < ts.length → Alnum (byt ts i)
theorem analyzed (ts : List Int) (cap : Nat) (al : Bool) (hn : ts.length ≤ 1024) : ∃ k : Int, (k = 0 ↔ GoodT ts) ∧ ∀ (w : World) (a : Option Addr), Txt w a ts →
    Calls Try.prog 11 #[.slice a ts.length cap, .bool al] w fun e w' => e = .returned (FaultOf k) ∧ Below w.heap.size w w' := by
  by_cases h0 : ts.length = 0
  · refine ⟨5, ⟨fun h => (by cases h), fun h => (by unfold GoodT at h; omega)⟩, fun w a ht => ?_⟩
    rw [h0]
    refine analyze_of w a 0 cap al 7 5 (fun w1 g q hg hb hE hc => ?_) kind7
    refine (anch_empty w1 g q a cap al hE).mono ?_
    rintro e w' ⟨b, rfl, h1, h2⟩
    exact ⟨b, rfl, h2, h1⟩
  · by_cases hall : ∀ i : Nat, i < ts.length → Alnum (byt ts i)
    · refine ⟨0, ⟨fun _ => ⟨by omega, hall⟩, fun _ => rfl⟩, fun w a ht => ?_⟩
      obtain ⟨y, rfl, hy⟩ := ht.2 0 (by omega)
      have hyl : y.block < w.heap.size := by simpa [Addr.add] using cell_lt hy
      refine analyze_of w (some y) ts.length cap al 0 0 (fun w1 g q hg hb hE hc => ?_) kind0
      refine (anch_any w1 g q y ts cap al hE hc (ht.below hb) (by omega) (by omega) hn).mono ?_
      rintro e w' ⟨b, rfl, h1, ⟨h2, _⟩ | ⟨_, i, hi, hno⟩⟩
      · exact ⟨b, rfl, h1, h2⟩
      · exact absurd (hall i hi) hno
    · refine ⟨5, ⟨fun h => (by cases h), fun h => absurd h.2 hall⟩, fun w a ht => ?_⟩
      obtain ⟨y, rfl, hy⟩ := ht.2 0 (by omega)
      have hyl : y.block < w.heap.size := by simpa [Addr.add] using cell_lt hy
      refine analyze_of w (some y) ts.length cap al 7 5 (fun w1 g q hg hb hE hc => ?_) kind7
      refine (anch_any w1 g q y ts cap al hE hc (ht.below hb) (by omega) (by omega) hn).mono ?_
      rintro e w' ⟨b, rfl, h1, ⟨_, h2⟩ | ⟨h2, _⟩⟩
      · exact absurd h2 hall
      · exact ⟨b, rfl, h1, h2⟩
theorem nil_any (w : World) (al : Bool) : Calls Try.prog 11 #[.slice none 0 0, .bool al] w fun e w' => e = .returned (FaultOf 5) ∧ Below w.heap.size w w' := by
  refine analyze_of w none 0 0 al 7 5 (fun w1 g q hg hb hE hc => ?_) kind7
  refine (anch_empty w1 g q none 0 al hE).mono ?_
  rintro e w' ⟨b, rfl, h1, h2⟩
  exact ⟨b, rfl, h2, h1⟩
end Go.Proofs.A1
