/- A part of the proof: what functions of the program answer, for all arguments that meet the conditions named in each theorem. -/
import Derived.Test.YtafogjbbnfdjmaaA3
namespace Go.Proofs.A1
open Go.RowKit Go.AM Go.Proofs.C1
set_option linter.unusedVariables false
theorem heap2 (w : World) (o1 o2 : Obj) : ((w.alloc o1).alloc o2).heap[w.heap.size + 1]? = some o2 := by
  have := heap_alloc_new (w.alloc o1) o2
  simpa using this
theorem heap1 (w : World) (o1 o2 : Obj) : ((w.alloc o1).alloc o2).heap[w.heap.size]? = some o1 := by
  rw [Below.heap_alloc _ _ _ (by simp)]
  exact heap_alloc_new w o1
theorem size2 (w : World) (o1 o2 : Obj) : ((w.alloc o1).alloc o2).heap.size = w.heap.size + 2 := by simp
def FaultOf (k : Int) : Value := .agg #[.int .i64 k, .int .i64 0, .int .i64 0, .int .i64 0, .int .i64 0, .int .i64 0, .int .i64 0, .int .i64 0, .int .i64 0]
/-- What the call on the emitter leaves. -/
def Left (g q : Nat) (r : Int) (w w' : World) : Prop := Below g w w' ∧ w'.cell? ⟨g, q, none⟩ = some (.int .i64 r)
theorem zz_of {w : World} {g q : Nat} {a : Option Addr} {n cap : Nat} {al : Bool} {r : Int} (h : Calls Try.prog 62 #[.pointer (some ⟨g, q, none⟩), .slice a n cap, .bool al] w fun e w' => ∃ b, e = .returned (.bool b) ∧ Left g q r w w') :
    Calls Try.prog 32 #[.pointer (some ⟨g, q, none⟩), .slice a n cap, .bool al] w fun e w' => ∃ b, e = .returned (.bool b) ∧ Left g q r w w' := by
  have H := Lib.hid h
  clear h
  go_enter Try.func32, Try.ntmps32
  go_wp2_with (go_at_call 62; refine H.out.mono ?_; rintro e w' ⟨b, rfl, hl⟩; have HL := Lib.hid hl; clear hl)
  go_ret
  exact ⟨_, rfl, HL.out⟩
set_option maxHeartbeats 1000000 in
theorem analyze_of (w : World) (a : Option Addr) (n cap : Nat) (al : Bool) (r k : Int)
    (h : Hid (∀ w1 g q, w.heap.size ≤ g → Below w.heap.size w w1 → EB w1 g q → w1.cell? ⟨g, q, none⟩ = some (.int .i64 0) → Calls Try.prog 62 #[.pointer (some ⟨g, q, none⟩), .slice a n cap, .bool al] w1 fun e w' => ∃ b, e = .returned (.bool b) ∧ Left g q r w1 w'))
    (hk : Hid (∀ w, Calls Try.prog 33 #[.int .i64 r] w fun e w' => e = .returned (.int .i64 k) ∧ w = w')) :
    Calls Try.prog 11 #[.slice a n cap, .bool al] w fun e w' => e = .returned (FaultOf k) ∧ Below w.heap.size w w' := by
  go_enter Try.func11, Try.ntmps11
  go_wp2_with (first
    | (go_at_call 31; refine (emitter_any _ (w.heap.size + 1) _ (heap2 _ _ _)).mono ?_; rintro e w1 ⟨g, q, rfl, hg, hE, h0, hb1⟩; rw [size2] at hg; rw [size2] at hb1; have hr := (hb1.block w.heap.size (by omega)).trans (heap1 _ _ _); have hb2 := (((Below.refl w.heap.size w).alloc (Nat.le_refl _) _).alloc (by simp) _).trans (hb1.mono (by omega)); have HR := Lib.hid hr; have HG := Lib.hid hg; have HE := Lib.hid hE; have H0 := Lib.hid h0; have HB := Lib.hid hb2; clear hg hE h0 hb1 hb2 hr)
    | (go_at_call 32; refine (zz_of (h.out _ _ _ (by have := HG.out; omega) HB.out HE.out H0.out)).mono ?_; rintro e w2 ⟨b, rfl, hl, hl0⟩; have hr2 := (hl.block w.heap.size (by have := HG.out; omega)).trans HR.out; have hbl := HB.out.trans (hl.mono (by have := HG.out; omega)); have HBL := Lib.hid hbl; have hcj : ∀ j, j < 9 → w2.cell? ⟨w.heap.size, j, none⟩ = some (.int .i64 0) ∧ w2.frozen? ⟨w.heap.size, j, none⟩ = false := (by intro j hj; refine ⟨?_, ?_⟩; (rw [cell_of_row _ _ _ _ _ _ hr2]; match j, hj with | 0, _ => rfl | 1, _ => rfl | 2, _ => rfl | 3, _ => rfl | 4, _ => rfl | 5, _ => rfl | 6, _ => rfl | 7, _ => rfl | 8, _ => rfl); (simp [World.frozen?, hr2])); have HL0 := Lib.hid hl0; have HCJ := Lib.hid hcj; clear hl hl0 hr2 hbl hcj)
    | (go_at_call 34; refine (fault_any _ _ _ _ HL0.out).mono ?_; rintro e w3 ⟨rfl, rfl⟩)
    | (go_at_call 33; refine (hk.out _).mono ?_; rintro e w4 ⟨rfl, rfl⟩; obtain ⟨c0, f0⟩ := HCJ.out 0 (by omega); obtain ⟨c1, f1⟩ := HCJ.out 1 (by omega); obtain ⟨c2, f2⟩ := HCJ.out 2 (by omega); obtain ⟨c3, f3⟩ := HCJ.out 3 (by omega); obtain ⟨c4, f4⟩ := HCJ.out 4 (by omega); obtain ⟨c5, f5⟩ := HCJ.out 5 (by omega); obtain ⟨c6, f6⟩ := HCJ.out 6 (by omega); obtain ⟨c7, f7⟩ := HCJ.out 7 (by omega); obtain ⟨c8, f8⟩ := HCJ.out 8 (by omega)))
  refine bodyPost_ret (v := FaultOf k) ?_ rfl ⟨rfl, ?_⟩
  · simp only [results, Try.results11]
    go_simp
    rfl
  · exact (((((((((HBL.out.setCell (Nat.le_refl _) _).setCell (Nat.le_refl _) _).setCell (Nat.le_refl _) _).setCell (Nat.le_refl _) _).setCell (Nat.le_refl _) _).setCell (Nat.le_refl _) _).setCell (Nat.le_refl _) _).setCell (Nat.le_refl _) _).setCell (Nat.le_refl _) _)
end Go.Proofs.A1
