/- A part of the proof: what functions of the program answer, for all arguments that meet the conditions named in each theorem. -/
import Derived.Test.YtafogjbbnfdjmaaProg
import Derived.KernelRfl
import Derived.Test.YtafogjbbnfdjmaaAMp
namespace Go.Proofs.LH
set_option linter.unusedVariables false
open Go.AM
set_option maxRecDepth 100000
noncomputable section
def okf (f : Nat) : Bool := Nat.ble 38 f && Nat.ble f 52 || Nat.ble 38 f && Nat.ble f 52
theorem noNum : NoNum Try.prog := noNum_of (by kernel_rfl)
theorem follows : Try.prog.follows .mixedOrders = true := by kernel_rfl
theorem fns : FnsOk Try.prog (fun _ => false) okf := fnsOk_of (by kernel_rfl)
/-- A line break's bytes. -/
def Brk (x y z : Int) : Prop := x = 13 ∨ x = 10 ∨ x = 194 ∧ y = 133 ∨ x = 226 ∧ y = 128 ∧ (z = 168 ∨ z = 169)
instance (x y z : Int) : Decidable (Brk x y z) := by unfold Brk; infer_instance
theorem alpha_r0 (e : TypeId) : chkB Try.prog okf 38 e [at8 0 44] false = true := by kernel_rfl
theorem alpha_r1 (e : TypeId) : chkB Try.prog okf 38 e [at8 45 45] true = true := by kernel_rfl
theorem alpha_r2 (e : TypeId) : chkB Try.prog okf 38 e [at8 46 47] false = true := by kernel_rfl
theorem alpha_r3 (e : TypeId) : chkB Try.prog okf 38 e [at8 48 48] true = true := by kernel_rfl
theorem alpha_r4 (e : TypeId) : chkB Try.prog okf 38 e [at8 49 56] true = true := by kernel_rfl
theorem alpha_r5 (e : TypeId) : chkB Try.prog okf 38 e [at8 57 57] true = true := by kernel_rfl
theorem alpha_r6 (e : TypeId) : chkB Try.prog okf 38 e [at8 58 64] false = true := by kernel_rfl
theorem alpha_r7 (e : TypeId) : chkB Try.prog okf 38 e [at8 65 65] true = true := by kernel_rfl
theorem alpha_r8 (e : TypeId) : chkB Try.prog okf 38 e [at8 66 89] true = true := by kernel_rfl
theorem alpha_r9 (e : TypeId) : chkB Try.prog okf 38 e [at8 90 90] true = true := by kernel_rfl
theorem alpha_r10 (e : TypeId) : chkB Try.prog okf 38 e [at8 91 94] false = true := by kernel_rfl
theorem alpha_r11 (e : TypeId) : chkB Try.prog okf 38 e [at8 95 95] true = true := by kernel_rfl
theorem alpha_r12 (e : TypeId) : chkB Try.prog okf 38 e [at8 96 96] false = true := by kernel_rfl
theorem alpha_r13 (e : TypeId) : chkB Try.prog okf 38 e [at8 97 97] true = true := by kernel_rfl
theorem alpha_r14 (e : TypeId) : chkB Try.prog okf 38 e [at8 98 121] true = true := by kernel_rfl
theorem alpha_r15 (e : TypeId) : chkB Try.prog okf 38 e [at8 122 122] true = true := by kernel_rfl
theorem alpha_r16 (e : TypeId) : chkB Try.prog okf 38 e [at8 123 255] false = true := by kernel_rfl
theorem alpha_any {w : World} {b off i n cap : Nat} {e : TypeId} {C : Array Value} {fr : Nat × Nat} {x : Int} (hw : w.heap[b]? = some (.cells C e fr)) (hn : i + 1 ≤ n) (hi : i ≤ 2 ^ 61)
    (hx : C[off + i]? = some (.int .u8 x)) (qx : 0 ≤ x ∧ x ≤ 255)
    : Calls Try.prog 38 #[.slice (some ⟨b, off, none⟩) n cap, .int .i64 i] w fun e w' => e = .returned (.bool (decide (48 ≤ x ∧ x ≤ 57 ∨ 65 ≤ x ∧ x ≤ 90 ∨ 97 ≤ x ∧ x ≤ 122 ∨ x = 95 ∨ x = 45))) ∧ RowKit.Below w.heap.size w w' := by
  rcases (show 0 ≤ x ∧ x ≤ 44 ∨ 45 ≤ x ∧ x ≤ 45 ∨ 46 ≤ x ∧ x ≤ 47 ∨ 48 ≤ x ∧ x ≤ 48 ∨ 49 ≤ x ∧ x ≤ 56 ∨ 57 ≤ x ∧ x ≤ 57 ∨ 58 ≤ x ∧ x ≤ 64 ∨ 65 ≤ x ∧ x ≤ 65 ∨ 66 ≤ x ∧ x ≤ 89 ∨ 90 ≤ x ∧ x ≤ 90 ∨ 91 ≤ x ∧ x ≤ 94 ∨ 95 ≤ x ∧ x ≤ 95 ∨ 96 ≤ x ∧ x ≤ 96 ∨ 97 ≤ x ∧ x ≤ 97 ∨ 98 ≤ x ∧ x ≤ 121 ∨ 122 ≤ x ∧ x ≤ 122 ∨ 123 ≤ x ∧ x ≤ 255 by omega) with ⟨h01, h02⟩ | ⟨h01, h02⟩ | ⟨h01, h02⟩ | ⟨h01, h02⟩ | ⟨h01, h02⟩ | ⟨h01, h02⟩ | ⟨h01, h02⟩ | ⟨h01, h02⟩ | ⟨h01, h02⟩ | ⟨h01, h02⟩ | ⟨h01, h02⟩ | ⟨h01, h02⟩ | ⟨h01, h02⟩ | ⟨h01, h02⟩ | ⟨h01, h02⟩ | ⟨h01, h02⟩ | ⟨h01, h02⟩
  ·
    refine (leaf_bool (cells := [at8 0 44]) noNum follows fns hw (by decide) (by simp only [List.length_cons, List.length_nil]; omega) hi (win1 hx h01 h02) (alpha_r0 e)).mono ?_
    rintro e w' ⟨rfl, hb⟩
    exact ⟨by rw [decide_eq_false (by omega)], hb⟩
  ·
    refine (leaf_bool (cells := [at8 45 45]) noNum follows fns hw (by decide) (by simp only [List.length_cons, List.length_nil]; omega) hi (win1 hx h01 h02) (alpha_r1 e)).mono ?_
    rintro e w' ⟨rfl, hb⟩
    exact ⟨by rw [decide_eq_true (by omega)], hb⟩
  ·
    refine (leaf_bool (cells := [at8 46 47]) noNum follows fns hw (by decide) (by simp only [List.length_cons, List.length_nil]; omega) hi (win1 hx h01 h02) (alpha_r2 e)).mono ?_
    rintro e w' ⟨rfl, hb⟩
    exact ⟨by rw [decide_eq_false (by omega)], hb⟩
  ·
    refine (leaf_bool (cells := [at8 48 48]) noNum follows fns hw (by decide) (by simp only [List.length_cons, List.length_nil]; omega) hi (win1 hx h01 h02) (alpha_r3 e)).mono ?_
    rintro e w' ⟨rfl, hb⟩
    exact ⟨by rw [decide_eq_true (by omega)], hb⟩
  ·
    refine (leaf_bool (cells := [at8 49 56]) noNum follows fns hw (by decide) (by simp only [List.length_cons, List.length_nil]; omega) hi (win1 hx h01 h02) (alpha_r4 e)).mono ?_
    rintro e w' ⟨rfl, hb⟩
    exact ⟨by rw [decide_eq_true (by omega)], hb⟩
  ·
    refine (leaf_bool (cells := [at8 57 57]) noNum follows fns hw (by decide) (by simp only [List.length_cons, List.length_nil]; omega) hi (win1 hx h01 h02) (alpha_r5 e)).mono ?_
    rintro e w' ⟨rfl, hb⟩
    exact ⟨by rw [decide_eq_true (by omega)], hb⟩
  ·
    refine (leaf_bool (cells := [at8 58 64]) noNum follows fns hw (by decide) (by simp only [List.length_cons, List.length_nil]; omega) hi (win1 hx h01 h02) (alpha_r6 e)).mono ?_
    rintro e w' ⟨rfl, hb⟩
    exact ⟨by rw [decide_eq_false (by omega)], hb⟩
  ·
    refine (leaf_bool (cells := [at8 65 65]) noNum follows fns hw (by decide) (by simp only [List.length_cons, List.length_nil]; omega) hi (win1 hx h01 h02) (alpha_r7 e)).mono ?_
    rintro e w' ⟨rfl, hb⟩
    exact ⟨by rw [decide_eq_true (by omega)], hb⟩
  ·
    refine (leaf_bool (cells := [at8 66 89]) noNum follows fns hw (by decide) (by simp only [List.length_cons, List.length_nil]; omega) hi (win1 hx h01 h02) (alpha_r8 e)).mono ?_
    rintro e w' ⟨rfl, hb⟩
    exact ⟨by rw [decide_eq_true (by omega)], hb⟩
  ·
    refine (leaf_bool (cells := [at8 90 90]) noNum follows fns hw (by decide) (by simp only [List.length_cons, List.length_nil]; omega) hi (win1 hx h01 h02) (alpha_r9 e)).mono ?_
    rintro e w' ⟨rfl, hb⟩
    exact ⟨by rw [decide_eq_true (by omega)], hb⟩
  ·
    refine (leaf_bool (cells := [at8 91 94]) noNum follows fns hw (by decide) (by simp only [List.length_cons, List.length_nil]; omega) hi (win1 hx h01 h02) (alpha_r10 e)).mono ?_
    rintro e w' ⟨rfl, hb⟩
    exact ⟨by rw [decide_eq_false (by omega)], hb⟩
  ·
    refine (leaf_bool (cells := [at8 95 95]) noNum follows fns hw (by decide) (by simp only [List.length_cons, List.length_nil]; omega) hi (win1 hx h01 h02) (alpha_r11 e)).mono ?_
    rintro e w' ⟨rfl, hb⟩
    exact ⟨by rw [decide_eq_true (by omega)], hb⟩
  ·
    refine (leaf_bool (cells := [at8 96 96]) noNum follows fns hw (by decide) (by simp only [List.length_cons, List.length_nil]; omega) hi (win1 hx h01 h02) (alpha_r12 e)).mono ?_
    rintro e w' ⟨rfl, hb⟩
    exact ⟨by rw [decide_eq_false (by omega)], hb⟩
  ·
    refine (leaf_bool (cells := [at8 97 97]) noNum follows fns hw (by decide) (by simp only [List.length_cons, List.length_nil]; omega) hi (win1 hx h01 h02) (alpha_r13 e)).mono ?_
    rintro e w' ⟨rfl, hb⟩
    exact ⟨by rw [decide_eq_true (by omega)], hb⟩
  ·
    refine (leaf_bool (cells := [at8 98 121]) noNum follows fns hw (by decide) (by simp only [List.length_cons, List.length_nil]; omega) hi (win1 hx h01 h02) (alpha_r14 e)).mono ?_
    rintro e w' ⟨rfl, hb⟩
    exact ⟨by rw [decide_eq_true (by omega)], hb⟩
  ·
    refine (leaf_bool (cells := [at8 122 122]) noNum follows fns hw (by decide) (by simp only [List.length_cons, List.length_nil]; omega) hi (win1 hx h01 h02) (alpha_r15 e)).mono ?_
    rintro e w' ⟨rfl, hb⟩
    exact ⟨by rw [decide_eq_true (by omega)], hb⟩
  ·
    refine (leaf_bool (cells := [at8 123 255]) noNum follows fns hw (by decide) (by simp only [List.length_cons, List.length_nil]; omega) hi (win1 hx h01 h02) (alpha_r16 e)).mono ?_
    rintro e w' ⟨rfl, hb⟩
    exact ⟨by rw [decide_eq_false (by omega)], hb⟩
end
end Go.Proofs.LH
