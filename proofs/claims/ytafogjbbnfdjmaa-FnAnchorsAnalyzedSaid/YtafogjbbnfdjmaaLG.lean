/- What the classes of characters answer at every byte, for every text long enough behind the index. -/
import Derived.Test.YtafogjbbnfdjmaaProg
import Derived.KernelRfl
import Derived.Test.YtafogjbbnfdjmaaAMp
namespace Go.Proofs.LF
set_option linter.unusedVariables false
open Go.AM
set_option maxRecDepth 100000
noncomputable section
def okf (f : Nat) : Bool := Nat.ble 14 f && Nat.ble f 28 || Nat.ble 38 f && Nat.ble f 52
theorem noNum : NoNum Try.prog := noNum_of (by kernel_rfl)
theorem follows : Try.prog.follows .mixedOrders = true := by kernel_rfl
theorem fns : FnsOk Try.prog (fun _ => false) okf := fnsOk_of (by kernel_rfl)
/-- A line break's bytes. -/
def Brk (x y z : Int) : Prop := x = 13 ∨ x = 10 ∨ x = 194 ∧ y = 133 ∨ x = 226 ∧ y = 128 ∧ (z = 168 ∨ z = 169)
instance (x y z : Int) : Decidable (Brk x y z) := by unfold Brk; infer_instance
theorem alpha_r0 (e : TypeId) : chkB Try.prog okf 14 e [at8 0 44] false = true := by kernel_rfl
theorem alpha_r1 (e : TypeId) : chkB Try.prog okf 14 e [at8 45 45] true = true := by kernel_rfl
theorem alpha_r2 (e : TypeId) : chkB Try.prog okf 14 e [at8 46 47] false = true := by kernel_rfl
theorem alpha_r3 (e : TypeId) : chkB Try.prog okf 14 e [at8 48 48] true = true := by kernel_rfl
theorem alpha_r4 (e : TypeId) : chkB Try.prog okf 14 e [at8 49 56] true = true := by kernel_rfl
theorem alpha_r5 (e : TypeId) : chkB Try.prog okf 14 e [at8 57 57] true = true := by kernel_rfl
theorem alpha_r6 (e : TypeId) : chkB Try.prog okf 14 e [at8 58 64] false = true := by kernel_rfl
theorem alpha_r7 (e : TypeId) : chkB Try.prog okf 14 e [at8 65 65] true = true := by kernel_rfl
theorem alpha_r8 (e : TypeId) : chkB Try.prog okf 14 e [at8 66 89] true = true := by kernel_rfl
theorem alpha_r9 (e : TypeId) : chkB Try.prog okf 14 e [at8 90 90] true = true := by kernel_rfl
theorem alpha_r10 (e : TypeId) : chkB Try.prog okf 14 e [at8 91 94] false = true := by kernel_rfl
theorem alpha_r11 (e : TypeId) : chkB Try.prog okf 14 e [at8 95 95] true = true := by kernel_rfl
theorem alpha_r12 (e : TypeId) : chkB Try.prog okf 14 e [at8 96 96] false = true := by kernel_rfl
theorem alpha_r13 (e : TypeId) : chkB Try.prog okf 14 e [at8 97 97] true = true := by kernel_rfl
theorem alpha_r14 (e : TypeId) : chkB Try.prog okf 14 e [at8 98 121] true = true := by kernel_rfl
theorem alpha_r15 (e : TypeId) : chkB Try.prog okf 14 e [at8 122 122] true = true := by kernel_rfl
theorem alpha_r16 (e : TypeId) : chkB Try.prog okf 14 e [at8 123 255] false = true := by kernel_rfl
theorem alpha_any {w : World} {b off i n cap : Nat} {e : TypeId} {C : Array Value} {fr : Nat × Nat} {x : Int} (hw : w.heap[b]? = some (.cells C e fr)) (hn : i + 1 ≤ n) (hi : i ≤ 2 ^ 61)
    (hx : C[off + i]? = some (.int .u8 x)) (qx : 0 ≤ x ∧ x ≤ 255)
    : Calls Try.prog 14 #[.slice (some ⟨b, off, none⟩) n cap, .int .i64 i] w fun e w' => e = .returned (.bool (decide (48 ≤ x ∧ x ≤ 57 ∨ 65 ≤ x ∧ x ≤ 90 ∨ 97 ≤ x ∧ x ≤ 122 ∨ x = 95 ∨ x = 45))) ∧ RowKit.Below w.heap.size w w' := by
  rcases (show 0 ≤ x ∧ x ≤ 44 ∨ 45 ≤ x ∧ x ≤ 45 ∨ 46 ≤ x ∧ x ≤ 47 ∨ 48 ≤ x ∧ x ≤ 48 ∨ 49 ≤ x ∧ x ≤ 56 ∨ 57 ≤ x ∧ x ≤ 57 ∨ 58 ≤ x ∧ x ≤ 64 ∨ 65 ≤ x ∧ x ≤ 65 ∨ 66 ≤ x ∧ x ≤ 89 ∨ 90 ≤ x ∧ x ≤ 90 ∨ 91 ≤ x ∧ x ≤ 94 ∨ 95 ≤ x ∧ x ≤ 95 ∨ 96 ≤ x ∧ x ≤ 96 ∨ 97 ≤ x ∧ x ≤ 97 ∨ 98 ≤ x ∧ x ≤ 121 ∨ 122 ≤ x ∧ x ≤ 122 ∨ 123 ≤ x ∧ x ≤ 255 by omega) with ⟨h01, h02⟩ | ⟨h01, h02⟩ | ⟨h01, h02⟩ | ⟨h01, h02⟩ | ⟨h01, h02⟩ | ⟨h01, h02⟩ | ⟨h01, h02⟩ | ⟨h01, h02⟩ | ⟨h01, h02⟩ | ⟨h01, h02⟩ | ⟨h01, h02⟩ | ⟨h01, h02⟩ | ⟨h01, h02⟩ | ⟨h01, h02⟩ | ⟨h01, h02⟩ | ⟨h01, h02⟩ | ⟨h01, h02⟩
  ·
    refine (leaf_bool (cells := [at8 0 44]) noNum follows fns hw (by decide) (by simp only [List.length_cons, List.length_nil]; omega) hi (win1 hx h01 h02) (alpha_r0 e)).mono ?_
    rintro e w' ⟨rfl, hb⟩
    exact ⟨by rw [decide_eq_false (by omega)], hb⟩
  ·
    refine (leaf_bool (cells := [at8 45 45]) noNum follows fns hw (by decide) (by simp only [List.length_cons, List.length_nil]; omega) hi (win1 hx h01 h02) (alpha_r1 e)).mono ?_
    rintro e w' ⟨rfl, hb⟩
    exact ⟨by rw [decide_eq_true (by omega)], hb⟩
  ·
    refine (leaf_bool (cells := [at8 46 47]) noNum follows fns hw (by decide) (by simp only [List.length_cons, List.length_nil]; omega) hi (win1 hx h01 h02) (alpha_r2 e)).mono ?_
    rintro e w' ⟨rfl, hb⟩
    exact ⟨by rw [decide_eq_false (by omega)], hb⟩
  ·
    refine (leaf_bool (cells := [at8 48 48]) noNum follows fns hw (by decide) (by simp only [List.length_cons, List.length_nil]; omega) hi (win1 hx h01 h02) (alpha_r3 e)).mono ?_
    rintro e w' ⟨rfl, hb⟩
    exact ⟨by rw [decide_eq_true (by omega)], hb⟩
  ·
    refine (leaf_bool (cells := [at8 49 56]) noNum follows fns hw (by decide) (by simp only [List.length_cons, List.length_nil]; omega) hi (win1 hx h01 h02) (alpha_r4 e)).mono ?_
    rintro e w' ⟨rfl, hb⟩
    exact ⟨by rw [decide_eq_true (by omega)], hb⟩
  ·
    refine (leaf_bool (cells := [at8 57 57]) noNum follows fns hw (by decide) (by simp only [List.length_cons, List.length_nil]; omega) hi (win1 hx h01 h02) (alpha_r5 e)).mono ?_
    rintro e w' ⟨rfl, hb⟩
    exact ⟨by rw [decide_eq_true (by omega)], hb⟩
  ·
    refine (leaf_bool (cells := [at8 58 64]) noNum follows fns hw (by decide) (by simp only [List.length_cons, List.length_nil]; omega) hi (win1 hx h01 h02) (alpha_r6 e)).mono ?_
    rintro e w' ⟨rfl, hb⟩
    exact ⟨by rw [decide_eq_false (by omega)], hb⟩
  ·
    refine (leaf_bool (cells := [at8 65 65]) noNum follows fns hw (by decide) (by simp only [List.length_cons, List.length_nil]; omega) hi (win1 hx h01 h02) (alpha_r7 e)).mono ?_
    rintro e w' ⟨rfl, hb⟩
    exact ⟨by rw [decide_eq_true (by omega)], hb⟩
  ·
    refine (leaf_bool (cells := [at8 66 89]) noNum follows fns hw (by decide) (by simp only [List.length_cons, List.length_nil]; omega) hi (win1 hx h01 h02) (alpha_r8 e)).mono ?_
    rintro e w' ⟨rfl, hb⟩
    exact ⟨by rw [decide_eq_true (by omega)], hb⟩
  ·
    refine (leaf_bool (cells := [at8 90 90]) noNum follows fns hw (by decide) (by simp only [List.length_cons, List.length_nil]; omega) hi (win1 hx h01 h02) (alpha_r9 e)).mono ?_
    rintro e w' ⟨rfl, hb⟩
    exact ⟨by rw [decide_eq_true (by omega)], hb⟩
  ·
    refine (leaf_bool (cells := [at8 91 94]) noNum follows fns hw (by decide) (by simp only [List.length_cons, List.length_nil]; omega) hi (win1 hx h01 h02) (alpha_r10 e)).mono ?_
    rintro e w' ⟨rfl, hb⟩
    exact ⟨by rw [decide_eq_false (by omega)], hb⟩
  ·
    refine (leaf_bool (cells := [at8 95 95]) noNum follows fns hw (by decide) (by simp only [List.length_cons, List.length_nil]; omega) hi (win1 hx h01 h02) (alpha_r11 e)).mono ?_
    rintro e w' ⟨rfl, hb⟩
    exact ⟨by rw [decide_eq_true (by omega)], hb⟩
  ·
    refine (leaf_bool (cells := [at8 96 96]) noNum follows fns hw (by decide) (by simp only [List.length_cons, List.length_nil]; omega) hi (win1 hx h01 h02) (alpha_r12 e)).mono ?_
    rintro e w' ⟨rfl, hb⟩
    exact ⟨by rw [decide_eq_false (by omega)], hb⟩
  ·
    refine (leaf_bool (cells := [at8 97 97]) noNum follows fns hw (by decide) (by simp only [List.length_cons, List.length_nil]; omega) hi (win1 hx h01 h02) (alpha_r13 e)).mono ?_
    rintro e w' ⟨rfl, hb⟩
    exact ⟨by rw [decide_eq_true (by omega)], hb⟩
  ·
    refine (leaf_bool (cells := [at8 98 121]) noNum follows fns hw (by decide) (by simp only [List.length_cons, List.length_nil]; omega) hi (win1 hx h01 h02) (alpha_r14 e)).mono ?_
    rintro e w' ⟨rfl, hb⟩
    exact ⟨by rw [decide_eq_true (by omega)], hb⟩
  ·
    refine (leaf_bool (cells := [at8 122 122]) noNum follows fns hw (by decide) (by simp only [List.length_cons, List.length_nil]; omega) hi (win1 hx h01 h02) (alpha_r15 e)).mono ?_
    rintro e w' ⟨rfl, hb⟩
    exact ⟨by rw [decide_eq_true (by omega)], hb⟩
  ·
    refine (leaf_bool (cells := [at8 123 255]) noNum follows fns hw (by decide) (by simp only [List.length_cons, List.length_nil]; omega) hi (win1 hx h01 h02) (alpha_r16 e)).mono ?_
    rintro e w' ⟨rfl, hb⟩
    exact ⟨by rw [decide_eq_false (by omega)], hb⟩
theorem digit_r0 (e : TypeId) : chkB Try.prog okf 15 e [at8 0 47] false = true := by kernel_rfl
theorem digit_r1 (e : TypeId) : chkB Try.prog okf 15 e [at8 48 48] true = true := by kernel_rfl
theorem digit_r2 (e : TypeId) : chkB Try.prog okf 15 e [at8 49 56] true = true := by kernel_rfl
theorem digit_r3 (e : TypeId) : chkB Try.prog okf 15 e [at8 57 57] true = true := by kernel_rfl
theorem digit_r4 (e : TypeId) : chkB Try.prog okf 15 e [at8 58 255] false = true := by kernel_rfl
theorem digit_any {w : World} {b off i n cap : Nat} {e : TypeId} {C : Array Value} {fr : Nat × Nat} {x : Int} (hw : w.heap[b]? = some (.cells C e fr)) (hn : i + 1 ≤ n) (hi : i ≤ 2 ^ 61)
    (hx : C[off + i]? = some (.int .u8 x)) (qx : 0 ≤ x ∧ x ≤ 255)
    : Calls Try.prog 15 #[.slice (some ⟨b, off, none⟩) n cap, .int .i64 i] w fun e w' => e = .returned (.bool (decide (48 ≤ x ∧ x ≤ 57))) ∧ RowKit.Below w.heap.size w w' := by
  rcases (show 0 ≤ x ∧ x ≤ 47 ∨ 48 ≤ x ∧ x ≤ 48 ∨ 49 ≤ x ∧ x ≤ 56 ∨ 57 ≤ x ∧ x ≤ 57 ∨ 58 ≤ x ∧ x ≤ 255 by omega) with ⟨h01, h02⟩ | ⟨h01, h02⟩ | ⟨h01, h02⟩ | ⟨h01, h02⟩ | ⟨h01, h02⟩
  ·
    refine (leaf_bool (cells := [at8 0 47]) noNum follows fns hw (by decide) (by simp only [List.length_cons, List.length_nil]; omega) hi (win1 hx h01 h02) (digit_r0 e)).mono ?_
    rintro e w' ⟨rfl, hb⟩
    exact ⟨by rw [decide_eq_false (by omega)], hb⟩
  ·
    refine (leaf_bool (cells := [at8 48 48]) noNum follows fns hw (by decide) (by simp only [List.length_cons, List.length_nil]; omega) hi (win1 hx h01 h02) (digit_r1 e)).mono ?_
    rintro e w' ⟨rfl, hb⟩
    exact ⟨by rw [decide_eq_true (by omega)], hb⟩
  ·
    refine (leaf_bool (cells := [at8 49 56]) noNum follows fns hw (by decide) (by simp only [List.length_cons, List.length_nil]; omega) hi (win1 hx h01 h02) (digit_r2 e)).mono ?_
    rintro e w' ⟨rfl, hb⟩
    exact ⟨by rw [decide_eq_true (by omega)], hb⟩
  ·
    refine (leaf_bool (cells := [at8 57 57]) noNum follows fns hw (by decide) (by simp only [List.length_cons, List.length_nil]; omega) hi (win1 hx h01 h02) (digit_r3 e)).mono ?_
    rintro e w' ⟨rfl, hb⟩
    exact ⟨by rw [decide_eq_true (by omega)], hb⟩
  ·
    refine (leaf_bool (cells := [at8 58 255]) noNum follows fns hw (by decide) (by simp only [List.length_cons, List.length_nil]; omega) hi (win1 hx h01 h02) (digit_r4 e)).mono ?_
    rintro e w' ⟨rfl, hb⟩
    exact ⟨by rw [decide_eq_false (by omega)], hb⟩
theorem hex_r0 (e : TypeId) : chkB Try.prog okf 16 e [at8 0 47] false = true := by kernel_rfl
theorem hex_r1 (e : TypeId) : chkB Try.prog okf 16 e [at8 48 48] true = true := by kernel_rfl
theorem hex_r2 (e : TypeId) : chkB Try.prog okf 16 e [at8 49 56] true = true := by kernel_rfl
theorem hex_r3 (e : TypeId) : chkB Try.prog okf 16 e [at8 57 57] true = true := by kernel_rfl
theorem hex_r4 (e : TypeId) : chkB Try.prog okf 16 e [at8 58 64] false = true := by kernel_rfl
theorem hex_r5 (e : TypeId) : chkB Try.prog okf 16 e [at8 65 65] true = true := by kernel_rfl
theorem hex_r6 (e : TypeId) : chkB Try.prog okf 16 e [at8 66 69] true = true := by kernel_rfl
theorem hex_r7 (e : TypeId) : chkB Try.prog okf 16 e [at8 70 70] true = true := by kernel_rfl
theorem hex_r8 (e : TypeId) : chkB Try.prog okf 16 e [at8 71 96] false = true := by kernel_rfl
theorem hex_r9 (e : TypeId) : chkB Try.prog okf 16 e [at8 97 97] true = true := by kernel_rfl
theorem hex_r10 (e : TypeId) : chkB Try.prog okf 16 e [at8 98 101] true = true := by kernel_rfl
theorem hex_r11 (e : TypeId) : chkB Try.prog okf 16 e [at8 102 102] true = true := by kernel_rfl
theorem hex_r12 (e : TypeId) : chkB Try.prog okf 16 e [at8 103 255] false = true := by kernel_rfl
theorem hex_any {w : World} {b off i n cap : Nat} {e : TypeId} {C : Array Value} {fr : Nat × Nat} {x : Int} (hw : w.heap[b]? = some (.cells C e fr)) (hn : i + 1 ≤ n) (hi : i ≤ 2 ^ 61)
    (hx : C[off + i]? = some (.int .u8 x)) (qx : 0 ≤ x ∧ x ≤ 255)
    : Calls Try.prog 16 #[.slice (some ⟨b, off, none⟩) n cap, .int .i64 i] w fun e w' => e = .returned (.bool (decide (48 ≤ x ∧ x ≤ 57 ∨ 65 ≤ x ∧ x ≤ 70 ∨ 97 ≤ x ∧ x ≤ 102))) ∧ RowKit.Below w.heap.size w w' := by
  rcases (show 0 ≤ x ∧ x ≤ 47 ∨ 48 ≤ x ∧ x ≤ 48 ∨ 49 ≤ x ∧ x ≤ 56 ∨ 57 ≤ x ∧ x ≤ 57 ∨ 58 ≤ x ∧ x ≤ 64 ∨ 65 ≤ x ∧ x ≤ 65 ∨ 66 ≤ x ∧ x ≤ 69 ∨ 70 ≤ x ∧ x ≤ 70 ∨ 71 ≤ x ∧ x ≤ 96 ∨ 97 ≤ x ∧ x ≤ 97 ∨ 98 ≤ x ∧ x ≤ 101 ∨ 102 ≤ x ∧ x ≤ 102 ∨ 103 ≤ x ∧ x ≤ 255 by omega) with ⟨h01, h02⟩ | ⟨h01, h02⟩ | ⟨h01, h02⟩ | ⟨h01, h02⟩ | ⟨h01, h02⟩ | ⟨h01, h02⟩ | ⟨h01, h02⟩ | ⟨h01, h02⟩ | ⟨h01, h02⟩ | ⟨h01, h02⟩ | ⟨h01, h02⟩ | ⟨h01, h02⟩ | ⟨h01, h02⟩
  ·
    refine (leaf_bool (cells := [at8 0 47]) noNum follows fns hw (by decide) (by simp only [List.length_cons, List.length_nil]; omega) hi (win1 hx h01 h02) (hex_r0 e)).mono ?_
    rintro e w' ⟨rfl, hb⟩
    exact ⟨by rw [decide_eq_false (by omega)], hb⟩
  ·
    refine (leaf_bool (cells := [at8 48 48]) noNum follows fns hw (by decide) (by simp only [List.length_cons, List.length_nil]; omega) hi (win1 hx h01 h02) (hex_r1 e)).mono ?_
    rintro e w' ⟨rfl, hb⟩
    exact ⟨by rw [decide_eq_true (by omega)], hb⟩
  ·
    refine (leaf_bool (cells := [at8 49 56]) noNum follows fns hw (by decide) (by simp only [List.length_cons, List.length_nil]; omega) hi (win1 hx h01 h02) (hex_r2 e)).mono ?_
    rintro e w' ⟨rfl, hb⟩
    exact ⟨by rw [decide_eq_true (by omega)], hb⟩
  ·
    refine (leaf_bool (cells := [at8 57 57]) noNum follows fns hw (by decide) (by simp only [List.length_cons, List.length_nil]; omega) hi (win1 hx h01 h02) (hex_r3 e)).mono ?_
    rintro e w' ⟨rfl, hb⟩
    exact ⟨by rw [decide_eq_true (by omega)], hb⟩
  ·
    refine (leaf_bool (cells := [at8 58 64]) noNum follows fns hw (by decide) (by simp only [List.length_cons, List.length_nil]; omega) hi (win1 hx h01 h02) (hex_r4 e)).mono ?_
    rintro e w' ⟨rfl, hb⟩
    exact ⟨by rw [decide_eq_false (by omega)], hb⟩
  ·
    refine (leaf_bool (cells := [at8 65 65]) noNum follows fns hw (by decide) (by simp only [List.length_cons, List.length_nil]; omega) hi (win1 hx h01 h02) (hex_r5 e)).mono ?_
    rintro e w' ⟨rfl, hb⟩
    exact ⟨by rw [decide_eq_true (by omega)], hb⟩
  ·
    refine (leaf_bool (cells := [at8 66 69]) noNum follows fns hw (by decide) (by simp only [List.length_cons, List.length_nil]; omega) hi (win1 hx h01 h02) (hex_r6 e)).mono ?_
    rintro e w' ⟨rfl, hb⟩
    exact ⟨by rw [decide_eq_true (by omega)], hb⟩
  ·
    refine (leaf_bool (cells := [at8 70 70]) noNum follows fns hw (by decide) (by simp only [List.length_cons, List.length_nil]; omega) hi (win1 hx h01 h02) (hex_r7 e)).mono ?_
    rintro e w' ⟨rfl, hb⟩
    exact ⟨by rw [decide_eq_true (by omega)], hb⟩
  ·
    refine (leaf_bool (cells := [at8 71 96]) noNum follows fns hw (by decide) (by simp only [List.length_cons, List.length_nil]; omega) hi (win1 hx h01 h02) (hex_r8 e)).mono ?_
    rintro e w' ⟨rfl, hb⟩
    exact ⟨by rw [decide_eq_false (by omega)], hb⟩
  ·
    refine (leaf_bool (cells := [at8 97 97]) noNum follows fns hw (by decide) (by simp only [List.length_cons, List.length_nil]; omega) hi (win1 hx h01 h02) (hex_r9 e)).mono ?_
    rintro e w' ⟨rfl, hb⟩
    exact ⟨by rw [decide_eq_true (by omega)], hb⟩
  ·
    refine (leaf_bool (cells := [at8 98 101]) noNum follows fns hw (by decide) (by simp only [List.length_cons, List.length_nil]; omega) hi (win1 hx h01 h02) (hex_r10 e)).mono ?_
    rintro e w' ⟨rfl, hb⟩
    exact ⟨by rw [decide_eq_true (by omega)], hb⟩
  ·
    refine (leaf_bool (cells := [at8 102 102]) noNum follows fns hw (by decide) (by simp only [List.length_cons, List.length_nil]; omega) hi (win1 hx h01 h02) (hex_r11 e)).mono ?_
    rintro e w' ⟨rfl, hb⟩
    exact ⟨by rw [decide_eq_true (by omega)], hb⟩
  ·
    refine (leaf_bool (cells := [at8 103 255]) noNum follows fns hw (by decide) (by simp only [List.length_cons, List.length_nil]; omega) hi (win1 hx h01 h02) (hex_r12 e)).mono ?_
    rintro e w' ⟨rfl, hb⟩
    exact ⟨by rw [decide_eq_false (by omega)], hb⟩
theorem ascii_r0 (e : TypeId) : chkB Try.prog okf 17 e [at8 0 126] true = true := by kernel_rfl
theorem ascii_r1 (e : TypeId) : chkB Try.prog okf 17 e [at8 127 127] true = true := by kernel_rfl
theorem ascii_r2 (e : TypeId) : chkB Try.prog okf 17 e [at8 128 255] false = true := by kernel_rfl
theorem ascii_any {w : World} {b off i n cap : Nat} {e : TypeId} {C : Array Value} {fr : Nat × Nat} {x : Int} (hw : w.heap[b]? = some (.cells C e fr)) (hn : i + 1 ≤ n) (hi : i ≤ 2 ^ 61)
    (hx : C[off + i]? = some (.int .u8 x)) (qx : 0 ≤ x ∧ x ≤ 255)
    : Calls Try.prog 17 #[.slice (some ⟨b, off, none⟩) n cap, .int .i64 i] w fun e w' => e = .returned (.bool (decide (x ≤ 127))) ∧ RowKit.Below w.heap.size w w' := by
  rcases (show 0 ≤ x ∧ x ≤ 126 ∨ 127 ≤ x ∧ x ≤ 127 ∨ 128 ≤ x ∧ x ≤ 255 by omega) with ⟨h01, h02⟩ | ⟨h01, h02⟩ | ⟨h01, h02⟩
  ·
    refine (leaf_bool (cells := [at8 0 126]) noNum follows fns hw (by decide) (by simp only [List.length_cons, List.length_nil]; omega) hi (win1 hx h01 h02) (ascii_r0 e)).mono ?_
    rintro e w' ⟨rfl, hb⟩
    exact ⟨by rw [decide_eq_true (by omega)], hb⟩
  ·
    refine (leaf_bool (cells := [at8 127 127]) noNum follows fns hw (by decide) (by simp only [List.length_cons, List.length_nil]; omega) hi (win1 hx h01 h02) (ascii_r1 e)).mono ?_
    rintro e w' ⟨rfl, hb⟩
    exact ⟨by rw [decide_eq_true (by omega)], hb⟩
  ·
    refine (leaf_bool (cells := [at8 128 255]) noNum follows fns hw (by decide) (by simp only [List.length_cons, List.length_nil]; omega) hi (win1 hx h01 h02) (ascii_r2 e)).mono ?_
    rintro e w' ⟨rfl, hb⟩
    exact ⟨by rw [decide_eq_false (by omega)], hb⟩
theorem z_r0 (e : TypeId) : chkB Try.prog okf 19 e [at8 0 0] true = true := by kernel_rfl
theorem z_r1 (e : TypeId) : chkB Try.prog okf 19 e [at8 1 255] false = true := by kernel_rfl
theorem z_any {w : World} {b off i n cap : Nat} {e : TypeId} {C : Array Value} {fr : Nat × Nat} {x : Int} (hw : w.heap[b]? = some (.cells C e fr)) (hn : i + 1 ≤ n) (hi : i ≤ 2 ^ 61)
    (hx : C[off + i]? = some (.int .u8 x)) (qx : 0 ≤ x ∧ x ≤ 255)
    : Calls Try.prog 19 #[.slice (some ⟨b, off, none⟩) n cap, .int .i64 i] w fun e w' => e = .returned (.bool (decide (x = 0))) ∧ RowKit.Below w.heap.size w w' := by
  rcases (show 0 ≤ x ∧ x ≤ 0 ∨ 1 ≤ x ∧ x ≤ 255 by omega) with ⟨h01, h02⟩ | ⟨h01, h02⟩
  ·
    refine (leaf_bool (cells := [at8 0 0]) noNum follows fns hw (by decide) (by simp only [List.length_cons, List.length_nil]; omega) hi (win1 hx h01 h02) (z_r0 e)).mono ?_
    rintro e w' ⟨rfl, hb⟩
    exact ⟨by rw [decide_eq_true (by omega)], hb⟩
  ·
    refine (leaf_bool (cells := [at8 1 255]) noNum follows fns hw (by decide) (by simp only [List.length_cons, List.length_nil]; omega) hi (win1 hx h01 h02) (z_r1 e)).mono ?_
    rintro e w' ⟨rfl, hb⟩
    exact ⟨by rw [decide_eq_false (by omega)], hb⟩
theorem space_r0 (e : TypeId) : chkB Try.prog okf 21 e [at8 0 31] false = true := by kernel_rfl
theorem space_r1 (e : TypeId) : chkB Try.prog okf 21 e [at8 32 32] true = true := by kernel_rfl
theorem space_r2 (e : TypeId) : chkB Try.prog okf 21 e [at8 33 255] false = true := by kernel_rfl
theorem space_any {w : World} {b off i n cap : Nat} {e : TypeId} {C : Array Value} {fr : Nat × Nat} {x : Int} (hw : w.heap[b]? = some (.cells C e fr)) (hn : i + 1 ≤ n) (hi : i ≤ 2 ^ 61)
    (hx : C[off + i]? = some (.int .u8 x)) (qx : 0 ≤ x ∧ x ≤ 255)
    : Calls Try.prog 21 #[.slice (some ⟨b, off, none⟩) n cap, .int .i64 i] w fun e w' => e = .returned (.bool (decide (x = 32))) ∧ RowKit.Below w.heap.size w w' := by
  rcases (show 0 ≤ x ∧ x ≤ 31 ∨ 32 ≤ x ∧ x ≤ 32 ∨ 33 ≤ x ∧ x ≤ 255 by omega) with ⟨h01, h02⟩ | ⟨h01, h02⟩ | ⟨h01, h02⟩
  ·
    refine (leaf_bool (cells := [at8 0 31]) noNum follows fns hw (by decide) (by simp only [List.length_cons, List.length_nil]; omega) hi (win1 hx h01 h02) (space_r0 e)).mono ?_
    rintro e w' ⟨rfl, hb⟩
    exact ⟨by rw [decide_eq_false (by omega)], hb⟩
  ·
    refine (leaf_bool (cells := [at8 32 32]) noNum follows fns hw (by decide) (by simp only [List.length_cons, List.length_nil]; omega) hi (win1 hx h01 h02) (space_r1 e)).mono ?_
    rintro e w' ⟨rfl, hb⟩
    exact ⟨by rw [decide_eq_true (by omega)], hb⟩
  ·
    refine (leaf_bool (cells := [at8 33 255]) noNum follows fns hw (by decide) (by simp only [List.length_cons, List.length_nil]; omega) hi (win1 hx h01 h02) (space_r2 e)).mono ?_
    rintro e w' ⟨rfl, hb⟩
    exact ⟨by rw [decide_eq_false (by omega)], hb⟩
theorem tab_r0 (e : TypeId) : chkB Try.prog okf 22 e [at8 0 8] false = true := by kernel_rfl
theorem tab_r1 (e : TypeId) : chkB Try.prog okf 22 e [at8 9 9] true = true := by kernel_rfl
theorem tab_r2 (e : TypeId) : chkB Try.prog okf 22 e [at8 10 255] false = true := by kernel_rfl
theorem tab_any {w : World} {b off i n cap : Nat} {e : TypeId} {C : Array Value} {fr : Nat × Nat} {x : Int} (hw : w.heap[b]? = some (.cells C e fr)) (hn : i + 1 ≤ n) (hi : i ≤ 2 ^ 61)
    (hx : C[off + i]? = some (.int .u8 x)) (qx : 0 ≤ x ∧ x ≤ 255)
    : Calls Try.prog 22 #[.slice (some ⟨b, off, none⟩) n cap, .int .i64 i] w fun e w' => e = .returned (.bool (decide (x = 9))) ∧ RowKit.Below w.heap.size w w' := by
  rcases (show 0 ≤ x ∧ x ≤ 8 ∨ 9 ≤ x ∧ x ≤ 9 ∨ 10 ≤ x ∧ x ≤ 255 by omega) with ⟨h01, h02⟩ | ⟨h01, h02⟩ | ⟨h01, h02⟩
  ·
    refine (leaf_bool (cells := [at8 0 8]) noNum follows fns hw (by decide) (by simp only [List.length_cons, List.length_nil]; omega) hi (win1 hx h01 h02) (tab_r0 e)).mono ?_
    rintro e w' ⟨rfl, hb⟩
    exact ⟨by rw [decide_eq_false (by omega)], hb⟩
  ·
    refine (leaf_bool (cells := [at8 9 9]) noNum follows fns hw (by decide) (by simp only [List.length_cons, List.length_nil]; omega) hi (win1 hx h01 h02) (tab_r1 e)).mono ?_
    rintro e w' ⟨rfl, hb⟩
    exact ⟨by rw [decide_eq_true (by omega)], hb⟩
  ·
    refine (leaf_bool (cells := [at8 10 255]) noNum follows fns hw (by decide) (by simp only [List.length_cons, List.length_nil]; omega) hi (win1 hx h01 h02) (tab_r2 e)).mono ?_
    rintro e w' ⟨rfl, hb⟩
    exact ⟨by rw [decide_eq_false (by omega)], hb⟩
theorem blank_r0 (e : TypeId) : chkB Try.prog okf 23 e [at8 0 8] false = true := by kernel_rfl
theorem blank_r1 (e : TypeId) : chkB Try.prog okf 23 e [at8 9 9] true = true := by kernel_rfl
theorem blank_r2 (e : TypeId) : chkB Try.prog okf 23 e [at8 10 31] false = true := by kernel_rfl
theorem blank_r3 (e : TypeId) : chkB Try.prog okf 23 e [at8 32 32] true = true := by kernel_rfl
theorem blank_r4 (e : TypeId) : chkB Try.prog okf 23 e [at8 33 255] false = true := by kernel_rfl
theorem blank_any {w : World} {b off i n cap : Nat} {e : TypeId} {C : Array Value} {fr : Nat × Nat} {x : Int} (hw : w.heap[b]? = some (.cells C e fr)) (hn : i + 1 ≤ n) (hi : i ≤ 2 ^ 61)
    (hx : C[off + i]? = some (.int .u8 x)) (qx : 0 ≤ x ∧ x ≤ 255)
    : Calls Try.prog 23 #[.slice (some ⟨b, off, none⟩) n cap, .int .i64 i] w fun e w' => e = .returned (.bool (decide (x = 32 ∨ x = 9))) ∧ RowKit.Below w.heap.size w w' := by
  rcases (show 0 ≤ x ∧ x ≤ 8 ∨ 9 ≤ x ∧ x ≤ 9 ∨ 10 ≤ x ∧ x ≤ 31 ∨ 32 ≤ x ∧ x ≤ 32 ∨ 33 ≤ x ∧ x ≤ 255 by omega) with ⟨h01, h02⟩ | ⟨h01, h02⟩ | ⟨h01, h02⟩ | ⟨h01, h02⟩ | ⟨h01, h02⟩
  ·
    refine (leaf_bool (cells := [at8 0 8]) noNum follows fns hw (by decide) (by simp only [List.length_cons, List.length_nil]; omega) hi (win1 hx h01 h02) (blank_r0 e)).mono ?_
    rintro e w' ⟨rfl, hb⟩
    exact ⟨by rw [decide_eq_false (by omega)], hb⟩
  ·
    refine (leaf_bool (cells := [at8 9 9]) noNum follows fns hw (by decide) (by simp only [List.length_cons, List.length_nil]; omega) hi (win1 hx h01 h02) (blank_r1 e)).mono ?_
    rintro e w' ⟨rfl, hb⟩
    exact ⟨by rw [decide_eq_true (by omega)], hb⟩
  ·
    refine (leaf_bool (cells := [at8 10 31]) noNum follows fns hw (by decide) (by simp only [List.length_cons, List.length_nil]; omega) hi (win1 hx h01 h02) (blank_r2 e)).mono ?_
    rintro e w' ⟨rfl, hb⟩
    exact ⟨by rw [decide_eq_false (by omega)], hb⟩
  ·
    refine (leaf_bool (cells := [at8 32 32]) noNum follows fns hw (by decide) (by simp only [List.length_cons, List.length_nil]; omega) hi (win1 hx h01 h02) (blank_r3 e)).mono ?_
    rintro e w' ⟨rfl, hb⟩
    exact ⟨by rw [decide_eq_true (by omega)], hb⟩
  ·
    refine (leaf_bool (cells := [at8 33 255]) noNum follows fns hw (by decide) (by simp only [List.length_cons, List.length_nil]; omega) hi (win1 hx h01 h02) (blank_r4 e)).mono ?_
    rintro e w' ⟨rfl, hb⟩
    exact ⟨by rw [decide_eq_false (by omega)], hb⟩
theorem crlf_r0 (e : TypeId) : chkB Try.prog okf 25 e [at8 0 12] false = true := by kernel_rfl
theorem crlf_r1 (e : TypeId) : chkB Try.prog okf 25 e [at8 13 13, at8 0 9] false = true := by kernel_rfl
theorem crlf_r2 (e : TypeId) : chkB Try.prog okf 25 e [at8 13 13, at8 10 10] true = true := by kernel_rfl
theorem crlf_r3 (e : TypeId) : chkB Try.prog okf 25 e [at8 13 13, at8 11 255] false = true := by kernel_rfl
theorem crlf_r4 (e : TypeId) : chkB Try.prog okf 25 e [at8 14 255] false = true := by kernel_rfl
theorem crlf_any {w : World} {b off i n cap : Nat} {e : TypeId} {C : Array Value} {fr : Nat × Nat} {x y : Int} (hw : w.heap[b]? = some (.cells C e fr)) (hn : i + 2 ≤ n) (hi : i ≤ 2 ^ 61)
    (hx : C[off + i]? = some (.int .u8 x)) (qx : 0 ≤ x ∧ x ≤ 255)
    (hy : C[1 + (off + i)]? = some (.int .u8 y)) (qy : 0 ≤ y ∧ y ≤ 255)
    : Calls Try.prog 25 #[.slice (some ⟨b, off, none⟩) n cap, .int .i64 i] w fun e w' => e = .returned (.bool (decide (x = 13 ∧ y = 10))) ∧ RowKit.Below w.heap.size w w' := by
  rcases (show 0 ≤ x ∧ x ≤ 12 ∨ 13 ≤ x ∧ x ≤ 13 ∨ 14 ≤ x ∧ x ≤ 255 by omega) with ⟨h01, h02⟩ | ⟨h01, h02⟩ | ⟨h01, h02⟩
  ·
    refine (leaf_bool (cells := [at8 0 12]) noNum follows fns hw (by decide) (by simp only [List.length_cons, List.length_nil]; omega) hi (win1 hx h01 h02) (crlf_r0 e)).mono ?_
    rintro e w' ⟨rfl, hb⟩
    exact ⟨by rw [decide_eq_false (by omega)], hb⟩
  ·
    rcases (show 0 ≤ y ∧ y ≤ 9 ∨ 10 ≤ y ∧ y ≤ 10 ∨ 11 ≤ y ∧ y ≤ 255 by omega) with ⟨h11, h12⟩ | ⟨h11, h12⟩ | ⟨h11, h12⟩
    ·
      refine (leaf_bool (cells := [at8 13 13, at8 0 9]) noNum follows fns hw (by decide) (by simp only [List.length_cons, List.length_nil]; omega) hi (win2 hx hy ⟨h01, h02⟩ ⟨h11, h12⟩) (crlf_r1 e)).mono ?_
      rintro e w' ⟨rfl, hb⟩
      exact ⟨by rw [decide_eq_false (by omega)], hb⟩
    ·
      refine (leaf_bool (cells := [at8 13 13, at8 10 10]) noNum follows fns hw (by decide) (by simp only [List.length_cons, List.length_nil]; omega) hi (win2 hx hy ⟨h01, h02⟩ ⟨h11, h12⟩) (crlf_r2 e)).mono ?_
      rintro e w' ⟨rfl, hb⟩
      exact ⟨by rw [decide_eq_true (by omega)], hb⟩
    ·
      refine (leaf_bool (cells := [at8 13 13, at8 11 255]) noNum follows fns hw (by decide) (by simp only [List.length_cons, List.length_nil]; omega) hi (win2 hx hy ⟨h01, h02⟩ ⟨h11, h12⟩) (crlf_r3 e)).mono ?_
      rintro e w' ⟨rfl, hb⟩
      exact ⟨by rw [decide_eq_false (by omega)], hb⟩
  ·
    refine (leaf_bool (cells := [at8 14 255]) noNum follows fns hw (by decide) (by simp only [List.length_cons, List.length_nil]; omega) hi (win1 hx h01 h02) (crlf_r4 e)).mono ?_
    rintro e w' ⟨rfl, hb⟩
    exact ⟨by rw [decide_eq_false (by omega)], hb⟩
theorem brk_r0 (e : TypeId) : chkB Try.prog okf 24 e [at8 0 9] false = true := by kernel_rfl
theorem brk_r1 (e : TypeId) : chkB Try.prog okf 24 e [at8 10 10] true = true := by kernel_rfl
theorem brk_r2 (e : TypeId) : chkB Try.prog okf 24 e [at8 11 12] false = true := by kernel_rfl
theorem brk_r3 (e : TypeId) : chkB Try.prog okf 24 e [at8 13 13] true = true := by kernel_rfl
theorem brk_r4 (e : TypeId) : chkB Try.prog okf 24 e [at8 14 193] false = true := by kernel_rfl
theorem brk_r5 (e : TypeId) : chkB Try.prog okf 24 e [at8 194 194, at8 0 132] false = true := by kernel_rfl
theorem brk_r6 (e : TypeId) : chkB Try.prog okf 24 e [at8 194 194, at8 133 133] true = true := by kernel_rfl
theorem brk_r7 (e : TypeId) : chkB Try.prog okf 24 e [at8 194 194, at8 134 255] false = true := by kernel_rfl
theorem brk_r8 (e : TypeId) : chkB Try.prog okf 24 e [at8 195 225] false = true := by kernel_rfl
theorem brk_r9 (e : TypeId) : chkB Try.prog okf 24 e [at8 226 226, at8 0 127] false = true := by kernel_rfl
theorem brk_r10 (e : TypeId) : chkB Try.prog okf 24 e [at8 226 226, at8 128 128, at8 0 167] false = true := by kernel_rfl
theorem brk_r11 (e : TypeId) : chkB Try.prog okf 24 e [at8 226 226, at8 128 128, at8 168 168] true = true := by kernel_rfl
theorem brk_r12 (e : TypeId) : chkB Try.prog okf 24 e [at8 226 226, at8 128 128, at8 169 169] true = true := by kernel_rfl
theorem brk_r13 (e : TypeId) : chkB Try.prog okf 24 e [at8 226 226, at8 128 128, at8 170 255] false = true := by kernel_rfl
theorem brk_r14 (e : TypeId) : chkB Try.prog okf 24 e [at8 226 226, at8 129 255] false = true := by kernel_rfl
theorem brk_r15 (e : TypeId) : chkB Try.prog okf 24 e [at8 227 255] false = true := by kernel_rfl
theorem brk_any {w : World} {b off i n cap : Nat} {e : TypeId} {C : Array Value} {fr : Nat × Nat} {x y z : Int} (hw : w.heap[b]? = some (.cells C e fr)) (hn : i + 3 ≤ n) (hi : i ≤ 2 ^ 61)
    (hx : C[off + i]? = some (.int .u8 x)) (qx : 0 ≤ x ∧ x ≤ 255)
    (hy : C[1 + (off + i)]? = some (.int .u8 y)) (qy : 0 ≤ y ∧ y ≤ 255)
    (hz : C[2 + (off + i)]? = some (.int .u8 z)) (qz : 0 ≤ z ∧ z ≤ 255)
    : Calls Try.prog 24 #[.slice (some ⟨b, off, none⟩) n cap, .int .i64 i] w fun e w' => e = .returned (.bool (decide (Brk x y z))) ∧ RowKit.Below w.heap.size w w' := by
  rcases (show 0 ≤ x ∧ x ≤ 9 ∨ 10 ≤ x ∧ x ≤ 10 ∨ 11 ≤ x ∧ x ≤ 12 ∨ 13 ≤ x ∧ x ≤ 13 ∨ 14 ≤ x ∧ x ≤ 193 ∨ 194 ≤ x ∧ x ≤ 194 ∨ 195 ≤ x ∧ x ≤ 225 ∨ 226 ≤ x ∧ x ≤ 226 ∨ 227 ≤ x ∧ x ≤ 255 by omega) with ⟨h01, h02⟩ | ⟨h01, h02⟩ | ⟨h01, h02⟩ | ⟨h01, h02⟩ | ⟨h01, h02⟩ | ⟨h01, h02⟩ | ⟨h01, h02⟩ | ⟨h01, h02⟩ | ⟨h01, h02⟩
  ·
    refine (leaf_bool (cells := [at8 0 9]) noNum follows fns hw (by decide) (by simp only [List.length_cons, List.length_nil]; omega) hi (win1 hx h01 h02) (brk_r0 e)).mono ?_
    rintro e w' ⟨rfl, hb⟩
    exact ⟨by rw [decide_eq_false (by unfold Brk; omega)], hb⟩
  ·
    refine (leaf_bool (cells := [at8 10 10]) noNum follows fns hw (by decide) (by simp only [List.length_cons, List.length_nil]; omega) hi (win1 hx h01 h02) (brk_r1 e)).mono ?_
    rintro e w' ⟨rfl, hb⟩
    exact ⟨by rw [decide_eq_true (by unfold Brk; omega)], hb⟩
  ·
    refine (leaf_bool (cells := [at8 11 12]) noNum follows fns hw (by decide) (by simp only [List.length_cons, List.length_nil]; omega) hi (win1 hx h01 h02) (brk_r2 e)).mono ?_
    rintro e w' ⟨rfl, hb⟩
    exact ⟨by rw [decide_eq_false (by unfold Brk; omega)], hb⟩
  ·
    refine (leaf_bool (cells := [at8 13 13]) noNum follows fns hw (by decide) (by simp only [List.length_cons, List.length_nil]; omega) hi (win1 hx h01 h02) (brk_r3 e)).mono ?_
    rintro e w' ⟨rfl, hb⟩
    exact ⟨by rw [decide_eq_true (by unfold Brk; omega)], hb⟩
  ·
    refine (leaf_bool (cells := [at8 14 193]) noNum follows fns hw (by decide) (by simp only [List.length_cons, List.length_nil]; omega) hi (win1 hx h01 h02) (brk_r4 e)).mono ?_
    rintro e w' ⟨rfl, hb⟩
    exact ⟨by rw [decide_eq_false (by unfold Brk; omega)], hb⟩
  ·
    rcases (show 0 ≤ y ∧ y ≤ 132 ∨ 133 ≤ y ∧ y ≤ 133 ∨ 134 ≤ y ∧ y ≤ 255 by omega) with ⟨h11, h12⟩ | ⟨h11, h12⟩ | ⟨h11, h12⟩
    ·
      refine (leaf_bool (cells := [at8 194 194, at8 0 132]) noNum follows fns hw (by decide) (by simp only [List.length_cons, List.length_nil]; omega) hi (win2 hx hy ⟨h01, h02⟩ ⟨h11, h12⟩) (brk_r5 e)).mono ?_
      rintro e w' ⟨rfl, hb⟩
      exact ⟨by rw [decide_eq_false (by unfold Brk; omega)], hb⟩
    ·
      refine (leaf_bool (cells := [at8 194 194, at8 133 133]) noNum follows fns hw (by decide) (by simp only [List.length_cons, List.length_nil]; omega) hi (win2 hx hy ⟨h01, h02⟩ ⟨h11, h12⟩) (brk_r6 e)).mono ?_
      rintro e w' ⟨rfl, hb⟩
      exact ⟨by rw [decide_eq_true (by unfold Brk; omega)], hb⟩
    ·
      refine (leaf_bool (cells := [at8 194 194, at8 134 255]) noNum follows fns hw (by decide) (by simp only [List.length_cons, List.length_nil]; omega) hi (win2 hx hy ⟨h01, h02⟩ ⟨h11, h12⟩) (brk_r7 e)).mono ?_
      rintro e w' ⟨rfl, hb⟩
      exact ⟨by rw [decide_eq_false (by unfold Brk; omega)], hb⟩
  ·
    refine (leaf_bool (cells := [at8 195 225]) noNum follows fns hw (by decide) (by simp only [List.length_cons, List.length_nil]; omega) hi (win1 hx h01 h02) (brk_r8 e)).mono ?_
    rintro e w' ⟨rfl, hb⟩
    exact ⟨by rw [decide_eq_false (by unfold Brk; omega)], hb⟩
  ·
    rcases (show 0 ≤ y ∧ y ≤ 127 ∨ 128 ≤ y ∧ y ≤ 128 ∨ 129 ≤ y ∧ y ≤ 255 by omega) with ⟨h11, h12⟩ | ⟨h11, h12⟩ | ⟨h11, h12⟩
    ·
      refine (leaf_bool (cells := [at8 226 226, at8 0 127]) noNum follows fns hw (by decide) (by simp only [List.length_cons, List.length_nil]; omega) hi (win2 hx hy ⟨h01, h02⟩ ⟨h11, h12⟩) (brk_r9 e)).mono ?_
      rintro e w' ⟨rfl, hb⟩
      exact ⟨by rw [decide_eq_false (by unfold Brk; omega)], hb⟩
    ·
      rcases (show 0 ≤ z ∧ z ≤ 167 ∨ 168 ≤ z ∧ z ≤ 168 ∨ 169 ≤ z ∧ z ≤ 169 ∨ 170 ≤ z ∧ z ≤ 255 by omega) with ⟨h21, h22⟩ | ⟨h21, h22⟩ | ⟨h21, h22⟩ | ⟨h21, h22⟩
      ·
        refine (leaf_bool (cells := [at8 226 226, at8 128 128, at8 0 167]) noNum follows fns hw (by decide) (by simp only [List.length_cons, List.length_nil]; omega) hi (win3 hx hy hz ⟨h01, h02⟩ ⟨h11, h12⟩ ⟨h21, h22⟩) (brk_r10 e)).mono ?_
        rintro e w' ⟨rfl, hb⟩
        exact ⟨by rw [decide_eq_false (by unfold Brk; omega)], hb⟩
      ·
        refine (leaf_bool (cells := [at8 226 226, at8 128 128, at8 168 168]) noNum follows fns hw (by decide) (by simp only [List.length_cons, List.length_nil]; omega) hi (win3 hx hy hz ⟨h01, h02⟩ ⟨h11, h12⟩ ⟨h21, h22⟩) (brk_r11 e)).mono ?_
        rintro e w' ⟨rfl, hb⟩
        exact ⟨by rw [decide_eq_true (by unfold Brk; omega)], hb⟩
      ·
        refine (leaf_bool (cells := [at8 226 226, at8 128 128, at8 169 169]) noNum follows fns hw (by decide) (by simp only [List.length_cons, List.length_nil]; omega) hi (win3 hx hy hz ⟨h01, h02⟩ ⟨h11, h12⟩ ⟨h21, h22⟩) (brk_r12 e)).mono ?_
        rintro e w' ⟨rfl, hb⟩
        exact ⟨by rw [decide_eq_true (by unfold Brk; omega)], hb⟩
      ·
        refine (leaf_bool (cells := [at8 226 226, at8 128 128, at8 170 255]) noNum follows fns hw (by decide) (by simp only [List.length_cons, List.length_nil]; omega) hi (win3 hx hy hz ⟨h01, h02⟩ ⟨h11, h12⟩ ⟨h21, h22⟩) (brk_r13 e)).mono ?_
        rintro e w' ⟨rfl, hb⟩
        exact ⟨by rw [decide_eq_false (by unfold Brk; omega)], hb⟩
    ·
      refine (leaf_bool (cells := [at8 226 226, at8 129 255]) noNum follows fns hw (by decide) (by simp only [List.length_cons, List.length_nil]; omega) hi (win2 hx hy ⟨h01, h02⟩ ⟨h11, h12⟩) (brk_r14 e)).mono ?_
      rintro e w' ⟨rfl, hb⟩
      exact ⟨by rw [decide_eq_false (by unfold Brk; omega)], hb⟩
  ·
    refine (leaf_bool (cells := [at8 227 255]) noNum follows fns hw (by decide) (by simp only [List.length_cons, List.length_nil]; omega) hi (win1 hx h01 h02) (brk_r15 e)).mono ?_
    rintro e w' ⟨rfl, hb⟩
    exact ⟨by rw [decide_eq_false (by unfold Brk; omega)], hb⟩
theorem breakz_r0 (e : TypeId) : chkB Try.prog okf 26 e [at8 0 0] true = true := by kernel_rfl
theorem breakz_r1 (e : TypeId) : chkB Try.prog okf 26 e [at8 1 9] false = true := by kernel_rfl
theorem breakz_r2 (e : TypeId) : chkB Try.prog okf 26 e [at8 10 10] true = true := by kernel_rfl
theorem breakz_r3 (e : TypeId) : chkB Try.prog okf 26 e [at8 11 12] false = true := by kernel_rfl
theorem breakz_r4 (e : TypeId) : chkB Try.prog okf 26 e [at8 13 13] true = true := by kernel_rfl
theorem breakz_r5 (e : TypeId) : chkB Try.prog okf 26 e [at8 14 193] false = true := by kernel_rfl
theorem breakz_r6 (e : TypeId) : chkB Try.prog okf 26 e [at8 194 194, at8 0 132] false = true := by kernel_rfl
theorem breakz_r7 (e : TypeId) : chkB Try.prog okf 26 e [at8 194 194, at8 133 133] true = true := by kernel_rfl
theorem breakz_r8 (e : TypeId) : chkB Try.prog okf 26 e [at8 194 194, at8 134 255] false = true := by kernel_rfl
theorem breakz_r9 (e : TypeId) : chkB Try.prog okf 26 e [at8 195 225] false = true := by kernel_rfl
theorem breakz_r10 (e : TypeId) : chkB Try.prog okf 26 e [at8 226 226, at8 0 127] false = true := by kernel_rfl
theorem breakz_r11 (e : TypeId) : chkB Try.prog okf 26 e [at8 226 226, at8 128 128, at8 0 167] false = true := by kernel_rfl
theorem breakz_r12 (e : TypeId) : chkB Try.prog okf 26 e [at8 226 226, at8 128 128, at8 168 168] true = true := by kernel_rfl
theorem breakz_r13 (e : TypeId) : chkB Try.prog okf 26 e [at8 226 226, at8 128 128, at8 169 169] true = true := by kernel_rfl
theorem breakz_r14 (e : TypeId) : chkB Try.prog okf 26 e [at8 226 226, at8 128 128, at8 170 255] false = true := by kernel_rfl
theorem breakz_r15 (e : TypeId) : chkB Try.prog okf 26 e [at8 226 226, at8 129 255] false = true := by kernel_rfl
theorem breakz_r16 (e : TypeId) : chkB Try.prog okf 26 e [at8 227 255] false = true := by kernel_rfl
theorem breakz_any {w : World} {b off i n cap : Nat} {e : TypeId} {C : Array Value} {fr : Nat × Nat} {x y z : Int} (hw : w.heap[b]? = some (.cells C e fr)) (hn : i + 3 ≤ n) (hi : i ≤ 2 ^ 61)
    (hx : C[off + i]? = some (.int .u8 x)) (qx : 0 ≤ x ∧ x ≤ 255)
    (hy : C[1 + (off + i)]? = some (.int .u8 y)) (qy : 0 ≤ y ∧ y ≤ 255)
    (hz : C[2 + (off + i)]? = some (.int .u8 z)) (qz : 0 ≤ z ∧ z ≤ 255)
    : Calls Try.prog 26 #[.slice (some ⟨b, off, none⟩) n cap, .int .i64 i] w fun e w' => e = .returned (.bool (decide (Brk x y z ∨ x = 0))) ∧ RowKit.Below w.heap.size w w' := by
  rcases (show 0 ≤ x ∧ x ≤ 0 ∨ 1 ≤ x ∧ x ≤ 9 ∨ 10 ≤ x ∧ x ≤ 10 ∨ 11 ≤ x ∧ x ≤ 12 ∨ 13 ≤ x ∧ x ≤ 13 ∨ 14 ≤ x ∧ x ≤ 193 ∨ 194 ≤ x ∧ x ≤ 194 ∨ 195 ≤ x ∧ x ≤ 225 ∨ 226 ≤ x ∧ x ≤ 226 ∨ 227 ≤ x ∧ x ≤ 255 by omega) with ⟨h01, h02⟩ | ⟨h01, h02⟩ | ⟨h01, h02⟩ | ⟨h01, h02⟩ | ⟨h01, h02⟩ | ⟨h01, h02⟩ | ⟨h01, h02⟩ | ⟨h01, h02⟩ | ⟨h01, h02⟩ | ⟨h01, h02⟩
  ·
    refine (leaf_bool (cells := [at8 0 0]) noNum follows fns hw (by decide) (by simp only [List.length_cons, List.length_nil]; omega) hi (win1 hx h01 h02) (breakz_r0 e)).mono ?_
    rintro e w' ⟨rfl, hb⟩
    exact ⟨by rw [decide_eq_true (by unfold Brk; omega)], hb⟩
  ·
    refine (leaf_bool (cells := [at8 1 9]) noNum follows fns hw (by decide) (by simp only [List.length_cons, List.length_nil]; omega) hi (win1 hx h01 h02) (breakz_r1 e)).mono ?_
    rintro e w' ⟨rfl, hb⟩
    exact ⟨by rw [decide_eq_false (by unfold Brk; omega)], hb⟩
  ·
    refine (leaf_bool (cells := [at8 10 10]) noNum follows fns hw (by decide) (by simp only [List.length_cons, List.length_nil]; omega) hi (win1 hx h01 h02) (breakz_r2 e)).mono ?_
    rintro e w' ⟨rfl, hb⟩
    exact ⟨by rw [decide_eq_true (by unfold Brk; omega)], hb⟩
  ·
    refine (leaf_bool (cells := [at8 11 12]) noNum follows fns hw (by decide) (by simp only [List.length_cons, List.length_nil]; omega) hi (win1 hx h01 h02) (breakz_r3 e)).mono ?_
    rintro e w' ⟨rfl, hb⟩
    exact ⟨by rw [decide_eq_false (by unfold Brk; omega)], hb⟩
  ·
    refine (leaf_bool (cells := [at8 13 13]) noNum follows fns hw (by decide) (by simp only [List.length_cons, List.length_nil]; omega) hi (win1 hx h01 h02) (breakz_r4 e)).mono ?_
    rintro e w' ⟨rfl, hb⟩
    exact ⟨by rw [decide_eq_true (by unfold Brk; omega)], hb⟩
  ·
    refine (leaf_bool (cells := [at8 14 193]) noNum follows fns hw (by decide) (by simp only [List.length_cons, List.length_nil]; omega) hi (win1 hx h01 h02) (breakz_r5 e)).mono ?_
    rintro e w' ⟨rfl, hb⟩
    exact ⟨by rw [decide_eq_false (by unfold Brk; omega)], hb⟩
  ·
    rcases (show 0 ≤ y ∧ y ≤ 132 ∨ 133 ≤ y ∧ y ≤ 133 ∨ 134 ≤ y ∧ y ≤ 255 by omega) with ⟨h11, h12⟩ | ⟨h11, h12⟩ | ⟨h11, h12⟩
    ·
      refine (leaf_bool (cells := [at8 194 194, at8 0 132]) noNum follows fns hw (by decide) (by simp only [List.length_cons, List.length_nil]; omega) hi (win2 hx hy ⟨h01, h02⟩ ⟨h11, h12⟩) (breakz_r6 e)).mono ?_
      rintro e w' ⟨rfl, hb⟩
      exact ⟨by rw [decide_eq_false (by unfold Brk; omega)], hb⟩
    ·
      refine (leaf_bool (cells := [at8 194 194, at8 133 133]) noNum follows fns hw (by decide) (by simp only [List.length_cons, List.length_nil]; omega) hi (win2 hx hy ⟨h01, h02⟩ ⟨h11, h12⟩) (breakz_r7 e)).mono ?_
      rintro e w' ⟨rfl, hb⟩
      exact ⟨by rw [decide_eq_true (by unfold Brk; omega)], hb⟩
    ·
      refine (leaf_bool (cells := [at8 194 194, at8 134 255]) noNum follows fns hw (by decide) (by simp only [List.length_cons, List.length_nil]; omega) hi (win2 hx hy ⟨h01, h02⟩ ⟨h11, h12⟩) (breakz_r8 e)).mono ?_
      rintro e w' ⟨rfl, hb⟩
      exact ⟨by rw [decide_eq_false (by unfold Brk; omega)], hb⟩
  ·
    refine (leaf_bool (cells := [at8 195 225]) noNum follows fns hw (by decide) (by simp only [List.length_cons, List.length_nil]; omega) hi (win1 hx h01 h02) (breakz_r9 e)).mono ?_
    rintro e w' ⟨rfl, hb⟩
    exact ⟨by rw [decide_eq_false (by unfold Brk; omega)], hb⟩
  ·
    rcases (show 0 ≤ y ∧ y ≤ 127 ∨ 128 ≤ y ∧ y ≤ 128 ∨ 129 ≤ y ∧ y ≤ 255 by omega) with ⟨h11, h12⟩ | ⟨h11, h12⟩ | ⟨h11, h12⟩
    ·
      refine (leaf_bool (cells := [at8 226 226, at8 0 127]) noNum follows fns hw (by decide) (by simp only [List.length_cons, List.length_nil]; omega) hi (win2 hx hy ⟨h01, h02⟩ ⟨h11, h12⟩) (breakz_r10 e)).mono ?_
      rintro e w' ⟨rfl, hb⟩
      exact ⟨by rw [decide_eq_false (by unfold Brk; omega)], hb⟩
    ·
      rcases (show 0 ≤ z ∧ z ≤ 167 ∨ 168 ≤ z ∧ z ≤ 168 ∨ 169 ≤ z ∧ z ≤ 169 ∨ 170 ≤ z ∧ z ≤ 255 by omega) with ⟨h21, h22⟩ | ⟨h21, h22⟩ | ⟨h21, h22⟩ | ⟨h21, h22⟩
      ·
        refine (leaf_bool (cells := [at8 226 226, at8 128 128, at8 0 167]) noNum follows fns hw (by decide) (by simp only [List.length_cons, List.length_nil]; omega) hi (win3 hx hy hz ⟨h01, h02⟩ ⟨h11, h12⟩ ⟨h21, h22⟩) (breakz_r11 e)).mono ?_
        rintro e w' ⟨rfl, hb⟩
        exact ⟨by rw [decide_eq_false (by unfold Brk; omega)], hb⟩
      ·
        refine (leaf_bool (cells := [at8 226 226, at8 128 128, at8 168 168]) noNum follows fns hw (by decide) (by simp only [List.length_cons, List.length_nil]; omega) hi (win3 hx hy hz ⟨h01, h02⟩ ⟨h11, h12⟩ ⟨h21, h22⟩) (breakz_r12 e)).mono ?_
        rintro e w' ⟨rfl, hb⟩
        exact ⟨by rw [decide_eq_true (by unfold Brk; omega)], hb⟩
      ·
        refine (leaf_bool (cells := [at8 226 226, at8 128 128, at8 169 169]) noNum follows fns hw (by decide) (by simp only [List.length_cons, List.length_nil]; omega) hi (win3 hx hy hz ⟨h01, h02⟩ ⟨h11, h12⟩ ⟨h21, h22⟩) (breakz_r13 e)).mono ?_
        rintro e w' ⟨rfl, hb⟩
        exact ⟨by rw [decide_eq_true (by unfold Brk; omega)], hb⟩
      ·
        refine (leaf_bool (cells := [at8 226 226, at8 128 128, at8 170 255]) noNum follows fns hw (by decide) (by simp only [List.length_cons, List.length_nil]; omega) hi (win3 hx hy hz ⟨h01, h02⟩ ⟨h11, h12⟩ ⟨h21, h22⟩) (breakz_r14 e)).mono ?_
        rintro e w' ⟨rfl, hb⟩
        exact ⟨by rw [decide_eq_false (by unfold Brk; omega)], hb⟩
    ·
      refine (leaf_bool (cells := [at8 226 226, at8 129 255]) noNum follows fns hw (by decide) (by simp only [List.length_cons, List.length_nil]; omega) hi (win2 hx hy ⟨h01, h02⟩ ⟨h11, h12⟩) (breakz_r15 e)).mono ?_
      rintro e w' ⟨rfl, hb⟩
      exact ⟨by rw [decide_eq_false (by unfold Brk; omega)], hb⟩
  ·
    refine (leaf_bool (cells := [at8 227 255]) noNum follows fns hw (by decide) (by simp only [List.length_cons, List.length_nil]; omega) hi (win1 hx h01 h02) (breakz_r16 e)).mono ?_
    rintro e w' ⟨rfl, hb⟩
    exact ⟨by rw [decide_eq_false (by unfold Brk; omega)], hb⟩
theorem spacez_r0 (e : TypeId) : chkB Try.prog okf 27 e [at8 0 0] true = true := by kernel_rfl
theorem spacez_r1 (e : TypeId) : chkB Try.prog okf 27 e [at8 1 9] false = true := by kernel_rfl
theorem spacez_r2 (e : TypeId) : chkB Try.prog okf 27 e [at8 10 10] true = true := by kernel_rfl
theorem spacez_r3 (e : TypeId) : chkB Try.prog okf 27 e [at8 11 12] false = true := by kernel_rfl
theorem spacez_r4 (e : TypeId) : chkB Try.prog okf 27 e [at8 13 13] true = true := by kernel_rfl
theorem spacez_r5 (e : TypeId) : chkB Try.prog okf 27 e [at8 14 31] false = true := by kernel_rfl
theorem spacez_r6 (e : TypeId) : chkB Try.prog okf 27 e [at8 32 32] true = true := by kernel_rfl
theorem spacez_r7 (e : TypeId) : chkB Try.prog okf 27 e [at8 33 193] false = true := by kernel_rfl
theorem spacez_r8 (e : TypeId) : chkB Try.prog okf 27 e [at8 194 194, at8 0 132] false = true := by kernel_rfl
theorem spacez_r9 (e : TypeId) : chkB Try.prog okf 27 e [at8 194 194, at8 133 133] true = true := by kernel_rfl
theorem spacez_r10 (e : TypeId) : chkB Try.prog okf 27 e [at8 194 194, at8 134 255] false = true := by kernel_rfl
theorem spacez_r11 (e : TypeId) : chkB Try.prog okf 27 e [at8 195 225] false = true := by kernel_rfl
theorem spacez_r12 (e : TypeId) : chkB Try.prog okf 27 e [at8 226 226, at8 0 127] false = true := by kernel_rfl
theorem spacez_r13 (e : TypeId) : chkB Try.prog okf 27 e [at8 226 226, at8 128 128, at8 0 167] false = true := by kernel_rfl
theorem spacez_r14 (e : TypeId) : chkB Try.prog okf 27 e [at8 226 226, at8 128 128, at8 168 168] true = true := by kernel_rfl
theorem spacez_r15 (e : TypeId) : chkB Try.prog okf 27 e [at8 226 226, at8 128 128, at8 169 169] true = true := by kernel_rfl
theorem spacez_r16 (e : TypeId) : chkB Try.prog okf 27 e [at8 226 226, at8 128 128, at8 170 255] false = true := by kernel_rfl
theorem spacez_r17 (e : TypeId) : chkB Try.prog okf 27 e [at8 226 226, at8 129 255] false = true := by kernel_rfl
theorem spacez_r18 (e : TypeId) : chkB Try.prog okf 27 e [at8 227 255] false = true := by kernel_rfl
theorem spacez_any {w : World} {b off i n cap : Nat} {e : TypeId} {C : Array Value} {fr : Nat × Nat} {x y z : Int} (hw : w.heap[b]? = some (.cells C e fr)) (hn : i + 3 ≤ n) (hi : i ≤ 2 ^ 61)
    (hx : C[off + i]? = some (.int .u8 x)) (qx : 0 ≤ x ∧ x ≤ 255)
    (hy : C[1 + (off + i)]? = some (.int .u8 y)) (qy : 0 ≤ y ∧ y ≤ 255)
    (hz : C[2 + (off + i)]? = some (.int .u8 z)) (qz : 0 ≤ z ∧ z ≤ 255)
    : Calls Try.prog 27 #[.slice (some ⟨b, off, none⟩) n cap, .int .i64 i] w fun e w' => e = .returned (.bool (decide (Brk x y z ∨ x = 0 ∨ x = 32))) ∧ RowKit.Below w.heap.size w w' := by
  rcases (show 0 ≤ x ∧ x ≤ 0 ∨ 1 ≤ x ∧ x ≤ 9 ∨ 10 ≤ x ∧ x ≤ 10 ∨ 11 ≤ x ∧ x ≤ 12 ∨ 13 ≤ x ∧ x ≤ 13 ∨ 14 ≤ x ∧ x ≤ 31 ∨ 32 ≤ x ∧ x ≤ 32 ∨ 33 ≤ x ∧ x ≤ 193 ∨ 194 ≤ x ∧ x ≤ 194 ∨ 195 ≤ x ∧ x ≤ 225 ∨ 226 ≤ x ∧ x ≤ 226 ∨ 227 ≤ x ∧ x ≤ 255 by omega) with ⟨h01, h02⟩ | ⟨h01, h02⟩ | ⟨h01, h02⟩ | ⟨h01, h02⟩ | ⟨h01, h02⟩ | ⟨h01, h02⟩ | ⟨h01, h02⟩ | ⟨h01, h02⟩ | ⟨h01, h02⟩ | ⟨h01, h02⟩ | ⟨h01, h02⟩ | ⟨h01, h02⟩
  ·
    refine (leaf_bool (cells := [at8 0 0]) noNum follows fns hw (by decide) (by simp only [List.length_cons, List.length_nil]; omega) hi (win1 hx h01 h02) (spacez_r0 e)).mono ?_
    rintro e w' ⟨rfl, hb⟩
    exact ⟨by rw [decide_eq_true (by unfold Brk; omega)], hb⟩
  ·
    refine (leaf_bool (cells := [at8 1 9]) noNum follows fns hw (by decide) (by simp only [List.length_cons, List.length_nil]; omega) hi (win1 hx h01 h02) (spacez_r1 e)).mono ?_
    rintro e w' ⟨rfl, hb⟩
    exact ⟨by rw [decide_eq_false (by unfold Brk; omega)], hb⟩
  ·
    refine (leaf_bool (cells := [at8 10 10]) noNum follows fns hw (by decide) (by simp only [List.length_cons, List.length_nil]; omega) hi (win1 hx h01 h02) (spacez_r2 e)).mono ?_
    rintro e w' ⟨rfl, hb⟩
    exact ⟨by rw [decide_eq_true (by unfold Brk; omega)], hb⟩
  ·
    refine (leaf_bool (cells := [at8 11 12]) noNum follows fns hw (by decide) (by simp only [List.length_cons, List.length_nil]; omega) hi (win1 hx h01 h02) (spacez_r3 e)).mono ?_
    rintro e w' ⟨rfl, hb⟩
    exact ⟨by rw [decide_eq_false (by unfold Brk; omega)], hb⟩
  ·
    refine (leaf_bool (cells := [at8 13 13]) noNum follows fns hw (by decide) (by simp only [List.length_cons, List.length_nil]; omega) hi (win1 hx h01 h02) (spacez_r4 e)).mono ?_
    rintro e w' ⟨rfl, hb⟩
    exact ⟨by rw [decide_eq_true (by unfold Brk; omega)], hb⟩
  ·
    refine (leaf_bool (cells := [at8 14 31]) noNum follows fns hw (by decide) (by simp only [List.length_cons, List.length_nil]; omega) hi (win1 hx h01 h02) (spacez_r5 e)).mono ?_
    rintro e w' ⟨rfl, hb⟩
    exact ⟨by rw [decide_eq_false (by unfold Brk; omega)], hb⟩
  ·
    refine (leaf_bool (cells := [at8 32 32]) noNum follows fns hw (by decide) (by simp only [List.length_cons, List.length_nil]; omega) hi (win1 hx h01 h02) (spacez_r6 e)).mono ?_
    rintro e w' ⟨rfl, hb⟩
    exact ⟨by rw [decide_eq_true (by unfold Brk; omega)], hb⟩
  ·
    refine (leaf_bool (cells := [at8 33 193]) noNum follows fns hw (by decide) (by simp only [List.length_cons, List.length_nil]; omega) hi (win1 hx h01 h02) (spacez_r7 e)).mono ?_
    rintro e w' ⟨rfl, hb⟩
    exact ⟨by rw [decide_eq_false (by unfold Brk; omega)], hb⟩
  ·
    rcases (show 0 ≤ y ∧ y ≤ 132 ∨ 133 ≤ y ∧ y ≤ 133 ∨ 134 ≤ y ∧ y ≤ 255 by omega) with ⟨h11, h12⟩ | ⟨h11, h12⟩ | ⟨h11, h12⟩
    ·
      refine (leaf_bool (cells := [at8 194 194, at8 0 132]) noNum follows fns hw (by decide) (by simp only [List.length_cons, List.length_nil]; omega) hi (win2 hx hy ⟨h01, h02⟩ ⟨h11, h12⟩) (spacez_r8 e)).mono ?_
      rintro e w' ⟨rfl, hb⟩
      exact ⟨by rw [decide_eq_false (by unfold Brk; omega)], hb⟩
    ·
      refine (leaf_bool (cells := [at8 194 194, at8 133 133]) noNum follows fns hw (by decide) (by simp only [List.length_cons, List.length_nil]; omega) hi (win2 hx hy ⟨h01, h02⟩ ⟨h11, h12⟩) (spacez_r9 e)).mono ?_
      rintro e w' ⟨rfl, hb⟩
      exact ⟨by rw [decide_eq_true (by unfold Brk; omega)], hb⟩
    ·
      refine (leaf_bool (cells := [at8 194 194, at8 134 255]) noNum follows fns hw (by decide) (by simp only [List.length_cons, List.length_nil]; omega) hi (win2 hx hy ⟨h01, h02⟩ ⟨h11, h12⟩) (spacez_r10 e)).mono ?_
      rintro e w' ⟨rfl, hb⟩
      exact ⟨by rw [decide_eq_false (by unfold Brk; omega)], hb⟩
  ·
    refine (leaf_bool (cells := [at8 195 225]) noNum follows fns hw (by decide) (by simp only [List.length_cons, List.length_nil]; omega) hi (win1 hx h01 h02) (spacez_r11 e)).mono ?_
    rintro e w' ⟨rfl, hb⟩
    exact ⟨by rw [decide_eq_false (by unfold Brk; omega)], hb⟩
  ·
    rcases (show 0 ≤ y ∧ y ≤ 127 ∨ 128 ≤ y ∧ y ≤ 128 ∨ 129 ≤ y ∧ y ≤ 255 by omega) with ⟨h11, h12⟩ | ⟨h11, h12⟩ | ⟨h11, h12⟩
    ·
      refine (leaf_bool (cells := [at8 226 226, at8 0 127]) noNum follows fns hw (by decide) (by simp only [List.length_cons, List.length_nil]; omega) hi (win2 hx hy ⟨h01, h02⟩ ⟨h11, h12⟩) (spacez_r12 e)).mono ?_
      rintro e w' ⟨rfl, hb⟩
      exact ⟨by rw [decide_eq_false (by unfold Brk; omega)], hb⟩
    ·
      rcases (show 0 ≤ z ∧ z ≤ 167 ∨ 168 ≤ z ∧ z ≤ 168 ∨ 169 ≤ z ∧ z ≤ 169 ∨ 170 ≤ z ∧ z ≤ 255 by omega) with ⟨h21, h22⟩ | ⟨h21, h22⟩ | ⟨h21, h22⟩ | ⟨h21, h22⟩
      ·
        refine (leaf_bool (cells := [at8 226 226, at8 128 128, at8 0 167]) noNum follows fns hw (by decide) (by simp only [List.length_cons, List.length_nil]; omega) hi (win3 hx hy hz ⟨h01, h02⟩ ⟨h11, h12⟩ ⟨h21, h22⟩) (spacez_r13 e)).mono ?_
        rintro e w' ⟨rfl, hb⟩
        exact ⟨by rw [decide_eq_false (by unfold Brk; omega)], hb⟩
      ·
        refine (leaf_bool (cells := [at8 226 226, at8 128 128, at8 168 168]) noNum follows fns hw (by decide) (by simp only [List.length_cons, List.length_nil]; omega) hi (win3 hx hy hz ⟨h01, h02⟩ ⟨h11, h12⟩ ⟨h21, h22⟩) (spacez_r14 e)).mono ?_
        rintro e w' ⟨rfl, hb⟩
        exact ⟨by rw [decide_eq_true (by unfold Brk; omega)], hb⟩
      ·
        refine (leaf_bool (cells := [at8 226 226, at8 128 128, at8 169 169]) noNum follows fns hw (by decide) (by simp only [List.length_cons, List.length_nil]; omega) hi (win3 hx hy hz ⟨h01, h02⟩ ⟨h11, h12⟩ ⟨h21, h22⟩) (spacez_r15 e)).mono ?_
        rintro e w' ⟨rfl, hb⟩
        exact ⟨by rw [decide_eq_true (by unfold Brk; omega)], hb⟩
      ·
        refine (leaf_bool (cells := [at8 226 226, at8 128 128, at8 170 255]) noNum follows fns hw (by decide) (by simp only [List.length_cons, List.length_nil]; omega) hi (win3 hx hy hz ⟨h01, h02⟩ ⟨h11, h12⟩ ⟨h21, h22⟩) (spacez_r16 e)).mono ?_
        rintro e w' ⟨rfl, hb⟩
        exact ⟨by rw [decide_eq_false (by unfold Brk; omega)], hb⟩
    ·
      refine (leaf_bool (cells := [at8 226 226, at8 129 255]) noNum follows fns hw (by decide) (by simp only [List.length_cons, List.length_nil]; omega) hi (win2 hx hy ⟨h01, h02⟩ ⟨h11, h12⟩) (spacez_r17 e)).mono ?_
      rintro e w' ⟨rfl, hb⟩
      exact ⟨by rw [decide_eq_false (by unfold Brk; omega)], hb⟩
  ·
    refine (leaf_bool (cells := [at8 227 255]) noNum follows fns hw (by decide) (by simp only [List.length_cons, List.length_nil]; omega) hi (win1 hx h01 h02) (spacez_r18 e)).mono ?_
    rintro e w' ⟨rfl, hb⟩
    exact ⟨by rw [decide_eq_false (by unfold Brk; omega)], hb⟩
theorem blankz_r0 (e : TypeId) : chkB Try.prog okf 28 e [at8 0 0] true = true := by kernel_rfl
theorem blankz_r1 (e : TypeId) : chkB Try.prog okf 28 e [at8 1 8] false = true := by kernel_rfl
theorem blankz_r2 (e : TypeId) : chkB Try.prog okf 28 e [at8 9 9] true = true := by kernel_rfl
theorem blankz_r3 (e : TypeId) : chkB Try.prog okf 28 e [at8 10 10] true = true := by kernel_rfl
theorem blankz_r4 (e : TypeId) : chkB Try.prog okf 28 e [at8 11 12] false = true := by kernel_rfl
theorem blankz_r5 (e : TypeId) : chkB Try.prog okf 28 e [at8 13 13] true = true := by kernel_rfl
theorem blankz_r6 (e : TypeId) : chkB Try.prog okf 28 e [at8 14 31] false = true := by kernel_rfl
theorem blankz_r7 (e : TypeId) : chkB Try.prog okf 28 e [at8 32 32] true = true := by kernel_rfl
theorem blankz_r8 (e : TypeId) : chkB Try.prog okf 28 e [at8 33 193] false = true := by kernel_rfl
theorem blankz_r9 (e : TypeId) : chkB Try.prog okf 28 e [at8 194 194, at8 0 132] false = true := by kernel_rfl
theorem blankz_r10 (e : TypeId) : chkB Try.prog okf 28 e [at8 194 194, at8 133 133] true = true := by kernel_rfl
theorem blankz_r11 (e : TypeId) : chkB Try.prog okf 28 e [at8 194 194, at8 134 255] false = true := by kernel_rfl
theorem blankz_r12 (e : TypeId) : chkB Try.prog okf 28 e [at8 195 225] false = true := by kernel_rfl
theorem blankz_r13 (e : TypeId) : chkB Try.prog okf 28 e [at8 226 226, at8 0 127] false = true := by kernel_rfl
theorem blankz_r14 (e : TypeId) : chkB Try.prog okf 28 e [at8 226 226, at8 128 128, at8 0 167] false = true := by kernel_rfl
theorem blankz_r15 (e : TypeId) : chkB Try.prog okf 28 e [at8 226 226, at8 128 128, at8 168 168] true = true := by kernel_rfl
theorem blankz_r16 (e : TypeId) : chkB Try.prog okf 28 e [at8 226 226, at8 128 128, at8 169 169] true = true := by kernel_rfl
theorem blankz_r17 (e : TypeId) : chkB Try.prog okf 28 e [at8 226 226, at8 128 128, at8 170 255] false = true := by kernel_rfl
theorem blankz_r18 (e : TypeId) : chkB Try.prog okf 28 e [at8 226 226, at8 129 255] false = true := by kernel_rfl
theorem blankz_r19 (e : TypeId) : chkB Try.prog okf 28 e [at8 227 255] false = true := by kernel_rfl
theorem blankz_any {w : World} {b off i n cap : Nat} {e : TypeId} {C : Array Value} {fr : Nat × Nat} {x y z : Int} (hw : w.heap[b]? = some (.cells C e fr)) (hn : i + 3 ≤ n) (hi : i ≤ 2 ^ 61)
    (hx : C[off + i]? = some (.int .u8 x)) (qx : 0 ≤ x ∧ x ≤ 255)
    (hy : C[1 + (off + i)]? = some (.int .u8 y)) (qy : 0 ≤ y ∧ y ≤ 255)
    (hz : C[2 + (off + i)]? = some (.int .u8 z)) (qz : 0 ≤ z ∧ z ≤ 255)
    : Calls Try.prog 28 #[.slice (some ⟨b, off, none⟩) n cap, .int .i64 i] w fun e w' => e = .returned (.bool (decide (Brk x y z ∨ x = 0 ∨ x = 32 ∨ x = 9))) ∧ RowKit.Below w.heap.size w w' := by
  rcases (show 0 ≤ x ∧ x ≤ 0 ∨ 1 ≤ x ∧ x ≤ 8 ∨ 9 ≤ x ∧ x ≤ 9 ∨ 10 ≤ x ∧ x ≤ 10 ∨ 11 ≤ x ∧ x ≤ 12 ∨ 13 ≤ x ∧ x ≤ 13 ∨ 14 ≤ x ∧ x ≤ 31 ∨ 32 ≤ x ∧ x ≤ 32 ∨ 33 ≤ x ∧ x ≤ 193 ∨ 194 ≤ x ∧ x ≤ 194 ∨ 195 ≤ x ∧ x ≤ 225 ∨ 226 ≤ x ∧ x ≤ 226 ∨ 227 ≤ x ∧ x ≤ 255 by omega) with ⟨h01, h02⟩ | ⟨h01, h02⟩ | ⟨h01, h02⟩ | ⟨h01, h02⟩ | ⟨h01, h02⟩ | ⟨h01, h02⟩ | ⟨h01, h02⟩ | ⟨h01, h02⟩ | ⟨h01, h02⟩ | ⟨h01, h02⟩ | ⟨h01, h02⟩ | ⟨h01, h02⟩ | ⟨h01, h02⟩
  ·
    refine (leaf_bool (cells := [at8 0 0]) noNum follows fns hw (by decide) (by simp only [List.length_cons, List.length_nil]; omega) hi (win1 hx h01 h02) (blankz_r0 e)).mono ?_
    rintro e w' ⟨rfl, hb⟩
    exact ⟨by rw [decide_eq_true (by unfold Brk; omega)], hb⟩
  ·
    refine (leaf_bool (cells := [at8 1 8]) noNum follows fns hw (by decide) (by simp only [List.length_cons, List.length_nil]; omega) hi (win1 hx h01 h02) (blankz_r1 e)).mono ?_
    rintro e w' ⟨rfl, hb⟩
    exact ⟨by rw [decide_eq_false (by unfold Brk; omega)], hb⟩
  ·
    refine (leaf_bool (cells := [at8 9 9]) noNum follows fns hw (by decide) (by simp only [List.length_cons, List.length_nil]; omega) hi (win1 hx h01 h02) (blankz_r2 e)).mono ?_
    rintro e w' ⟨rfl, hb⟩
    exact ⟨by rw [decide_eq_true (by unfold Brk; omega)], hb⟩
  ·
    refine (leaf_bool (cells := [at8 10 10]) noNum follows fns hw (by decide) (by simp only [List.length_cons, List.length_nil]; omega) hi (win1 hx h01 h02) (blankz_r3 e)).mono ?_
    rintro e w' ⟨rfl, hb⟩
    exact ⟨by rw [decide_eq_true (by unfold Brk; omega)], hb⟩
  ·
    refine (leaf_bool (cells := [at8 11 12]) noNum follows fns hw (by decide) (by simp only [List.length_cons, List.length_nil]; omega) hi (win1 hx h01 h02) (blankz_r4 e)).mono ?_
    rintro e w' ⟨rfl, hb⟩
    exact ⟨by rw [decide_eq_false (by unfold Brk; omega)], hb⟩
  ·
    refine (leaf_bool (cells := [at8 13 13]) noNum follows fns hw (by decide) (by simp only [List.length_cons, List.length_nil]; omega) hi (win1 hx h01 h02) (blankz_r5 e)).mono ?_
    rintro e w' ⟨rfl, hb⟩
    exact ⟨by rw [decide_eq_true (by unfold Brk; omega)], hb⟩
  ·
    refine (leaf_bool (cells := [at8 14 31]) noNum follows fns hw (by decide) (by simp only [List.length_cons, List.length_nil]; omega) hi (win1 hx h01 h02) (blankz_r6 e)).mono ?_
    rintro e w' ⟨rfl, hb⟩
    exact ⟨by rw [decide_eq_false (by unfold Brk; omega)], hb⟩
  ·
    refine (leaf_bool (cells := [at8 32 32]) noNum follows fns hw (by decide) (by simp only [List.length_cons, List.length_nil]; omega) hi (win1 hx h01 h02) (blankz_r7 e)).mono ?_
    rintro e w' ⟨rfl, hb⟩
    exact ⟨by rw [decide_eq_true (by unfold Brk; omega)], hb⟩
  ·
    refine (leaf_bool (cells := [at8 33 193]) noNum follows fns hw (by decide) (by simp only [List.length_cons, List.length_nil]; omega) hi (win1 hx h01 h02) (blankz_r8 e)).mono ?_
    rintro e w' ⟨rfl, hb⟩
    exact ⟨by rw [decide_eq_false (by unfold Brk; omega)], hb⟩
  ·
    rcases (show 0 ≤ y ∧ y ≤ 132 ∨ 133 ≤ y ∧ y ≤ 133 ∨ 134 ≤ y ∧ y ≤ 255 by omega) with ⟨h11, h12⟩ | ⟨h11, h12⟩ | ⟨h11, h12⟩
    ·
      refine (leaf_bool (cells := [at8 194 194, at8 0 132]) noNum follows fns hw (by decide) (by simp only [List.length_cons, List.length_nil]; omega) hi (win2 hx hy ⟨h01, h02⟩ ⟨h11, h12⟩) (blankz_r9 e)).mono ?_
      rintro e w' ⟨rfl, hb⟩
      exact ⟨by rw [decide_eq_false (by unfold Brk; omega)], hb⟩
    ·
      refine (leaf_bool (cells := [at8 194 194, at8 133 133]) noNum follows fns hw (by decide) (by simp only [List.length_cons, List.length_nil]; omega) hi (win2 hx hy ⟨h01, h02⟩ ⟨h11, h12⟩) (blankz_r10 e)).mono ?_
      rintro e w' ⟨rfl, hb⟩
      exact ⟨by rw [decide_eq_true (by unfold Brk; omega)], hb⟩
    ·
      refine (leaf_bool (cells := [at8 194 194, at8 134 255]) noNum follows fns hw (by decide) (by simp only [List.length_cons, List.length_nil]; omega) hi (win2 hx hy ⟨h01, h02⟩ ⟨h11, h12⟩) (blankz_r11 e)).mono ?_
      rintro e w' ⟨rfl, hb⟩
      exact ⟨by rw [decide_eq_false (by unfold Brk; omega)], hb⟩
  ·
    refine (leaf_bool (cells := [at8 195 225]) noNum follows fns hw (by decide) (by simp only [List.length_cons, List.length_nil]; omega) hi (win1 hx h01 h02) (blankz_r12 e)).mono ?_
    rintro e w' ⟨rfl, hb⟩
    exact ⟨by rw [decide_eq_false (by unfold Brk; omega)], hb⟩
  ·
    rcases (show 0 ≤ y ∧ y ≤ 127 ∨ 128 ≤ y ∧ y ≤ 128 ∨ 129 ≤ y ∧ y ≤ 255 by omega) with ⟨h11, h12⟩ | ⟨h11, h12⟩ | ⟨h11, h12⟩
    ·
      refine (leaf_bool (cells := [at8 226 226, at8 0 127]) noNum follows fns hw (by decide) (by simp only [List.length_cons, List.length_nil]; omega) hi (win2 hx hy ⟨h01, h02⟩ ⟨h11, h12⟩) (blankz_r13 e)).mono ?_
      rintro e w' ⟨rfl, hb⟩
      exact ⟨by rw [decide_eq_false (by unfold Brk; omega)], hb⟩
    ·
      rcases (show 0 ≤ z ∧ z ≤ 167 ∨ 168 ≤ z ∧ z ≤ 168 ∨ 169 ≤ z ∧ z ≤ 169 ∨ 170 ≤ z ∧ z ≤ 255 by omega) with ⟨h21, h22⟩ | ⟨h21, h22⟩ | ⟨h21, h22⟩ | ⟨h21, h22⟩
      ·
        refine (leaf_bool (cells := [at8 226 226, at8 128 128, at8 0 167]) noNum follows fns hw (by decide) (by simp only [List.length_cons, List.length_nil]; omega) hi (win3 hx hy hz ⟨h01, h02⟩ ⟨h11, h12⟩ ⟨h21, h22⟩) (blankz_r14 e)).mono ?_
        rintro e w' ⟨rfl, hb⟩
        exact ⟨by rw [decide_eq_false (by unfold Brk; omega)], hb⟩
      ·
        refine (leaf_bool (cells := [at8 226 226, at8 128 128, at8 168 168]) noNum follows fns hw (by decide) (by simp only [List.length_cons, List.length_nil]; omega) hi (win3 hx hy hz ⟨h01, h02⟩ ⟨h11, h12⟩ ⟨h21, h22⟩) (blankz_r15 e)).mono ?_
        rintro e w' ⟨rfl, hb⟩
        exact ⟨by rw [decide_eq_true (by unfold Brk; omega)], hb⟩
      ·
        refine (leaf_bool (cells := [at8 226 226, at8 128 128, at8 169 169]) noNum follows fns hw (by decide) (by simp only [List.length_cons, List.length_nil]; omega) hi (win3 hx hy hz ⟨h01, h02⟩ ⟨h11, h12⟩ ⟨h21, h22⟩) (blankz_r16 e)).mono ?_
        rintro e w' ⟨rfl, hb⟩
        exact ⟨by rw [decide_eq_true (by unfold Brk; omega)], hb⟩
      ·
        refine (leaf_bool (cells := [at8 226 226, at8 128 128, at8 170 255]) noNum follows fns hw (by decide) (by simp only [List.length_cons, List.length_nil]; omega) hi (win3 hx hy hz ⟨h01, h02⟩ ⟨h11, h12⟩ ⟨h21, h22⟩) (blankz_r17 e)).mono ?_
        rintro e w' ⟨rfl, hb⟩
        exact ⟨by rw [decide_eq_false (by unfold Brk; omega)], hb⟩
    ·
      refine (leaf_bool (cells := [at8 226 226, at8 129 255]) noNum follows fns hw (by decide) (by simp only [List.length_cons, List.length_nil]; omega) hi (win2 hx hy ⟨h01, h02⟩ ⟨h11, h12⟩) (blankz_r18 e)).mono ?_
      rintro e w' ⟨rfl, hb⟩
      exact ⟨by rw [decide_eq_false (by unfold Brk; omega)], hb⟩
  ·
    refine (leaf_bool (cells := [at8 227 255]) noNum follows fns hw (by decide) (by simp only [List.length_cons, List.length_nil]; omega) hi (win1 hx h01 h02) (blankz_r19 e)).mono ?_
    rintro e w' ⟨rfl, hb⟩
    exact ⟨by rw [decide_eq_false (by unfold Brk; omega)], hb⟩
end
end Go.Proofs.LF
