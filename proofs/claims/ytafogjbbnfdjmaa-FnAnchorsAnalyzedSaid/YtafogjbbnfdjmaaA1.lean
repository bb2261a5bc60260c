/- A part of the proof: what functions of the program answer, for all arguments that meet the conditions named in each theorem. -/
import Derived.Test.YtafogjbbnfdjmaaC2
import Derived.Test.YtafogjbbnfdjmaaLH
import Derived.Test.YtafogjbbnfdjmaaAMs
import Derived.WalkSpells
namespace Go.Proofs.A1
open Go.RowKit Go.AM Go.Proofs.C1
set_option linter.unusedVariables false
noncomputable section
def okE (f : Nat) : Bool := Nat.beq f 31 || Nat.ble 53 f && Nat.ble f 61 || Nat.ble 63 f && Nat.ble f 70
def setts : Value := .agg #[.bool false, .bool false, .int .i64 0, .int .i64 0, .int .i64 0, .int .i64 0]
set_option maxRecDepth 100000 in
theorem fnsE : FnsOk Try.prog (fun _ => false) okE := fnsOk_of (by kernel_rfl)
theorem emitter_chk : chkE Try.prog okE 31 [setts, .pointer (some ⟨0, 0, none⟩)] [.slice none 0 0] 29 78 54 [(0, .int .i64 0)] = true := by kernel_rfl
end
/-- An emitter's block: so many cells, none of them frozen. -/
def EB (w : World) (g q : Nat) : Prop := ∃ C fr, w.heap[g]? = some (.cells C 78 fr) ∧ q + 54 ≤ C.size ∧ ∀ i, i < C.size → ¬ (fr.1 ≤ i ∧ i < fr.2)
theorem EB.cell {w : World} {g q : Nat} (h : EB w g q) (k : Nat) (hk : k < 54) : (∃ v, w.cell? ⟨g, q + k, none⟩ = some v) ∧ w.frozen? ⟨g, q + k, none⟩ = false := by
  obtain ⟨C, fr, hw, hs, hf⟩ := h
  refine ⟨⟨C[q + k], by rw [cell_of_row _ _ _ _ _ _ hw, Array.getElem?_eq_getElem (by omega)]⟩, ?_⟩
  have := hf (q + k) (by omega)
  simp only [World.frozen?, hw]
  simp
  omega
theorem set_error (w : World) (g q : Nat) (s : ByteArray) (h : EB w g q) :
    Calls Try.prog 71 #[.pointer (some ⟨g, q, none⟩), .string s] w fun e w' => e = .returned (.bool false) ∧ w'.cell? ⟨g, q, none⟩ = some (.int .i64 7) ∧ Below g w w' := by
  obtain ⟨⟨v0, c0⟩, f0⟩ := h.cell 0 (by omega)
  obtain ⟨⟨v1, c1⟩, f1⟩ := h.cell 1 (by omega)
  rw [Nat.add_zero] at c0 f0
  have H := Lib.hid h
  clear h
  go_enter Try.func71, Try.ntmps71
  go_wp2
  go_ret
  refine ⟨rfl, ?_, ((Below.refl g w).setCell (Nat.le_refl _) _).setCell (Nat.le_refl _) _⟩
  go_simp
def Alnum (x : Int) : Prop := 48 ≤ x ∧ x ≤ 57 ∨ 65 ≤ x ∧ x ≤ 90 ∨ 97 ≤ x ∧ x ≤ 122 ∨ x = 95 ∨ x = 45
instance (x : Int) : Decidable (Alnum x) := by unfold Alnum; infer_instance
def Good (ts : List Int) : Prop := ts ≠ [] ∧ ∀ x ∈ ts, Alnum x
noncomputable section
def chkW : Bool := (List.range 128).all fun b => match acall Try.prog (fun _ => none) (fun _ => false) (fun f => Nat.beq f 72) noprim 1000 5 72 [.int .u8 b] emptyH with
  | some (.int .i64 r, _) => r == 1
  | _ => false
theorem chkW_ok : chkW = true := by kernel_rfl
theorem fnsW : FnsOk Try.prog (fun _ => false) (fun f => Nat.beq f 72) := fnsOk_of (by kernel_rfl)
end
theorem width_any (w : World) (x : Int) (h0 : 0 ≤ x) (h1 : x ≤ 127) : Calls Try.prog 72 #[.int .u8 x] w fun e w' => e = .returned (.int .i64 1) ∧ Below w.heap.size w w' := by
  obtain ⟨b, rfl⟩ : ∃ b : Nat, x = b := ⟨x.toNat, by omega⟩
  have hc := chkW_ok
  unfold chkW at hc
  rw [List.all_eq_true] at hc
  have := hc b (List.mem_range.2 (by omega))
  split at this
  · rename_i r H' hr
    rw [beq_iff_eq] at this
    subst this
    refine (acall_sound LF.noNum LF.follows fnsW (fun _ _ _ _ _ h => by cases h) (noprim_ok _ _) 5 w [] emptyH w 72 _ #[.int .u8 (b : Int)] _ H' (emptyH_HR w) (fun _ _ h => by cases h) (VRs.cons (.int _ _) (VRs.nil _)) hr).mono ?_
    rintro e w' ⟨γ, u, rfl, h1, h2⟩
    rw [h2.eq_of_ground rfl]
    exact ⟨rfl, h1.below⟩
  · cases this
end Go.Proofs.A1
