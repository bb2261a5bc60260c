/- A part of the proof: what functions of the program answer, for all arguments that meet the conditions named in each theorem. -/
import Derived.Test.YtafogjbbnfdjmaaA5
namespace Go.Proofs.A1
open Go.RowKit Go.AM Go.Proofs.C1
set_option linter.unusedVariables false
theorem strEq_eq {s t : ByteArray} (h : strEq s t = true) : s = t := by
  unfold strEq at h
  rw [beq_iff_eq] at h
  have : s.data.toList = t.data.toList := by
    have inj : ∀ (l m : List UInt8), l.map (·.toNat) = m.map (·.toNat) → l = m := by
      intro l
      induction l with
      | nil => intro m hm; cases m with
        | nil => rfl
        | cons _ _ => simp at hm
      | cons a l ih => intro m hm; cases m with
        | nil => simp at hm
        | cons b m =>
          simp only [List.map_cons, List.cons.injEq] at hm
          rw [UInt8.toNat_inj.1 hm.1, ih m hm.2]
    exact inj _ _ h
  cases s; cases t
  simp only [ByteArray.mk.injEq]
  exact Array.ext' this
theorem name_any (b : Nat) (hb : b < 128) (w : World) : Calls Try.prog 10 #[.string (str2 b)] w fun e w' => e = .returned (.string (name2 b)) ∧ Below w.heap.size w w' := by
  have key : ∀ (lo n : Nat), chkN lo n = true → lo ≤ b → b < lo + n → Calls Try.prog 10 #[.string (str2 b)] w fun e w' => e = .returned (.string (name2 b)) ∧ Below w.heap.size w w' := by
    intro lo n hc h1 h2
    unfold chkN at hc
    rw [List.all_eq_true] at hc
    have := hc (b - lo) (List.mem_range.2 (by omega))
    rw [show lo + (b - lo) = b from by omega] at this
    split at this
    · rename_i r H' hr
      have hs := strEq_eq this
      subst hs
      refine (acall_sound LF.noNum LF.follows fns10 (fun _ _ _ _ _ h => by cases h) (noprim_ok _ _) 5 w [] emptyH w 10 _ #[.string (str2 b)] _ H' (emptyH_HR w) (fun _ _ h => by cases h) (VRs.cons (.string _) (VRs.nil _)) hr).mono ?_
      rintro e w' ⟨γ, u, rfl, h1, h2⟩
      rw [h2.eq_of_ground rfl]
      exact ⟨rfl, h1.below⟩
    · cases this
  rcases Nat.lt_or_ge b 64 with h | h
  · exact key 0 64 n0 (Nat.zero_le _) (by omega)
  · exact key 64 64 n1 h (by omega)
/-- What is known of ndName beforehand. -/
def tab2 (s : ByteArray) : Option ByteArray := match s.data.toList with
  | [a, c] => if Nat.beq a.toNat 95 && Nat.blt c.toNat 128 then some (name2 c.toNat) else none
  | _ => none
noncomputable def prim10 : ACall := fun f args H => if Nat.beq f 10 then match args with
  | [.string s] => (tab2 s).map fun r => (.string r, H)
  | _ => none
  else none
theorem tab2_str {s r : ByteArray} (h : tab2 s = some r) : ∃ b, b < 128 ∧ s = str2 b ∧ r = name2 b := by
  unfold tab2 at h
  split at h
  · rename_i a c hs
    split at h
    · rename_i hc
      cases h
      simp only [Bool.and_eq_true] at hc
      have h1 := Nat.eq_of_beq_eq_true hc.1
      have h2 : c.toNat < 128 := Nat.le_of_ble_eq_true hc.2
      refine ⟨c.toNat, h2, ?_, rfl⟩
      have ha : a = 95 := UInt8.toNat_inj.1 h1
      cases s with
      | mk d =>
        unfold str2
        congr 1
        apply Array.ext'
        rw [hs, ha]
        simp
    · cases h
  · cases h
theorem prim10_ok (G : Nat → Option Nat) : CallOk Try.prog G prim10 := by
  intro w0 β H w f args args' v H' h hG ha hcall
  unfold prim10 at hcall
  split at hcall
  rotate_left
  · cases hcall
  rename_i hf
  have hf := Nat.eq_of_beq_eq_true hf
  subst hf
  split at hcall
  rotate_left
  · cases hcall
  rename_i s
  simp only [Option.map_eq_some_iff, Prod.mk.injEq] at hcall
  obtain ⟨r, hr, rfl, rfl⟩ := hcall
  obtain ⟨b, hb, rfl, rfl⟩ := tab2_str hr
  obtain ⟨u, us', hus, hu, hnil⟩ := ha.cons_inv
  have hu' : u = .string (str2 b) := hu.eq_of_ground rfl
  have : us' = [] := List.eq_nil_of_length_eq_zero hnil.1
  subst this hu'
  have hargs : args' = #[.string (str2 b)] := Array.ext' hus
  subst hargs
  refine (name_any b hb w).mono ?_
  rintro e w' ⟨rfl, hbel⟩
  exact ⟨[], _, rfl, by rw [List.append_nil]; exact h.later hbel, .string _⟩
noncomputable def chkT (lo n : Nat) : Bool := (List.range n).all fun i => chkG Try.prog prim10 52 c11 [(5, .bool true), (7, .int .u8 (lo + i : Nat))] [(5, 5), (26, 36)] [(5, .bool (alnumB (lo + i)))]
end Go.Proofs.A1
