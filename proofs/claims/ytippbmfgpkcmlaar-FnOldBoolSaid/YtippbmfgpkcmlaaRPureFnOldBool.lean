/- The words for truth values that YAML 1.1 has, and 1.2 has not, are told: for every text. -/
import Derived.Test.YtippbmfgpkcmlaaRPFnOldBoolx1
namespace Go.Proofs.YtippbmfgpkcmlaaR.Pure
open Go.RowKit Go.Proofs.YtippbmfgpkcmlaaR.PFnOldBool Go.Proofs.YtippbmfgpkcmlaaRW.PrintWords Go.Proofs.YtippbmfgpkcmlaaRW.PrintLast

theorem oneOf_tells (s : ByteArray) (l : List ByteArray) (hl : l.length ≤ 1000) (d : Nat) : ∀ (k i : Nat), i + d = l.length → d < k →
    spec_oneOf.l0 k s l (l.length : Int) (i : Int) = some ((l.drop i).any fun x => decide (s.toList = x.toList)) := by
  induction d with
  | zero =>
    intro k i hi hk
    obtain ⟨k, rfl⟩ : ∃ m, k = m + 1 := ⟨k - 1, by omega⟩
    simp only [spec_oneOf.l0]
    rw [if_neg (by omega), List.drop_of_length_le (by omega)]
    rfl
  | succ d ih =>
    intro k i hi hk
    obtain ⟨k, rfl⟩ : ∃ m, k = m + 1 := ⟨k - 1, by omega⟩
    have hw : wrap64 ((i : Int) + 1) = ((i + 1 : Nat) : Int) := by unfold wrap64; omega
    have hr : rdOf ByteArray.empty l (i : Int) = l[i]'(by omega) := by
      simp [rdOf, List.getD_eq_getElem?_getD, List.getElem?_eq_getElem (show i < l.length by omega)]
    simp only [spec_oneOf.l0]
    rw [if_pos (by omega), if_pos (by omega), if_pos (by omega), hr, hw, ih k (i + 1) (by omega) (by omega),
      List.drop_eq_getElem_cons (show i < l.length by omega), List.any_cons]
    by_cases h : s.toList = (l[i]'(by omega)).toList
    · simp [h]
    · simp [h]

theorem FnOldBool : laws_FnOldBool.Pure := by
  intro s _
  refine ⟨18, ?_⟩
  unfold laws_FnOldBool.f
  split
  · rfl
  · simp only [impl_OldBool.f, yaml_ZzOldBool.f, spec_OldTruth.f, spec_oneOf.f]
    have h := fun l (hl : l.length = 16) => oneOf_tells s l (by omega) 16 18 0 (by omega) (by omega)
    rw [show (0 : Int) = ((0 : Nat) : Int) from rfl, h _ (by rfl)]
    simp only [List.drop_zero, List.any_cons, List.any_nil, Option.bind_some]
    unfold yaml_isOldBool.f
    have hd : ∀ a : Array UInt8, (⟨a⟩ : ByteArray).toList = a.toList := fun a => ByteArray.toList_eq _
    have hi : ∀ (p : Prop) [Decidable p] (b : Bool), (if p then some true else some b) = some (decide p || b) := fun p _ b => by by_cases hp : p <;> simp [hp]
    simp only [hi, hd, Option.bind_some, beq_self_eq_true]

end Go.Proofs.YtippbmfgpkcmlaaR.Pure
