/- A part of an abstract machine: a reckoning of calls over an abstract heap that the kernel can carry out, and the proof that what it hands back is where the call of the program itself ends, for every program that the stated checks pass. -/
import Derived.Test.YtlmcimelkklanaaDoorAMf
namespace Go.AM
noncomputable section

/-! Comparisons with nil, and of places in one block. -/
def anilEq (P : Program) (t : TypeId) (a b : Value) : Option Bool :=
  match P.underlying t, a, b with
  | some (.pointer _), .pointer none, .pointer (some _) => some false
  | some (.pointer _), .pointer (some _), .pointer none => some false
  | some (.pointer e), .pointer (some ⟨B, o, none⟩), .pointer (some ⟨B', o', none⟩) =>
    match P.info? e with
    | some i => if B = B' ∧ i.size ≠ 0 then some (decide (o = o')) else none
    | none => none
  | some (.slice _), .slice none _ _, .slice (some _) _ _ => some false
  | some (.slice _), .slice (some _) _ _, .slice none _ _ => some false
  | some (.interface _), .nilIface, .iface _ _ => some false
  | some (.interface _), .iface _ _, .nilIface => some false
  | some (.interface _), .iface tx (.pointer (some ⟨B, o, none⟩)), .iface ty (.pointer (some ⟨B', o', none⟩)) =>
    if tx = ty then
      match P.info? tx, P.underlying tx with
      | some j, some (.pointer e) =>
        match P.info? e with
        | some i => if j.comparable = true ∧ B = B' ∧ i.size ≠ 0 then some (decide (o = o')) else none
        | none => none
      | _, _ => none
    else some false
  | some (.func _ _ _), .nilFunc, .func _ _ _ => some false
  | some (.func _ _ _), .func _ _ _, .nilFunc => some false
  | _, _, _ => none

theorem same_at (b o o' s : Nat) : ((⟨b, o + s, none⟩ : Addr) == ⟨b, o' + s, none⟩) = decide (o = o') := by
  by_cases h : o = o'
  · subst h; simp
  · rw [decide_eq_false h, beq_eq_false_iff_ne]
    intro hc
    simp only [Addr.mk.injEq, and_true, true_and] at hc
    omega

theorem run_sameAddr {P : Program} {w : World} (b o o' s : Nat) : (sameAddr ⟨b, o + s, none⟩ ⟨b, o' + s, none⟩).run P w = .ok (decide (o = o')) w := by
  unfold sameAddr
  simp only [beq_self_eq_true, if_true, same_at]
  rfl

theorem eqIn_ptr {P : Program} {w : World} {t e : TypeId} {i : TypeInfo} (d b o o' s : Nat) (ht : P.underlying t = some (.pointer e)) (hi : P.info? e = some i) (h0 : i.size ≠ 0) :
    (Op.equalIn (d + 1) t (.pointer (some ⟨b, o + s, none⟩)) (.pointer (some ⟨b, o' + s, none⟩))).run P w = .ok (decide (o = o')) w := by
  rw [Op.equalIn]
  simp only [Sem.run_bind, run_underlying ht, Result.andThen_ok, run_size hi, ne_eq, h0, not_false_eq_true, if_true, run_sameAddr]

theorem nilEqIn_sound {P : Program} {w : World} {β : Ren} {t : TypeId} {a b a' b' : Value} {r : Bool} (d : Nat) (ha : VR β a a') (hb : VR β b b') (h : anilEq P t a b = some r) :
    (Op.equalIn (d + 1 + 1) t a' b').run P w = .ok r w := by
  unfold anilEq at h
  split at h <;> rename_i ht
  · cases h; cases ha; cases hb
    rw [Op.equalIn]; simp only [Sem.run_bind, run_underlying ht, Result.andThen_ok]; rfl
  · cases h; cases ha; cases hb
    rw [Op.equalIn]; simp only [Sem.run_bind, run_underlying ht, Result.andThen_ok]; rfl
  · rename_i B o B' o'
    split at h
    · rename_i i hi
      split at h
      · rename_i hc
        obtain ⟨rfl, h0⟩ := hc
        cases h
        cases ha with
        | ptr B o b s h1 =>
          cases hb with
          | ptr B o' b' s' h2 =>
            rw [h1] at h2; cases h2
            exact eqIn_ptr _ b o o' s ht hi h0
      · cases h
    · cases h
  · cases h; cases ha; cases hb <;> (rw [Op.equalIn]; simp only [Sem.run_bind, run_underlying ht, Result.andThen_ok]; rfl)
  · cases h; cases hb; cases ha <;> (rw [Op.equalIn]; simp only [Sem.run_bind, run_underlying ht, Result.andThen_ok]; rfl)
  · cases h; cases ha; cases hb
    rw [Op.equalIn]; simp only [Sem.run_bind, run_underlying ht, Result.andThen_ok]; rfl
  · cases h; cases ha; cases hb
    rw [Op.equalIn]; simp only [Sem.run_bind, run_underlying ht, Result.andThen_ok]; rfl
  · rename_i tx B o ty B' o'
    split at h
    · rename_i hty
      subst hty
      split at h
      · rename_i j e hj hte
        split at h
        · rename_i i hi
          split at h
          · rename_i hc
            obtain ⟨hcmp, rfl, h0⟩ := hc
            cases h
            cases ha with
            | iface _ _ _ ha =>
              cases hb with
              | iface _ _ _ hb =>
                cases ha with
                | ptr B o b s h1 =>
                  cases hb with
                  | ptr B o' b' s' h2 =>
                    rw [h1] at h2; cases h2
                    have := eqIn_ptr (P := P) (w := w) d b o o' s hte hi h0
                    rw [Op.equalIn]
                    simp only [Sem.run_bind, run_underlying ht, Result.andThen_ok, run_info hj, hcmp, ne_eq, not_true_eq_false, if_false, Bool.not_true, Bool.false_eq_true, this]
          · cases h
        · cases h
      · cases h
    · rename_i hty
      cases h
      cases ha with
      | iface _ _ _ ha =>
        cases hb with
        | iface _ _ _ hb =>
          rw [Op.equalIn]
          simp only [Sem.run_bind, run_underlying ht, Result.andThen_ok, ne_eq, hty, not_false_eq_true, if_true]
          rfl
  · cases h; cases ha; cases hb
    rw [Op.equalIn]; simp only [Sem.run_bind, run_underlying ht, Result.andThen_ok]; rfl
  · cases h; cases ha; cases hb
    rw [Op.equalIn]; simp only [Sem.run_bind, run_underlying ht, Result.andThen_ok]; rfl
  · cases h
theorem nilEq_sound {P : Program} {w : World} {β : Ren} {t : TypeId} {a b a' b' : Value} {r : Bool} (ha : VR β a a') (hb : VR β b b') (h : anilEq P t a b = some r) :
    (Op.equal t a' b').run P w = .ok r w := nilEqIn_sound 9998 ha hb h
end
end Go.AM
