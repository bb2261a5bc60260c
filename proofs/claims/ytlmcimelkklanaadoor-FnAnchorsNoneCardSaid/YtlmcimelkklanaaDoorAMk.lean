/- A part of an abstract machine: a reckoning of calls over an abstract heap that the kernel can carry out, and the proof that what it hands back is where the call of the program itself ends, for every program that the stated checks pass. -/
import Derived.Test.YtlmcimelkklanaaDoorAMj
namespace Go.AM
noncomputable section

/-! Regions whose order is drawn. -/
/-- 0: neither reads nor turns memory; 1: reads it; 2: may turn it. -/
def cls (P : Program) (pu : FuncId → Bool) (o : Oper) : Nat :=
  match o.op with
  | .move _ | .assign _ | .pick .. | .build .. | .nilCheck _ | .binOp .. | .unOp .. | .makeInterface .. | .makeFunc .. | .slice .. | .fieldAddr .. | .field .. | .indexAddr .. | .index .. | .extract .. => 0
  | .load .. => 1
  | .convert src dst _ =>
    match P.underlying src, P.underlying dst with
    | some (.slice _), some .string => 1
    | some _, some (.slice _) => 2
    | some _, some _ => 0
    | _, _ => 2
  | .call c =>
    match c.callee with
    | .builtin .len => 0
    | .builtin .cap => 0
    | .value (.func f) => if pu f then 1 else 2
    | _ => 2
  | _ => 2

theorem qv_inv {H : AS} {x : Option Value} {r : ARes} (h : qv H x = some r) : ∃ v, x = some v ∧ r = .val v H := by
  unfold qv at h
  simp only [Option.map_eq_some_iff] at h
  obtain ⟨v, h1, h2⟩ := h
  exact ⟨v, h1, h2.symm⟩

theorem quiet_any {P : Program} {pu : FuncId → Bool} {ρ : Operand → Value} {H : AS} {o : Oper} {r : ARes} (hc : cls P pu o = 0) (h : aop P ρ H o = some r) : ∃ v, r = .val v H ∧ ∀ H2, aop P ρ H2 o = some (.val v H2) := by
  obtain ⟨dst, op, type, pos, after, guard⟩ := o
  have q : ∀ {x : Option Value} {f : AS → Option ARes}, (∀ H2, f H2 = qv H2 x) → f H = some r → ∃ v, r = .val v H ∧ ∀ H2, f H2 = some (.val v H2) := by
    intro x f hf h
    rw [hf] at h
    obtain ⟨v, h1, h2⟩ := qv_inv h
    exact ⟨v, h2, fun H2 => by rw [hf, h1]; rfl⟩
  cases op <;> simp only [cls] at hc <;> try (cases hc; done)
  case move x => simp only [aop] at h ⊢; cases h; exact ⟨_, rfl, fun _ => rfl⟩
  case assign x => simp only [aop] at h ⊢; cases h; exact ⟨_, rfl, fun _ => rfl⟩
  case pick c a b =>
    simp only [aop] at h ⊢
    cases hρ : ρ c <;> simp only [hρ] at h ⊢ <;> first | (cases h; done) | (cases h; exact ⟨_, rfl, fun _ => rfl⟩)
  case build t ps => exact q (f := fun H => aop P ρ H _) (fun _ => rfl) h
  case nilCheck x => exact q (f := fun H => aop P ρ H _) (fun _ => rfl) h
  case binOp => exact q (f := fun H => aop P ρ H _) (fun _ => rfl) h
  case unOp op t x =>
    by_cases hg : ground (ρ x) = true
    · exact q (f := fun H => aop P ρ H _) (x := agr P (Op.unary op (ρ x))) (fun _ => by simp only [aop]; rw [if_pos hg]) h
    · simp only [aop] at h; rw [if_neg hg] at h; cases h
  case makeInterface => exact q (f := fun H => aop P ρ H _) (fun _ => rfl) h
  case makeFunc => simp only [aop] at h ⊢; cases h; exact ⟨_, rfl, fun _ => rfl⟩
  case slice t x lo hi mx =>
    simp only [aop] at h ⊢
    cases hx : ρ x <;> simp only [hx] at h ⊢ <;> first
      | (exact q (f := fun H => qv H _) (fun _ => rfl) h)
      | (split at h
         · rename_i hg; obtain ⟨v, h1, h2⟩ := qv_inv h; exact ⟨v, h2, fun H2 => by rw [if_pos hg, h1]; rfl⟩
         · cases h)
  case fieldAddr => exact q (f := fun H => aop P ρ H _) (fun _ => rfl) h
  case field => exact q (f := fun H => aop P ρ H _) (fun _ => rfl) h
  case indexAddr => exact q (f := fun H => aop P ρ H _) (fun _ => rfl) h
  case index t x ix =>
    simp only [aop] at h ⊢
    cases hx : ρ x <;> simp only [hx] at h ⊢ <;> first
      | (exact q (f := fun H => qv H _) (fun _ => rfl) h)
      | (split at h
         · rename_i hg; obtain ⟨v, h1, h2⟩ := qv_inv h; exact ⟨v, h2, fun H2 => by rw [if_pos hg, h1]; rfl⟩
         · cases h)
  case extract => exact q (f := fun H => aop P ρ H _) (fun _ => rfl) h
  case convert src dst x =>
    have key : ∀ H2, aconv P H2 src dst (ρ x) = qv H2 (aconvq P src dst (ρ x)) := by
      intro H2
      split at hc <;> try (cases hc; done)
      rename_i a b hnb hna hs hd
      unfold aconv
      rw [hs, hd]
      split
      · rename_i h1 h2 _
        cases h2
        first | exact (hnb _ rfl).elim | exact (hna _ rfl).elim
      · rename_i h1 h2 _
        cases h1; cases h2
        first | exact (hnb _ rfl rfl).elim | exact (hna _ rfl rfl).elim
      · rename_i h1 h2 _
        cases h2
        first | exact (hnb _ rfl).elim | exact (hna _ rfl).elim
      · rfl
    simp only [aop, key] at h ⊢
    obtain ⟨v, h1, h2⟩ := qv_inv h
    exact ⟨v, h2, fun H2 => by rw [h1]; rfl⟩
  case call c =>
    simp only [aop] at h ⊢
    have one : ∀ (g : List Value → Option Value) (l : List Value) (f : AS → List Value → Option ARes), (∀ H2 x, f H2 [x] = qv H2 (g [x])) → (∀ H2 l, (∀ x, l ≠ [x]) → f H2 l = none) → f H l = some r → ∃ v, r = .val v H ∧ ∀ H2, f H2 l = some (.val v H2) := by
      intro g l f h1 h2 h3
      by_cases hl : ∃ x, l = [x]
      · obtain ⟨x, rfl⟩ := hl
        rw [h1] at h3
        obtain ⟨v, a1, a2⟩ := qv_inv h3
        exact ⟨v, a2, fun H2 => by rw [h1, a1]; rfl⟩
      · rw [h2 H l (fun x hx => hl ⟨x, hx⟩)] at h3; cases h3
    cases hcal : c.callee with
    | value f =>
      simp only [hcal] at hc
      cases f <;> simp only at hc <;> first | (cases hc; done) | (split at hc <;> cases hc)
    | invoke => simp only [hcal] at hc; cases hc
    | builtin b =>
      simp only [hcal] at h hc ⊢
      cases b <;> simp only at hc <;> try (cases hc; done)
      · refine one (fun l => acap P c.argTypes (l.getD 0 undef)) _ (fun H l => abuiltin P H .cap c.argTypes l) (fun H2 x => rfl) ?_ h
        intro H2 l hl
        unfold abuiltin
        split <;> simp_all
      · refine one (fun l => alen P c.argTypes (l.getD 0 undef)) _ (fun H l => abuiltin P H .len c.argTypes l) (fun H2 x => rfl) ?_ h
        intro H2 l hl
        unfold abuiltin
        split <;> simp_all

theorem aconv_read {P : Program} {H : AS} {src dst e : TypeId} {x : Value} {r : ARes} (hs : P.underlying src = some (.slice e)) (hd : P.underlying dst = some .string) (h : aconv P H src dst x = some r) : ∃ v, r = .val v H := by
  unfold aconv at h
  rw [hs, hd] at h
  split at h
  · rename_i h2
    cases h2
  · split at h
    · obtain ⟨v2, _, h2⟩ := qv_inv h; exact ⟨v2, h2⟩
    · cases h
  · rename_i _ h2
    cases h2
  · obtain ⟨v2, _, h2⟩ := qv_inv h; exact ⟨v2, h2⟩

/-- The same, but that the making of slices that are forgotten is quiet. -/
def clsF (P : Program) (pu : FuncId → Bool) (ops : Array Oper) (o : Oper) : Nat := match forget ops o with
  | true => 0
  | false => cls P pu o

/-- What a reader's outcome is: a value over the same memory, or a call of a pure function. -/
theorem reader_form {P : Program} {pu : FuncId → Bool} {G : Nat → Option Nat} {n : Nat} {o : Oper} {F : Tr Value} {H : AS} {r : ARes} (hc : cls P pu o ≤ 1) (hop : aop P (aev G n F) H o = some r) :
    (∃ v, r = .val v H) ∨ ∃ f args, r = .call f args ∧ pu f = true := by
  rcases Nat.lt_or_ge (cls P pu o) 1 with hlt | hge
  · obtain ⟨v2, h2, _⟩ := quiet_any (pu := pu) (by omega) hop
    exact .inl ⟨v2, h2⟩
  have hc1 : cls P pu o = 1 := by omega
  obtain ⟨dst, op, type, pos, after, guard⟩ := o
  cases op <;> simp only [cls] at hc1 <;> try (cases hc1; done)
  case load t a =>
    simp only [aop] at hop
    obtain ⟨v2, _, h2⟩ := qv_inv hop
    exact .inl ⟨v2, h2⟩
  case convert src dst x =>
    split at hc1 <;> try (cases hc1; done)
    rename_i hs hd
    exact .inl (aconv_read hs hd hop)
  case call c =>
    simp only [aop] at hop
    cases hcal : c.callee with
    | invoke => simp only [hcal] at hc1; cases hc1
    | builtin b => simp only [hcal] at hc1; cases b <;> simp only at hc1 <;> cases hc1
    | value fo =>
      simp only [hcal] at hc1 hop
      cases fo <;> simp only at hc1 <;> try (cases hc1; done)
      case func g =>
        split at hc1
        · rename_i hpu
          simp only [aev, acallee] at hop
          split at hop
          · split at hop
            · cases hop; exact .inr ⟨_, _, rfl, hpu⟩
            · cases hop
          · cases hop
        · cases hc1

theorem reader_same {P : Program} {pu : FuncId → Bool} {G : Nat → Option Nat} {call : ACall} {ops : Array Oper} {n : Nat} {o : Oper} {F : Tr Value} {H H' : AS} {v : Value}
    (hp : ∀ f args H v H', pu f = true → call f args H = some (v, H') → H' = H) (hc : clsF P pu ops o ≤ 1) (h : astep P G call ops n o F H = some (v, H')) : H' = H := by
  unfold astep at h
  split at h
  · cases h
  · cases h; rfl
  · unfold clsF at hc
    split at h
    · split at h
      rotate_left
      · cases h
      split at h
      · split at h
        · cases h; rfl
        · cases h
      · cases h
    rename_i hf
    rw [hf] at hc
    split at h
    · rename_i v' H2 hop
      cases h
      rcases reader_form hc hop with ⟨v2, h2⟩ | ⟨f, args, h2, _⟩
      · cases h2; rfl
      · cases h2
    · rename_i f args hop
      rcases reader_form hc hop with ⟨v2, h2⟩ | ⟨f, args, h2, hpu⟩
      · cases h2
      · cases h2; exact hp _ _ _ _ _ hpu h
    · cases h

/-- A quiet operation does the same in any memory. -/
theorem quiet_step {P : Program} {pu : FuncId → Bool} {G : Nat → Option Nat} {call : ACall} {ops : Array Oper} {n : Nat} {o : Oper} {F : Tr Value} {H H' : AS} {v : Value}
    (hc : clsF P pu ops o = 0) (h : astep P G call ops n o F H = some (v, H')) (H2 : AS) : astep P G call ops n o F H2 = some (v, H2) := by
  unfold astep at h ⊢
  split at h
  · cases h
  · rename_i hw; cases h; rfl
  · unfold clsF at hc
    split at h
    · split at h
      rotate_left
      · cases h
      split at h
      rotate_left
      · cases h
      rename_i hg _ v' H3 hop
      split at h
      rotate_left
      · cases h
      rename_i hone
      cases h
      rw [if_pos hg]
      simp only [if_pos hone]
    rename_i hf
    rw [hf] at hc
    split at h
    · rename_i v' H3 hop
      cases h
      obtain ⟨v2, h2, h3⟩ := quiet_any hc hop
      cases h2
      simp only [h3 H2]
    · rename_i f args hop
      obtain ⟨v2, h2, _⟩ := quiet_any hc hop
      cases h2
    · cases h
end
end Go.AM
