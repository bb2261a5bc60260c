/- A part of an abstract machine: a reckoning of calls over an abstract heap that the kernel can carry out, and the proof that what it hands back is where the call of the program itself ends, for every program that the stated checks pass. -/
import Derived.Test.YtlmcimelkklanaaDoorAMw
import Derived.Scope
import Derived.LoopN
namespace Go.AM
noncomputable section

/-- Loads beside a call of a function: a region to be gone through in every order of what is loud. -/
def isLd (o : Oper) : Bool := match o.op with
  | .load .. => true
  | _ => false
def isCl (o : Oper) : Bool := match o.op with
  | .call c => match c.callee with
    | .value _ => true
    | _ => false
  | _ => false
def isSt (o : Oper) : Bool := match o.op with
  | .store .. => true
  | _ => false
def hardR (ops : Array Oper) : Bool := (Nat.ble ops.size 16 && ops.toList.any isCl && ops.toList.any isLd) || Nat.beq (ops.toList.filter isMk).length 2 || Nat.ble 4 (ops.toList.filter isSt).length

/-! Code. -/
inductive AExit where
  | normal
  | ret
  | exit (id : Nat)

def AExit.conc : AExit → Exit
  | .normal => .normal
  | .ret => .ret
  | .exit id => .exit id

def acode (P : Program) (pu : FuncId → Bool) (G : Nat → Option Nat) (call : ACall) (n : Nat) : Nat → Code → Tr Value → AS → Option (AExit × Tr Value × AS)
  | 0, _, _, _ => none
  | k + 1, c, F, H =>
    match c with
    | .skip => some (.normal, F, H)
    | .label _ => some (.normal, F, H)
    | .region _ ops d =>
      match arun P G call ops n ops.toList F H with
      | none => none
      | some (R, HE) =>
        match d && hardR ops && !(drawOk P pu ops) with
        | false => some (.normal, R, HE)
        | true => if sOk ops && gpor P pu G call ops n (fun R' HE' => (eqF n R R' && eqH HE HE') || (eqFs H.size n R R' && eqHs H.size HE HE')) (ops.size + 1) (fun _ => false) F H then some (.normal, R, HE) else none
    | .seq x y =>
      match acode P pu G call n k x F H with
      | some (.normal, F', H') => acode P pu G call n k y F' H'
      | r => r
    | .cond c x y =>
      match aev G n F c with
      | .bool t => acode P pu G call n k (if t then x else y) F H
      | _ => none
    | .block id c =>
      match acode P pu G call n k c F H with
      | some (.exit id', F', H') => if id' = id then some (.normal, F', H') else some (.exit id', F', H')
      | r => r
    | .loop c =>
      match acode P pu G call n k c F H with
      | some (.normal, F', H') => acode P pu G call n k (.loop c) F' H'
      | r => r
    | .exit id => some (.exit id, F, H)
    | .scope c => acode P pu G call n k c F H
    | .ret => some (.ret, F, H)
    | _ => none

/-- Every region whose order is drawn passes the check. -/
def codeOk (P : Program) (pu : FuncId → Bool) : Code → Bool
  | .region _ ops true => drawOk P pu ops || hardR ops
  | .seq x y => codeOk P pu x && codeOk P pu y
  | .cond _ x y => codeOk P pu x && codeOk P pu y
  | .block _ c => codeOk P pu c
  | .loop c => codeOk P pu c
  | .scope c => codeOk P pu c
  | _ => true

theorem acode_sound {P : Program} {pu : FuncId → Bool} {w0 : World} {G : Nat → Option Nat} {call : ACall} {n : Nat} (hN : NoNum P) (hC : CallOk P G call) (hp : ∀ f args H v H', pu f = true → call f args H = some (v, H') → H' = H)
    (hm : P.follows .mixedOrders = true) : ∀ (k : Nat) (c : Code) (β : Ren) (F : Tr Value) (H : AS) (a : Act) (w : World) (e : AExit) (R : Tr Value) (HE : AS) (Q : Exit → Act → World → Prop), codeOk P pu c = true →
      HR w0 β H w → Gok G β → FS β n F a → acode P pu G call n k c F H = some (e, R, HE) →
      (∀ (γ : Ren) (a' : Act) (w' : World), HR w0 (β ++ γ) HE w' → FS (β ++ γ) n R a' → Q e.conc a' w') → c.wp P Q a w := by
  intro k
  induction k using Nat.strongRecOn with
  | ind k ih =>
  intro c β F H a w e R HE Q hok h hG hF hr hQ
  cases k with
  | zero => simp [acode] at hr
  | succ k =>
    have ihk := ih k (Nat.lt_succ_self k)
    have here : ∀ {e' : AExit}, some (e', F, H) = some (e, R, HE) → Q e'.conc a w := by
      intro e' he
      cases he
      exact hQ [] a w (by rw [List.append_nil]; exact h) (by rw [List.append_nil]; exact hF)
    cases c with
    | skip => exact wp_skip (here (e' := .normal) (by simpa only [acode] using hr))
    | label l => exact wp_label (here (e' := .normal) (by simpa only [acode] using hr))
    | exit id => exact wp_exit (here (e' := .exit id) (by simpa only [acode] using hr))
    | ret => exact wp_ret (here (e' := .ret) (by simpa only [acode] using hr))
    | region id ops draw =>
      simp only [acode] at hr
      split at hr
      · cases hr
      rename_i R' H' hrun
      cases draw with
      | false =>
        simp only [Bool.false_and] at hr
        cases hr
        exact text_sound hN hC h hG hF hrun hQ
      | true =>
        simp only [Bool.true_and] at hr
        split at hr
        · rename_i hh
          cases hr
          rw [Bool.and_eq_false_iff, Bool.not_eq_false'] at hh
          rcases hh with hh | hh
          · have hok' : drawOk P pu ops = true := by
              simp only [codeOk, hh, Bool.or_false] at hok
              exact hok
            exact draw_sound hN hC hp hm hok' h hG hF hrun hQ
          · exact draw_sound hN hC hp hm hh h hG hF hrun hQ
        · split at hr
          · rename_i hgo
            rw [Bool.and_eq_true] at hgo
            cases hr
            refine gpor_region hN hC hp hm hgo.1 h hG hF hgo.2 ?_
            intro γ R2 HE2 a' w' hchk h1 h2
            rw [Bool.or_eq_true, Bool.and_eq_true, Bool.and_eq_true] at hchk
            rcases hchk with hchk | hchk
            · exact hQ γ a' w' (h1.as hchk.2) (h2.as hchk.1)
            · obtain ⟨e1, e2, e3, _⟩ := eqHs_spec hchk.2
              have hlen : H.size + 1 < (β ++ γ).length := by rw [h1.len, ← e1]; exact e3
              obtain ⟨γ', hγ⟩ := swR_append h.len.symm hlen
              have g1 := h1.swap hchk.2
              have g2 := h2.swap e2 hlen hchk.1
              rw [hγ] at g1 g2
              exact hQ γ' a' w' g1 g2
          · cases hr
    | seq x y =>
      simp only [acode] at hr
      simp only [codeOk, Bool.and_eq_true] at hok
      refine wp_seq ?_
      split at hr
      · rename_i F' H' hx
        refine ihk x β F H a w .normal F' H' _ hok.1 h hG hF hx ?_
        intro γ a' w' h1 h2
        refine ihk y (β ++ γ) F' H' a' w' e R HE Q hok.2 h1 hG.mono h2 hr ?_
        intro γ' a2 w2 h3 h4
        exact hQ (γ ++ γ') a2 w2 (by rw [← List.append_assoc]; exact h3) (by rw [← List.append_assoc]; exact h4)
      · rename_i hx
        have hne : e ≠ .normal := fun he => by subst he; exact hx R HE hr
        refine ihk x β F H a w e R HE _ hok.1 h hG hF hr ?_
        intro γ a' w' h1 h2
        have := hQ γ a' w' h1 h2
        cases e with
        | normal => exact (hne rfl).elim
        | ret => exact this
        | exit id => exact this
    | cond c x y =>
      simp only [acode] at hr
      simp only [codeOk, Bool.and_eq_true] at hok
      split at hr
      · rename_i t ht
        have hc := aev_sound hG hF.size c (fun t _ => hF.slot t)
        have hc' := hc.eq_of_ground (by rw [ht]; rfl)
        rw [ht] at hc'
        refine wp_cond hc' ?_
        exact ihk _ β F H a w e R HE Q (by cases t <;> simp [hok]) h hG hF hr hQ
      · cases hr
    | block id c =>
      simp only [acode] at hr
      simp only [codeOk] at hok
      refine wp_block ?_
      split at hr
      · rename_i id' F' H' hx
        refine ihk c β F H a w (.exit id') F' H' _ hok h hG hF hx ?_
        intro γ a' w' h1 h2
        split at hr
        · rename_i hid
          cases hr
          simp only [AExit.conc, Exit.inBlock, hid, if_true]
          exact hQ γ a' w' h1 h2
        · rename_i hid
          cases hr
          simp only [AExit.conc, Exit.inBlock, hid, if_false]
          exact hQ γ a' w' h1 h2
      · rename_i hx
        refine ihk c β F H a w e R HE _ hok h hG hF hr ?_
        intro γ a' w' h1 h2
        have := hQ γ a' w' h1 h2
        cases e with
        | normal => exact this
        | ret => exact this
        | exit id' => exact (hx id' R HE hr).elim
    | loop c =>
      simp only [codeOk] at hok
      have rounds : ∀ (j : Nat), j ≤ k + 1 → ∀ (β : Ren) (F : Tr Value) (H : AS) (a : Act) (w : World), HR w0 β H w → Gok G β → FS β n F a → acode P pu G call n j (.loop c) F H = some (e, R, HE) →
          (∀ (γ : Ren) (a' : Act) (w' : World), HR w0 (β ++ γ) HE w' → FS (β ++ γ) n R a' → Q e.conc a' w') → Code.rounds P c Q j a w := by
        intro j
        induction j with
        | zero => intro _ β F H a w h hG hF hr hQ; simp [acode] at hr
        | succ j ihj =>
          intro hj β F H a w h hG hF hr hQ
          simp only [acode] at hr
          rw [rounds_succ]
          split at hr
          · rename_i F' H' hx
            refine ih j (by omega) c β F H a w .normal F' H' _ hok h hG hF hx ?_
            intro γ a' w' h1 h2
            refine ihj (by omega) (β ++ γ) F' H' a' w' h1 hG.mono h2 hr ?_
            intro γ' a2 w2 h3 h4
            exact hQ (γ ++ γ') a2 w2 (by rw [← List.append_assoc]; exact h3) (by rw [← List.append_assoc]; exact h4)
          · rename_i hx
            have hne : e ≠ .normal := fun he => by subst he; exact hx R HE hr
            refine ih j (by omega) c β F H a w e R HE _ hok h hG hF hr ?_
            intro γ a' w' h1 h2
            have := hQ γ a' w' h1 h2
            cases e with
            | normal => exact (hne rfl).elim
            | ret => exact this
            | exit id => exact this
      exact wp_loop_rounds (k + 1) (rounds (k + 1) (Nat.le_refl _) β F H a w h hG hF hr hQ)
    | scope c =>
      simp only [acode] at hr
      simp only [codeOk] at hok
      refine wp_scope_straight ?_
      refine ihk c β F H a w e R HE _ hok h hG hF hr ?_
      intro γ a' w' h1 h2
      have := hQ γ a' w' h1 h2
      cases e <;> exact this
    | rangeFunc => simp [acode] at hr
    | goto => simp [acode] at hr
    | refuse => simp [acode] at hr
end
end Go.AM
