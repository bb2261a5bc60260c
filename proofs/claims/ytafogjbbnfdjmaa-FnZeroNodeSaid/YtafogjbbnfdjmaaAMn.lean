/- A part of an abstract machine: a reckoning of calls over an abstract heap that the kernel can carry out, and the proof that what it hands back is where the call of the program itself ends, for every program that the stated checks pass. -/
import Derived.Test.YtafogjbbnfdjmaaAMu
import Derived.Scope
import Derived.LoopN
namespace Go.AM
noncomputable section

/-! One outcome is another. -/
def dl (f : Value → Value → Bool) : List Value → List Value → Bool
  | [], [] => true
  | a :: l, b :: m => f a b && dl f l m
  | _, _ => false
def deq : Nat → Value → Value → Bool
  | 0, _, _ => false
  | k + 1, v, u =>
    match v, u with
    | .bool a, .bool b => a == b
    | .int i a, .int j b => decide (i = j) && decide (a = b)
    | .float i a, .float j b => decide (i = j) && Nat.beq a b
    | .complex i a b, .complex j c d => decide (i = j) && Nat.beq a c && Nat.beq b d
    | .string s, .string t => decide (s.data.toList = t.data.toList)
    | .pointer a, .pointer b => decide (a = b)
    | .slice a n c, .slice b m d => decide (a = b) && Nat.beq n m && Nat.beq c d
    | .map a, .map b => decide (a = b)
    | .chan a, .chan b => decide (a = b)
    | .nilFunc, .nilFunc => true
    | .nilIface, .nilIface => true
    | .func f a c, .func g b d => decide (f = g) && dl (deq k) a.toList b.toList && dl (deq k) c.toList d.toList
    | .iface t a, .iface r b => Nat.beq t r && deq k a b
    | .agg a, .agg b => dl (deq k) a.toList b.toList
    | .tuple a, .tuple b => dl (deq k) a.toList b.toList
    | _, _ => false
theorem dl_eq {f : Value → Value → Bool} (hf : ∀ a b, f a b = true → a = b) : ∀ (l m : List Value), dl f l m = true → l = m
  | [], [], _ => rfl
  | a :: l, b :: m, h => by
    simp only [dl, Bool.and_eq_true] at h
    rw [hf a b h.1, dl_eq hf l m h.2]
  | [], _ :: _, h => by cases h
  | _ :: _, [], h => by cases h
theorem deq_eq : ∀ (k : Nat) (v u : Value), deq k v u = true → v = u
  | 0, v, u, h => by cases h
  | k + 1, v, u, h => by
    have ih := deq_eq k
    simp only [deq] at h
    split at h
    · rw [beq_iff_eq] at h; rw [h]
    · simp only [Bool.and_eq_true, decide_eq_true_eq] at h; rw [h.1, h.2]
    · simp only [Bool.and_eq_true, decide_eq_true_eq] at h; rw [h.1, Nat.eq_of_beq_eq_true h.2]
    · simp only [Bool.and_eq_true, decide_eq_true_eq] at h; rw [h.1.1, Nat.eq_of_beq_eq_true h.1.2, Nat.eq_of_beq_eq_true h.2]
    · rename_i s t
      have e := of_decide_eq_true h
      cases s; cases t
      simp only [Value.string.injEq, ByteArray.mk.injEq]
      exact Array.ext' e
    · rw [of_decide_eq_true h]
    · simp only [Bool.and_eq_true, decide_eq_true_eq] at h; rw [h.1.1, Nat.eq_of_beq_eq_true h.1.2, Nat.eq_of_beq_eq_true h.2]
    · rw [of_decide_eq_true h]
    · rw [of_decide_eq_true h]
    · rfl
    · rfl
    · simp only [Bool.and_eq_true, decide_eq_true_eq] at h
      rw [h.1.1, Array.ext' (dl_eq ih _ _ h.1.2), Array.ext' (dl_eq ih _ _ h.2)]
    · simp only [Bool.and_eq_true] at h
      rw [Nat.eq_of_beq_eq_true h.1, ih _ _ h.2]
    · rw [Array.ext' (dl_eq ih _ _ h)]
    · rw [Array.ext' (dl_eq ih _ _ h)]
    · cases h
def eqF (n : Nat) (R R' : Tr Value) : Bool := (List.range n).all fun t => deq 6 (aslot n R t) (aslot n R' t)
def eqB (b c : Blk) : Bool := dl (deq 6) b.cells c.cells && Nat.beq b.elem c.elem && (b.ro == c.ro) && (b.live == c.live)
def eqH (H H' : AS) : Bool := Nat.beq H.size H'.size && (List.range H.size).all fun B => match H.get B, H'.get B with
  | some b, some c => eqB b c
  | none, none => true
  | _, _ => false
theorem eqF_spec {n : Nat} {R R' : Tr Value} (h : eqF n R R' = true) (t : Nat) : aslot n R t = aslot n R' t := by
  unfold eqF at h
  rw [List.all_eq_true] at h
  rcases Nat.lt_or_ge t n with ht | ht
  · exact deq_eq _ _ _ (h t (List.mem_range.2 ht))
  · unfold aslot; rw [if_neg (by omega), if_neg (by omega)]
theorem eqB_eq {b c : Blk} (h : eqB b c = true) : b = c := by
  unfold eqB at h
  simp only [Bool.and_eq_true, beq_iff_eq] at h
  obtain ⟨⟨⟨h1, h2⟩, h3⟩, h4⟩ := h
  have h1 := dl_eq (deq_eq 6) _ _ h1
  have h2 := Nat.eq_of_beq_eq_true h2
  cases b; cases c
  simp_all
theorem eqH_spec {H H' : AS} (h : eqH H H' = true) : H.size = H'.size ∧ ∀ B, H.get B = H'.get B := by
  unfold eqH at h
  rw [Bool.and_eq_true, List.all_eq_true] at h
  have hs := Nat.eq_of_beq_eq_true h.1
  refine ⟨hs, fun B => ?_⟩
  rcases Nat.lt_or_ge B H.size with hB | hB
  · have := h.2 B (List.mem_range.2 hB)
    split at this
    · rename_i b c e1 e2
      rw [e1, e2, eqB_eq this]
    · rename_i e1 e2; rw [e1, e2]
    · cases this
  · have e1 : H.get B = none := by unfold AS.get; rw [if_neg (by omega)]
    have e2 : H'.get B = none := by unfold AS.get; rw [if_neg (by omega)]
    rw [e1, e2]
theorem HR.as {w0 : World} {β : Ren} {H H' : AS} {w : World} (h : HR w0 β H' w) (he : eqH H H' = true) : HR w0 β H w := by
  obtain ⟨hs, hg⟩ := eqH_spec he
  exact ⟨h.len.trans hs.symm, by rw [hs]; exact h.big, fun B b hb hl => h.blk B b (by rw [← hg]; exact hb) hl, fun B B' b b' hb hb' => h.inj B B' b b' (by rw [← hg]; exact hb) (by rw [← hg]; exact hb'), h.below⟩
theorem FS.as {β : Ren} {n : Nat} {R R' : Tr Value} {a : Act} (h : FS β n R' a) (he : eqF n R R' = true) : FS β n R a :=
  ⟨h.size, h.small, fun t u hu => by rw [eqF_spec he t]; exact h.slot t u hu, h.nodef⟩

/-- Loads beside a call of a function: a region to be gone through in every order of what is loud. -/
def isLd (o : Oper) : Bool := match o.op with
  | .load .. => true
  | _ => false
def isCl (o : Oper) : Bool := match o.op with
  | .call c => match c.callee with
    | .value _ => true
    | _ => false
  | _ => false
def hardR (ops : Array Oper) : Bool := ops.toList.any isCl && ops.toList.any isLd

/-! Code. -/
inductive AExit where
  | normal
  | ret
  | exit (id : Nat)

def AExit.conc : AExit → Exit
  | .normal => .normal
  | .ret => .ret
  | .exit id => .exit id

def acode (P : Program) (G : Nat → Option Nat) (call : ACall) (n : Nat) : Nat → Code → Tr Value → AS → Option (AExit × Tr Value × AS)
  | 0, _, _, _ => none
  | k + 1, c, F, H =>
    match c with
    | .skip => some (.normal, F, H)
    | .label _ => some (.normal, F, H)
    | .region _ ops d =>
      match arun P G call ops n ops.toList F H with
      | none => none
      | some (R, HE) =>
        match d && hardR ops with
        | false => some (.normal, R, HE)
        | true => if sOk ops && gpor P (fun _ => false) G call ops n (fun R' HE' => eqF n R R' && eqH HE HE') (ops.size + 1) (fun _ => false) F H then some (.normal, R, HE) else none
    | .seq x y =>
      match acode P G call n k x F H with
      | some (.normal, F', H') => acode P G call n k y F' H'
      | r => r
    | .cond c x y =>
      match aev G n F c with
      | .bool t => acode P G call n k (if t then x else y) F H
      | _ => none
    | .block id c =>
      match acode P G call n k c F H with
      | some (.exit id', F', H') => if id' = id then some (.normal, F', H') else some (.exit id', F', H')
      | r => r
    | .loop c =>
      match acode P G call n k c F H with
      | some (.normal, F', H') => acode P G call n k (.loop c) F' H'
      | r => r
    | .exit id => some (.exit id, F, H)
    | .scope c => acode P G call n k c F H
    | .ret => some (.ret, F, H)
    | _ => none

/-- Every region whose order is drawn passes the check. -/
def codeOk (P : Program) (pu : FuncId → Bool) : Code → Bool
  | .region _ ops true => drawOk P pu ops || hardR ops
  | .seq x y => codeOk P pu x && codeOk P pu y
  | .cond _ x y => codeOk P pu x && codeOk P pu y
  | .block _ c => codeOk P pu c
  | .loop c => codeOk P pu c
  | .scope c => codeOk P pu c
  | _ => true

theorem acode_sound {P : Program} {pu : FuncId → Bool} {w0 : World} {G : Nat → Option Nat} {call : ACall} {n : Nat} (hN : NoNum P) (hC : CallOk P G call) (hp : ∀ f args H v H', pu f = true → call f args H = some (v, H') → H' = H)
    (hm : P.follows .mixedOrders = true) : ∀ (k : Nat) (c : Code) (β : Ren) (F : Tr Value) (H : AS) (a : Act) (w : World) (e : AExit) (R : Tr Value) (HE : AS) (Q : Exit → Act → World → Prop), codeOk P pu c = true →
      HR w0 β H w → Gok G β → FS β n F a → acode P G call n k c F H = some (e, R, HE) →
      (∀ (γ : Ren) (a' : Act) (w' : World), HR w0 (β ++ γ) HE w' → FS (β ++ γ) n R a' → Q e.conc a' w') → c.wp P Q a w := by
  intro k
  induction k using Nat.strongRecOn with
  | ind k ih =>
  intro c β F H a w e R HE Q hok h hG hF hr hQ
  cases k with
  | zero => simp [acode] at hr
  | succ k =>
    have ihk := ih k (Nat.lt_succ_self k)
    have here : ∀ {e' : AExit}, some (e', F, H) = some (e, R, HE) → Q e'.conc a w := by
      intro e' he
      cases he
      exact hQ [] a w (by rw [List.append_nil]; exact h) (by rw [List.append_nil]; exact hF)
    cases c with
    | skip => exact wp_skip (here (e' := .normal) (by simpa only [acode] using hr))
    | label l => exact wp_label (here (e' := .normal) (by simpa only [acode] using hr))
    | exit id => exact wp_exit (here (e' := .exit id) (by simpa only [acode] using hr))
    | ret => exact wp_ret (here (e' := .ret) (by simpa only [acode] using hr))
    | region id ops draw =>
      simp only [acode] at hr
      split at hr
      · cases hr
      rename_i R' H' hrun
      cases draw with
      | false =>
        simp only [Bool.false_and] at hr
        cases hr
        exact text_sound hN hC h hG hF hrun hQ
      | true =>
        simp only [Bool.true_and] at hr
        split at hr
        · rename_i hh
          cases hr
          have hok' : drawOk P pu ops = true := by
            simp only [codeOk, hh, Bool.or_false] at hok
            exact hok
          exact draw_sound hN hC hp hm hok' h hG hF hrun hQ
        · split at hr
          · rename_i hgo
            rw [Bool.and_eq_true] at hgo
            cases hr
            refine gpor_region hN hC hm hgo.1 h hG hF hgo.2 ?_
            intro γ R2 HE2 a' w' hchk h1 h2
            rw [Bool.and_eq_true] at hchk
            exact hQ γ a' w' (h1.as hchk.2) (h2.as hchk.1)
          · cases hr
    | seq x y =>
      simp only [acode] at hr
      simp only [codeOk, Bool.and_eq_true] at hok
      refine wp_seq ?_
      split at hr
      · rename_i F' H' hx
        refine ihk x β F H a w .normal F' H' _ hok.1 h hG hF hx ?_
        intro γ a' w' h1 h2
        refine ihk y (β ++ γ) F' H' a' w' e R HE Q hok.2 h1 hG.mono h2 hr ?_
        intro γ' a2 w2 h3 h4
        exact hQ (γ ++ γ') a2 w2 (by rw [← List.append_assoc]; exact h3) (by rw [← List.append_assoc]; exact h4)
      · rename_i hx
        have hne : e ≠ .normal := fun he => by subst he; exact hx R HE hr
        refine ihk x β F H a w e R HE _ hok.1 h hG hF hr ?_
        intro γ a' w' h1 h2
        have := hQ γ a' w' h1 h2
        cases e with
        | normal => exact (hne rfl).elim
        | ret => exact this
        | exit id => exact this
    | cond c x y =>
      simp only [acode] at hr
      simp only [codeOk, Bool.and_eq_true] at hok
      split at hr
      · rename_i t ht
        have hc := aev_sound hG hF.size c (fun t _ => hF.slot t)
        have hc' := hc.eq_of_ground (by rw [ht]; rfl)
        rw [ht] at hc'
        refine wp_cond hc' ?_
        exact ihk _ β F H a w e R HE Q (by cases t <;> simp [hok]) h hG hF hr hQ
      · cases hr
    | block id c =>
      simp only [acode] at hr
      simp only [codeOk] at hok
      refine wp_block ?_
      split at hr
      · rename_i id' F' H' hx
        refine ihk c β F H a w (.exit id') F' H' _ hok h hG hF hx ?_
        intro γ a' w' h1 h2
        split at hr
        · rename_i hid
          cases hr
          simp only [AExit.conc, Exit.inBlock, hid, if_true]
          exact hQ γ a' w' h1 h2
        · rename_i hid
          cases hr
          simp only [AExit.conc, Exit.inBlock, hid, if_false]
          exact hQ γ a' w' h1 h2
      · rename_i hx
        refine ihk c β F H a w e R HE _ hok h hG hF hr ?_
        intro γ a' w' h1 h2
        have := hQ γ a' w' h1 h2
        cases e with
        | normal => exact this
        | ret => exact this
        | exit id' => exact (hx id' R HE hr).elim
    | loop c =>
      simp only [codeOk] at hok
      have rounds : ∀ (j : Nat), j ≤ k + 1 → ∀ (β : Ren) (F : Tr Value) (H : AS) (a : Act) (w : World), HR w0 β H w → Gok G β → FS β n F a → acode P G call n j (.loop c) F H = some (e, R, HE) →
          (∀ (γ : Ren) (a' : Act) (w' : World), HR w0 (β ++ γ) HE w' → FS (β ++ γ) n R a' → Q e.conc a' w') → Code.rounds P c Q j a w := by
        intro j
        induction j with
        | zero => intro _ β F H a w h hG hF hr hQ; simp [acode] at hr
        | succ j ihj =>
          intro hj β F H a w h hG hF hr hQ
          simp only [acode] at hr
          rw [rounds_succ]
          split at hr
          · rename_i F' H' hx
            refine ih j (by omega) c β F H a w .normal F' H' _ hok h hG hF hx ?_
            intro γ a' w' h1 h2
            refine ihj (by omega) (β ++ γ) F' H' a' w' h1 hG.mono h2 hr ?_
            intro γ' a2 w2 h3 h4
            exact hQ (γ ++ γ') a2 w2 (by rw [← List.append_assoc]; exact h3) (by rw [← List.append_assoc]; exact h4)
          · rename_i hx
            have hne : e ≠ .normal := fun he => by subst he; exact hx R HE hr
            refine ih j (by omega) c β F H a w e R HE _ hok h hG hF hr ?_
            intro γ a' w' h1 h2
            have := hQ γ a' w' h1 h2
            cases e with
            | normal => exact (hne rfl).elim
            | ret => exact this
            | exit id => exact this
      exact wp_loop_rounds (k + 1) (rounds (k + 1) (Nat.le_refl _) β F H a w h hG hF hr hQ)
    | scope c =>
      simp only [acode] at hr
      simp only [codeOk] at hok
      refine wp_scope_straight ?_
      refine ihk c β F H a w e R HE _ hok h hG hF hr ?_
      intro γ a' w' h1 h2
      have := hQ γ a' w' h1 h2
      cases e <;> exact this
    | rangeFunc => simp [acode] at hr
    | goto => simp [acode] at hr
    | refuse => simp [acode] at hr
end
end Go.AM
