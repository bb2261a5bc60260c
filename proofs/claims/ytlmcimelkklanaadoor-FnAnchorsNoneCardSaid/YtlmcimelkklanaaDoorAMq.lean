/- A part of an abstract machine: a reckoning of calls over an abstract heap that the kernel can carry out, and the proof that what it hands back is where the call of the program itself ends, for every program that the stated checks pass. -/
import Derived.Test.YtlmcimelkklanaaDoorAMp
import Derived.KernelRfl
namespace Go.AM
noncomputable section

/-! The rest of a code, from a state that a walk has come to. -/
def nocall : ACall := fun _ _ _ => none
theorem nocall_ok (P : Program) (G : Nat → Option Nat) : CallOk P G nocall := fun _ _ _ _ _ _ _ _ _ _ _ _ h => by cases h
def noH : AS := { heap := Tr.e, size := 0 }
theorem noH_HR (w : World) : HR w [] noH w := by
  refine ⟨rfl, by show 0 ≤ 2 ^ 20; decide, ?_, ?_, RowKit.Below.refl _ _⟩
  · intro B b hg; have := AS.get_lt hg; exact absurd this (by show ¬ B < 0; omega)
  · intro B B' b b' hg; have := AS.get_lt hg; exact absurd this (by show ¬ B < 0; omega)

/-- A frame out of a list: the slots that are known. -/
def frm : List (Nat × Value) → Tr Value
  | [] => .e
  | (t, v) :: l => (frm l).set DF t v

theorem frm_FS {tm : Array Value} {n : Nat} (hn : tm.size = n) (h12 : n ≤ 2 ^ 12) : ∀ (l : List (Nat × Value)), (∀ p ∈ l, p.1 < 2 ^ 12 ∧ ∀ u, tm[p.1]? = some u → VR [] p.2 u) → FS [] n (frm l) ⟨tm, []⟩
  | [], _ => ⟨hn, h12, fun t u _ => .inl (by
      have : aslot n (frm []) t = .tuple #[] := by unfold aslot; split <;> rfl
      rw [this]; exact .any _), rfl⟩
  | (t, v) :: l, h => by
    have ih := frm_FS hn h12 l (fun p hp => h p (List.mem_cons_of_mem _ hp))
    refine ⟨hn, h12, fun t' u hu => ?_, rfl⟩
    obtain ⟨ht, hv⟩ := h (t, v) (List.mem_cons_self ..)
    by_cases htt : t = t'
    · subst htt
      refine .inl ?_
      have hlt : t < n := by
        rcases Nat.lt_or_ge t tm.size with hl | hl
        · omega
        · have hu' : tm[t]? = some u := hu
          rw [Array.getElem?_eq_none hl] at hu'; cases hu'
      have : aslot n (frm ((t, v) :: l)) t = v := by
        unfold aslot frm; rw [if_pos hlt, Tr.get_set]
      rw [this]
      exact hv u hu
    · have hlt : t' < n := by
        rcases Nat.lt_or_ge t' tm.size with hl | hl
        · omega
        · have hu' : tm[t']? = some u := hu
          rw [Array.getElem?_eq_none hl] at hu'; cases hu'
      have : aslot n (frm ((t, v) :: l)) t' = aslot n (frm l) t' := by
        unfold aslot
        rw [if_pos hlt, if_pos hlt]
        rw [show frm ((t, v) :: l) = (frm l).set DF t v from rfl, Tr.get_set_ne v t t' DF _ (bits_ne 12 t t' ht (by omega) htt)]
      rw [this]
      exact ih.slot t' u hu

/-- Two plain values are one. -/
def veq : Value → Value → Bool
  | .bool a, .bool b => a == b
  | .int k a, .int k' b => decide (k = k') && a == b
  | _, _ => false
/-- The kernel's question: the code, from these slots, ends with this boolean in a slot. -/
def chkR (P : Program) (n : Nat) (c : Code) (l : List (Nat × Value)) (t : Nat) (r : Value) (ret : Bool) : Bool :=
  match acode P (fun _ => false) (fun _ => none) nocall n 1000 c (frm l) noH with
  | some (.normal, R, _) => !ret && Nat.blt t n && ground r && (match R.get DF t with | some v => veq v r | none => false)
  | some (.ret, R, _) => ret && Nat.blt t n && ground r && (match R.get DF t with | some v => veq v r | none => false)
  | _ => false
theorem veq_eq {v r : Value} (h : veq v r = true) : v = r := by
  unfold veq at h
  split at h
  · rw [beq_iff_eq] at h; rw [h]
  · simp only [Bool.and_eq_true, decide_eq_true_eq, beq_iff_eq] at h; rw [h.1, h.2]
  · cases h

theorem am_rest {P : Program} {n : Nat} {c : Code} {tm : Array Value} {w : World} {Q : Exit → Act → World → Prop} {l : List (Nat × Value)} {t : Nat} {r : Value} {ret : Bool} (hN : NoNum P) (hm : P.follows .mixedOrders = true) (hok : codeOk P (fun _ => false) c = true)
    (hn : tm.size = n) (h12 : n ≤ 2 ^ 12) (hl : ∀ p ∈ l, p.1 < 2 ^ 12 ∧ ∀ u, tm[p.1]? = some u → VR [] p.2 u) (hrun : chkR P n c l t r ret = true)
    (hQ : ∀ (tm' : Array Value) (w' : World), RowKit.Below w.heap.size w w' → tm'.size = n → tm'[t]? = some r → Q (if ret then .ret else .normal) ⟨tm', []⟩ w') : c.wp P Q ⟨tm, []⟩ w := by
  unfold chkR at hrun
  have key : ∀ {e : AExit} {R : Tr Value} {HE : AS}, acode P (fun _ => false) (fun _ => none) nocall n 1000 c (frm l) noH = some (e, R, HE) → e.conc = (if ret then .ret else .normal) → Nat.blt t n = true → ground r = true → (match R.get DF t with | some v => veq v r | none => false) = true → c.wp P Q ⟨tm, []⟩ w := by
    intro e R HE hr he hb hg hv
    refine acode_sound (w0 := w) (pu := fun _ => false) hN (nocall_ok P _) (fun f args H v H' h => by cases h) hm 1000 c [] (frm l) noH ⟨tm, []⟩ w e R HE Q hok (noH_HR w) (fun _ _ h => by cases h) (frm_FS hn h12 l hl) hr ?_
    rintro γ ⟨tm', df⟩ w' h1 h2
    have hd : df = [] := h2.nodef
    subst hd
    have hs : tm'.size = n := h2.size
    have htn : t < n := Nat.le_of_ble_eq_true hb
    rw [he]
    refine hQ tm' w' h1.below hs ?_
    split at hv
    · rename_i v hgv
      have := veq_eq hv
      subst this
      have hlt : t < tm'.size := by omega
      have hsl := h2.slot t tm'[t] (Array.getElem?_eq_getElem hlt)
      have ha : aslot n R t = v := by unfold aslot; rw [if_pos htn, hgv]
      rw [ha] at hsl
      rcases hsl with hsl | ⟨hsl, _⟩
      · rw [Array.getElem?_eq_getElem hlt, hsl.eq_of_ground hg]
      · subst hsl; cases hg
    · cases hv
  split at hrun
  · rename_i R HE hr
    simp only [Bool.and_eq_true, Bool.not_eq_true'] at hrun
    obtain ⟨⟨⟨h1, h2⟩, h3⟩, h4⟩ := hrun
    exact key hr (by rw [h1]; rfl) h2 h3 h4
  · rename_i R HE hr
    simp only [Bool.and_eq_true] at hrun
    obtain ⟨⟨⟨h1, h2⟩, h3⟩, h4⟩ := hrun
    exact key hr (by rw [h1]; rfl) h2 h3 h4
  · cases hrun

theorem fl1 {tm : Array Value} {t1 : Nat} {v1 : Value} (h1 : t1 < 2 ^ 12 ∧ ∀ u, tm[t1]? = some u → VR [] v1 u) : ∀ p ∈ [(t1, v1)], p.1 < 2 ^ 12 ∧ ∀ u, tm[p.1]? = some u → VR [] p.2 u := by
  intro p hp
  simp only [List.mem_singleton] at hp
  subst hp; exact h1
theorem flc {tm : Array Value} {t1 : Nat} {v1 : Value} {l : List (Nat × Value)} (h1 : t1 < 2 ^ 12 ∧ ∀ u, tm[t1]? = some u → VR [] v1 u) (h : ∀ p ∈ l, p.1 < 2 ^ 12 ∧ ∀ u, tm[p.1]? = some u → VR [] p.2 u) :
    ∀ p ∈ (t1, v1) :: l, p.1 < 2 ^ 12 ∧ ∀ u, tm[p.1]? = some u → VR [] p.2 u := by
  intro p hp
  rcases List.mem_cons.1 hp with rfl | hp
  · exact h1
  · exact h p hp
theorem sl64 {tm : Array Value} {t lo hi : Nat} {n : Int} (ht : t < 2 ^ 12) (hv : tm[t]? = some (.int .i64 n)) (h1 : lo ≤ n) (h2 : n ≤ hi) : t < 2 ^ 12 ∧ ∀ u, tm[t]? = some u → VR [] (.complex .f64 lo hi) u :=
  ⟨ht, fun u hu => by rw [hv] at hu; cases hu; exact .rng64 lo hi n h1 h2⟩
theorem slg {tm : Array Value} {t : Nat} {v : Value} (ht : t < 2 ^ 12) (hv : tm[t]? = some v) (hg : ground v = true) : t < 2 ^ 12 ∧ ∀ u, tm[t]? = some u → VR [] v u :=
  ⟨ht, fun u hu => by rw [hv] at hu; cases hu; exact .of_ground hg⟩
/-- A range of an int, in a slot. -/
def at64 (lo hi : Nat) : Value := .complex .f64 lo hi

theorem acode_seq (P : Program) (pu : FuncId → Bool) (G : Nat → Option Nat) (call : ACall) (n k : Nat) (x y : Code) (F : Tr Value) (H : AS) : acode P pu G call n (k + 1) (.seq x y) F H = (match acode P pu G call n k x F H with
      | some (.normal, F', H') => acode P pu G call n k y F' H'
      | r => r) := by
  simp only [acode]
  cases acode P pu G call n k x F H with
  | none => rfl
  | some p => obtain ⟨e, F', H'⟩ := p; cases e <;> rfl
/-- The same where what follows stands behind a continuation's name. -/
theorem am_seq {P : Program} {n : Nat} {x y : Code} {tm : Array Value} {w : World} {Q : Exit → Act → World → Prop} {K : Act → World → Prop} {l : List (Nat × Value)} {t : Nat} {r : Value} {ret : Bool} (hK : ∀ a w, y.wp P Q a w → K a w)
    (hN : NoNum P) (hm : P.follows .mixedOrders = true) (hok : codeOk P (fun _ => false) (.seq x y) = true)
    (hn : tm.size = n) (h12 : n ≤ 2 ^ 12) (hl : ∀ p ∈ l, p.1 < 2 ^ 12 ∧ ∀ u, tm[p.1]? = some u → VR [] p.2 u) (hrun : chkR P n (.seq x y) l t r ret = true)
    (hQ : ∀ (tm' : Array Value) (w' : World), RowKit.Below w.heap.size w w' → tm'.size = n → tm'[t]? = some r → Q (if ret then .ret else .normal) ⟨tm', []⟩ w') : x.wp P (Exit.then K Q) ⟨tm, []⟩ w := by
  simp only [codeOk, Bool.and_eq_true] at hok
  unfold chkR at hrun
  have key : ∀ {e : AExit} {R : Tr Value} {HE : AS}, acode P (fun _ => false) (fun _ => none) nocall n 1000 (.seq x y) (frm l) noH = some (e, R, HE) → e.conc = (if ret then .ret else .normal) → Nat.blt t n = true → ground r = true → (match R.get DF t with | some v => veq v r | none => false) = true →
      x.wp P (Exit.then K Q) ⟨tm, []⟩ w := by
    intro e R HE hr he hb hg hv
    have hlast : ∀ (γ : Ren) (a' : Act) (w' : World), HR w γ HE w' → FS γ n R a' → Q e.conc a' w' := by
      rintro γ ⟨tm', df⟩ w' h1 h2
      have hd : df = [] := h2.nodef
      subst hd
      have hs : tm'.size = n := h2.size
      have htn : t < n := Nat.le_of_ble_eq_true hb
      rw [he]
      refine hQ tm' w' h1.below hs ?_
      split at hv
      · rename_i v hgv
        have := veq_eq hv
        subst this
        have hlt : t < tm'.size := by omega
        have hsl := h2.slot t tm'[t] (Array.getElem?_eq_getElem hlt)
        have ha : aslot n R t = v := by unfold aslot; rw [if_pos htn, hgv]
        rw [ha] at hsl
        rcases hsl with hsl | ⟨hsl, _⟩
        · rw [Array.getElem?_eq_getElem hlt, hsl.eq_of_ground hg]
        · subst hsl; cases hg
      · cases hv
    have hr' : (match acode P (fun _ => false) (fun _ => none) nocall n 999 x (frm l) noH with
      | some (.normal, F', H') => acode P (fun _ => false) (fun _ => none) nocall n 999 y F' H'
      | r => r) = some (e, R, HE) := by
      exact (acode_seq P (fun _ => false) (fun _ => none) nocall n 999 x y (frm l) noH).symm.trans hr
    clear hr
    split at hr'
    · rename_i F' H' hx
      refine acode_sound (w0 := w) (pu := fun _ => false) hN (nocall_ok P _) (fun f args H v H' h => by cases h) hm 999 x [] (frm l) noH ⟨tm, []⟩ w _ F' H' _ hok.1 (noH_HR w) (fun _ _ h => by cases h) (frm_FS hn h12 l hl) hx ?_
      intro γ a' w' h1 h2
      refine hK _ _ ?_
      refine acode_sound (w0 := w) (pu := fun _ => false) hN (nocall_ok P _) (fun f args H v H' h => by cases h) hm 999 y ([] ++ γ) F' H' a' w' e R HE Q hok.2 h1 (fun _ _ h => by cases h) h2 hr' ?_
      intro γ' a'' w'' h3 h4
      exact hlast _ a'' w'' h3 h4
    · rename_i q hx
      refine acode_sound (w0 := w) (pu := fun _ => false) hN (nocall_ok P _) (fun f args H v H' h => by cases h) hm 999 x [] (frm l) noH ⟨tm, []⟩ w e R HE _ hok.1 (noH_HR w) (fun _ _ h => by cases h) (frm_FS hn h12 l hl) hr' ?_
      intro γ a' w' h1 h2
      have := hlast _ a' w' h1 h2
      cases e with
      | normal => exact absurd hr' (hx _ _)
      | ret => exact this
      | exit id => exact this
  split at hrun
  · rename_i R HE hr
    simp only [Bool.and_eq_true, Bool.not_eq_true'] at hrun
    obtain ⟨⟨⟨h1, h2⟩, h3⟩, h4⟩ := hrun
    exact key hr (by rw [h1]; rfl) h2 h3 h4
  · rename_i R HE hr
    simp only [Bool.and_eq_true] at hrun
    obtain ⟨⟨⟨h1, h2⟩, h3⟩, h4⟩ := hrun
    exact key hr (by rw [h1]; rfl) h2 h3 h4
  · cases hrun
end
end Go.AM
