/- A part of an abstract machine: a reckoning of calls over an abstract heap that the kernel can carry out, and the proof that what it hands back is where the call of the program itself ends, for every program that the stated checks pass. -/
import Derived.Test.YtlmcimelkklanaaDoorAMs
namespace Go.AM
noncomputable section

/-! A region whose order is drawn, gone through in every order. -/
def gany (P : Program) (G : Nat → Option Nat) (call : ACall) (ops : Array Oper) (n : Nat) (chk : Tr Value → AS → Bool) : Nat → Array Bool → Tr Value → AS → Bool
  | 0, listed, F, H =>
    match Region.ready .any ops listed with
    | [] => chk F H
    | _ => false
  | fu + 1, listed, F, H =>
    match Region.ready .any ops listed with
    | [] => chk F H
    | l => l.all fun i =>
      match ops[i]? with
      | none => false
      | some o =>
        match astep P G call ops n o F H with
        | none => false
        | some (v, H') =>
          match aput n F o.dst v with
          | none => false
          | some F' => gany P G call ops n chk fu (listed.setIfInBounds i true) F' H'

theorem gany_sound {P : Program} {w0 : World} {G : Nat → Option Nat} {call : ACall} {ops : Array Oper} {n : Nat} {chk : Tr Value → AS → Bool} {Q : Exit → Act → World → Prop} (hN : NoNum P) (hC : CallOk P G call) :
    ∀ (fu : Nat) (listed : Array Bool) (β : Ren) (F : Tr Value) (H : AS) (a : Act) (w : World), HR w0 β H w → Gok G β → FS β n F a → gany P G call ops n chk fu listed F H = true →
      (∀ (γ : Ren) (R : Tr Value) (HE : AS) (a' : Act) (w' : World), chk R HE = true → HR w0 (β ++ γ) HE w' → FS (β ++ γ) n R a' → Q .normal a' w') → wpAny P .any ops Q fu listed a w := by
  intro fu
  induction fu with
  | zero =>
    intro listed β F H a w h hG hF hg hQ
    simp only [gany] at hg
    split at hg
    · rename_i hr
      exact ⟨hr, hQ [] F H a w hg (by rw [List.append_nil]; exact h) (by rw [List.append_nil]; exact hF)⟩
    · cases hg
  | succ fu ih =>
    intro listed β F H a w h hG hF hg hQ
    simp only [gany] at hg
    split at hg
    · rename_i hr
      refine ⟨fun _ => hQ [] F H a w hg (by rw [List.append_nil]; exact h) (by rw [List.append_nil]; exact hF), fun i hi => ?_⟩
      rw [hr] at hi; cases hi
    · rename_i l hne
      refine ⟨fun hr => absurd hr hne, fun i hi => ?_⟩
      rw [List.all_eq_true] at hg
      have hgi := hg i hi
      split at hgi
      · cases hgi
      rename_i o ho
      split at hgi
      · cases hgi
      rename_i v H' hst
      split at hgi
      · cases hgi
      rename_i F' hp
      refine step_wp hN hC h hG hF.size ho (fun t _ => hF.slot t) hst _ ?_
      intro γ u w' hr' hu
      refine ih _ (β ++ γ) F' H' _ w' hr' hG.mono (hF.mono.put hp hu) hgi ?_
      intro γ' R HE a' w'' h1 h2 h3
      exact hQ (γ ++ γ') R HE a' w'' h1 (by rw [← List.append_assoc]; exact h2) (by rw [← List.append_assoc]; exact h3)

def leafChk (n : Nat) (F0 : Tr Value) (D : List (Nat × Nat)) (res : List (Nat × Value)) (R : Tr Value) (_ : AS) : Bool :=
  ((List.range n).all fun t => inD D t || peq (aslot n F0 t) (aslot n R t)) && res.all fun p => Nat.blt p.1 n && inD D p.1 && ground p.2 && veq (aslot n R p.1) p.2
/-- The kernel's question. -/
def chkG (P : Program) (call : ACall) (n : Nat) (ops : Array Oper) (l : List (Nat × Value)) (D : List (Nat × Nat)) (res : List (Nat × Value)) : Bool :=
  gany P (fun _ => none) call ops n (leafChk n (frame0 l n n) D res) ops.size (Array.replicate ops.size false) (frame0 l n n) (noHn n)

theorem am_draw {P : Program} {n id : Nat} {ops : Array Oper} {call : ACall} {tm : Array Value} {w : World} {l : List (Nat × Value)} {D : List (Nat × Nat)} {res : List (Nat × Value)} (hN : NoNum P) (hm : P.follows .mixedOrders = true)
    (hC : CallOk P (fun _ => none) call) (hn : tm.size = n) (h12 : n ≤ 2 ^ 12) (hl : ∀ p ∈ l, p.1 < 2 ^ 12 ∧ ∀ u, tm[p.1]? = some u → VR [] p.2 u) (hrun : chkG P call n ops l D res = true) :
    (Code.region id ops true).wp P (fun e a' w' => e = .normal ∧ ∃ f : Nat → Value, a' = ⟨(over D f tm.toList 0).toArray, []⟩ ∧ (∀ p ∈ res, f p.1 = p.2) ∧ RowKit.Below w.heap.size w w') ⟨tm, []⟩ w := by
  have hF := frame0_FS hn h12 hl
  refine wp_region_any hm ?_
  have h0 : HR w (ren0 tm) (noHn n) w := by rw [← hn]; exact noHn_HR w tm (by omega)
  refine gany_sound (w0 := w) hN hC ops.size _ (ren0 tm) (frame0 l n n) (noHn n) ⟨tm, []⟩ _ h0.drew (fun _ _ h => by cases h) hF hrun ?_
  rintro γ R HE ⟨tm', df⟩ w' hchk h1 h2
  unfold leafChk at hchk
  rw [Bool.and_eq_true, List.all_eq_true, List.all_eq_true] at hchk
  obtain ⟨hfr, hres⟩ := hchk
  have hd : df = [] := h2.nodef
  subst hd
  have hs : tm'.size = n := h2.size
  refine ⟨rfl, fun t => tm'.getD t undef, ?_, ?_, h1.below⟩
  · have : tm' = (over D (fun t => tm'.getD t undef) tm.toList 0).toArray := by
      apply Array.ext'
      apply List.ext_getElem?
      intro t
      rw [List.toList_toArray, over_get, Array.getElem?_toList, Array.getElem?_toList, Nat.zero_add]
      rcases Nat.lt_or_ge t n with ht | ht
      · have e1 := Array.getElem?_eq_getElem (xs := tm) (i := t) (by omega)
        have e2 := Array.getElem?_eq_getElem (xs := tm') (i := t) (by omega)
        rw [e1, e2]
        simp only [Option.map_some]
        congr 1
        cases hD : inD D t with
        | true => simp only [cond_true]; rw [Array.getD_eq_getD_getElem?, e2]; rfl
        | false =>
          simp only [cond_false]
          have hq := hfr t (List.mem_range.2 ht)
          rw [hD, Bool.false_or] at hq
          exact peq_pin hq (hF.slot t _ e1) (h2.slot t _ e2)
      · rw [Array.getElem?_eq_none (by omega), Array.getElem?_eq_none (by omega)]; rfl
    exact congrArg (fun q => (⟨q, []⟩ : Act)) this
  · intro p hp'
    have := hres p hp'
    simp only [Bool.and_eq_true] at this
    obtain ⟨⟨⟨q1, _⟩, q3⟩, q4⟩ := this
    have ht : p.1 < n := Nat.le_of_ble_eq_true q1
    have e2 := Array.getElem?_eq_getElem (xs := tm') (i := p.1) (by omega)
    have hsl := h2.slot p.1 _ e2
    rw [veq_eq q4] at hsl
    show tm'.getD p.1 undef = p.2
    rw [Array.getD_eq_getD_getElem?, e2]
    rcases hsl with hsl | ⟨hsl, _⟩
    · exact hsl.eq_of_ground q3
    · rw [hsl] at q3; cases q3
end
end Go.AM
