/- A part of an abstract machine: a reckoning of calls over an abstract heap that the kernel can carry out, and the proof that what it hands back is where the call of the program itself ends, for every program that the stated checks pass. -/
import Derived.Test.YtlmcimelkklanaaDoorAMv
namespace Go.AM
noncomputable section
/-! The rest of a code with calls, beside a heap. -/
def chkRC (P : Program) (G : Nat → Option Nat) (call : ACall) (H0 : AS) (n : Nat) (c : Code) (l : List (Nat × Value)) (t : Nat) (r : Value) (ret : Bool) : Bool :=
  match acode P (fun _ => false) G call n 1000 c (frm l) H0 with
  | some (.normal, R, _) => !ret && Nat.blt t n && ground r && (match R.get DF t with | some v => veq v r | none => false)
  | some (.ret, R, _) => ret && Nat.blt t n && ground r && (match R.get DF t with | some v => veq v r | none => false)
  | _ => false
theorem am_seqC {P : Program} {G : Nat → Option Nat} {call : ACall} {β : Ren} {H0 : AS} {n : Nat} {x y : Code} {tm : Array Value} {w : World} {Q : Exit → Act → World → Prop} {K : Act → World → Prop} {l : List (Nat × Value)} {t : Nat} {r : Value} {ret : Bool} (hK : ∀ a w, y.wp P Q a w → K a w)
    (hN : NoNum P) (hC : CallOk P G call) (hH : HR w β H0 w) (hG : Gok G β) (hm : P.follows .mixedOrders = true) (hok : codeOk P (fun _ => false) (.seq x y) = true)
    (hn : tm.size = n) (h12 : n ≤ 2 ^ 12) (hl : ∀ p ∈ l, p.1 < 2 ^ 12 ∧ ∀ u, tm[p.1]? = some u → VR [] p.2 u) (hrun : chkRC P G call H0 n (.seq x y) l t r ret = true)
    (hQ : ∀ (tm' : Array Value) (w' : World), RowKit.Below w.heap.size w w' → tm'.size = n → tm'[t]? = some r → Q (if ret then .ret else .normal) ⟨tm', []⟩ w') : x.wp P (Exit.then K Q) ⟨tm, []⟩ w := by
  simp only [codeOk, Bool.and_eq_true] at hok
  unfold chkRC at hrun
  have key : ∀ {e : AExit} {R : Tr Value} {HE : AS}, acode P (fun _ => false) G call n 1000 (.seq x y) (frm l) H0 = some (e, R, HE) → e.conc = (if ret then .ret else .normal) → Nat.blt t n = true → ground r = true → (match R.get DF t with | some v => veq v r | none => false) = true →
      x.wp P (Exit.then K Q) ⟨tm, []⟩ w := by
    intro e R HE hr he hb hg hv
    have hlast : ∀ (γ : Ren) (a' : Act) (w' : World), HR w (β ++ γ) HE w' → FS (β ++ γ) n R a' → Q e.conc a' w' := by
      rintro γ ⟨tm', df⟩ w' h1 h2
      have hd : df = [] := h2.nodef
      subst hd
      have hs : tm'.size = n := h2.size
      have htn : t < n := Nat.le_of_ble_eq_true hb
      rw [he]
      refine hQ tm' w' h1.below hs ?_
      split at hv
      · rename_i v hgv
        have := veq_eq hv
        subst this
        have hlt : t < tm'.size := by omega
        have hsl := h2.slot t tm'[t] (Array.getElem?_eq_getElem hlt)
        have ha : aslot n R t = v := by unfold aslot; rw [if_pos htn, hgv]
        rw [ha] at hsl
        rcases hsl with hsl | ⟨hsl, _⟩
        · rw [Array.getElem?_eq_getElem hlt, hsl.eq_of_ground hg]
        · subst hsl; cases hg
      · cases hv
    have hr' : (match acode P (fun _ => false) G call n 999 x (frm l) H0 with
      | some (.normal, F', H') => acode P (fun _ => false) G call n 999 y F' H'
      | r => r) = some (e, R, HE) := by
      exact (acode_seq P (fun _ => false) G call n 999 x y (frm l) H0).symm.trans hr
    clear hr
    split at hr'
    · rename_i F' H' hx
      refine acode_sound (w0 := w) (pu := fun _ => false) hN hC (fun f args H v H' h => by cases h) hm 999 x β (frm l) H0 ⟨tm, []⟩ w _ F' H' _ hok.1 hH hG ((frm_FS hn h12 l hl).mono) hx ?_
      intro γ a' w' h1 h2
      refine hK _ _ ?_
      refine acode_sound (w0 := w) (pu := fun _ => false) hN hC (fun f args H v H' h => by cases h) hm 999 y (β ++ γ) F' H' a' w' e R HE Q hok.2 h1 (hG.mono) h2 hr' ?_
      intro γ' a'' w'' h3 h4
      rw [List.append_assoc] at h3 h4
      exact hlast _ a'' w'' h3 h4
    · rename_i q hx
      refine acode_sound (w0 := w) (pu := fun _ => false) hN hC (fun f args H v H' h => by cases h) hm 999 x β (frm l) H0 ⟨tm, []⟩ w e R HE _ hok.1 hH hG ((frm_FS hn h12 l hl).mono) hr' ?_
      intro γ a' w' h1 h2
      have := hlast _ a' w' h1 h2
      cases e with
      | normal => exact absurd hr' (hx _ _)
      | ret => exact this
      | exit id => exact this
  split at hrun
  · rename_i R HE hr
    simp only [Bool.and_eq_true, Bool.not_eq_true'] at hrun
    obtain ⟨⟨⟨h1, h2⟩, h3⟩, h4⟩ := hrun
    exact key hr (by rw [h1]; rfl) h2 h3 h4
  · rename_i R HE hr
    simp only [Bool.and_eq_true] at hrun
    obtain ⟨⟨⟨h1, h2⟩, h3⟩, h4⟩ := hrun
    exact key hr (by rw [h1]; rfl) h2 h3 h4
  · cases hrun
end
end Go.AM
