/- A part of an abstract machine: a reckoning of calls over an abstract heap that the kernel can carry out, and the proof that what it hands back is where the call of the program itself ends, for every program that the stated checks pass. -/
import Derived.Test.YtlmcimelkklanaaDoorAMt
namespace Go.AM
set_option linter.unusedVariables false
noncomputable section

/-! A piece of code in a walk, beside one block of memory that it reads. -/
def oneHn (n : Nat) (cells : List Value) (e : TypeId) : AS := { heap := Tr.set D .e n { cells := cells, elem := e, ro := true, live := true }, size := n + 1 }
theorem oneHn_get {n : Nat} (hn : n ≤ 2 ^ 12) {e : TypeId} {cells : List Value} {B : Nat} {b : Blk} (h : (oneHn n cells e).get B = some b) : B = n ∧ b = { cells := cells, elem := e, ro := true, live := true } := by
  unfold AS.get oneHn at h
  dsimp only at h
  split at h
  · by_cases h0 : B = n
    · subst h0
      rw [Tr.get_set] at h
      cases h
      exact ⟨rfl, rfl⟩
    · rw [Tr.get_set_ne _ n B D .e (bits_ne 20 n B (by omega) (by omega) (fun e => h0 e.symm)), Tr.get_e] at h
      cases h
  · cases h
theorem oneHn_HR {w : World} {tm : Array Value} {g : Nat} {e : TypeId} {C : Array Value} {fr : Nat × Nat} {cells : List Value} (h : tm.size ≤ 2 ^ 12) (hw : w.heap[g]? = some (.cells C e fr)) (hlen : cells.length ≤ C.size)
    (hc : ∀ (k : Nat) (v : Value), cells[k]? = some v → ∃ u, C[k]? = some u ∧ VR [] v u) : HR w (ren0 tm ++ [⟨g, 0, C.size, undef⟩]) (oneHn tm.size cells e) w := by
  have hlenr : (ren0 tm).length = tm.size := by unfold ren0; simp
  obtain ⟨q1, q2⟩ := hm_last (h := ⟨g, 0, C.size, undef⟩) hlenr
  refine ⟨by rw [List.length_append, hlenr]; rfl, by show tm.size + 1 ≤ 2 ^ 20; omega, ?_, ?_, RowKit.Below.refl _ _⟩
  · intro B bl hg hl
    obtain ⟨rfl, rfl⟩ := oneHn_get h hg
    refine ⟨g, 0, C, fr, q1, ⟨_, hw, fun _ => rfl⟩, (fun h hh => by rw [q2] at hh; cases hh; rfl), hlen, (fun h => by cases h), (fun i v hv => ?_), (fun h => by cases h)⟩
    obtain ⟨u, hu, hvu⟩ := hc i v hv
    exact ⟨u, hu, VR.mono (γ := ren0 tm ++ [⟨g, 0, C.size, undef⟩]) hvu⟩
  · intro B B' bl bl' hg hg' hl hl' hro hne
    obtain ⟨rfl, rfl⟩ := oneHn_get h hg
    cases hro
def chkCB (P : Program) (call : ACall) (n fu : Nat) (c : Code) (l : List (Nat × Value)) (D : List (Nat × Nat)) (res : List (Nat × Value)) (cells : List Value) (e : TypeId) : Bool :=
  match acode P (fun _ => false) (fun _ => none) call n fu c (frame0 l n n) (oneHn n cells e) with
  | some (.normal, R, _) => ((List.range n).all fun t => inD D t || peq (aslot n (frame0 l n n) t) (aslot n R t)) && res.all fun p => Nat.blt p.1 n && inD D p.1 && ground p.2 && veq (aslot n R p.1) p.2
  | _ => false
theorem frame0_FSB {q : Hm} {tm : Array Value} {n : Nat} {l : List (Nat × Value)} (hn : tm.size = n) (h12 : n ≤ 2 ^ 12) (hl : ∀ p ∈ l, p.1 < 2 ^ 12 ∧ ∀ u, tm[p.1]? = some u → VR (ren0 tm ++ [q]) p.2 u) : FS (ren0 tm ++ [q]) n (frame0 l n n) ⟨tm, []⟩ := by
  refine ⟨hn, h12, fun t u hu => .inl ?_, rfl⟩
  have hu' : tm[t]? = some u := hu
  have ht : t < n := by
    rcases Nat.lt_or_ge t tm.size with h | h
    · omega
    · rw [Array.getElem?_eq_none h] at hu'; cases hu'
  unfold aslot
  rw [if_pos ht, frame0_get l n n h12 t ht]
  cases hf : l.find? (fun p => Nat.beq p.1 t) with
  | none => exact VR.opq t ⟨0, 0, 0, u⟩ (get_append (ren0_get hu'))
  | some p =>
    have h1 := List.find?_some hf
    have h2 := List.mem_of_find?_eq_some hf
    have h3 : p.1 = t := Nat.eq_of_beq_eq_true h1
    have := (hl p h2).2 u (by rw [h3]; exact hu')
    exact this

theorem am_cutB {P : Program} {pu : FuncId → Bool} {n fu : Nat} {c : Code} {call : ACall} {tm : Array Value} {w : World} {l : List (Nat × Value)} {D : List (Nat × Nat)} {res : List (Nat × Value)} {g : Nat} {C : Array Value} {e : TypeId} {fr : Nat × Nat} {cells : List Value} (hN : NoNum P) (hm : P.follows .mixedOrders = true)
    (hC : CallOk P (fun _ => none) call) (hp : ∀ f args H v H', pu f = true → call f args H = some (v, H') → H' = H) (hok : codeOk P (fun _ => false) c = true)
    (hn : tm.size = n) (h12 : n ≤ 2 ^ 12) (hw : w.heap[g]? = some (.cells C e fr)) (hlen : cells.length ≤ C.size) (hc : ∀ (k : Nat) (v : Value), cells[k]? = some v → ∃ u, C[k]? = some u ∧ VR [] v u)
    (hl : ∀ p ∈ l, p.1 < 2 ^ 12 ∧ ∀ u, tm[p.1]? = some u → VR (ren0 tm ++ [⟨g, 0, C.size, undef⟩]) p.2 u) (hrun : chkCB P call n fu c l D res cells e = true) :
    c.wp P (fun e a' w' => e = .normal ∧ ∃ f : Nat → Value, a' = ⟨(over D f tm.toList 0).toArray, []⟩ ∧ (∀ p ∈ res, f p.1 = p.2) ∧ RowKit.Below w.heap.size w w') ⟨tm, []⟩ w := by
  unfold chkCB at hrun
  split at hrun
  rotate_left
  · cases hrun
  rename_i R HE hr
  rw [Bool.and_eq_true, List.all_eq_true, List.all_eq_true] at hrun
  obtain ⟨hfr, hres⟩ := hrun
  have hF := frame0_FSB (q := ⟨g, 0, C.size, undef⟩) hn h12 hl
  refine acode_sound (w0 := w) (pu := fun _ => false) hN hC (fun _ _ _ _ _ e => by cases e) hm fu c (ren0 tm ++ [⟨g, 0, C.size, undef⟩]) (frame0 l n n) (oneHn n cells e) ⟨tm, []⟩ w .normal R HE _ hok (by rw [← hn]; exact oneHn_HR (by omega) hw hlen hc) (fun _ _ h => by cases h) hF hr ?_
  rintro γ ⟨tm', df⟩ w' h1 h2
  have hd : df = [] := h2.nodef
  subst hd
  have hs : tm'.size = n := h2.size
  refine ⟨rfl, fun t => tm'.getD t undef, ?_, ?_, h1.below⟩
  · have : tm' = (over D (fun t => tm'.getD t undef) tm.toList 0).toArray := by
      apply Array.ext'
      apply List.ext_getElem?
      intro t
      rw [List.toList_toArray, over_get, Array.getElem?_toList, Array.getElem?_toList, Nat.zero_add]
      rcases Nat.lt_or_ge t n with ht | ht
      · have e1 := Array.getElem?_eq_getElem (xs := tm) (i := t) (by omega)
        have e2 := Array.getElem?_eq_getElem (xs := tm') (i := t) (by omega)
        rw [e1, e2]
        simp only [Option.map_some]
        congr 1
        cases hD : inD D t with
        | true => simp only [cond_true]; rw [Array.getD_eq_getD_getElem?, e2]; rfl
        | false =>
          simp only [cond_false]
          have hq := hfr t (List.mem_range.2 ht)
          rw [hD, Bool.false_or] at hq
          exact peq_pin hq (hF.slot t _ e1) (h2.slot t _ e2)
      · rw [Array.getElem?_eq_none (by omega), Array.getElem?_eq_none (by omega)]; rfl
    exact congrArg (fun q => (⟨q, []⟩ : Act)) this
  · intro p hp'
    have := hres p hp'
    simp only [Bool.and_eq_true] at this
    obtain ⟨⟨⟨q1, _⟩, q3⟩, q4⟩ := this
    have ht : p.1 < n := Nat.le_of_ble_eq_true q1
    have e2 := Array.getElem?_eq_getElem (xs := tm') (i := p.1) (by omega)
    have hsl := h2.slot p.1 _ e2
    rw [veq_eq q4] at hsl
    show tm'.getD p.1 undef = p.2
    rw [Array.getD_eq_getD_getElem?, e2]
    rcases hsl with hsl | ⟨hsl, _⟩
    · exact hsl.eq_of_ground q3
    · rw [hsl] at q3; cases q3
end
end Go.AM
