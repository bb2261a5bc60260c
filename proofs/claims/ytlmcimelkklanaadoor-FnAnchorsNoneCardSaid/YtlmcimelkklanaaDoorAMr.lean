/- A part of an abstract machine: a reckoning of calls over an abstract heap that the kernel can carry out, and the proof that what it hands back is where the call of the program itself ends, for every program that the stated checks pass. -/
import Derived.Test.YtlmcimelkklanaaDoorAMq
namespace Go.AM
set_option linter.unusedVariables false
noncomputable section

/-! A piece of code in the middle of a walk: what it leaves in the slots that are asked for; all slots but those that it may write are as they were. -/
def inD : List (Nat × Nat) → Nat → Bool
  | [], _ => false
  | (a, b) :: r, i => (decide (a ≤ i) && decide (i ≤ b)) || inD r i
/-- A frame some of whose slots are new. -/
def over (D : List (Nat × Nat)) (f : Nat → Value) : List Value → Nat → List Value
  | [], _ => []
  | v :: l, i => (bif inD D i then f i else v) :: over D f l (i + 1)

/-- A frame, slot by slot: what is told, or whatever lies there. -/
def frame0 (l : List (Nat × Value)) : Nat → Nat → Tr Value
  | _, 0 => .e
  | n, k + 1 => (frame0 l n k).set DF k (((l.find? fun p => Nat.beq p.1 k).map (·.2)).getD (.map (some (3 * k))))
theorem frame0_get (l : List (Nat × Value)) (n : Nat) : ∀ (k : Nat), k ≤ 2 ^ 12 → ∀ t, t < k → (frame0 l n k).get DF t = some (((l.find? fun p => Nat.beq p.1 t).map (·.2)).getD (.map (some (3 * t))))
  | 0, _, t, ht => by omega
  | k + 1, hk, t, ht => by
    unfold frame0
    by_cases h : k = t
    · subst h; rw [Tr.get_set]
    · rw [Tr.get_set_ne _ k t DF _ (bits_ne 12 k t (by omega) (by omega) h)]
      exact frame0_get l n k (by omega) t (by omega)

def noHn (n : Nat) : AS := { heap := Tr.e, size := n }
def ren0 (tm : Array Value) : Ren := tm.toList.map fun v => ⟨0, 0, 0, v⟩
theorem noHn_HR (w : World) (tm : Array Value) (h : tm.size ≤ 2 ^ 12) : HR w (ren0 tm) (noHn tm.size) w := by
  have no : ∀ B, (noHn tm.size).get B = none := by
    intro B
    unfold AS.get noHn
    split
    · exact Tr.get_e _ _
    · rfl
  refine ⟨by unfold ren0 noHn; simp, by show tm.size ≤ 2 ^ 20; omega, ?_, ?_, RowKit.Below.refl _ _⟩
  · intro B b hg; rw [no] at hg; cases hg
  · intro B B' b b' hg; rw [no] at hg; cases hg
theorem ren0_get {tm : Array Value} {t : Nat} {u : Value} (h : tm[t]? = some u) : (ren0 tm)[t]? = some ⟨0, 0, 0, u⟩ := by
  unfold ren0
  rw [List.getElem?_map, Array.getElem?_toList, h]; rfl

theorem frame0_FS {tm : Array Value} {n : Nat} {l : List (Nat × Value)} (hn : tm.size = n) (h12 : n ≤ 2 ^ 12) (hl : ∀ p ∈ l, p.1 < 2 ^ 12 ∧ ∀ u, tm[p.1]? = some u → VR [] p.2 u) : FS (ren0 tm) n (frame0 l n n) ⟨tm, []⟩ := by
  refine ⟨hn, h12, fun t u hu => .inl ?_, rfl⟩
  have hu' : tm[t]? = some u := hu
  have ht : t < n := by
    rcases Nat.lt_or_ge t tm.size with h | h
    · omega
    · rw [Array.getElem?_eq_none h] at hu'; cases hu'
  unfold aslot
  rw [if_pos ht, frame0_get l n n h12 t ht]
  cases hf : l.find? (fun p => Nat.beq p.1 t) with
  | none => exact VR.opq t ⟨0, 0, 0, u⟩ (ren0_get hu')
  | some p =>
    have h1 := List.find?_some hf
    have h2 := List.mem_of_find?_eq_some hf
    have h3 : p.1 = t := Nat.eq_of_beq_eq_true h1
    have := (hl p h2).2 u (by rw [h3]; exact hu')
    exact VR.mono (γ := ren0 tm) this

/-- Two abstract values that stand for one value alone are the same. -/
def peq : Value → Value → Bool
  | .bool a, .bool b => a == b
  | .int k a, .int k' b => decide (k = k') && a == b
  | .map (some a), .map (some b) => Nat.beq a b && Nat.beq (a % 3) 0
  | .pointer (some ⟨a, i, none⟩), .pointer (some ⟨b, j, none⟩) => Nat.beq a b && Nat.beq i j
  | _, _ => false
theorem peq_eq {v r : Value} (h : peq v r = true) : v = r := by
  unfold peq at h
  split at h
  · rw [beq_iff_eq] at h; rw [h]
  · simp only [Bool.and_eq_true, decide_eq_true_eq, beq_iff_eq] at h; rw [h.1, h.2]
  · simp only [Bool.and_eq_true] at h; rw [Nat.eq_of_beq_eq_true h.1]
  · simp only [Bool.and_eq_true] at h; rw [Nat.eq_of_beq_eq_true h.1, Nat.eq_of_beq_eq_true h.2]
  · cases h
theorem SR.eq_of_ground {β : Ren} {v u : Value} (h : SR β v u) (hg : ground v = true) : u = v := by
  rcases h with h | ⟨rfl, _⟩
  · exact VR.eq_of_ground h hg
  · cases hg
theorem SR.opq_inv {β : Ren} {k : Nat} {u : Value} (h : SR β (.map (some (3 * k))) u) : ∃ q, β[k]? = some q ∧ u = q.v := by
  rcases h with h | ⟨h, _⟩
  rotate_left
  · cases h
  generalize hz : (Value.map (some (3 * k))) = z at h
  cases h <;> try cases hz
  · rename_i k' q hq
    have : k = k' := by
      have e := Value.map.inj hz
      have e := Option.some.inj e
      omega
    subst this
    exact ⟨q, hq, rfl⟩
  all_goals
    exfalso
    have e := Value.map.inj hz
    have e := Option.some.inj e
    omega
theorem peq_pin {β γ : Ren} {v r u u' : Value} (h : peq v r = true) (h1 : SR β v u) (h2 : SR (β ++ γ) r u') : u' = u := by
  have hvr := peq_eq h
  subst hvr
  by_cases hg : ground v = true
  · rw [h1.eq_of_ground hg, h2.eq_of_ground hg]
  unfold peq at h
  split at h
  · exact absurd rfl hg
  · exact absurd rfl hg
  · rename_i a
    simp only [Bool.and_eq_true] at h
    have hp : a % 3 = 0 := Nat.eq_of_beq_eq_true h.2
    have ha : a = 3 * (a / 3) := by omega
    rw [ha] at h1 h2
    obtain ⟨q, hq, rfl⟩ := h1.opq_inv
    obtain ⟨q', hq', rfl⟩ := h2.opq_inv
    rw [get_append hq] at hq'
    cases hq'; rfl
  · rename_i B o
    rcases h1 with h1 | ⟨h1, _⟩
    rotate_left
    · cases h1
    rcases h2 with h2 | ⟨h2, _⟩
    rotate_left
    · cases h2
    cases h1 with
    | ptr _ _ b s e1 =>
      cases h2 with
      | ptr _ _ b' s' e2 =>
        rw [hm_append e1] at e2
        cases e2; rfl
  · cases h

/-- The kernel's question. -/
def chkC (P : Program) (call : ACall) (n fu : Nat) (c : Code) (l : List (Nat × Value)) (D : List (Nat × Nat)) (res : List (Nat × Value)) : Bool :=
  match acode P (fun _ => false) (fun _ => none) call n fu c (frame0 l n n) (noHn n) with
  | some (.normal, R, _) => ((List.range n).all fun t => inD D t || peq (aslot n (frame0 l n n) t) (aslot n R t)) && res.all fun p => Nat.blt p.1 n && inD D p.1 && ground p.2 && veq (aslot n R p.1) p.2
  | _ => false

theorem over_get (D : List (Nat × Nat)) (f : Nat → Value) : ∀ (l : List Value) (i t : Nat), (over D f l i)[t]? = (l[t]?).map fun v => bif inD D (i + t) then f (i + t) else v
  | [], i, t => by simp [over]
  | v :: l, i, 0 => by simp [over]
  | v :: l, i, t + 1 => by
    simp only [over, List.getElem?_cons_succ]
    rw [over_get D f l (i + 1) t, show i + 1 + t = i + (t + 1) from by omega]

theorem am_cut {P : Program} {pu : FuncId → Bool} {n fu : Nat} {c : Code} {call : ACall} {tm : Array Value} {w : World} {l : List (Nat × Value)} {D : List (Nat × Nat)} {res : List (Nat × Value)} (hN : NoNum P) (hm : P.follows .mixedOrders = true)
    (hC : CallOk P (fun _ => none) call) (hp : ∀ f args H v H', pu f = true → call f args H = some (v, H') → H' = H) (hok : codeOk P (fun _ => false) c = true)
    (hn : tm.size = n) (h12 : n ≤ 2 ^ 12) (hl : ∀ p ∈ l, p.1 < 2 ^ 12 ∧ ∀ u, tm[p.1]? = some u → VR [] p.2 u) (hrun : chkC P call n fu c l D res = true) :
    c.wp P (fun e a' w' => e = .normal ∧ ∃ f : Nat → Value, a' = ⟨(over D f tm.toList 0).toArray, []⟩ ∧ (∀ p ∈ res, f p.1 = p.2) ∧ RowKit.Below w.heap.size w w') ⟨tm, []⟩ w := by
  unfold chkC at hrun
  split at hrun
  rotate_left
  · cases hrun
  rename_i R HE hr
  rw [Bool.and_eq_true, List.all_eq_true, List.all_eq_true] at hrun
  obtain ⟨hfr, hres⟩ := hrun
  have hF := frame0_FS hn h12 hl
  refine acode_sound (w0 := w) (pu := fun _ => false) hN hC (fun _ _ _ _ _ e => by cases e) hm fu c (ren0 tm) (frame0 l n n) (noHn n) ⟨tm, []⟩ w .normal R HE _ hok (by rw [← hn]; exact noHn_HR w tm (by omega)) (fun _ _ h => by cases h) hF hr ?_
  rintro γ ⟨tm', df⟩ w' h1 h2
  have hd : df = [] := h2.nodef
  subst hd
  have hs : tm'.size = n := h2.size
  refine ⟨rfl, fun t => tm'.getD t undef, ?_, ?_, h1.below⟩
  · have : tm' = (over D (fun t => tm'.getD t undef) tm.toList 0).toArray := by
      apply Array.ext'
      apply List.ext_getElem?
      intro t
      rw [List.toList_toArray, over_get, Array.getElem?_toList, Array.getElem?_toList, Nat.zero_add]
      rcases Nat.lt_or_ge t n with ht | ht
      · have e1 := Array.getElem?_eq_getElem (xs := tm) (i := t) (by omega)
        have e2 := Array.getElem?_eq_getElem (xs := tm') (i := t) (by omega)
        rw [e1, e2]
        simp only [Option.map_some]
        congr 1
        cases hD : inD D t with
        | true => simp only [cond_true]; rw [Array.getD_eq_getD_getElem?, e2]; rfl
        | false =>
          simp only [cond_false]
          have hq := hfr t (List.mem_range.2 ht)
          rw [hD, Bool.false_or] at hq
          exact peq_pin hq (hF.slot t _ e1) (h2.slot t _ e2)
      · rw [Array.getElem?_eq_none (by omega), Array.getElem?_eq_none (by omega)]; rfl
    exact congrArg (fun q => (⟨q, []⟩ : Act)) this
  · intro p hp'
    have := hres p hp'
    simp only [Bool.and_eq_true] at this
    obtain ⟨⟨⟨q1, _⟩, q3⟩, q4⟩ := this
    have ht : p.1 < n := Nat.le_of_ble_eq_true q1
    have e2 := Array.getElem?_eq_getElem (xs := tm') (i := p.1) (by omega)
    have hsl := h2.slot p.1 _ e2
    rw [veq_eq q4] at hsl
    show tm'.getD p.1 undef = p.2
    rw [Array.getD_eq_getD_getElem?, e2]
    rcases hsl with hsl | ⟨hsl, _⟩
    · exact hsl.eq_of_ground q3
    · rw [hsl] at q3; cases q3
end
end Go.AM
