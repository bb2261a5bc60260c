/- A part of an abstract machine: a reckoning of calls over an abstract heap that the kernel can carry out, and the proof that what it hands back is where the call of the program itself ends, for every program that the stated checks pass. -/
import Derived.Test.YtlmcimelkklanaaDoorAMi
import Derived.Orders
namespace Go.AM
noncomputable section

/-! Frames in which a slot may be known to hold nothing. -/
def SR (β : Ren) (v u : Value) : Prop := VR β v u ∨ (v = .map none ∧ u = undef)
theorem SR.mono {β γ : Ren} {v u : Value} (h : SR β v u) : SR (β ++ γ) v u := h.imp (fun h => h.mono) id

def unskip : Value → Value
  | .map none => .tuple #[]
  | v => v
theorem SR.unskip {β : Ren} {v u : Value} (h : SR β v u) : VR β (AM.unskip v) u := by
  rcases h with h | ⟨rfl, rfl⟩
  · cases h <;> first | exact .any _ | (unfold AM.unskip; constructor <;> assumption) | skip
  · exact .any _

def aslot (n : Nat) (F : Tr Value) (t : Nat) : Value :=
  if t < n then
    match F.get DF t with
    | some v => v
    | none => .tuple #[]
  else .tuple #[]

def aev (G : Nat → Option Nat) (n : Nat) (F : Tr Value) : Operand → Value
  | .tmp t => unskip (aslot n F t)
  | .const v => if ground v then v else .tuple #[]
  | .global g =>
    match G g with
    | some B => .pointer (some ⟨B, 0, none⟩)
    | none => .tuple #[]
  | .func f => .func (.func f) #[] #[]

def Gok (G : Nat → Option Nat) (β : Ren) : Prop := ∀ g B, G g = some B → hm β B = some (g, 0)
theorem Gok.mono {G : Nat → Option Nat} {β γ : Ren} (h : Gok G β) : Gok G (β ++ γ) := fun g B hg => hm_append (h g B hg)

/-- Slot t stands as told. -/
def SlotOk (β : Ren) (n : Nat) (F : Tr Value) (a : Act) (t : Nat) : Prop := ∀ u, a.tmps[t]? = some u → SR β (aslot n F t) u

theorem aev_sound {β : Ren} {n : Nat} {F : Tr Value} {a : Act} {G : Nat → Option Nat} (hG : Gok G β) (hsz : a.tmps.size = n) (o : Operand) (h : ∀ t, o = .tmp t → SlotOk β n F a t) : VR β (aev G n F o) (a.eval o) := by
  cases o with
  | tmp t =>
    simp only [aev, Act.eval]
    rw [Array.getD_eq_getD_getElem?]
    cases hu : a.tmps[t]? with
    | some u => exact (h t rfl u hu).unskip
    | none =>
      have ht : ¬ t < n := by
        intro hlt
        rw [Array.getElem?_eq_getElem (by rw [hsz]; exact hlt)] at hu
        cases hu
      unfold aslot
      rw [if_neg ht]
      exact .any _
  | const v =>
    simp only [aev, Act.eval]
    split
    · rename_i hg; exact VR.of_ground hg
    · exact .any _
  | global g =>
    simp only [aev, Act.eval]
    cases hx : G g with
    | none => exact .any _
    | some B => exact .ptr B 0 g 0 (hG g B hx)
  | func f => exact VR.of_ground rfl

def awanted (ops : Array Oper) (n : Nat) (F : Tr Value) (o : Oper) : Option Bool :=
  match o.guard with
  | none => some true
  | some (g, want) =>
    match (ops[g]?).bind (·.dst) with
    | none => some false
    | some t =>
      match aslot n F t with
      | .bool r => some (r == want)
      | .map none => some false
      | _ => none

theorem wanted_sound {β : Ren} {ops : Array Oper} {n : Nat} {F : Tr Value} {a : Act} {o : Oper} (hsz : a.tmps.size = n) (h : ∀ t, t ∈ o.looksAt ops → SlotOk β n F a t) {b : Bool} (hw : awanted ops n F o = some b) :
    Region.wanted o (yielded ops a.tmps) = b := by
  unfold awanted at hw
  unfold Region.wanted
  split at hw
  · rename_i hg
    cases hw
    simp only [hg]
  · rename_i g want hg
    simp only [hg]
    split at hw
    · rename_i hd
      cases hw
      simp only [yielded, hd, Option.bind_none]
      rfl
    · rename_i t hd
      have hs : SlotOk β n F a t := h t (by simp [Oper.looksAt, hg, hd])
      simp only [yielded, hd, Option.bind_some]
      cases hu : a.tmps[t]? with
      | none =>
        have ht : ¬ t < n := by
          intro hlt
          rw [Array.getElem?_eq_getElem (by rw [hsz]; exact hlt)] at hu
          cases hu
        unfold aslot at hw
        rw [if_neg ht] at hw
        cases hw
      | some u =>
        have := hs u hu
        split at hw
        · rename_i r hr
          cases hw
          rw [hr] at this
          rcases this with h1 | ⟨h1, _⟩
          · cases h1; cases r <;> cases want <;> rfl
          · cases h1
        · rename_i hr
          cases hw
          rw [hr] at this
          rcases this with h1 | ⟨_, rfl⟩
          · cases h1
          · cases want <;> rfl
        · cases hw

abbrev ACall := FuncId → List Value → AS → Option (Value × AS)
def CallOk (P : Program) (G : Nat → Option Nat) (call : ACall) : Prop := ∀ (w0 : World) (β : Ren) (H : AS) (w : World) (f : FuncId) (args : List Value) (args' : Array Value) (v : Value) (H' : AS),
  HR w0 β H w → Gok G β → VRs β args args'.toList → call f args H = some (v, H') → Calls P f args' w fun e w' => ∃ (γ : Ren) (u : Value), e = .returned u ∧ HR w0 (β ++ γ) H' w' ∧ VR (β ++ γ) v u

/-! Where one statement makes three slices or more, in whatever order: they are forgotten. -/
def isMk (o : Oper) : Bool := match o.op with
  | .makeSlice .. => true
  | _ => false
def forget (ops : Array Oper) (o : Oper) : Bool := isMk o && Nat.ble 3 (ops.toList.filter isMk).length
def emptyH : AS := { heap := Tr.e, size := 0 }
theorem emptyH_HR (w : World) : HR w [] emptyH w := by
  refine ⟨rfl, by show 0 ≤ 2 ^ 20; decide, ?_, ?_, RowKit.Below.refl _ _⟩
  · intro B b hg; have := AS.get_lt hg; exact absurd this (by show ¬ B < 0; omega)
  · intro B B' b b' hg; have := AS.get_lt hg; exact absurd this (by show ¬ B < 0; omega)
theorem HR.later {w0 : World} {β : Ren} {H : AS} {w w' : World} (h : HR w0 β H w) (hb : RowKit.Below w.heap.size w w') : HR w0 β H w' := by
  refine ⟨h.len, h.big, ?_, h.inj, h.below.trans (hb.mono h.below.size)⟩
  intro B b hg hl
  obtain ⟨c, s, C, fr, h1, ⟨el, h2, hel⟩, h3⟩ := h.blk B b hg hl
  have hc : c < w.heap.size := by
    rcases Nat.lt_or_ge c w.heap.size with hlt | hge
    · exact hlt
    · rw [Array.getElem?_eq_none hge] at h2; cases h2
  exact ⟨c, s, C, fr, h1, ⟨_, by rw [hb.block c hc]; exact h2, hel⟩, h3⟩

def astep (P : Program) (G : Nat → Option Nat) (call : ACall) (ops : Array Oper) (n : Nat) (o : Oper) (F : Tr Value) (H : AS) : Option (Value × AS) :=
  match awanted ops n F o with
  | none => none
  | some false => some (.map none, H)
  | some true =>
    match forget ops o with
    | true =>
      if (o.op.operands.toList.all fun x => ground (aev G n F x)) then
        match aop P (aev G n F) emptyH o with
        | some (.val v _) => if aone v then some (.chan none, H) else none
        | _ => none
      else none
    | false =>
      match aop P (aev G n F) H o with
      | some (.val v H') => some (v, H')
      | some (.call f args) => call f args H
      | none => none

theorem aop_congr {P : Program} {ρ ρ' : Operand → Value} {H : AS} (o : Oper) (h : ∀ x ∈ o.op.operands, ρ x = ρ' x) : aop P ρ H o = aop P ρ' H o := by
  obtain ⟨dst, op, type, pos, after, guard⟩ := o
  have pairs : ∀ ps : Array (Nat × Operand), (∀ x ∈ ps.toList.map (·.2), ρ x = ρ' x) → (ps.toList.map fun p => (p.1, ρ p.2)) = (ps.toList.map fun p => (p.1, ρ' p.2)) := fun ps hp =>
    List.map_congr_left fun p hm => by rw [hp p.2 (List.mem_map.2 ⟨p, hm, rfl⟩)]
  cases op <;> simp only [Op.operands] at h <;> simp only [aop]
  case build t ps => rw [pairs ps fun x hx => h x (by simpa using hx)]
  case buildSlice t n ps => rw [pairs ps fun x hx => h x (by simpa using hx)]
  case makeFunc fn first captured =>
    rw [List.map_congr_left (l := first.toList) fun x hx => h x (by simp at hx; simp [hx]), List.map_congr_left (l := captured.toList) fun x hx => h x (by simp at hx; simp [hx])]
  case call c =>
    have hargs : c.args.toList.map ρ = c.args.toList.map ρ' := List.map_congr_left fun x hx => h x (by simp at hx; simp [Call.operands, hx])
    rw [hargs]
    cases hc : c.callee with
    | value f => have hf : ρ f = ρ' f := h f (by simp [Call.operands, hc]); simp only [hf]
    | invoke r m => rfl
    | builtin b => rfl
  case slice t x lo hi mx =>
    have e0 : ρ x = ρ' x := h x (by simp)
    have e1 : lo.map ρ = lo.map ρ' := by cases lo <;> simp_all
    have e2 : hi.map ρ = hi.map ρ' := by cases hi <;> simp_all
    have e3 : mx.map ρ = mx.map ρ' := by cases mx <;> simp_all
    rw [e0, e1, e2, e3]
  all_goals (first | rfl | (simp_all; done))

theorem aop_sound_at {P : Program} {w0 : World} {β : Ren} {H : AS} {w : World} (hN : NoNum P) (h : HR w0 β H w) {ρ ρ' : Operand → Value} {o : Oper} (hρ : ∀ x ∈ o.op.operands, VR β (ρ x) (ρ' x)) {r : ARes} (hr : aop P ρ H o = some r) :
    OpOk P w0 β w (execOp ρ' o) r := by
  classical
  have e : aop P ρ H o = aop P (fun x => if x ∈ o.op.operands then ρ x else .tuple #[]) H o := aop_congr o fun x hx => by rw [if_pos hx]
  rw [e] at hr
  refine aop_sound hN h (fun x => ?_) hr
  by_cases hx : x ∈ o.op.operands
  · rw [if_pos hx]; exact hρ x hx
  · rw [if_neg hx]; exact .any _

theorem step_wp {P : Program} {w0 : World} {β : Ren} {H H' : AS} {w : World} {a : Act} {n i : Nat} {ops : Array Oper} {o : Oper} {F : Tr Value} {G : Nat → Option Nat} {call : ACall} {v : Value} {Q : Exit → Act → World → Prop}
    (hN : NoNum P) (hC : CallOk P G call) (h : HR w0 β H w) (hG : Gok G β) (hsz : a.tmps.size = n) (hi : ops[i]? = some o) (hs : ∀ t, t ∈ o.looksAt ops → SlotOk β n F a t)
    (hst : astep P G call ops n o F H = some (v, H')) (K : Act → World → Prop) (hK : ∀ (γ : Ren) (u : Value) (w' : World), HR w0 (β ++ γ) H' w' → SR (β ++ γ) v u → K (a.put o.dst u) w') : wpOp P ops Q i K a w := by
  unfold wpOp
  simp only [hi]
  unfold astep at hst
  have hρ : ∀ x ∈ o.op.operands, VR β (aev G n F x) (a.eval x) := fun x hx => aev_sound hG hsz x fun t ht => hs t (by
    subst ht
    exact List.mem_append_left _ (List.mem_filterMap.2 ⟨.tmp t, by simpa using hx, rfl⟩))
  split at hst
  · cases hst
  · rename_i hw
    rw [wanted_sound hsz hs hw]
    cases hst
    rw [if_neg (by decide)]
    exact hK [] undef w (by rw [List.append_nil]; exact h) (.inr ⟨rfl, rfl⟩)
  · rename_i hw
    rw [wanted_sound hsz hs hw, if_pos rfl]
    refine .inl ?_
    unfold Oper.wp
    split at hst
    · split at hst
      rotate_left
      · cases hst
      rename_i hg
      split at hst
      rotate_left
      · cases hst
      rename_i v' H2 hop
      split at hst
      rotate_left
      · cases hst
      rename_i hone
      cases hst
      have hρ0 : ∀ x ∈ o.op.operands, VR [] (aev G n F x) (a.eval x) := fun x hx => by
        have h1 : ground (aev G n F x) = true := by
          rw [List.all_eq_true] at hg
          exact hg x (by simpa using hx)
        rw [(hρ x hx).eq_of_ground h1]
        exact VR.of_ground h1
      obtain ⟨γ, nx, w', hrun, hr, hval⟩ := aop_sound_at hN (emptyH_HR w) hρ0 hop
      rw [hrun]
      have hr2 := h.later hr.below
      rcases hval with ⟨u, rfl, hu⟩ | ⟨rfl, rfl⟩
      · exact hK [] u w' (by rw [List.append_nil]; exact hr2) (.inl (.any1 _ (hu.one_conc hone)))
      · cases hone
    split at hst
    · rename_i v' H2 hop
      cases hst
      obtain ⟨γ, nx, w', hrun, hr, hval⟩ := aop_sound_at hN h hρ hop
      rw [hrun]
      rcases hval with ⟨u, rfl, hu⟩ | ⟨rfl, rfl⟩
      · exact hK γ u w' hr (.inl hu)
      · exact hK γ undef w' hr (.inl (.any _))
    · rename_i f args hop
      obtain ⟨us, hrun, hus⟩ := aop_sound_at hN h hρ hop
      rw [hrun]
      refine (hC w0 β H w f args us v H' h hG hus hst).mono ?_
      rintro e w' ⟨γ, u, rfl, hr, hu⟩
      exact hK γ u w' hr (.inl hu)
    · cases hst

/-! A region in the order of the text. -/
structure FS (β : Ren) (n : Nat) (F : Tr Value) (a : Act) : Prop where
  size : a.tmps.size = n
  small : n ≤ 2 ^ 12
  slot : ∀ t, SlotOk β n F a t
  nodef : a.defers = []
theorem FS.mono {β γ : Ren} {n : Nat} {F : Tr Value} {a : Act} (h : FS β n F a) : FS (β ++ γ) n F a := ⟨h.size, h.small, fun t u hu => (h.slot t u hu).mono, h.nodef⟩

theorem put_size (a : Act) (dst : Option Tmp) (u : Value) : (a.put dst u).tmps.size = a.tmps.size := by cases dst <;> simp [Act.put]
theorem put_def (a : Act) (dst : Option Tmp) (u : Value) : (a.put dst u).defers = a.defers := by cases dst <;> rfl

theorem FS.put {β : Ren} {n : Nat} {F F' : Tr Value} {a : Act} (h : FS β n F a) {dst : Option Tmp} {v u : Value} (hp : aput n F dst v = some F') (hv : SR β v u) : FS β n F' (a.put dst u) := by
  cases dst with
  | none => simp only [aput, Option.some.injEq] at hp; subst hp; exact h
  | some d =>
    simp only [aput] at hp
    split at hp
    · rename_i hd
      have hd' : @LT.lt Nat _ d n := hd
      have hsm := h.small
      simp only [Option.some.injEq] at hp
      subst hp
      refine ⟨by rw [put_size, h.size], h.small, ?_, by rw [put_def, h.nodef]⟩
      intro t x hx
      by_cases hdt : d = t
      · subst hdt
        simp only [Act.put] at hx
        rw [Array.getElem?_setIfInBounds_self_of_lt (by rw [h.size]; exact hd)] at hx
        cases hx
        unfold aslot
        rw [if_pos hd', Tr.get_set]
        exact hv
      · simp only [Act.put] at hx
        rw [Array.getElem?_setIfInBounds_ne hdt] at hx
        have := h.slot t x hx
        unfold aslot at this ⊢
        split
        · rename_i ht
          rw [if_pos ht] at this
          rw [Tr.get_set_ne v d t DF F (bits_ne 12 d t (by omega) (by omega) hdt)]
          exact this
        · rename_i ht
          rw [if_neg ht] at this
          exact this
    · cases hp

def arun (P : Program) (G : Nat → Option Nat) (call : ACall) (ops : Array Oper) (n : Nat) : List Oper → Tr Value → AS → Option (Tr Value × AS)
  | [], F, H => some (F, H)
  | o :: rest, F, H =>
    match astep P G call ops n o F H with
    | none => none
    | some (v, H') =>
      match aput n F o.dst v with
      | none => none
      | some F' => arun P G call ops n rest F' H'

theorem arun_sound {P : Program} {w0 : World} {G : Nat → Option Nat} {call : ACall} {ops : Array Oper} {n : Nat} {Q : Exit → Act → World → Prop} (hN : NoNum P) (hC : CallOk P G call) (R : Tr Value) (HE : AS) :
    ∀ (l : List Oper) (k : Nat) (β : Ren) (F : Tr Value) (H : AS) (a : Act) (w : World), ops.toList.drop k = l → HR w0 β H w → Gok G β → FS β n F a → arun P G call ops n l F H = some (R, HE) →
      (∀ (γ : Ren) (a' : Act) (w' : World), HR w0 (β ++ γ) HE w' → FS (β ++ γ) n R a' → Q .normal a' w') → wpOps P ops Q (List.range' k l.length) a w
  | [], k, β, F, H, a, w, hl, h, hG, hF, hr, hQ => by
    simp only [arun, Option.some.injEq, Prod.mk.injEq] at hr
    obtain ⟨rfl, rfl⟩ := hr
    exact hQ [] a w (by rw [List.append_nil]; exact h) (by rw [List.append_nil]; exact hF)
  | o :: rest, k, β, F, H, a, w, hl, h, hG, hF, hr, hQ => by
    have hk : ops[k]? = some o := by
      rw [← Array.getElem?_toList]
      have := congrArg (fun l => l[0]?) hl
      simpa using this
    simp only [arun] at hr
    split at hr
    · cases hr
    · rename_i v H' hst
      split at hr
      · cases hr
      · rename_i F' hp
        rw [List.length_cons, List.range'_succ, wpOps_cons]
        refine step_wp hN hC h hG hF.size hk (fun t _ => hF.slot t) hst _ ?_
        intro γ u w' hr' hu
        refine arun_sound hN hC R HE rest (k + 1) (β ++ γ) F' H' _ w' ?_ hr' hG.mono (hF.mono.put hp hu) hr ?_
        · rw [← List.tail_drop, hl]; rfl
        · intro γ' a' w'' h1 h2
          exact hQ (γ ++ γ') a' w'' (by rw [← List.append_assoc]; exact h1) (by rw [← List.append_assoc]; exact h2)
end
end Go.AM
