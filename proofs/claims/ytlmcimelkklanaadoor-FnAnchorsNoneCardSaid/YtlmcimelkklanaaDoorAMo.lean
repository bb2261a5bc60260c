/- A part of an abstract machine: a reckoning of calls over an abstract heap that the kernel can carry out, and the proof that what it hands back is where the call of the program itself ends, for every program that the stated checks pass. -/
import Derived.Test.YtlmcimelkklanaaDoorAMn
namespace Go.AM
noncomputable section

/-! Functions. -/
def Tr.map {α : Type} (f : α → α) : Tr α → Tr α
  | .e => .e
  | .l a => .l (f a)
  | .n x y => .n (x.map f) (y.map f)
theorem Tr.get_map {α : Type} (f : α → α) (k : Nat) : ∀ (d : Nat) (t : Tr α), (t.map f).get d k = (t.get d k).map f
  | 0, .e => rfl
  | 0, .l a => rfl
  | 0, .n x y => rfl
  | d + 1, .e => rfl
  | d + 1, .l a => rfl
  | d + 1, .n x y => by
    simp only [Tr.map, Tr.get_n]
    split
    · exact Tr.get_map f k d y
    · exact Tr.get_map f k d x

/-- All blocks as they are, not to be written. -/
def roAll (H : AS) : AS := { H with heap := H.heap.map fun b => { b with ro := true } }
theorem roAll_get {H : AS} {B : Nat} {b : Blk} (h : (roAll H).get B = some b) : ∃ b0, H.get B = some b0 ∧ b = { b0 with ro := true } := by
  unfold AS.get roAll at h
  dsimp only at h
  split at h
  · rename_i hlt
    rw [Tr.get_map, Option.map_eq_some_iff] at h
    obtain ⟨b0, h1, h2⟩ := h
    exact ⟨b0, by unfold AS.get; rw [if_pos hlt]; exact h1, h2.symm⟩
  · cases h

theorem HR.roAll {w0 : World} {β : Ren} {H : AS} {w : World} (h : HR w0 β H w) : HR w β (roAll H) w := by
  refine ⟨h.len, h.big, ?_, ?_, RowKit.Below.refl _ _⟩
  · intro B b hg hl
    obtain ⟨b0, h0, rfl⟩ := roAll_get hg
    obtain ⟨c, s, C, fr, h1, ⟨el, h2, hel⟩, h3, h4, h5, h6, h7⟩ := h.blk B b0 h0 hl
    exact ⟨c, s, C, fr, h1, ⟨el, h2, fun hc => by cases hc⟩, h3, h4, (fun hc => by cases hc), h6, (fun hc => by cases hc)⟩
  · intro B B' b b' hg hg' hl hl' hro hne
    obtain ⟨b0, h0, rfl⟩ := roAll_get hg
    cases hro

theorem below_trans {B C : Nat} {w w1 w2 : World} (h : RowKit.Below B w w1) (h2 : RowKit.Below C w1 w2) (hBC : B ≤ C) : RowKit.Below B w w2 :=
  ⟨by rw [h2.os, h.os], by rw [h2.tape, h.tape], by rw [h2.output, h.output], Nat.le_trans h.size h2.size, fun k hk => by rw [h2.block k (by omega), h.block k hk]⟩

theorem HR.back {w0 : World} {β : Ren} {H : AS} {w w' : World} (h : HR w0 β H w) (hb : RowKit.Below w.heap.size w w') : HR w0 β H w' := by
  refine ⟨h.len, h.big, ?_, h.inj, below_trans h.below hb h.below.size⟩
  intro B b hg hl
  obtain ⟨c, s, C, fr, h1, ⟨el, h2, hel⟩, h3⟩ := h.blk B b hg hl
  exact ⟨c, s, C, fr, h1, ⟨_, by rw [hb.block c (h.home_lt hg hl h1)]; exact h2, hel⟩, h3⟩

def aargs : List Value → Nat → Tr Value → Tr Value
  | [], _, F => F
  | v :: vs, i, F => aargs vs (i + 1) (F.set DF i v)

theorem aargs_get {n : Nat} (hn : n ≤ 2 ^ 12) (t : Nat) (ht : t < n) : ∀ (vs : List Value) (i : Nat) (F : Tr Value), i + vs.length ≤ n → (aargs vs i F).get DF t = if i ≤ t ∧ t < i + vs.length then vs[t - i]? else F.get DF t
  | [], i, F, _ => by simp only [aargs]; rw [if_neg (by simp only [List.length_nil]; omega)]
  | v :: vs, i, F, h => by
    simp only [List.length_cons] at h
    simp only [aargs]
    rw [aargs_get hn t ht vs (i + 1) _ (by omega)]
    by_cases h1 : i + 1 ≤ t ∧ t < i + 1 + vs.length
    · rw [if_pos h1, if_pos (by simp only [List.length_cons]; omega)]
      rw [show t - i = (t - (i + 1)) + 1 from by omega, List.getElem?_cons_succ]
    · rw [if_neg h1]
      by_cases h2 : i = t
      · subst h2
        rw [Tr.get_set, if_pos (by simp only [List.length_cons]; omega), Nat.sub_self]; rfl
      · rw [if_neg (by simp only [List.length_cons]; omega), Tr.get_set_ne v i t DF F (bits_ne 12 i t (by omega) (by omega) h2)]

def aresVar (P : Program) (n : Nat) (R : Tr Value) (H : AS) : ResultVar → Option Value
  | .tmp t => some (unskip (aslot n R t))
  | .cell a t => aloadVar P t H (unskip (aslot n R a))
def aresList (P : Program) (n : Nat) (R : Tr Value) (H : AS) : List ResultVar → Option (List Value)
  | [] => some []
  | r :: rs =>
    match aresVar P n R H r, aresList P n R H rs with
    | some v, some vs => some (v :: vs)
    | _, _ => none
def aresults (P : Program) (fn : Func) (n : Nat) (R : Tr Value) (H : AS) : Option Value :=
  match aresList P n R H fn.results.toList with
  | some [v] => some v
  | some vs => some (.tuple vs.toArray)
  | none => none

theorem aresList_sound {P : Program} {w0 : World} {β : Ren} {H : AS} {w : World} {n : Nat} {R : Tr Value} {a : Act} (h : HR w0 β H w) (hF : FS β n R a) : ∀ (rs : List ResultVar) (vs : List Value), aresList P n R H rs = some vs →
    ∃ us, (rs.mapM (m := Sem) fun
      | .tmp t => pure (a.tmps.getD t undef)
      | .cell x t => do loadVar t (← asAddr (a.tmps.getD x undef))).run P w = .ok us w ∧ VRs β vs us
  | [], vs, hr => by
    simp only [aresList, Option.some.injEq] at hr
    subst hr
    exact ⟨[], rfl, VRs.nil β⟩
  | r :: rs, vs, hr => by
    have hev : ∀ t, VR β (unskip (aslot n R t)) (a.tmps.getD t undef) := fun t => aev_sound (G := fun _ => none) (fun _ _ h => by cases h) hF.size (.tmp t) (fun t _ => hF.slot t)
    simp only [aresList] at hr
    split at hr
    · rename_i v vs' hv hvs
      cases hr
      obtain ⟨us, h1, h2⟩ := aresList_sound h hF rs vs' hvs
      cases r with
      | tmp t =>
        simp only [aresVar, Option.some.injEq] at hv
        subst hv
        refine ⟨a.tmps.getD t undef :: us, ?_, VRs.cons (hev t) h2⟩
        simp only [List.mapM_cons, Sem.run_bind, Sem.run_pure, Result.andThen_ok, h1]
      | cell x t =>
        simp only [aresVar] at hv
        obtain ⟨u, hu1, hu2⟩ := h.loadVar (P := P) (hev x) hv
        refine ⟨u :: us, ?_, VRs.cons hu2 h2⟩
        have e : (do loadVar t (← asAddr (a.tmps.getD x undef)) : Sem Value).run P w = .ok u w := by
          have hx := hev x
          have hq : ∃ q, a.tmps.getD x undef = .pointer (some q) := by
            generalize unskip (aslot n R x) = y at hx hv
            generalize a.tmps.getD x undef = z at hx
            cases hx <;> first | exact ⟨_, rfl⟩ | (simp [aloadVar] at hv; done)
          obtain ⟨q, hq⟩ := hq
          rw [hq] at hu1 ⊢
          exact hu1
        simp only [List.mapM_cons, Sem.run_bind] at e ⊢
        simp only [e, Sem.run_pure, Result.andThen_ok, h1]
    · cases hr

/-- A value without an address, or cells of such. -/
def closedV (v : Value) : Bool := ground v || match v with
  | .agg a => a.toList.all ground
  | _ => false
theorem closed_drop {β β' : Ren} {v u : Value} (hc : closedV v = true) (h : VR β v u) : VR β' v u := by
  unfold closedV at hc
  rw [Bool.or_eq_true] at hc
  rcases hc with hc | hc
  · rw [h.eq_of_ground hc]; exact VR.of_ground hc
  · split at hc
    · rename_i a
      cases h with
      | agg _ a' h1 h2 =>
        refine .agg _ a' h1 fun i x y hx hy => ?_
        have hg : ground x = true := List.all_eq_true.1 hc x (by
          rw [← Array.getElem?_toList] at hx
          exact List.mem_of_getElem? hx)
        rw [(h2 i x y hx hy).eq_of_ground hg]
        exact VR.of_ground hg
    · cases hc
/-- A call. prim: what is known of functions beforehand; pu: functions that turn nothing and hand back a plain value; ok: functions whose drawn regions pass the check; fu: how long a function's code may run. -/
def acall (P : Program) (G : Nat → Option Nat) (pu ok : FuncId → Bool) (prim : ACall) (fu : Nat) : Nat → ACall
  | 0 => fun f args H => prim f args H
  | k + 1 => fun f args H =>
    match prim f args H with
    | some r => some r
    | none =>
      if ok f then
        match P.funcs[f]? with
        | none => none
        | some fn =>
          match fn.body with
          | none => none
          | some c =>
            if args.length ≤ fn.ntmps ∧ fn.ntmps ≤ 2 ^ 12 then
              match acode P pu G (acall P G pu ok prim fu k) fn.ntmps fu c (aargs args 0 .e) (if pu f then roAll H else H) with
              | some (.exit _, _, _) => none
              | some (_, R, HE) =>
                match aresults P fn fn.ntmps R HE with
                | some v => if pu f then (if closedV v then some (v, H) else none) else some (v, HE)
                | none => none
              | none => none
            else none
      else none

theorem acall_pure {P : Program} {G : Nat → Option Nat} {pu ok : FuncId → Bool} {prim : ACall} {fu : Nat} (hprim : ∀ f args H v H', pu f = true → prim f args H = some (v, H') → H' = H) :
    ∀ (k : Nat) f args H v H', pu f = true → acall P G pu ok prim fu k f args H = some (v, H') → H' = H
  | 0, f, args, H, v, H', hp, h => hprim f args H v H' hp h
  | k + 1, f, args, H, v, H', hp, h => by
    simp only [acall] at h
    split at h
    · rename_i r hr
      cases h
      exact hprim f args H v H' hp hr
    · split at h
      · split at h
        · cases h
        · split at h
          · cases h
          · split at h
            · split at h
              · cases h
              · split at h
                · split at h
                  · cases h; rfl
                  · cases h
                · cases h
              · cases h
            · cases h
      · cases h

/-- The functions that may be run so are fit for it. -/
def FnsOk (P : Program) (pu ok : FuncId → Bool) : Prop := ∀ (f : FuncId) (fn : Func) (c : Code), ok f = true → P.funcs[f]? = some fn → fn.body = some c → codeOk P pu c = true

theorem frame_start {β : Ren} {n : Nat} (hn : n ≤ 2 ^ 12) {args : List Value} {args' : Array Value} (ha : VRs β args args'.toList) (hl : args.length ≤ n) :
    FS β n (aargs args 0 .e) { tmps := args' ++ Array.replicate (n - args'.size) undef, defers := [] } := by
  have hsz : args'.size = args.length := by rw [← ha.1, Array.length_toList]
  refine ⟨by simp [hsz]; omega, hn, ?_, rfl⟩
  intro t u hu
  left
  unfold aslot
  split
  · rename_i ht
    rw [aargs_get hn t ht args 0 .e (by omega)]
    by_cases h1 : 0 ≤ t ∧ t < 0 + args.length
    · rw [if_pos h1, Nat.sub_zero, List.getElem?_eq_getElem (show t < args.length by omega)]
      have : args'.toList[t]? = some u := by
        rw [Array.getElem?_toList]
        rw [Array.getElem?_append_left (by omega)] at hu
        exact hu
      exact ha.2 t _ u (List.getElem?_eq_getElem (by omega)) this
    · rw [if_neg h1, Tr.get_e]; exact .any _
  · exact .any _

theorem acall_sound {P : Program} {pu ok : FuncId → Bool} {G : Nat → Option Nat} {prim : ACall} {fu : Nat} (hN : NoNum P) (hm : P.follows .mixedOrders = true) (hok : FnsOk P pu ok)
    (hprim : ∀ f args H v H', pu f = true → prim f args H = some (v, H') → H' = H) (hC : CallOk P G prim) : ∀ (k : Nat), CallOk P G (acall P G pu ok prim fu k)
  | 0 => hC
  | k + 1 => by
    intro w0 β H w f args args' v H' h hG ha hcall
    simp only [acall] at hcall
    split at hcall
    · rename_i r hr
      cases hcall
      exact hC w0 β H w f args args' v H' h hG ha hr
    · split at hcall
      rotate_left
      · cases hcall
      rename_i hokf
      split at hcall
      · cases hcall
      rename_i fn hfn
      split at hcall
      · cases hcall
      rename_i c hbody
      split at hcall
      rotate_left
      · cases hcall
      rename_i hsz
      have ih := acall_sound (fu := fu) hN hm hok hprim hC k
      have hpure := acall_pure (P := P) (G := G) (ok := ok) (fu := fu) hprim k
      have run : ∀ (wb : World) (H0 HE : AS) (e : AExit) (R : Tr Value) (v : Value), HR wb β H0 w → acode P pu G (acall P G pu ok prim fu k) fn.ntmps fu c (aargs args 0 .e) H0 = some (e, R, HE) → (∀ id, e ≠ .exit id) →
          aresults P fn fn.ntmps R HE = some v → Calls P f args' w fun e w' => ∃ (γ : Ren) (u : Value), e = .returned u ∧ HR wb (β ++ γ) HE w' ∧ VR (β ++ γ) v u := by
        intro wb H0 HE e R v hH hrun hne hres
        refine calls_of_wp hfn hbody ?_
        refine acode_sound hN ih hpure hm fu c β (aargs args 0 .e) H0 _ w e R HE _ (hok f fn c hokf hfn hbody) hH hG (frame_start hsz.2 ha hsz.1) hrun ?_
        intro γ a' w' h1 h2
        have hR : ∃ u, (results fn a'.tmps).run P w' = .ok u w' ∧ VR (β ++ γ) v u := by
          have arr : ∀ vs us, aresList P fn.ntmps R HE fn.results.toList = some vs → (fn.results.toList.mapM (m := Sem) fun
              | .tmp t => pure (a'.tmps.getD t undef)
              | .cell x t => do loadVar t (← asAddr (a'.tmps.getD x undef))).run P w' = .ok us w' → (results fn a'.tmps).run P w' = .ok (if h : us.toArray.size = 1 then us.toArray[0] else .tuple us.toArray) w' := by
            intro vs us _ hus
            unfold results
            simp only [Sem.run_bind, Array.mapM_eq_mapM_toList, Sem.run_map]
            erw [hus]
            rfl
          unfold aresults at hres
          split at hres
          · rename_i v1 hl
            cases hres
            obtain ⟨us, g1, g2⟩ := aresList_sound h1 h2 _ _ hl
            have g0 := arr _ _ hl g1
            obtain ⟨u, us', rfl, g3, g4⟩ := g2.cons_inv
            obtain rfl : us' = [] := List.eq_nil_of_length_eq_zero g4.1
            exact ⟨u, g0, g3⟩
          · rename_i vs hne1 hl
            cases hres
            obtain ⟨us, g1, g2⟩ := aresList_sound h1 h2 _ _ hl
            have g0 := arr _ _ hl g1
            have hlen : ¬ us.toArray.size = 1 := by
              rw [List.size_toArray, g2.1]
              intro hc
              obtain ⟨x, hx⟩ := List.length_eq_one_iff.1 hc
              exact hne1 x (by rw [hx])
            rw [dif_neg hlen] at g0
            exact ⟨_, g0, .tuple _ _ (by simp [g2.1]) (fun i x y hx hy => g2.2 i x y (by simpa using hx) (by simpa using hy))⟩
          · cases hres
        obtain ⟨u, hu1, hu2⟩ := hR
        cases e with
        | normal => exact ⟨h2.nodef, u, hu1, γ, u, rfl, h1, hu2⟩
        | ret => exact ⟨h2.nodef, u, hu1, γ, u, rfl, h1, hu2⟩
        | exit id => exact (hne id rfl).elim
      split at hcall
      · cases hcall
      · rename_i e R HE hne hrun
        split at hcall
        · rename_i v2 hres
          by_cases hp : pu f = true
          · simp only [hp, if_true] at hcall hrun
            split at hcall
            · rename_i hg
              simp only [Option.some.injEq, Prod.mk.injEq] at hcall
              obtain ⟨rfl, rfl⟩ := hcall
              refine (run w (roAll H) HE e R v2 h.roAll hrun hne hres).mono ?_
              rintro e w' ⟨γ, u, rfl, h1, h2⟩
              exact ⟨[], _, rfl, by rw [List.append_nil]; exact h.back h1.below, closed_drop hg h2⟩
            · cases hcall
          · simp only [hp] at hcall hrun
            simp only [Bool.false_eq_true, if_false, Option.some.injEq, Prod.mk.injEq] at hcall hrun
            obtain ⟨rfl, rfl⟩ := hcall
            exact run w0 H HE e R v2 h hrun hne hres
        · cases hcall
      · cases hcall
end
end Go.AM
