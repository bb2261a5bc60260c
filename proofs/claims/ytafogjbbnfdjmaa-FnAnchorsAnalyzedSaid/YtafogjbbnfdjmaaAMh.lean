/- A part of an abstract machine: a reckoning of calls over an abstract heap that the kernel can carry out, and the proof that what it hands back is where the call of the program itself ends, for every program that the stated checks pass. -/
import Derived.Test.YtafogjbbnfdjmaaAMg
namespace Go.AM
noncomputable section

/-! Operators on two values. -/
def astr (op : BinOp) (s u : ByteArray) : Option Value :=
  match op with
  | .add => if ((s.size + u.size : Nat) : Int) ≤ IntKind.i64.max then some (.string (s ++ u)) else none
  | .eql => some (.bool (decide (s.data.toList = u.data.toList)))
  | .neq => some (.bool (!decide (s.data.toList = u.data.toList)))
  | .lss => some (.bool (Op.bytesLess s.data.toList u.data.toList))
  | .geq => some (.bool (!Op.bytesLess s.data.toList u.data.toList))
  | .leq => some (.bool (Op.bytesLess s.data.toList u.data.toList || decide (s.data.toList = u.data.toList)))
  | .gtr => some (.bool (!(Op.bytesLess s.data.toList u.data.toList || decide (s.data.toList = u.data.toList))))
  | _ => none
theorem list_beq (l m : List UInt8) : (l == m) = decide (l = m) := by
  by_cases h : l = m
  · subst h; simp
  · rw [decide_eq_false h, beq_eq_false_iff_ne]; exact h
theorem astr_run {P : Program} {w : World} {op : BinOp} {s u : ByteArray} {v : Value} (h : astr op s u = some v) : (Op.stringOp op s u).run P w = .ok v w ∧ ground v = true := by
  unfold astr at h
  split at h <;> try (cases h; done)
  · split at h
    · rename_i hle
      cases h
      refine ⟨?_, rfl⟩
      simp only [Op.stringOp]
      rw [if_neg (by omega)]
      rfl
    · cases h
  all_goals
    cases h
    refine ⟨?_, rfl⟩
    simp only [Op.stringOp, Lib.toList_data, list_beq]
    rfl

/-- A range against a number. -/
def arng (op : BinOp) (lo hi c : Int) : Option Bool :=
  match op with
  | .eql => if c < lo ∨ hi < c then some false else if lo = hi ∧ c = lo then some true else none
  | .neq => if c < lo ∨ hi < c then some true else if lo = hi ∧ c = lo then some false else none
  | .lss => if hi < c then some true else if c ≤ lo then some false else none
  | .leq => if hi ≤ c then some true else if c < lo then some false else none
  | .gtr => if c < lo then some true else if hi ≤ c then some false else none
  | .geq => if c ≤ lo then some true else if hi < c then some false else none
  | _ => none
theorem arng_run {P : Program} {w : World} {op : BinOp} {lo hi c n : Int} {r : Bool} {t : TypeId} {k : IntKind} (h : arng op lo hi c = some r) (h1 : lo ≤ n) (h2 : n ≤ hi) : (binOp op t (.int k n) (.int k c)).run P w = .ok (.bool r) w := by
  have key : ∀ (p q : Bool), p = q → Sem.run P (pure (Value.bool p)) w = .ok (.bool q) w := by rintro p _ rfl; rfl
  unfold arng at h
  split at h <;> try (cases h; done)
  all_goals
    simp only [binOp, ne_eq, not_true_eq_false, if_false, Op.intCmp]
    split at h
    · cases h
      refine key _ _ ?_
      first
        | exact decide_eq_true (by omega)
        | exact decide_eq_false (by omega)
        | exact beq_eq_false_iff_ne.2 (by omega)
        | exact bne_iff_ne.2 (by omega)
    · split at h
      · cases h
        refine key _ _ ?_
        first
          | exact decide_eq_true (by omega)
          | exact decide_eq_false (by omega)
          | exact beq_iff_eq.2 (by omega)
          | (rw [bne_eq_false_iff_eq]; omega)
      · cases h

def abin (P : Program) (op : BinOp) (t : TypeId) (x y : Operand) (a b : Value) : Option Value :=
  match a, b with
  | .string s, .string u => astr op s u
  | _, _ =>
    if ground a && ground b then agr P (do eqGuard op t x y a b; binOp op t a b)
    else
      match a, b with
      | .complex .f32 lo hi, .int .u8 c => (arng op lo hi c).map .bool
      | .complex .f64 lo hi, .int .i64 c => (arng op lo hi c).map .bool
      | .chan (some b), .int .i64 c =>
        match op with
        | .add => if b % 2 = 0 ∧ 0 ≤ c ∧ b / 2 + c.toNat ≤ 2 ^ 40 then some (.chan (some (2 * (b / 2 + c.toNat)))) else none
        | _ => none
      | a, b =>
        match op with
        | .eql => (anilEq P t a b).map .bool
        | .neq => (anilEq P t a b).map fun r => .bool (!r)
        | _ => none

theorem eqGuard_skip {P : Program} {w : World} {op : BinOp} {t : TypeId} {x y : Operand} {a b : Value} (h : ∀ c d, ¬ (a = .agg c ∧ b = .agg d)) (h2 : ¬ (a = .nilIface ∧ b = .nilIface)) : (eqGuard op t x y a b).run P w = .ok () w := by
  unfold eqGuard
  cases op <;> first
    | rfl
    | (cases a <;> cases b <;> first | rfl | exact (h2 ⟨rfl, rfl⟩).elim | exact (h _ _ ⟨rfl, rfl⟩).elim)

theorem anilEq_form {P : Program} {t : TypeId} {a b : Value} {r : Bool} (h : anilEq P t a b = some r) : (∀ c d, ¬ (a = .agg c ∧ b = .agg d)) ∧ ¬ (a = .nilIface ∧ b = .nilIface) ∧
    (∀ c d, ¬ (a = .tuple c ∧ b = d)) ∧ (∀ c d, ¬ (a = d ∧ b = .tuple c)) := by
  unfold anilEq at h
  refine ⟨?_, ?_, ?_, ?_⟩ <;> (intros; rintro ⟨rfl, rfl⟩; split at h <;> simp_all)

theorem binOp_eq {P : Program} {w : World} {t : TypeId} {a b : Value} {r : Bool} (h : (Op.equal t a b).run P w = .ok r w)
    (hf : (∃ p, a = .pointer p) ∨ (∃ p n c, a = .slice p n c) ∨ a = .nilIface ∨ (∃ t v, a = .iface t v) ∨ a = .nilFunc ∨ (∃ f x c, a = .func f x c)) :
    (binOp .eql t a b).run P w = .ok (.bool r) w ∧ (binOp .neq t a b).run P w = .ok (.bool (!r)) w := by
  have e1 : binOp .eql t a b = (do pure (.bool (← Op.equal t a b))) := by
    rcases hf with ⟨p, rfl⟩ | ⟨p, n, c, rfl⟩ | rfl | ⟨t, v, rfl⟩ | rfl | ⟨f, x, c, rfl⟩ <;> (unfold binOp; cases b <;> rfl)
  have e2 : binOp .neq t a b = (do pure (.bool (!(← Op.equal t a b)))) := by
    rcases hf with ⟨p, rfl⟩ | ⟨p, n, c, rfl⟩ | rfl | ⟨t, v, rfl⟩ | rfl | ⟨f, x, c, rfl⟩ <;> (unfold binOp; cases b <;> rfl)
  rw [e1, e2]
  simp only [Sem.run_bind, h, Result.andThen_ok]
  exact ⟨rfl, rfl⟩

theorem bin_sound {P : Program} {w : World} {β : Ren} {op : BinOp} {t : TypeId} {x y : Operand} {a b a' b' v : Value} (ha : VR β a a') (hb : VR β b b') (h : abin P op t x y a b = some v) :
    ∃ u, (do eqGuard op t x y a' b'; binOp op t a' b' : Sem Value).run P w = .ok u w ∧ VR β v u := by
  unfold abin at h
  split at h
  · rename_i s u
    cases ha; cases hb
    obtain ⟨h1, h2⟩ := astr_run (P := P) (w := w) h
    refine ⟨v, ?_, VR.of_ground h2⟩
    rw [Sem.run_bind, eqGuard_skip (by rintro c d ⟨h, _⟩; cases h) (by rintro ⟨h, _⟩; cases h), Result.andThen_ok]
    have : binOp op t (.string s) (.string u) = Op.stringOp op s u := by cases op <;> rfl
    rw [this]; exact h1
  · split at h
    · rename_i hg
      simp only [Bool.and_eq_true] at hg
      have e1 := ha.eq_of_ground hg.1
      have e2 := hb.eq_of_ground hg.2
      subst e1 e2
      exact ⟨v, (agr_run h w).1, VR.of_ground (agr_run h w).2⟩
    · have main : ∀ r, anilEq P t a b = some r → (eqGuard op t x y a' b').run P w = .ok () w ∧ (binOp .eql t a' b').run P w = .ok (.bool r) w ∧ (binOp .neq t a' b').run P w = .ok (.bool (!r)) w := by
        intro r hr
        have hE := nilEq_sound (w := w) ha hb hr
        have hform : (∃ p, a = .pointer p) ∨ (∃ p n c, a = .slice p n c) ∨ a = .nilIface ∨ (∃ t v, a = .iface t v) ∨ a = .nilFunc ∨ (∃ f x c, a = .func f x c) := by
          unfold anilEq at hr
          split at hr <;> simp_all
        have hform' : (∃ p, a' = .pointer p) ∨ (∃ p n c, a' = .slice p n c) ∨ a' = .nilIface ∨ (∃ t v, a' = .iface t v) ∨ a' = .nilFunc ∨ (∃ f x c, a' = .func f x c) := by
          rcases hform with ⟨p, rfl⟩ | ⟨p, n, c, rfl⟩ | rfl | ⟨t, v, rfl⟩ | rfl | ⟨f, x, c, rfl⟩ <;> cases ha <;> simp
        obtain ⟨b1, b2⟩ := binOp_eq hE hform'
        refine ⟨eqGuard_skip ?_ ?_, b1, b2⟩
        · rintro c d ⟨rfl, rfl⟩
          rcases hform' with ⟨p, h⟩ | ⟨p, n, c, h⟩ | h | ⟨t, v, h⟩ | h | ⟨f, x, c, h⟩ <;> cases h
        · rintro ⟨rfl, rfl⟩
          have hformb : (∃ p, b = .pointer p) ∨ (∃ p n c, b = .slice p n c) ∨ b = .nilIface ∨ (∃ t v, b = .iface t v) ∨ b = .nilFunc ∨ (∃ f x c, b = .func f x c) := by
            unfold anilEq at hr
            split at hr <;> simp_all
          have f1 : a = .nilIface ∨ ∃ u, a = .tuple u := by
            rcases hform with ⟨p, rfl⟩ | ⟨p, n, c, rfl⟩ | rfl | ⟨t, v, rfl⟩ | rfl | ⟨f, x, c, rfl⟩ <;> first | exact .inl rfl | cases ha
          have f2 : b = .nilIface ∨ ∃ u, b = .tuple u := by
            rcases hformb with ⟨p, rfl⟩ | ⟨p, n, c, rfl⟩ | rfl | ⟨t, v, rfl⟩ | rfl | ⟨f, x, c, rfl⟩ <;> first | exact .inl rfl | cases hb
          obtain ⟨_, g2, g3, g4⟩ := anilEq_form hr
          rcases f1 with rfl | ⟨u, rfl⟩
          · rcases f2 with rfl | ⟨u, rfl⟩
            · exact g2 ⟨rfl, rfl⟩
            · exact g4 _ _ ⟨rfl, rfl⟩
          · exact g3 _ _ ⟨rfl, rfl⟩
      split at h
      · rename_i lo hi c
        simp only [Option.map_eq_some_iff] at h
        obtain ⟨r, hr, rfl⟩ := h
        cases ha with
        | rng8 _ _ n h1 h2 =>
          cases hb
          refine ⟨_, ?_, .bool _⟩
          rw [Sem.run_bind, eqGuard_skip (by rintro _ _ ⟨h, _⟩; cases h) (by rintro ⟨h, _⟩; cases h), Result.andThen_ok]
          exact arng_run hr h1 h2
      · rename_i lo hi c
        simp only [Option.map_eq_some_iff] at h
        obtain ⟨r, hr, rfl⟩ := h
        cases ha with
        | rng64 _ _ n h1 h2 =>
          cases hb
          refine ⟨_, ?_, .bool _⟩
          rw [Sem.run_bind, eqGuard_skip (by rintro _ _ ⟨h, _⟩; cases h) (by rintro ⟨h, _⟩; cases h), Result.andThen_ok]
          exact arng_run hr h1 h2
      · rename_i m c _ _
        split at h
        · split at h
          · rename_i hc
            obtain ⟨hc1, hc2, hc3⟩ := hc
            cases h
            cases hb
            cases ha with
            | rsl => exfalso; omega
            | rint k q h1 h2 h3 =>
              have e1 : 2 * k / 2 = k := by omega
              rw [e1] at hc3 ⊢
              refine ⟨.int .i64 ((q.b + (k + c.toNat) : Nat) : Int), ?_, .rint _ q h1 hc3 h3⟩
              rw [Sem.run_bind, eqGuard_skip (by rintro _ _ ⟨h, _⟩; cases h) (by rintro ⟨h, _⟩; cases h), Result.andThen_ok]
              have e2 : IntKind.i64.wrap (((q.b + k : Nat) : Int) + c) = ((q.b + (k + c.toNat) : Nat) : Int) := by
                rw [IntWalk.i64_in _ (by omega)]; omega
              simp only [binOp, ne_eq, not_true_eq_false, if_false, Op.intArith]
              rw [e2]; rfl
          · cases h
        · cases h
      split at h
      · simp only [Option.map_eq_some_iff] at h
        obtain ⟨r, hr, rfl⟩ := h
        obtain ⟨m1, m2, m3⟩ := main r hr
        exact ⟨_, by rw [Sem.run_bind, m1, Result.andThen_ok]; exact m2, .bool _⟩
      · simp only [Option.map_eq_some_iff] at h
        obtain ⟨r, hr, rfl⟩ := h
        obtain ⟨m1, m2, m3⟩ := main r hr
        exact ⟨_, by rw [Sem.run_bind, m1, Result.andThen_ok]; exact m3, .bool _⟩
      · cases h
end
end Go.AM
