/- A part of an abstract machine: a reckoning of calls over an abstract heap that the kernel can carry out, and the proof that what it hands back is where the call of the program itself ends, for every program that the stated checks pass. -/
import Derived.Test.YtlmcimelkklanaaDoorAMu
namespace Go.AM
noncomputable section

/-! Blocks with other numbers: an outcome is another one but for the numbers of its blocks. -/
def renL (f : Value → Option Value) : List Value → Option (List Value)
  | [] => some []
  | v :: l => match f v, renL f l with
    | some v', some l' => some (v' :: l')
    | _, _ => none
def renV (σ : Nat → Nat) : Nat → Value → Option Value
  | 0, _ => none
  | k + 1, v =>
    match v with
    | .pointer (some ⟨B, o, z⟩) => some (.pointer (some ⟨σ B, o, z⟩))
    | .slice (some ⟨B, o, z⟩) n c => some (.slice (some ⟨σ B, o, z⟩) n c)
    | .map (some c) => if Nat.beq (σ (c / 3)) (c / 3) || Nat.beq (c % 3) 2 then some (.map (some c)) else none
    | .func f a c => match renL (renV σ k) a.toList, renL (renV σ k) c.toList with
      | some a', some c' => some (.func f a'.toArray c'.toArray)
      | _, _ => none
    | .iface t x => (renV σ k x).map (.iface t)
    | .agg a => (renL (renV σ k) a.toList).map fun l => .agg l.toArray
    | .tuple a => (renL (renV σ k) a.toList).map fun l => .tuple l.toArray
    | v => some v

theorem renL_get {f : Value → Option Value} : ∀ {l l' : List Value}, renL f l = some l' → l'.length = l.length ∧ ∀ (i : Nat) (v v' : Value), l[i]? = some v → l'[i]? = some v' → f v = some v'
  | [], l', h => by simp only [renL, Option.some.injEq] at h; subst h; exact ⟨rfl, fun i v v' h => by simp at h⟩
  | v :: l, l', h => by
    simp only [renL] at h
    split at h
    · rename_i v1 l1 e1 e2
      cases h
      obtain ⟨h1, h2⟩ := renL_get e2
      refine ⟨by simp [h1], fun i x x' hx hx' => ?_⟩
      cases i with
      | zero => simp at hx hx'; subst hx hx'; exact e1
      | succ i => exact h2 i x x' (by simpa using hx) (by simpa using hx')
    · cases h

theorem renV_none {σ : Nat → Nat} (k : Nat) {x : Value} (h : renV σ (k + 1) x = some (.map none)) : x = .map none := by
  simp only [renV] at h
  split at h
  · cases h
  · cases h
  · split at h <;> cases h
  · split at h <;> cases h
  · simp only [Option.map_eq_some_iff] at h; obtain ⟨_, _, h⟩ := h; cases h
  · simp only [Option.map_eq_some_iff] at h; obtain ⟨_, _, h⟩ := h; cases h
  · simp only [Option.map_eq_some_iff] at h; obtain ⟨_, _, h⟩ := h; cases h
  · cases h; rfl
theorem VR.tuple_inv {β : Ren} {a : Array Value} {u : Value} (h : VR β (.tuple a) u) (hne : a ≠ #[]) : ∃ a', u = .tuple a' ∧ a.size = a'.size ∧ ∀ (i : Nat) (v u : Value), a[i]? = some v → a'[i]? = some u → VR β v u := by
  cases h with
  | any u => exact (hne rfl).elim
  | tuple _ a' h1 h2 => exact ⟨a', rfl, h1, h2⟩
theorem VR.unren {β β' : Ren} {σ : Nat → Nat} (hσ : ∀ B, β'[B]? = β[σ B]?) (h0 : σ 0 = 0) (h1 : σ 1 = 1) : ∀ (k : Nat) {v v' u : Value}, renV σ k v = some v' → VR β v' u → VR β' v u := by
  have hhm : ∀ B p, hm β (σ B) = some p → hm β' B = some p := by
    intro B p hp
    unfold hm at hp ⊢
    rw [hσ]; exact hp
  intro k
  induction k with
  | zero => intro v v' u h; cases h
  | succ k ih =>
    intro v v' u h hv
    have hl : ∀ {l l' us : List Value}, renL (renV σ k) l = some l' → l'.length = us.length → (∀ (i : Nat) (x y : Value), l'[i]? = some x → us[i]? = some y → VR β x y) → l.length = us.length ∧ ∀ (i : Nat) (x y : Value), l[i]? = some x → us[i]? = some y → VR β' x y := by
      intro l l' us hr hlen hvr
      obtain ⟨g1, g2⟩ := renL_get hr
      refine ⟨by omega, fun i x y hx hy => ?_⟩
      have hi : i < l'.length := by
        rcases Nat.lt_or_ge i l.length with hh | hh
        · omega
        · rw [List.getElem?_eq_none hh] at hx; cases hx
      exact ih (g2 i x l'[i] hx (List.getElem?_eq_getElem hi)) (hvr i _ y (List.getElem?_eq_getElem hi) hy)
    simp only [renV] at h
    split at h
    · cases h
      cases hv with
      | ptr _ _ b s hh => exact .ptr _ _ b s (hhm _ _ hh)
    · cases h
      cases hv with
      | sl _ _ b s _ _ hh => exact .sl _ _ b s _ _ (hhm _ _ hh)
      | slL _ _ _ _ c' _ hq hh hc ht => exact .slL _ _ _ _ c' _ hq (by rw [hσ]; exact hh) hc ht
    · rename_i c
      split at h
      rotate_left
      · cases h
      rename_i hc
      cases h
      rw [Bool.or_eq_true] at hc
      generalize hz : (Value.map (some c)) = z at hv
      cases hv <;> try cases hz
      · rename_i q q' hq
        refine .opq q q' ?_
        have : σ q = q := by
          rcases hc with hc | hc
          · have := Nat.eq_of_beq_eq_true hc
            rw [show 3 * q / 3 = q from by omega] at this; exact this
          · have := Nat.eq_of_beq_eq_true hc; omega
        rw [hσ, this]; exact hq
      · rename_i q q' hq hone
        refine .opq1 q q' ?_ hone
        have : σ q = q := by
          rcases hc with hc | hc
          · have := Nat.eq_of_beq_eq_true hc
            rw [show (3 * q + 1) / 3 = q from by omega] at this; exact this
          · have := Nat.eq_of_beq_eq_true hc; omega
        rw [hσ, this]; exact hq
      · exact .sAny _ _ (by assumption)
      · exact .sNe _ _ (by assumption) (by assumption)
      · exact .uNz _ (by assumption)
    · split at h
      · rename_i a' c' e1 e2
        cases h
        cases hv with
        | func _ _ _ a2 c2 s1 s2 r1 r2 =>
        obtain ⟨q1, q2⟩ := hl (us := a2.toList) e1 (by simpa using s1) (fun i x y hx hy => r1 i x y (by simpa using hx) (by simpa using hy))
        obtain ⟨q3, q4⟩ := hl (us := c2.toList) e2 (by simpa using s2) (fun i x y hx hy => r2 i x y (by simpa using hx) (by simpa using hy))
        exact .func _ _ _ a2 c2 (by simpa using q1) (by simpa using q3) (fun i x y hx hy => q2 i x y (by simpa using hx) (by simpa using hy)) (fun i x y hx hy => q4 i x y (by simpa using hx) (by simpa using hy))
      · cases h
    · simp only [Option.map_eq_some_iff] at h
      obtain ⟨x', hx, rfl⟩ := h
      cases hv with
      | iface _ _ _ hh => exact .iface _ _ _ (ih hx hh)
    · simp only [Option.map_eq_some_iff] at h
      obtain ⟨l', hx, rfl⟩ := h
      cases hv with
      | agg _ a2 s1 r1 =>
      obtain ⟨q1, q2⟩ := hl (us := a2.toList) hx (by simpa using s1) (fun i x y hx hy => r1 i x y (by simpa using hx) (by simpa using hy))
      exact .agg _ a2 (by simpa using q1) (fun i x y hx hy => q2 i x y (by simpa using hx) (by simpa using hy))
    · simp only [Option.map_eq_some_iff] at h
      obtain ⟨l', hx, rfl⟩ := h
      rename_i a
      by_cases hl0 : l' = []
      · subst hl0
        have : a = #[] := by
          have := (renL_get hx).1
          rw [List.length_nil, Array.length_toList] at this
          exact Array.eq_empty_of_size_eq_zero this.symm
        subst this
        exact .any _
      · obtain ⟨a2, rfl, s1, r1⟩ := hv.tuple_inv (by simpa using hl0)
        obtain ⟨q1, q2⟩ := hl (us := a2.toList) hx (by simpa using s1) (fun i x y hx hy => r1 i x y (by simpa using hx) (by simpa using hy))
        exact .tuple _ a2 (by simpa using q1) (fun i x y hx hy => q2 i x y (by simpa using hx) (by simpa using hy))
    · rename_i hp hs hm' hf hi ha ht
      cases h
      cases hv with
      | any u => exact (ht #[] rfl).elim
      | bool b => exact .bool b
      | int k n => exact .int k n
      | float k n => exact .float k n
      | string s => exact .string s
      | ptr0 => exact .ptr0
      | ptr B o b s hh => exact (hp B o _ rfl).elim
      | sl0 n c => exact .sl0 n c
      | sl B o b s n c hh => exact (hs B o _ n c rfl).elim
      | slL B o n c c' z q hh hc ht' => exact (hs B o _ n c rfl).elim
      | rng8 a b n h1 h2 => exact .rng8 a b n h1 h2
      | rng64 a b n h1 h2 => exact .rng64 a b n h1 h2
      | rint k q e1 e2 e3 => exact .rint k q (by rw [hσ, h1]; exact e1) e2 e3
      | rsl w o n c g q e1 e2 e3 e4 => exact .rsl w o n c g q (by rw [hσ, h0]; exact e1) (by rw [hσ, h1]; exact e2) e3 e4
      | any1 u h => exact .any1 u h
      | opq k q e => exact (hm' _ rfl).elim
      | opq1 k q e e' => exact (hm' _ rfl).elim
      | sAny j s e => exact (hm' _ rfl).elim
      | sNe j s e e' => exact (hm' _ rfl).elim
      | uNz n e => exact (hm' _ rfl).elim
      | nilFunc => exact .nilFunc
      | nilIface => exact .nilIface
      | func fn a c a' c' => exact (hf fn a c rfl).elim
      | iface t v u hh => exact (hi t v rfl).elim
      | agg a a' => exact (ha a rfl).elim
      | tuple a a' => exact (ht a rfl).elim
/-! One outcome is another. -/
def dl (f : Value → Value → Bool) : List Value → List Value → Bool
  | [], [] => true
  | a :: l, b :: m => f a b && dl f l m
  | _, _ => false
def deq : Nat → Value → Value → Bool
  | 0, _, _ => false
  | k + 1, v, u =>
    match v, u with
    | .bool a, .bool b => a == b
    | .int i a, .int j b => decide (i = j) && decide (a = b)
    | .float i a, .float j b => decide (i = j) && Nat.beq a b
    | .complex i a b, .complex j c d => decide (i = j) && Nat.beq a c && Nat.beq b d
    | .string s, .string t => decide (s.data.toList = t.data.toList)
    | .pointer a, .pointer b => decide (a = b)
    | .slice a n c, .slice b m d => decide (a = b) && Nat.beq n m && Nat.beq c d
    | .map a, .map b => decide (a = b)
    | .chan a, .chan b => decide (a = b)
    | .nilFunc, .nilFunc => true
    | .nilIface, .nilIface => true
    | .func f a c, .func g b d => decide (f = g) && dl (deq k) a.toList b.toList && dl (deq k) c.toList d.toList
    | .iface t a, .iface r b => Nat.beq t r && deq k a b
    | .agg a, .agg b => dl (deq k) a.toList b.toList
    | .tuple a, .tuple b => dl (deq k) a.toList b.toList
    | _, _ => false
theorem dl_eq {f : Value → Value → Bool} (hf : ∀ a b, f a b = true → a = b) : ∀ (l m : List Value), dl f l m = true → l = m
  | [], [], _ => rfl
  | a :: l, b :: m, h => by
    simp only [dl, Bool.and_eq_true] at h
    rw [hf a b h.1, dl_eq hf l m h.2]
  | [], _ :: _, h => by cases h
  | _ :: _, [], h => by cases h
theorem deq_eq : ∀ (k : Nat) (v u : Value), deq k v u = true → v = u
  | 0, v, u, h => by cases h
  | k + 1, v, u, h => by
    have ih := deq_eq k
    simp only [deq] at h
    split at h
    · rw [beq_iff_eq] at h; rw [h]
    · simp only [Bool.and_eq_true, decide_eq_true_eq] at h; rw [h.1, h.2]
    · simp only [Bool.and_eq_true, decide_eq_true_eq] at h; rw [h.1, Nat.eq_of_beq_eq_true h.2]
    · simp only [Bool.and_eq_true, decide_eq_true_eq] at h; rw [h.1.1, Nat.eq_of_beq_eq_true h.1.2, Nat.eq_of_beq_eq_true h.2]
    · rename_i s t
      have e := of_decide_eq_true h
      cases s; cases t
      simp only [Value.string.injEq, ByteArray.mk.injEq]
      exact Array.ext' e
    · rw [of_decide_eq_true h]
    · simp only [Bool.and_eq_true, decide_eq_true_eq] at h; rw [h.1.1, Nat.eq_of_beq_eq_true h.1.2, Nat.eq_of_beq_eq_true h.2]
    · rw [of_decide_eq_true h]
    · rw [of_decide_eq_true h]
    · rfl
    · rfl
    · simp only [Bool.and_eq_true, decide_eq_true_eq] at h
      rw [h.1.1, Array.ext' (dl_eq ih _ _ h.1.2), Array.ext' (dl_eq ih _ _ h.2)]
    · simp only [Bool.and_eq_true] at h
      rw [Nat.eq_of_beq_eq_true h.1, ih _ _ h.2]
    · rw [Array.ext' (dl_eq ih _ _ h)]
    · rw [Array.ext' (dl_eq ih _ _ h)]
    · cases h
def eqF (n : Nat) (R R' : Tr Value) : Bool := (List.range n).all fun t => deq 6 (aslot n R t) (aslot n R' t)
def eqB (b c : Blk) : Bool := dl (deq 6) b.cells c.cells && Nat.beq b.elem c.elem && (b.ro == c.ro) && (b.live == c.live)
def eqH (H H' : AS) : Bool := Nat.beq H.size H'.size && (List.range H.size).all fun B => match H.get B, H'.get B with
  | some b, some c => eqB b c
  | none, none => true
  | _, _ => false
theorem eqF_spec {n : Nat} {R R' : Tr Value} (h : eqF n R R' = true) (t : Nat) : aslot n R t = aslot n R' t := by
  unfold eqF at h
  rw [List.all_eq_true] at h
  rcases Nat.lt_or_ge t n with ht | ht
  · exact deq_eq _ _ _ (h t (List.mem_range.2 ht))
  · unfold aslot; rw [if_neg (by omega), if_neg (by omega)]
theorem eqB_eq {b c : Blk} (h : eqB b c = true) : b = c := by
  unfold eqB at h
  simp only [Bool.and_eq_true, beq_iff_eq] at h
  obtain ⟨⟨⟨h1, h2⟩, h3⟩, h4⟩ := h
  have h1 := dl_eq (deq_eq 6) _ _ h1
  have h2 := Nat.eq_of_beq_eq_true h2
  cases b; cases c
  simp_all
theorem eqH_spec {H H' : AS} (h : eqH H H' = true) : H.size = H'.size ∧ ∀ B, H.get B = H'.get B := by
  unfold eqH at h
  rw [Bool.and_eq_true, List.all_eq_true] at h
  have hs := Nat.eq_of_beq_eq_true h.1
  refine ⟨hs, fun B => ?_⟩
  rcases Nat.lt_or_ge B H.size with hB | hB
  · have := h.2 B (List.mem_range.2 hB)
    split at this
    · rename_i b c e1 e2
      rw [e1, e2, eqB_eq this]
    · rename_i e1 e2; rw [e1, e2]
    · cases this
  · have e1 : H.get B = none := by unfold AS.get; rw [if_neg (by omega)]
    have e2 : H'.get B = none := by unfold AS.get; rw [if_neg (by omega)]
    rw [e1, e2]
theorem HR.as {w0 : World} {β : Ren} {H H' : AS} {w : World} (h : HR w0 β H' w) (he : eqH H H' = true) : HR w0 β H w := by
  obtain ⟨hs, hg⟩ := eqH_spec he
  exact ⟨h.len.trans hs.symm, by rw [hs]; exact h.big, fun B b hb hl => h.blk B b (by rw [← hg]; exact hb) hl, fun B B' b b' hb hb' => h.inj B B' b b' (by rw [← hg]; exact hb) (by rw [← hg]; exact hb'), h.below⟩
theorem FS.as {β : Ren} {n : Nat} {R R' : Tr Value} {a : Act} (h : FS β n R' a) (he : eqF n R R' = true) : FS β n R a :=
  ⟨h.size, h.small, fun t u hu => by rw [eqF_spec he t]; exact h.slot t u hu, h.nodef⟩


/-! Two new blocks change places. -/
def sw (m : Nat) (B : Nat) : Nat := if Nat.beq B m then m + 1 else if Nat.beq B (m + 1) then m else B
theorem sw_lo {m B : Nat} (h : B < m) : sw m B = B := by
  unfold sw
  rw [if_neg (fun e => by have := Nat.eq_of_beq_eq_true e; omega), if_neg (fun e => by have := Nat.eq_of_beq_eq_true e; omega)]
theorem sw_sw (m B : Nat) : sw m (sw m B) = B := by
  have beq_self : ∀ x : Nat, Nat.beq x x = true := fun x => by simp
  by_cases h1 : B = m
  · subst h1
    have e1 : sw B B = B + 1 := by unfold sw; rw [if_pos (beq_self B)]
    rw [e1]
    unfold sw
    rw [if_neg (fun e => by have := Nat.eq_of_beq_eq_true e; omega), if_pos (beq_self _)]
  · by_cases h2 : B = m + 1
    · subst h2
      have e1 : sw m (m + 1) = m := by unfold sw; rw [if_neg (fun e => by have := Nat.eq_of_beq_eq_true e; omega), if_pos (beq_self _)]
      rw [e1]
      unfold sw
      rw [if_pos (beq_self _)]
    · have e1 : sw m B = B := by
        unfold sw
        rw [if_neg (fun e => h1 (Nat.eq_of_beq_eq_true e)), if_neg (fun e => h2 (Nat.eq_of_beq_eq_true e))]
      rw [e1, e1]
theorem sw_lt {m B N : Nat} (h : m + 1 < N) (hB : B < N) : sw m B < N := by
  unfold sw
  split
  · omega
  · split <;> omega
def eqBs (m : Nat) (b c : Blk) : Bool := (match renL (renV (sw m) 6) b.cells with
    | some l => dl (deq 6) l c.cells
    | none => false) && Nat.beq b.elem c.elem && (b.ro == c.ro) && (b.live == c.live)
def eqHs (m : Nat) (H H' : AS) : Bool := Nat.beq H.size H'.size && Nat.ble 2 m && Nat.blt (m + 1) H.size && (List.range H.size).all fun B => match H.get B, H'.get (sw m B) with
  | some b, some c => eqBs m b c
  | none, none => true
  | _, _ => false
def eqFs (m n : Nat) (R R' : Tr Value) : Bool := (List.range n).all fun t => match renV (sw m) 6 (aslot n R t) with
  | some v => deq 6 v (aslot n R' t)
  | none => false
theorem eqHs_spec {m : Nat} {H H' : AS} (h : eqHs m H H' = true) : H.size = H'.size ∧ 2 ≤ m ∧ m + 1 < H.size ∧ ∀ B b, H.get B = some b → ∃ c, H'.get (sw m B) = some c ∧ renL (renV (sw m) 6) b.cells = some c.cells ∧ b.elem = c.elem ∧ b.ro = c.ro ∧ b.live = c.live := by
  unfold eqHs at h
  simp only [Bool.and_eq_true, List.all_eq_true] at h
  obtain ⟨⟨⟨h1, h2⟩, h3⟩, h4⟩ := h
  refine ⟨Nat.eq_of_beq_eq_true h1, Nat.le_of_ble_eq_true h2, Nat.le_of_ble_eq_true h3, fun B b hb => ?_⟩
  have := h4 B (List.mem_range.2 (AS.get_lt hb))
  rw [hb] at this
  split at this
  · rename_i b' c e1 e2
    cases e1
    refine ⟨c, e2, ?_⟩
    unfold eqBs at this
    simp only [Bool.and_eq_true, beq_iff_eq] at this
    obtain ⟨⟨⟨g1, g2⟩, g3⟩, g4⟩ := this
    split at g1
    · rename_i l hl
      exact ⟨by rw [dl_eq (deq_eq 6) _ _ g1] at hl; exact hl, Nat.eq_of_beq_eq_true g2, g3, g4⟩
    · cases g1
  · rename_i e1 _; cases e1
  · cases this
def swR (m : Nat) (β : Ren) : Ren := (List.range β.length).map fun B => (β[sw m B]?).getD ⟨0, 0, 0, undef⟩
theorem swR_get {m : Nat} {β : Ren} (h : m + 1 < β.length) (B : Nat) : (swR m β)[B]? = β[sw m B]? := by
  unfold swR
  rw [List.getElem?_map]
  rcases Nat.lt_or_ge B β.length with hB | hB
  · rw [List.getElem?_range hB, Option.map_some, List.getElem?_eq_getElem (sw_lt h hB)]; rfl
  · have e1 : (List.range β.length)[B]? = none := List.getElem?_eq_none (by simpa using hB)
    rw [e1]
    have : sw m B = B := by
      unfold sw
      rw [if_neg (fun e => by have := Nat.eq_of_beq_eq_true e; omega), if_neg (fun e => by have := Nat.eq_of_beq_eq_true e; omega)]
    rw [this, List.getElem?_eq_none hB]; rfl
theorem HR.swap {w0 : World} {β : Ren} {H H' : AS} {w : World} {m : Nat} (h : HR w0 β H' w) (he : eqHs m H H' = true) : HR w0 (swR m β) H w := by
  obtain ⟨hs, hm2, hmN, hg⟩ := eqHs_spec he
  have hlen : m + 1 < β.length := by rw [h.len, ← hs]; exact hmN
  have hget := swR_get hlen
  have hhm : ∀ B, hm (swR m β) B = hm β (sw m B) := fun B => by unfold hm; rw [hget]
  have h0 : sw m 0 = 0 := sw_lo (by omega)
  have h1 : sw m 1 = 1 := sw_lo (by omega)
  refine ⟨by unfold swR; rw [List.length_map, List.length_range, h.len, hs], by rw [hs]; exact h.big, ?_, ?_, h.below⟩
  · intro B b hb hl
    obtain ⟨c, hc, hren, e1, e2, e3⟩ := hg B b hb
    obtain ⟨g, s, C, fr, q1, ⟨el, q2, hel⟩, q3, q4, q5, q6, q7⟩ := h.blk (sw m B) c hc (by rw [← e3]; exact hl)
    obtain ⟨r1, r2⟩ := renL_get hren
    refine ⟨g, s, C, fr, by rw [hhm]; exact q1, ⟨el, q2, fun hr => by rw [e1]; exact hel (by rw [← e2]; exact hr)⟩, fun x hx => q3 x (by rw [← hget]; exact hx), by omega, fun hr => q5 (by rw [← e2]; exact hr), ?_, fun hr => q7 (by rw [← e2]; exact hr)⟩
    intro i v hv
    have hi : i < c.cells.length := by
      rcases Nat.lt_or_ge i b.cells.length with hh | hh
      · omega
      · rw [List.getElem?_eq_none hh] at hv; cases hv
    obtain ⟨u, hu, hvu⟩ := q6 i _ (List.getElem?_eq_getElem hi)
    exact ⟨u, hu, VR.unren hget h0 h1 6 (r2 i v _ hv (List.getElem?_eq_getElem hi)) hvu⟩
  · intro B B' b b' hb hb' hl hl' hro hne
    obtain ⟨c, hc, _, _, e2, e3⟩ := hg B b hb
    obtain ⟨c', hc', _, _, _, e3'⟩ := hg B' b' hb'
    rw [hhm, hhm]
    exact h.inj (sw m B) (sw m B') c c' hc hc' (by rw [← e3]; exact hl) (by rw [← e3']; exact hl') (by rw [← e2]; exact hro) (fun e => hne (by rw [← sw_sw m B, e, sw_sw]))
theorem FS.swap {β : Ren} {n m : Nat} {R R' : Tr Value} {a : Act} (hm2 : 2 ≤ m) (hlen : m + 1 < β.length) (h : FS β n R' a) (he : eqFs m n R R' = true) : FS (swR m β) n R a := by
  refine ⟨h.size, h.small, fun t u hu => ?_, h.nodef⟩
  have hh := h.slot t u hu
  unfold eqFs at he
  rw [List.all_eq_true] at he
  rcases Nat.lt_or_ge t n with ht | ht
  · have := he t (List.mem_range.2 ht)
    split at this
    · rename_i v hv
      have e := deq_eq _ _ _ this
      subst e
      rcases hh with hh | ⟨hh, hu'⟩
      · exact .inl (VR.unren (swR_get hlen) (sw_lo (by omega)) (sw_lo (by omega)) 6 hv hh)
      · refine .inr ⟨?_, hu'⟩
        rw [hh] at hv
        exact renV_none 5 hv
    · cases this
  · have : aslot n R t = .tuple #[] := by unfold aslot; rw [if_neg (by omega)]
    rw [this]
    exact .inl (.any _)
theorem swR_append {β γ : Ren} {m : Nat} (hm : m = β.length) (hlen : m + 1 < (β ++ γ).length) : ∃ γ', swR m (β ++ γ) = β ++ γ' := by
  refine ⟨(swR m (β ++ γ)).drop β.length, ?_⟩
  apply List.ext_getElem?
  intro B
  rcases Nat.lt_or_ge B β.length with hB | hB
  · rw [List.getElem?_append_left hB, swR_get hlen, sw_lo (by omega), List.getElem?_append_left hB]
  · rw [List.getElem?_append_right hB, List.getElem?_drop]
    congr 1
    omega
end
end Go.AM
