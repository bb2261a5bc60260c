/- A part of an abstract machine: a reckoning of calls over an abstract heap that the kernel can carry out, and the proof that what it hands back is where the call of the program itself ends, for every program that the stated checks pass. -/
import Derived.Test.YtlmcimelkklanaaDoorAMo
namespace Go.AM
noncomputable section

/-! A function of a text and an index that looks at a few bytes from the index on. -/
def noprim : ACall := fun _ _ _ => none
theorem noprim_ok (P : Program) (G : Nat → Option Nat) : CallOk P G noprim := fun _ _ _ _ _ _ _ _ _ _ _ _ h => by cases h

def leafH (e : TypeId) (cells : List Value) : AS := { heap := Tr.set D .e 0 { cells := cells, elem := e, ro := true, live := true }, size := 2 }
def leafArgs (wd : Nat) : List Value := [.chan (some (2 * wd + 1)), .chan (some 0)]

theorem leaf_get {e : TypeId} {cells : List Value} {B : Nat} {b : Blk} (h : (leafH e cells).get B = some b) : B = 0 ∧ b = { cells := cells, elem := e, ro := true, live := true } := by
  unfold AS.get leafH at h
  dsimp only at h
  split at h
  · rename_i hlt
    by_cases h0 : B = 0
    · subst h0
      rw [Tr.get_set] at h
      cases h
      exact ⟨rfl, rfl⟩
    · have h1 : B = 1 := by omega
      subst h1
      rw [Tr.get_set_ne _ 0 1 D .e ⟨0, by decide, by decide⟩, Tr.get_e] at h
      cases h
  · cases h

theorem leaf_HR {w : World} {b off i : Nat} {e : TypeId} {C : Array Value} {fr : Nat × Nat} {cells : List Value} (hw : w.heap[b]? = some (.cells C e fr)) (hlen : cells.length + (off + i) ≤ C.size)
    (hc : ∀ (k : Nat) (v : Value), cells[k]? = some v → ∃ u, C[k + (off + i)]? = some u ∧ VR [⟨b, off + i, C.size, undef⟩, ⟨i, 0, 0, undef⟩] v u) : HR w [⟨b, off + i, C.size, undef⟩, ⟨i, 0, 0, undef⟩] (leafH e cells) w := by
  refine ⟨rfl, by show 2 ≤ 2 ^ 20; decide, ?_, ?_, RowKit.Below.refl _ _⟩
  · intro B bl hg hl
    obtain ⟨rfl, rfl⟩ := leaf_get hg
    exact ⟨b, off + i, C, fr, rfl, ⟨_, hw, fun _ => rfl⟩, (fun h hh => by cases hh; rfl), hlen, (fun h => by cases h), hc, (fun h => by cases h)⟩
  · intro B B' bl bl' hg hg' hl hl' hro hne
    obtain ⟨rfl, rfl⟩ := leaf_get hg
    cases hro

theorem leaf_calls {P : Program} {ok : FuncId → Bool} {fu k f : Nat} {w : World} {b off i n cap wd : Nat} {e : TypeId} {C : Array Value} {fr : Nat × Nat} {cells : List Value} {v : Value} {H' : AS} (hN : NoNum P) (hm : P.follows .mixedOrders = true)
    (hok : FnsOk P (fun _ => false) ok) (hw : w.heap[b]? = some (.cells C e fr)) (hlen : cells.length + (off + i) ≤ C.size) (hn : i + wd ≤ n) (hi : i ≤ 2 ^ 61)
    (hc : ∀ (k : Nat) (v : Value), cells[k]? = some v → ∃ u, C[k + (off + i)]? = some u ∧ VR [⟨b, off + i, C.size, undef⟩, ⟨i, 0, 0, undef⟩] v u)
    (hrun : acall P (fun _ => none) (fun _ => false) ok noprim fu k f (leafArgs wd) (leafH e cells) = some (v, H')) (hg : ground v = true) :
    Calls P f #[.slice (some ⟨b, off, none⟩) n cap, .int .i64 i] w fun e w' => e = .returned v ∧ RowKit.Below w.heap.size w w' := by
  refine (acall_sound hN hm hok (fun _ _ _ _ _ h => by cases h) (noprim_ok P _) k w [⟨b, off + i, C.size, undef⟩, ⟨i, 0, 0, undef⟩] (leafH e cells) w f (leafArgs wd) _ v H' (leaf_HR hw hlen hc) (fun _ _ h => by cases h) ?_ hrun).mono ?_
  · refine VRs.cons (.rsl wd off n cap ⟨b, off + i, C.size, undef⟩ ⟨i, 0, 0, undef⟩ rfl rfl rfl hn) (VRs.cons ?_ (VRs.nil _))
    exact VR.rint 0 ⟨i, 0, 0, undef⟩ rfl (by decide) hi
  · rintro e w' ⟨γ, u, rfl, h1, h2⟩
    rw [h2.eq_of_ground hg]
    exact ⟨rfl, h1.below⟩

def chkB (P : Program) (ok : FuncId → Bool) (f : Nat) (e : TypeId) (cells : List Value) (r : Bool) : Bool :=
  match acall P (fun _ => none) (fun _ => false) ok noprim 100000 20 f (leafArgs cells.length) (leafH e cells) with
  | some (.bool b, _) => b == r
  | _ => false
theorem chkB_run {P : Program} {ok : FuncId → Bool} {f : Nat} {e : TypeId} {cells : List Value} {r : Bool} (h : chkB P ok f e cells r = true) :
    ∃ H', acall P (fun _ => none) (fun _ => false) ok noprim 100000 20 f (leafArgs cells.length) (leafH e cells) = some (.bool r, H') := by
  unfold chkB at h
  split at h
  · rename_i b H' hr
    rw [beq_iff_eq] at h
    subst h
    exact ⟨H', hr⟩
  · cases h

/-- What a cell of a table says of a byte: one byte, or a range. -/
def at8 (lo hi : Nat) : Value := .complex .f32 lo hi

theorem leaf_bool {P : Program} {ok : FuncId → Bool} {f : Nat} {w : World} {b off i n cap : Nat} {e : TypeId} {C : Array Value} {fr : Nat × Nat} {cells : List Value} {r : Bool} (hN : NoNum P) (hm : P.follows .mixedOrders = true)
    (hok : FnsOk P (fun _ => false) ok) (hw : w.heap[b]? = some (.cells C e fr)) (h0 : 0 < cells.length) (hn : i + cells.length ≤ n) (hi : i ≤ 2 ^ 61)
    (hc : ∀ (k : Nat) (v : Value), cells[k]? = some v → ∃ u, C[k + (off + i)]? = some u ∧ VR [⟨b, off + i, C.size, undef⟩, ⟨i, 0, 0, undef⟩] v u) (hrun : chkB P ok f e cells r = true) :
    Calls P f #[.slice (some ⟨b, off, none⟩) n cap, .int .i64 i] w fun e w' => e = .returned (.bool r) ∧ RowKit.Below w.heap.size w w' := by
  obtain ⟨H', hr⟩ := chkB_run hrun
  refine leaf_calls hN hm hok hw ?_ hn hi hc hr rfl
  cases hcl : cells.length with
  | zero => omega
  | succ m =>
    obtain ⟨u, hu, _⟩ := hc m _ (List.getElem?_eq_getElem (by omega))
    rcases Nat.lt_or_ge (m + (off + i)) C.size with h | h
    · omega
    · rw [Array.getElem?_eq_none h] at hu; cases hu

/-! The facts about a program, from checks that the kernel reckons. -/
def fnsChk (P : Program) (pu ok : FuncId → Bool) : Bool :=
  (List.range P.funcs.size).all fun f => !ok f || match P.funcs[f]? with
    | some fn => match fn.body with
      | some c => codeOk P pu c
      | none => true
    | none => true
theorem fnsOk_of {P : Program} {pu ok : FuncId → Bool} (h : fnsChk P pu ok = true) : FnsOk P pu ok := by
  intro f fn c hf hfn hc
  unfold fnsChk at h
  rw [List.all_eq_true] at h
  have hlt : f < P.funcs.size := by
    rcases Nat.lt_or_ge f P.funcs.size with h | h
    · exact h
    · rw [Array.getElem?_eq_none h] at hfn; cases hfn
  have := h f (List.mem_range.2 hlt)
  simp only [hf, Bool.not_true, Bool.false_or, hfn, hc] at this
  exact this
def numChk (P : Program) : Bool := P.funcs.toList.all fun fn => !(fn.name == "runtime.NumGoroutine")
theorem noNum_of {P : Program} (h : numChk P = true) : NoNum P := by
  intro f fn hfn
  unfold numChk at h
  rw [List.all_eq_true] at h
  have hm : fn ∈ P.funcs.toList := by
    rw [← Array.getElem?_toList] at hfn
    exact List.mem_of_getElem? hfn
  have := h fn hm
  simpa using this

/-- A window of one, two, three bytes. -/
theorem win1 {β : Ren} {C : Array Value} {s a b : Nat} {x : Int} (hx : C[s]? = some (.int .u8 x)) (h1 : a ≤ x) (h2 : x ≤ b) :
    ∀ (k : Nat) (v : Value), [at8 a b][k]? = some v → ∃ u, C[k + s]? = some u ∧ VR β v u := by
  intro k v hk
  match k, hk with
  | 0, hk => cases hk; exact ⟨_, by rw [Nat.zero_add]; exact hx, .rng8 _ _ _ h1 h2⟩
theorem win2 {β : Ren} {C : Array Value} {s a b c d : Nat} {x y : Int} (hx : C[s]? = some (.int .u8 x)) (hy : C[1 + s]? = some (.int .u8 y)) (h1 : a ≤ x ∧ x ≤ b) (h2 : c ≤ y ∧ y ≤ d) :
    ∀ (k : Nat) (v : Value), [at8 a b, at8 c d][k]? = some v → ∃ u, C[k + s]? = some u ∧ VR β v u := by
  intro k v hk
  match k, hk with
  | 0, hk => cases hk; exact ⟨_, by rw [Nat.zero_add]; exact hx, .rng8 _ _ _ h1.1 h1.2⟩
  | 1, hk => cases hk; exact ⟨_, hy, .rng8 _ _ _ h2.1 h2.2⟩
theorem win3 {β : Ren} {C : Array Value} {s a b c d e f : Nat} {x y z : Int} (hx : C[s]? = some (.int .u8 x)) (hy : C[1 + s]? = some (.int .u8 y)) (hz : C[2 + s]? = some (.int .u8 z)) (h1 : a ≤ x ∧ x ≤ b) (h2 : c ≤ y ∧ y ≤ d) (h3 : e ≤ z ∧ z ≤ f) :
    ∀ (k : Nat) (v : Value), [at8 a b, at8 c d, at8 e f][k]? = some v → ∃ u, C[k + s]? = some u ∧ VR β v u := by
  intro k v hk
  match k, hk with
  | 0, hk => cases hk; exact ⟨_, by rw [Nat.zero_add]; exact hx, .rng8 _ _ _ h1.1 h1.2⟩
  | 1, hk => cases hk; exact ⟨_, hy, .rng8 _ _ _ h2.1 h2.2⟩
  | 2, hk => cases hk; exact ⟨_, hz, .rng8 _ _ _ h3.1 h3.2⟩
end
end Go.AM
