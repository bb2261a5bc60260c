/- A part of an abstract machine: a reckoning of calls over an abstract heap that the kernel can carry out, and the proof that what it hands back is where the call of the program itself ends, for every program that the stated checks pass. -/
import Derived.Test.YtlmcimelkklanaaDoorAMr
namespace Go.AM
noncomputable section

/-! A call that hands back a pointer to what it has made. The blocks that its arguments point to are read only. -/
structure Old where
  b : Nat
  cells : List Value
  elem : TypeId
/-- Blocks that are there at the call. -/
def oldH : List Old → AS → AS
  | [], H => H
  | o :: l, H => oldH l { heap := H.heap.set D H.size { cells := o.cells, elem := o.elem, ro := true, live := true }, size := H.size + 1 }

def oneH (cells : List Value) (e : TypeId) : AS := { heap := Tr.set D .e 0 { cells := cells, elem := e, ro := true, live := true }, size := 1 }
theorem oneH_get {e : TypeId} {cells : List Value} {B : Nat} {b : Blk} (h : (oneH cells e).get B = some b) : B = 0 ∧ b = { cells := cells, elem := e, ro := true, live := true } := by
  unfold AS.get oneH at h
  dsimp only at h
  split at h
  · have h0 : B = 0 := by omega
    subst h0
    rw [Tr.get_set] at h
    cases h
    exact ⟨rfl, rfl⟩
  · cases h
theorem oneH_HR {w : World} {b : Nat} {e : TypeId} {C : Array Value} {fr : Nat × Nat} {cells : List Value} (hw : w.heap[b]? = some (.cells C e fr)) (hlen : cells.length ≤ C.size)
    (hc : ∀ (k : Nat) (v : Value), cells[k]? = some v → C[k]? = some v ∧ ground v = true) : HR w [⟨b, 0, C.size, undef⟩] (oneH cells e) w := by
  refine ⟨rfl, by show 1 ≤ 2 ^ 20; decide, ?_, ?_, RowKit.Below.refl _ _⟩
  · intro B bl hg hl
    obtain ⟨rfl, rfl⟩ := oneH_get hg
    exact ⟨b, 0, C, fr, rfl, ⟨_, hw, fun _ => rfl⟩, (fun h hh => by cases hh; rfl), hlen, (fun h => by cases h), (fun i v hv => ⟨v, (hc i v hv).1, VR.of_ground (hc i v hv).2⟩), (fun h => by cases h)⟩
  · intro B B' bl bl' hg hg' hl hl' hro hne
    obtain ⟨rfl, rfl⟩ := oneH_get hg
    cases hro

def cget (H : AS) (B k : Nat) : Value := match H.get B with | some b => b.cells.getD k (.tuple #[]) | none => .tuple #[]
/-- The kernel's question: the call hands back a pointer to a block of its own, of so many cells, some of which are told. -/
def chkE (P : Program) (ok : FuncId → Bool) (f : FuncId) (args : List Value) (cells : List Value) (e : TypeId) (elem size : Nat) (fields : List (Nat × Value)) : Bool :=
  match acall P (fun _ => none) (fun _ => false) ok noprim 100000 30 f args (oneH cells e) with
  | some (.pointer (some ⟨B, 0, none⟩), H') =>
    match H'.get B with
    | some b => b.live && !b.ro && Nat.beq b.elem elem && Nat.ble size b.cells.length && fields.all fun p => ground p.2 && veq (b.cells.getD p.1 (.tuple #[])) p.2
    | none => false
  | _ => false

theorem am_new {P : Program} {ok : FuncId → Bool} {f : FuncId} {args : List Value} {args' : Array Value} {cells : List Value} {e : TypeId} {elem size : Nat} {fields : List (Nat × Value)} {w : World} {b : Nat} {C : Array Value} {fr : Nat × Nat} (hN : NoNum P) (hm : P.follows .mixedOrders = true)
    (hok : FnsOk P (fun _ => false) ok) (hw : w.heap[b]? = some (.cells C e fr)) (hlen : cells.length ≤ C.size) (hc : ∀ (k : Nat) (v : Value), cells[k]? = some v → C[k]? = some v ∧ ground v = true)
    (ha : VRs [⟨b, 0, C.size, undef⟩] args args'.toList) (hrun : chkE P ok f args cells e elem size fields = true) :
    Calls P f args' w fun e w' => ∃ (g q : Nat) (C' : Array Value) (fr' : Nat × Nat), e = .returned (.pointer (some ⟨g, q, none⟩)) ∧ w.heap.size ≤ g ∧ w'.heap[g]? = some (.cells C' elem fr') ∧ q + size ≤ C'.size ∧ (∀ i, i < C'.size → ¬ (fr'.1 ≤ i ∧ i < fr'.2)) ∧
      (∀ p ∈ fields, C'[p.1 + q]? = some p.2) ∧ RowKit.Below w.heap.size w w' := by
  unfold chkE at hrun
  split at hrun
  rotate_left
  · cases hrun
  rename_i B H' hr
  split at hrun
  rotate_left
  · cases hrun
  rename_i bl hbl
  simp only [Bool.and_eq_true, Bool.not_eq_true', List.all_eq_true] at hrun
  obtain ⟨⟨⟨⟨h1, h2⟩, h3⟩, h4⟩, h5⟩ := hrun
  have h3 := Nat.eq_of_beq_eq_true h3
  have h4 := Nat.le_of_ble_eq_true h4
  refine (acall_sound hN hm hok (fun _ _ _ _ _ h => by cases h) (noprim_ok P _) 30 w _ _ w f args args' _ H' (oneH_HR hw hlen hc) (fun _ _ h => by cases h) ha hr).mono ?_
  rintro e' w' ⟨γ, u, rfl, hH, hv⟩
  cases hv with
  | ptr _ _ c s hh =>
  obtain ⟨c', s', C', fr', g1, ⟨el, g2, hel⟩, _, g4, g5, g6, g7⟩ := hH.blk B bl hbl h1
  have e0 := hel h2
  subst e0
  rw [hh] at g1; cases g1
  refine ⟨c, 0 + s, C', fr', rfl, g7 h2, by rw [← h3]; exact g2, by omega, g5 h2, ?_, hH.below⟩
  intro p hp
  have hq := h5 p hp
  rcases Nat.lt_or_ge p.1 bl.cells.length with hl | hl
  · have e1 : bl.cells[p.1]? = some p.2 := by
      have := veq_eq hq.2
      rw [List.getD_eq_getElem?_getD, List.getElem?_eq_getElem hl] at this
      rw [List.getElem?_eq_getElem hl]
      exact congrArg some this
    obtain ⟨u, hu, hvu⟩ := g6 p.1 _ e1
    rw [Nat.zero_add, hu, hvu.eq_of_ground hq.1]
  · exfalso
    have := veq_eq hq.2
    rw [List.getD_eq_getElem?_getD, List.getElem?_eq_none hl] at this
    have h := hq.1
    rw [← this] at h
    cases h
end
end Go.AM
