/- A part of an abstract machine: a reckoning of calls over an abstract heap that the kernel can carry out, and the proof that what it hands back is where the call of the program itself ends, for every program that the stated checks pass. -/
import Derived.Test.YtlmcimelkklanaaDoorAMa
import Derived.Laws.Append
import Derived.Lib.Strings
namespace Go.AM
noncomputable section

/-! A new block, of which more may be there than is told. -/
theorem HR.allocG {w0 : World} {β : Ren} {H H' : AS} {w w' : World} (h : HR w0 β H w) {vs : List Value} {C : Array Value} {fr : Nat × Nat} {e : TypeId} {B : Nat}
    (hn : anew H vs e = some (B, H')) (hw : w'.heap = w.heap.push (.cells C e fr)) (hbel : RowKit.Below w0.heap.size w0 w') (hsz : vs.length ≤ C.size) (hfr : ∀ i, i < C.size → ¬ (fr.1 ≤ i ∧ i < fr.2))
    (hv : ∀ (i : Nat) (v : Value), vs[i]? = some v → ∃ u, C[i]? = some u ∧ VR β v u) :
    HR w0 (β ++ [⟨w.heap.size, 0, C.size, undef⟩]) H' w' ∧ hm (β ++ [⟨w.heap.size, 0, C.size, undef⟩]) B = some (w.heap.size, 0) ∧ (β ++ [⟨w.heap.size, 0, C.size, undef⟩])[B]? = some ⟨w.heap.size, 0, C.size, undef⟩ := by
  obtain ⟨rfl, hs', hlt, hgB, hgX⟩ := AS.new_get hn
  obtain ⟨hB, hB'⟩ := hm_last (h := ⟨w.heap.size, 0, C.size, undef⟩) h.len
  have hold : ∀ (X : Nat) (p : Nat × Nat), hm β X = some p → hm (β ++ [⟨w.heap.size, 0, C.size, undef⟩]) X = some p := fun X p hp => hm_append hp
  have hheap : ∀ k, k < w.heap.size → w'.heap[k]? = w.heap[k]? := fun k hk => by rw [hw, Array.getElem?_push, if_neg (by omega)]
  refine ⟨⟨by simp [h.len, hs'], by omega, ?_, ?_, hbel⟩, hB, hB'⟩
  · intro X b hg hl
    by_cases hX : X = H.size
    · subst hX
      rw [hgB] at hg; cases hg
      refine ⟨w.heap.size, 0, C, fr, hB, ⟨_, by rw [hw]; simp, fun _ => rfl⟩, fun q hq => by rw [hB'] at hq; cases hq; rfl, by simpa using hsz, fun _ => hfr, ?_, fun _ => h.below.size⟩
      intro i v hiv
      obtain ⟨u, hu, huv⟩ := hv i v hiv
      exact ⟨u, hu, huv.mono⟩
    · rw [hgX X hX] at hg
      obtain ⟨c, s, C2, fr2, hβ, ⟨el2, hw2, hel2⟩, h0, h1, h2, h3, h4⟩ := h.blk X b hg hl
      have hc := h.home_lt hg hl hβ
      refine ⟨c, s, C2, fr2, hold _ _ hβ, ⟨_, by rw [hheap _ hc]; exact hw2, hel2⟩, ?_, h1, h2, ?_, h4⟩
      · intro q hq
        have hlt' := h.lt_len hg
        rw [List.getElem?_append_left hlt'] at hq
        exact h0 q hq
      · intro i v hiv
        obtain ⟨u, hu, huv⟩ := h3 i v hiv
        exact ⟨u, hu, huv.mono⟩
  · intro X Y b b' hg hg' hl hl' hro hne
    by_cases hX : X = H.size
    · subst hX
      have hY : Y ≠ H.size := fun e => hne e.symm
      rw [hgX Y hY] at hg'
      obtain ⟨c, s, C2, fr2, hβ, _⟩ := h.blk Y b' hg' hl'
      have hc := h.home_lt hg' hl' hβ
      rw [hB, hold _ _ hβ]
      simp only [Option.map_some, ne_eq, Option.some.injEq]
      omega
    · rw [hgX X hX] at hg
      obtain ⟨c, s, C2, fr2, hβ, _⟩ := h.blk X b hg hl
      have hc := h.home_lt hg hl hβ
      by_cases hY : Y = H.size
      · subst hY
        rw [hB, hold _ _ hβ]
        simp only [Option.map_some, ne_eq, Option.some.injEq]
        omega
      · rw [hgX Y hY] at hg'
        obtain ⟨c', s', C', fr', hβ', _⟩ := h.blk Y b' hg' hl'
        rw [hold _ _ hβ, hold _ _ hβ', ← hβ, ← hβ']
        exact h.inj X Y b b' hg hg' hl hl' hro hne

/-- A block is given up. -/
def akill (H : AS) (B : Nat) : Option AS :=
  match H.get B with
  | some b => some (H.put B { b with live := false })
  | none => none
theorem HR.kill {w0 : World} {β : Ren} {H H' : AS} {w : World} (h : HR w0 β H w) {B : Nat} (hk : akill H B = some H') : HR w0 β H' w ∧ H'.size = H.size ∧ (∀ X b, H'.get X = some b → b.live = true → X ≠ B ∧ H.get X = some b) := by
  unfold akill at hk
  split at hk
  · rename_i b hg
    simp only [Option.some.injEq] at hk
    subst hk
    have key : ∀ X b', (H.put B { b with live := false }).get X = some b' → b'.live = true → X ≠ B ∧ H.get X = some b' := by
      intro X b' hX hl
      by_cases hB : B = X
      · subst hB; rw [AS.get_put_same hg] at hX; cases hX; simp at hl
      · rw [AS.get_put_ne h.big hg hB] at hX; exact ⟨fun e => hB e.symm, hX⟩
    refine ⟨⟨h.len, h.big, fun X b' hX hl => h.blk X b' (key X b' hX hl).2 hl, fun X Y b1 b2 h1 h2 l1 l2 r1 hne => h.inj X Y b1 b2 (key X b1 h1 l1).2 (key Y b2 h2 l2).2 l1 l2 r1 hne, h.below⟩, rfl, key⟩
  · cases hk

/-! Stores. -/
def astoreVar (P : Program) (t : TypeId) (H : AS) (x v : Value) : Option AS :=
  match x, P.info? t with
  | .pointer (some ⟨B, o, none⟩), some i => if notTup v && decide (v.cells.toList.length = i.size) then astores B v.cells.toList o H else none
  | _, _ => none
theorem HR.storeVar {P : Program} {w0 : World} {β : Ren} {H H' : AS} {w : World} (h : HR w0 β H w) {t : TypeId} {x x' v u : Value} (hx : VR β x x') (hv : VR β v u) (hs : astoreVar P t H x v = some H') :
    ∃ w', (Instr.storeAt t x' u).run P w = .ok () w' ∧ HR w0 β H' w' := by
  unfold astoreVar at hs
  split at hs
  · rename_i B o i hi
    split at hs
    · rename_i hc
      simp only [Bool.and_eq_true, decide_eq_true_eq] at hc
      cases hx with
      | ptr B o b s hβ =>
        have hcells := hv.cells hc.1
        obtain ⟨w', hrun, hr⟩ := HR.storeFrom (P := P) hβ o _ _ 0 H H' w h (by rw [Nat.add_zero]; exact hs) hcells
        refine ⟨w', ?_, hr⟩
        have hsz : u.cells.size = i.size := by rw [← Array.length_toList, hcells.1, hc.2]
        simp only [Instr.storeAt, Instr.sureAddr, Sem.run_bind, Sem.run_pure, Result.andThen_ok, Go.storeVar, run_size hi]
        rw [if_neg (by simp [hsz])]
        exact hrun
    · cases hs
  · cases hs

/-- Cells stored into a block of which we know where it ends. -/
theorem raw_store {P : Program} {w0 : World} (c : Nat) (hc0 : w0.heap.size ≤ c) : ∀ (us : List Value) (j : Nat) (w : World) (C : Array Value) (e : TypeId) (fr : Nat × Nat) (p : Nat), w.heap[c]? = some (.cells C e fr) →
    p + j + us.length ≤ C.size → (∀ i, i < C.size → ¬ (fr.1 ≤ i ∧ i < fr.2)) → us.all one = true → RowKit.Below w0.heap.size w0 w →
    ∃ (w' : World) (C' : Array Value), (storeCells ⟨c, p, none⟩ us j).run P w = .ok () w' ∧ w'.heap[c]? = some (.cells C' e fr) ∧ C'.size = C.size ∧ (∀ i, i < p + j → C'[i]? = C[i]?) ∧
      (∀ (k : Nat) (v : Value), us[k]? = some v → C'[p + j + k]? = some v) ∧ (∀ x, x ≠ c → w'.heap[x]? = w.heap[x]?) ∧ RowKit.Below w0.heap.size w0 w'
  | [], j, w, C, e, fr, p, hw, _, _, _, hb => ⟨w, C, rfl, hw, rfl, fun _ _ => rfl, fun k v hk => by simp at hk, fun _ _ => rfl, hb⟩
  | u :: us, j, w, C, e, fr, p, hw, hsz, hfr, hone, hb => by
    have hi : p + j < C.size := by simp at hsz; omega
    have hwc : w.cell? ⟨c, p + j, none⟩ = some C[p + j] := by rw [cell_at hw]; exact Array.getElem?_eq_getElem hi
    have hfz : w.frozen? ⟨c, p + j, none⟩ = false := by
      unfold World.frozen?; rw [hw]
      have := hfr (p + j) hi
      simp only [Bool.and_eq_false_imp, decide_eq_true_eq, decide_eq_false_iff_not]
      intro h1 h2; exact this ⟨h1, h2⟩
    have hheap : (w.setCell ⟨c, p + j, none⟩ u).heap[c]? = some (.cells (C.setIfInBounds (p + j) u) e fr) := by
      simp only [World.setCell, Array.getElem?_modify, if_true, hw]
      rfl
    simp only [List.all_cons, Bool.and_eq_true] at hone
    obtain ⟨w', C', h1, h2, h3, h4, h5, h6, h7⟩ := raw_store (P := P) c hc0 us (j + 1) (w.setCell ⟨c, p + j, none⟩ u) (C.setIfInBounds (p + j) u) e fr p hheap (by simp at hsz ⊢; omega) (by simpa using hfr) hone.2 (hb.setCell hc0 u)
    refine ⟨w', C', ?_, h2, by simpa using h3, ?_, ?_, ?_, h7⟩
    · simp only [storeCells, store, add_at]
      show Sem.run P (Sem.store .plain _ u _) w = _
      have ho := hone.1
      cases u <;> first | (simp [one] at ho; done) | (simp only [Sem.run, hwc, hfz, Bool.false_eq_true, if_false]; exact h1)
    · intro i hij
      rw [h4 i (by omega), Array.getElem?_setIfInBounds_ne (by omega)]
    · intro k v hk
      cases k with
      | zero =>
        simp only [List.getElem?_cons_zero, Option.some.injEq] at hk
        subst hk
        rw [Nat.add_zero, h4 (p + j) (by omega), Array.getElem?_setIfInBounds_self_of_lt hi]
      | succ k =>
        have := h5 k v (by simpa using hk)
        rw [show p + j + (k + 1) = p + (j + 1) + k from by omega]
        exact this
    · intro x hx
      rw [h6 x hx]; exact RowKit.Below.heap_setCell _ _ _ _ hx

/-! append, copy. -/
def abytes (s : ByteArray) : List Value := s.data.toList.map fun b => .int .u8 b.toNat
/-- The cells of what is appended or copied, at most so many elements. -/
def asrc (H : AS) (size : Nat) (lim : Option Nat) (x : Value) : Option (Nat × List Value) :=
  match x with
  | .slice none n _ => if n = 0 then some (0, []) else none
  | .slice (some ⟨B, o, _⟩) n _ => let k := (lim.map (min n)).getD n; (aloads H B o (k * size)).map fun l => (k, l)
  | .string s => let k := (lim.map (min s.size)).getD s.size; if size = 1 then some (k, (abytes s).take k) else none
  | _ => none

theorem abytes_ground (s : ByteArray) (k : Nat) : ((abytes s).take k).all ground = true := by
  rw [List.all_eq_true]
  intro v hv
  have := List.mem_of_mem_take hv
  simp only [abytes, List.mem_map] at this
  obtain ⟨b, _, rfl⟩ := this
  rfl

theorem asrc_sound {P : Program} {w0 : World} {β : Ren} {H : AS} {w : World} (h : HR w0 β H w) {size : Nat} {lim : Option Nat} {x x' : Value} {n : Nat} {l : List Value} (hx : VR β x x') (hs : asrc H size lim x = some (n, l)) :
    ∃ N us, (Builtin.lenOf x').run P w = .ok N w ∧ n = (lim.map (min N)).getD N ∧ (Builtin.firstCells size n x').run P w = .ok us.toArray w ∧ VRs β l us ∧ l.length = n * size := by
  unfold asrc at hs
  split at hs
  · rename_i k c
    split at hs
    · rename_i h0
      simp only [Option.some.injEq, Prod.mk.injEq] at hs
      obtain ⟨rfl, rfl⟩ := hs
      subst h0
      cases hx
      exact ⟨0, [], rfl, by cases lim <;> simp, rfl, VRs.nil β, by simp⟩
    · cases hs
  · rename_i B o sp k c
    simp only [Option.map_eq_some_iff, Prod.mk.injEq] at hs
    obtain ⟨l', hl', rfl, rfl⟩ := hs
    have hlen := (aloads_at hl').1
    cases hx with
    | sl B o b s n c hβ =>
      obtain ⟨us, h1, h2⟩ := h.loads (P := P) hl' hβ
      exact ⟨k, us, rfl, rfl, h1, h2, hlen⟩
    | slL B o n c c' z q hβ hcc ht =>
      obtain ⟨us, h1, h2⟩ := h.loads (P := P) hl' (hm_of hβ)
      exact ⟨k, us, rfl, rfl, h1, h2, hlen⟩
  · rename_i s
    dsimp only at hs
    split at hs
    · rename_i hsz
      simp only [Option.some.injEq, Prod.mk.injEq] at hs
      obtain ⟨rfl, rfl⟩ := hs
      subst hsz
      cases hx
      have hle : (lim.map (min s.size)).getD s.size ≤ s.size := by cases lim <;> simp; omega
      refine ⟨s.size, (abytes s).take ((lim.map (min s.size)).getD s.size), rfl, rfl, ?_, VRs.refl (abytes_ground s _), ?_⟩
      · simp only [Builtin.firstCells]
        show Result.ok _ w = _
        congr 1
        apply Array.ext'
        simp only [Array.toList_map, abytes]
        rw [← List.map_take]
        congr 1
        rw [Lib.extract_data]; simp
      · rw [List.length_take]
        simp only [abytes, List.length_map, Array.length_toList]
        have : s.data.size = s.size := rfl
        omega
    · cases hs
  · cases hs

/-- A new row out of old cells and new ones; how many there are behind it the model leaves open. -/
def agrown (H : AS) (e size k : Nat) (cells : List Value) : Option (Value × AS) :=
  (anew H cells e).map fun (B, H') => (.slice (some ⟨B, 0, some size⟩) k k, H')

def aappend (P : Program) (H : AS) (ts : Array TypeId) (s x : Value) : Option (Value × AS) :=
  match ts[0]?, ts[1]? with
  | some t, some t2 =>
    match P.underlying t, P.underlying t2 with
    | some (.slice e), some d2 =>
      match P.info? e with
      | none => none
      | some i =>
        match d2, asrc H i.size none x, azero P e with
        | .int _, _, _ => none
        | _, some (m, news), some z =>
          if news.all aone && decide (z.length = i.size) then
            match s with
            | .slice none n c =>
              if n = 0 ∧ c = 0 then
                if m = 0 then some (s, H)
                else if 0 < i.bytes ∧ 2 * m * i.bytes ≤ 2 ^ 47 ∧ m < 2 ^ 47 then agrown H e i.size m news else none
              else none
            | .slice (some ⟨B, o, sp⟩) n c =>
              if n + m ≤ c then (astores B news (o + n * i.size) H).map fun H' => (.slice (some ⟨B, o, sp⟩) (n + m) c, H')
              else if 0 < i.bytes ∧ 2 * (n + m) * i.bytes ≤ 2 ^ 47 ∧ n + m < 2 ^ 47 then
                match aloads H B o (n * i.size) with
                | none => none
                | some old =>
                  match sp with
                  | none => agrown H e i.size (n + m) (old ++ news)
                  | some z =>
                    match H.get B, akill H B with
                    | some b, some H1 => if z = i.size ∧ b.elem = e ∧ b.live = true ∧ b.ro = false then agrown H1 e i.size (n + m) (old ++ news) else none
                    | _, _ => none
              else none
            | _ => none
          else none
        | _, _, _ => none
    | _, _ => none
  | _, _ => none

def isIntD : TypeDesc → Bool
  | .int _ => true
  | _ => false

/-- append, where there is room. -/
theorem run_append_fits {P : Program} {w : World} {ts : Array TypeId} {ty t t2 e : TypeId} {i : TypeInfo} {d2 : TypeDesc} {base : Option Addr} {n c N : Nat} {x' : Value} {us : List Value}
    (h0 : ts[0]? = some t) (h1 : ts[1]? = some t2) (hu : P.underlying t = some (.slice e)) (hu2 : P.underlying t2 = some d2) (hd : isIntD d2 = false) (hi : P.info? e = some i)
    (hN : (Builtin.lenOf x').run P w = .ok N w) (hus : (Builtin.firstCells i.size N x').run P w = .ok us.toArray w) (hfit : n + N ≤ c) :
    (Builtin.append_ ts ty #[.slice base n c, x']).run P w =
        (do
          match base with
          | some a => do storeCells (a.add (n * i.size)) us; pure (.slice base (n + N) c)
          | none => pure (.slice base (n + N) c) : Sem Value).run P w := by
  cases d2 <;> first
    | (simp [isIntD] at hd; done)
    | (simp only [Builtin.append_, h0, h1, List.getElem?_toArray, List.getElem?_cons_zero, List.getElem?_cons_succ, Sem.run_bind, run_underlying hu, Result.andThen_ok, run_size hi, run_underlying hu2, Sem.run_pure,
        Bool.false_eq_true, if_false, hN, hfit, if_true, Bool.not_false, hus]
       cases base <;> rfl)

/-- append, where there is none: a new row. -/
theorem run_append_grows {P : Program} {w : World} {ts : Array TypeId} {ty t t2 e : TypeId} {i : TypeInfo} {d2 : TypeDesc} {base : Option Addr} {n c N : Nat} {x' z : Value} {us os : List Value}
    (h0 : ts[0]? = some t) (h1 : ts[1]? = some t2) (hu : P.underlying t = some (.slice e)) (hu2 : P.underlying t2 = some d2) (hd : isIntD d2 = false) (hi : P.info? e = some i)
    (hN : (Builtin.lenOf x').run P w = .ok N w) (hus : (Builtin.firstCells i.size N x').run P w.drew = .ok us.toArray w.drew) (hos : (Builtin.firstCells i.size n (.slice base n c)).run P w.drew = .ok os.toArray w.drew)
    (hz : (zeroValue e).run P w.drew = .ok z w.drew) (hfit : ¬ n + N ≤ c) (hb : i.bytes ≠ 0) (hcap : ¬ Builtin.nextslicecap (n + N) c * i.bytes > 2 ^ 48) :
    ∃ newCap, n + N ≤ newCap ∧ (Builtin.append_ ts ty #[.slice base n c, x']).run P w =
      .ok (.slice (some ⟨w.heap.size, 0, none⟩) (n + N) newCap) (w.drew.alloc (.cells (os.toArray ++ us.toArray ++ Builtin.zeroCells z.cells (newCap - (n + N))) e)) := by
  refine ⟨(Question.appendCap (n + N) c e).cut (w.tape w.drawn (.appendCap (n + N) c e)), by simp only [Question.cut]; omega, ?_⟩
  have hch : (choose (.appendCap (n + N) c e)).run P w = .ok ((Question.appendCap (n + N) c e).cut (w.tape w.drawn (.appendCap (n + N) c e))) w.drew := rfl
  generalize (Question.appendCap (n + N) c e).cut (w.tape w.drawn (.appendCap (n + N) c e)) = K at hch
  have hroom : ∀ (m : Nat) (w : World), (askRoom m).run P w = .ok () w := by
    intro m w; unfold askRoom; split <;> rfl
  cases d2 <;> first
    | (simp [isIntD] at hd; done)
    | (simp only [Builtin.append_, h0, h1, List.getElem?_toArray, List.getElem?_cons_zero, List.getElem?_cons_succ, Sem.run_bind, run_underlying hu, Result.andThen_ok, run_size hi, run_underlying hu2, Sem.run_pure,
        Bool.false_eq_true, if_false, hN, hfit, Bool.not_false, if_true, run_info hi, hb, false_or, and_false, hcap, hch, hroom, hos, hus, hz]
       rfl)
end
end Go.AM
