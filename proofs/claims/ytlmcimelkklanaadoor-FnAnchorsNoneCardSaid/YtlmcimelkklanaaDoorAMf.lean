/- A part of an abstract machine: a reckoning of calls over an abstract heap that the kernel can carry out, and the proof that what it hands back is where the call of the program itself ends, for every program that the stated checks pass. -/
import Derived.Test.YtlmcimelkklanaaDoorAMe
import Derived.Lib.ConvBytes
import Derived.Laws.BytesString
namespace Go.AM
noncomputable section

/-! copy. -/
def acopy (P : Program) (H : AS) (ts : Array TypeId) (d x : Value) : Option (Value × AS) :=
  match ts[0]? with
  | none => none
  | some t =>
    match P.underlying t, d with
    | some (.slice e), .slice b dl _ =>
      match P.info? e with
      | none => none
      | some i =>
        match asrc H i.size (some dl) x with
        | none => none
        | some (n, l) =>
          match b with
          | none => some (goInt n, H)
          | some ⟨B, o, _⟩ => if l.all aone then (astores B l o H).map fun H' => (goInt n, H') else none
    | _, _ => none

theorem HR.copyOp {P : Program} {w0 : World} {β : Ren} {H H' : AS} {w : World} (h : HR w0 β H w) {ts : Array TypeId} {ty : TypeId} {d d' x x' v : Value} (hd : VR β d d') (hx : VR β x x') (ha : acopy P H ts d x = some (v, H')) :
    Made P w0 β H' w (Builtin.copy_ ts ty #[d', x']) v := by
  unfold acopy at ha
  split at ha
  · cases ha
  rename_i t h0
  split at ha
  rotate_left
  · cases ha
  rename_i e b dl dc hu
  split at ha
  · cases ha
  rename_i i hi
  split at ha
  · cases ha
  rename_i n l hsrc
  obtain ⟨N, us, hN, hm, hus, hvn, hln⟩ := asrc_sound (P := P) h hx hsrc
  simp only [Option.map_some, Option.getD_some] at hm
  have hmin : Nat.min N dl = n := by rw [hm]
  split at ha
  · simp only [Option.some.injEq, Prod.mk.injEq] at ha
    obtain ⟨rfl, rfl⟩ := ha
    cases hd
    refine ⟨[], goInt n, w, ?_, by rw [List.append_nil]; exact h, by exact .int _ _⟩
    simp only [Builtin.copy_, h0, List.getElem?_toArray, List.getElem?_cons_zero, List.getElem?_cons_succ, Sem.run_bind, run_underlying hu, Result.andThen_ok, hN, run_size hi, hmin, hus, Sem.run_pure]
  · rename_i B o sp
    split at ha
    rotate_left
    · cases ha
    rename_i hone
    simp only [Option.map_eq_some_iff, Prod.mk.injEq] at ha
    obtain ⟨H2, hst, rfl, rfl⟩ := ha
    cases hd with
    | sl B o b s n' c hβ =>
      obtain ⟨w', hrun, hr⟩ := HR.storeFrom (P := P) hβ o l us 0 H H2 w h hst hvn
      refine ⟨[], goInt n, w', ?_, by rw [List.append_nil]; exact hr, by exact .int _ _⟩
      simp only [Builtin.copy_, h0, List.getElem?_toArray, List.getElem?_cons_zero, List.getElem?_cons_succ, Sem.run_bind, run_underlying hu, Result.andThen_ok, hN, run_size hi, hmin, hus, Sem.run_pure, hrun]
    | slL B o n' c c' zz q hβ hcc htop =>
      obtain ⟨w', hrun, hr⟩ := HR.storeFrom (P := P) (hm_of hβ) o l us 0 H H2 w h hst hvn
      refine ⟨[], goInt n, w', ?_, by rw [List.append_nil]; exact hr, by exact .int _ _⟩
      simp only [Builtin.copy_, h0, List.getElem?_toArray, List.getElem?_cons_zero, List.getElem?_cons_succ, Sem.run_bind, run_underlying hu, Result.andThen_ok, hN, run_size hi, hmin, hus, Sem.run_pure, hrun]

/-! Texts and their bytes. -/
def bytesOf : List Value → Option (List Int)
  | [] => some []
  | .int .u8 n :: l => (bytesOf l).map (n :: ·)
  | _ => none
theorem bytesOf_eq : ∀ {l : List Value} {ns : List Int}, bytesOf l = some ns → l = ns.map (Value.int .u8)
  | [], ns, h => by simp only [bytesOf, Option.some.injEq] at h; subst h; rfl
  | v :: l, ns, h => by
    cases v <;> try (simp [bytesOf] at h; done)
    rename_i k n
    cases k <;> try (simp [bytesOf] at h; done)
    simp only [bytesOf, Option.map_eq_some_iff] at h
    obtain ⟨r, hr, rfl⟩ := h
    rw [bytesOf_eq hr]; rfl
theorem VRs.bytes {β : Ren} {l us : List Value} {ns : List Int} (h : VRs β l us) (hl : l = ns.map (Value.int .u8)) : us = ns.map (Value.int .u8) := by
  subst hl
  apply List.ext_getElem?
  intro k
  rcases Nat.lt_or_ge k us.length with hk | hk
  · have hk' : k < (ns.map (Value.int .u8)).length := by rw [← h.1]; exact hk
    have := h.2 k _ _ (List.getElem?_eq_getElem hk') (List.getElem?_eq_getElem hk)
    rw [List.getElem?_eq_getElem hk', List.getElem?_eq_getElem hk]
    congr 1
    apply VR.eq_of_ground this
    simp [ground]
  · rw [List.getElem?_eq_none hk, List.getElem?_eq_none (by rw [← h.1]; exact hk)]

theorem foldl_push (ns : List Int) : ∀ (s : ByteArray), (ns.foldl (fun r n => r.push (UInt8.ofNat n.toNat)) s) = ⟨(s.data.toList ++ ns.map fun n => UInt8.ofNat n.toNat).toArray⟩ := by
  induction ns with
  | nil => intro s; simp
  | cons n ns ih =>
    intro s
    rw [List.foldl_cons, ih]
    simp [ByteArray.push]

def strOf (ns : List Int) : ByteArray := ⟨(ns.map fun n => UInt8.ofNat n.toNat).toArray⟩

def abytesStr (H : AS) (x : Value) : Option Value :=
  match x with
  | .slice none _ _ => some (.string .empty)
  | .slice (some ⟨B, o, _⟩) n _ =>
    match aloads H B o n with
    | some l => (bytesOf l).map fun ns => .string (strOf ns)
    | none => none
  | _ => none

theorem HR.bytesStr {P : Program} {w0 : World} {β : Ren} {H : AS} {w : World} (h : HR w0 β H w) {x x' v : Value} (hx : VR β x x') (ha : abytesStr H x = some v) : (Conv.bytesToString x').run P w = .ok v w ∧ ∃ s, v = .string s := by
  unfold abytesStr at ha
  split at ha
  · simp only [Option.some.injEq] at ha
    subst ha
    cases hx
    exact ⟨rfl, _, rfl⟩
  · rename_i B o sp n c
    split at ha
    · rename_i l hl
      simp only [Option.map_eq_some_iff] at ha
      obtain ⟨ns, hns, rfl⟩ := ha
      have hle := bytesOf_eq hns
      cases hx with
      | sl B o b s n c hβ =>
        obtain ⟨us, h1, h2⟩ := h.loads (P := P) hl hβ
        rw [h2.bytes hle] at h1
        refine ⟨?_, _, rfl⟩
        rw [run_bytesToString w _ _ _ ns h1, foldl_push]
        rfl
      | slL B o n c c' z q hβ hcc htop =>
        obtain ⟨us, h1, h2⟩ := h.loads (P := P) hl (hm_of hβ)
        rw [h2.bytes hle] at h1
        refine ⟨?_, _, rfl⟩
        rw [run_bytesToString w _ _ _ ns h1, foldl_push]
        rfl
    · cases ha
  · cases ha

def astrBytes (H : AS) (e : TypeId) (s : ByteArray) : Option (Value × AS) :=
  (anew H (abytes s) e).map fun (B, H') => (.slice (some ⟨B, 0, some 1⟩) s.size s.size, H')

theorem HR.strBytes {P : Program} {w0 : World} {β : Ren} {H H' : AS} {w : World} (h : HR w0 β H w) {src dst e : TypeId} {s : ByteArray} {u : TypeDesc} {v : Value}
    (hs : P.underlying src = some u) (hd : P.underlying dst = some (.slice e)) (he : P.underlying e = some (.int .u8)) (ha : astrBytes H e s = some (v, H')) : Made P w0 β H' w (convert src dst (.string s)) v := by
  unfold astrBytes at ha
  simp only [Option.map_eq_some_iff, Prod.mk.injEq] at ha
  obtain ⟨⟨B, H1⟩, hn, rfl, rfl⟩ := ha
  have hcap : s.size ≤ grownCap w s.size 0 e := by
    unfold grownCap; simp only [Question.cut]; omega
  have hsz : (Lib.bytesCells w e s).size = grownCap w s.size 0 e := by
    simp only [Lib.bytesCells, Array.size_append, Array.size_map, Array.size_replicate]
    have : s.data.size = s.size := rfl
    omega
  have hbel : RowKit.Below w0.heap.size w0 (Lib.bytesWorld w e s) := by
    have h1 := (h.below.drew.alloc h.below.drew.size (.cells (Lib.bytesCells w e s) e))
    refine ⟨h1.os, h1.tape, h1.output, by rw [Lib.bytesWorld_size]; have := h.below.size; omega, ?_⟩
    intro b hb
    rw [Lib.bytesWorld_at_old w e s b (by have := h.below.size; omega)]
    exact h.below.block b hb
  have hheap : (Lib.bytesWorld w e s).heap = w.heap.push (.cells (Lib.bytesCells w e s) e ((Lib.bytesCells w e s).size, (Lib.bytesCells w e s).size + 1)) := by
    apply Array.ext_getElem?
    intro i
    rw [Array.getElem?_push]
    split
    · rename_i hi; subst hi; rw [Lib.bytesWorld_at_new]
    · rename_i hi
      rcases Nat.lt_or_ge i w.heap.size with hlt | hge
      · exact Lib.bytesWorld_at_old w e s i hlt
      · rw [Array.getElem?_eq_none (by rw [Lib.bytesWorld_size]; omega), Array.getElem?_eq_none hge]
  obtain ⟨g1, g2, g3⟩ := h.allocG hn hheap hbel (by rw [hsz]; simp only [abytes, List.length_map, Array.length_toList]; exact hcap) (fun i hi hc => by omega) (by
    intro i x hx
    have hi : i < s.size := by
      rcases Nat.lt_or_ge i (abytes s).length with hl | hl
      · simpa [abytes] using hl
      · rw [List.getElem?_eq_none hl] at hx; cases hx
    refine ⟨x, ?_, VR.of_ground (List.all_eq_true.1 (by have := abytes_ground s (abytes s).length; rwa [List.take_length] at this) x (List.mem_of_getElem? hx))⟩
    unfold Lib.bytesCells
    rw [Array.getElem?_append_left (by simpa using hi), ← Array.getElem?_toList, Array.toList_map]
    exact hx)
  refine ⟨⟨_, _, _, Lib.run_convert_string_bytes w src dst e s hs hd he, g1, ?_⟩⟩
  have := VR.slL (β := β ++ [⟨w.heap.size, 0, (Lib.bytesCells w e s).size, undef⟩]) B 0 s.size s.size (grownCap w s.size 0 e) 1 _ g3 hcap (by rw [hsz]; simp)
  exact this
end
end Go.AM
