/- A part of an abstract machine: a reckoning of calls over an abstract heap that the kernel can carry out, and the proof that what it hands back is where the call of the program itself ends, for every program that the stated checks pass. -/
import Derived.Test.YtlmcimelkklanaaDoorAMd
namespace Go.AM
noncomputable section

theorem HR.drew {w0 : World} {β : Ren} {H : AS} {w : World} (h : HR w0 β H w) : HR w0 β H w.drew := ⟨h.len, h.big, h.blk, h.inj, h.below.drew⟩

theorem zeroCells_size (z : Array Value) (n : Nat) : (Builtin.zeroCells z n).size = n * z.size := by simp [Builtin.zeroCells]

theorem append_at {α : Type} {a b c : Array α} {l : List α} {i : Nat} {v : α} (hl : (a ++ b).toList = l) (h : l[i]? = some v) : (a ++ b ++ c)[i]? = some v := by
  have hlt : i < (a ++ b).size := by
    rcases Nat.lt_or_ge i (a ++ b).size with hl' | hl'
    · exact hl'
    · rw [← hl] at h; rw [List.getElem?_eq_none (by simpa using hl')] at h; cases h
  rw [Array.getElem?_append_left hlt, ← Array.getElem?_toList, hl]
  exact h

/-- The common part of every append that grows. -/
theorem grown_sound {P : Program} {w0 : World} {β : Ren} {H1 H' : AS} {w : World} {ts : Array TypeId} {ty t t2 e : TypeId} {i : TypeInfo} {d2 : TypeDesc} {base : Option Addr} {n c N : Nat} {x' v : Value} {z us os news old : List Value}
    (h : HR w0 β H1 w) (h0 : ts[0]? = some t) (h1 : ts[1]? = some t2) (hu : P.underlying t = some (.slice e)) (hu2 : P.underlying t2 = some d2) (hd : isIntD d2 = false) (hi : P.info? e = some i)
    (hN : (Builtin.lenOf x').run P w = .ok N w) (hus : (Builtin.firstCells i.size N x').run P w.drew = .ok us.toArray w.drew) (hos : (Builtin.firstCells i.size n (.slice base n c)).run P w.drew = .ok os.toArray w.drew)
    (hz : azero P e = some z) (hzl : z.length = i.size) (hfit : ¬ n + N ≤ c) (hb : 0 < i.bytes) (hlim : 2 * (n + N) * i.bytes ≤ 2 ^ 47)
    (hvn : VRs β news us) (hvo : VRs β old os) (hln : news.length = N * i.size) (hlo : old.length = n * i.size) (hg : agrown H1 e i.size (n + N) (old ++ news) = some (v, H')) :
    ∃ (γ : Ren) (u : Value) (w' : World), (Builtin.append_ ts ty #[.slice base n c, x']).run P w = .ok u w' ∧ HR w0 (β ++ γ) H' w' ∧ VR (β ++ γ) v u := by
  obtain ⟨z', hz', rfl, hzg⟩ := run_zero (w := w.drew) hz
  have hcap : ¬ Builtin.nextslicecap (n + N) c * i.bytes > 2 ^ 48 := by
    have := nextslicecap_le (need := n + N) (old := c) (by omega)
    have h2 := Nat.mul_le_mul_right i.bytes this
    omega
  obtain ⟨newCap, hnc, hrun⟩ := run_append_grows h0 h1 hu hu2 hd hi hN hus hos hz' hfit (by omega) hcap
  unfold agrown at hg
  simp only [Option.map_eq_some_iff, Prod.mk.injEq] at hg
  obtain ⟨⟨B, H2⟩, hn, rfl, rfl⟩ := hg
  have hzs : z'.cells.size = i.size := by simpa using hzl
  have hsz : (os.toArray ++ us.toArray ++ Builtin.zeroCells z'.cells (newCap - (n + N))).size = newCap * i.size := by
    have e1 : us.length = N * i.size := by rw [hvn.1, hln]
    have e2 : os.length = n * i.size := by rw [hvo.1, hlo]
    simp only [Array.size_append, List.size_toArray, e1, e2, zeroCells_size, hzs]
    rw [← Nat.add_mul, ← Nat.add_mul]
    congr 1
    omega
  have hall : VRs β (old ++ news) (os ++ us) := by
    refine ⟨by simp [hvn.1, hvo.1], fun k x y hx hy => ?_⟩
    rcases Nat.lt_or_ge k old.length with hk | hk
    · rw [List.getElem?_append_left hk] at hx
      rw [List.getElem?_append_left (by rw [hvo.1]; exact hk)] at hy
      exact hvo.2 k x y hx hy
    · rw [List.getElem?_append_right hk] at hx
      rw [List.getElem?_append_right (by rw [hvo.1]; exact hk), hvo.1] at hy
      exact hvn.2 _ x y hx hy
  obtain ⟨g1, g2, g3⟩ := h.drew.allocG hn (w' := w.drew.alloc (.cells (os.toArray ++ us.toArray ++ Builtin.zeroCells z'.cells (newCap - (n + N))) e)) (C := os.toArray ++ us.toArray ++ Builtin.zeroCells z'.cells (newCap - (n + N))) (fr := (0, 0)) rfl
    (h.drew.below.alloc h.drew.below.size _) (by
      rw [hsz, List.length_append, hln, hlo, ← Nat.add_mul]
      exact Nat.mul_le_mul_right _ hnc) (fun k _ hk => by omega) (by
      intro k x hx
      obtain ⟨y, hy, hxy⟩ := hall.get hx
      exact ⟨y, append_at (by simp) hy, hxy⟩)
  refine ⟨_, _, _, hrun, g1, ?_⟩
  have := VR.slL (β := β ++ [⟨w.drew.heap.size, 0, (os.toArray ++ us.toArray ++ Builtin.zeroCells z'.cells (newCap - (n + N))).size, undef⟩]) B 0 (n + N) (n + N) newCap i.size _ g3 hnc (by rw [hsz]; simp)
  exact this

/-- In place, beyond what is told: the block's home goes over to a new block. -/
theorem HR.rehome {P : Program} {w0 : World} {β : Ren} {H H1 H' : AS} {w : World} (h : HR w0 β H w) {B B' o : Nat} {b : Blk} {q : Hm} {news us old : List Value}
    (hg : H.get B = some b) (hl : b.live = true) (hro : b.ro = false) (hq : β[B]? = some q) (hk : akill H B = some H1) (hold : aloads H B o old.length = some old) (hv : VRs β news us) (hone : us.all one = true)
    (hsz : o + q.s + old.length + us.length ≤ q.top) (hn : anew H1 (old ++ news) b.elem = some (B', H')) :
    ∃ w', (storeCells ⟨q.b, o + q.s + old.length, none⟩ us).run P w = .ok () w' ∧ HR w0 (β ++ [⟨q.b, o + q.s, q.top, undef⟩]) H' w' ∧ (β ++ [⟨q.b, o + q.s, q.top, undef⟩])[B']? = some ⟨q.b, o + q.s, q.top, undef⟩ := by
  obtain ⟨hk1, hk2, hk3⟩ := h.kill hk
  obtain ⟨rfl, hs', hlt, hgB, hgX⟩ := AS.new_get hn
  obtain ⟨c, s, C, fr, hβ, ⟨el1, hw, hel1⟩, htop, hsz', hfr, hcells, hbase⟩ := h.blk B b hg hl
  have e0 := hel1 hro
  subst e0
  have hβ' := hm_of hq
  rw [hβ'] at hβ
  simp only [Option.some.injEq, Prod.mk.injEq] at hβ
  obtain ⟨rfl, rfl⟩ := hβ
  have htop' := htop q hq
  obtain ⟨w', C', h1, h2, h3, h4, h5, h6, h7⟩ := raw_store (P := P) (w0 := w0) q.b (hbase hro) us 0 w C b.elem fr (o + q.s + old.length) hw (by omega) (hfr hro) hone h.below
  have hlen : β.length = H1.size := hk1.len
  obtain ⟨hB, hB'⟩ := hm_last (h := ⟨q.b, o + q.s, q.top, undef⟩) hlen
  have holdAt := (aloads_at hold).2
  refine ⟨w', h1, ⟨by simp [hlen, hs'], by omega, ?_, ?_, h7⟩, hB'⟩
  · intro X b' hgX' hl'
    by_cases hX : X = H1.size
    · subst hX
      rw [hgB] at hgX'; cases hgX'
      refine ⟨q.b, o + q.s, C', fr, hB, ⟨_, h2, fun _ => rfl⟩, fun p hp => by rw [hB'] at hp; cases hp; simp [h3, htop'], ?_, fun _ => by rw [h3]; exact hfr hro, ?_, fun _ => hbase hro⟩
      · rw [List.length_append, h3, ← htop', ← hv.1]; omega
      · intro k x hx
        rcases Nat.lt_or_ge k old.length with hk' | hk'
        · rw [List.getElem?_append_left hk'] at hx
          have hx' := holdAt k x hx
          unfold aload1 at hx'
          rw [hg] at hx'
          simp only [hl, if_true] at hx'
          obtain ⟨u, hu, hxu⟩ := hcells _ _ hx'
          refine ⟨u, ?_, hxu.mono⟩
          rw [h4 (k + (o + q.s)) (by omega)]
          rw [← hu]; congr 1; omega
        · rw [List.getElem?_append_right hk'] at hx
          obtain ⟨u, hu, hxu⟩ := hv.get hx
          refine ⟨u, ?_, hxu.mono⟩
          have := h5 _ _ hu
          rw [← this]; congr 1; omega
    · rw [hgX X hX] at hgX'
      obtain ⟨hXB, hgH⟩ := hk3 X b' hgX' hl'
      obtain ⟨c, s, C2, fr2, hβ2, ⟨el2, hw2, hel2⟩, r0, r1, r2, r3, r4⟩ := h.blk X b' hgH hl'
      have hne := h.inj B X b b' hg hgH hl hl' hro (fun e => hXB e.symm)
      rw [hβ', hβ2] at hne
      simp only [Option.map_some, ne_eq, Option.some.injEq] at hne
      refine ⟨c, s, C2, fr2, hm_append hβ2, ⟨_, by rw [h6 c (fun e => hne e.symm)]; exact hw2, hel2⟩, ?_, r1, r2, ?_, r4⟩
      · intro p hp
        rw [List.getElem?_append_left (h.lt_len hgH)] at hp
        exact r0 p hp
      · intro k x hx
        obtain ⟨u, hu, hxu⟩ := r3 k x hx
        exact ⟨u, hu, hxu.mono⟩
  · intro X Y b1 b2 g1 g2 l1 l2 r1 hne
    have key : ∀ Z bz, H'.get Z = some bz → bz.live = true → Z ≠ H1.size → Z ≠ B ∧ H.get Z = some bz ∧ ∃ p, hm β Z = some p := by
      intro Z bz hz hlz hZ
      rw [hgX Z hZ] at hz
      obtain ⟨a1, a2⟩ := hk3 Z bz hz hlz
      obtain ⟨c, s, _, _, hβz, _⟩ := h.blk Z bz a2 hlz
      exact ⟨a1, a2, _, hβz⟩
    by_cases hX : X = H1.size
    · subst hX
      obtain ⟨y1, y2, p, y3⟩ := key Y b2 g2 l2 (fun e => hne e.symm)
      have := h.inj B Y b b2 hg y2 hl l2 hro (fun e => y1 e.symm)
      rw [hB, hm_append y3, ← y3]
      rw [hβ'] at this
      exact this
    · obtain ⟨x1, x2, p, x3⟩ := key X b1 g1 l1 hX
      by_cases hY : Y = H1.size
      · subst hY
        have := h.inj X B b1 b x2 hg l1 hl r1 x1
        rw [hB, hm_append x3, ← x3]
        rw [hβ'] at this
        exact this
      · obtain ⟨y1, y2, p', y3⟩ := key Y b2 g2 l2 hY
        rw [hm_append x3, hm_append y3, ← x3, ← y3]
        exact h.inj X Y b1 b2 x2 y2 l1 l2 r1 hne

theorem VRs.one_conc {β : Ren} : ∀ {vs us : List Value}, VRs β vs us → vs.all aone = true → us.all one = true
  | [], us, h, _ => by
    have : us = [] := List.eq_nil_of_length_eq_zero h.1
    subst this; rfl
  | v :: vs, us, h, ho => by
    obtain ⟨u, us', rfl, h1, h2⟩ := h.cons_inv
    simp only [List.all_cons, Bool.and_eq_true] at ho ⊢
    exact ⟨h1.one_conc ho.1, VRs.one_conc h2 ho.2⟩

theorem HR.appendOp {P : Program} {w0 : World} {β : Ren} {H H' : AS} {w : World} (h : HR w0 β H w) {ts : Array TypeId} {ty : TypeId} {s s' x x' v : Value} (hs : VR β s s') (hx : VR β x x') (ha : aappend P H ts s x = some (v, H')) :
    Made P w0 β H' w (Builtin.append_ ts ty #[s', x']) v := by
  unfold aappend at ha
  split at ha
  rotate_left
  · cases ha
  rename_i t t2 h0 h1
  split at ha
  rotate_left
  · cases ha
  rename_i e d2 hu hu2
  split at ha
  · cases ha
  rename_i i hi
  split at ha
  · cases ha
  rotate_left
  · cases ha
  rename_i m news z hd2 hsrc hz
  obtain ⟨d2, hu2, hd⟩ : ∃ d, P.underlying t2 = some d ∧ isIntD d = false := ⟨_, hu2, by
    unfold isIntD
    split
    · rename_i k _; exact (hd2 _ rfl).elim
    · rfl⟩
  split at ha
  rotate_left
  · cases ha
  rename_i hc
  simp only [Bool.and_eq_true, decide_eq_true_eq] at hc
  obtain ⟨hone, hzl⟩ := hc
  obtain ⟨N, us, hN, hm, hus, hvn, hln⟩ := asrc_sound (P := P) h hx hsrc
  simp only [Option.map_none, Option.getD_none] at hm
  subst hm
  obtain ⟨N', us2, hN', hm', hus', hvn', _⟩ := asrc_sound (P := P) h.drew hx hsrc
  have huone := hvn.one_conc hone
  split at ha
  · -- a nil base
    rename_i n c
    cases hs
    split at ha
    rotate_left
    · cases ha
    rename_i h00
    obtain ⟨rfl, rfl⟩ := h00
    split at ha
    · rename_i hm0
      subst hm0
      simp only [Option.some.injEq, Prod.mk.injEq] at ha
      obtain ⟨rfl, rfl⟩ := ha
      refine ⟨[], .slice none 0 0, w, ?_, by rw [List.append_nil]; exact h, by rw [List.append_nil]; exact .sl0 0 0⟩
      rw [run_append_fits (n := 0) (c := 0) h0 h1 hu hu2 hd hi hN hus (by omega)]
      rfl
    · split at ha
      rotate_left
      · cases ha
      rename_i hm0 hb
      obtain ⟨hb1, hb2, hb3⟩ := hb
      have := grown_sound (P := P) (ty := ty) (base := none) (n := 0) (c := 0) (os := []) (old := []) h h0 h1 hu hu2 hd hi hN hus' rfl hz hzl (by omega) hb1 (by rw [Nat.zero_add]; exact hb2) hvn' (VRs.nil β) hln (by simp) (by simpa using ha)
      exact ⟨this⟩
  · rename_i B o sp n c
    split at ha
    · -- there is room
      rename_i hfit
      simp only [Option.map_eq_some_iff, Prod.mk.injEq] at ha
      obtain ⟨H2, hst, rfl, rfl⟩ := ha
      cases hs with
      | sl B o b s n c hβ =>
        obtain ⟨w', hrun, hr⟩ := HR.storeFrom (P := P) hβ (o + n * i.size) news us 0 H H2 w h hst hvn
        refine ⟨[], .slice (some ⟨b, o + s, none⟩) (n + m) c, w', ?_, by rw [List.append_nil]; exact hr, by rw [List.append_nil]; exact .sl _ _ _ _ _ _ hβ⟩
        rw [run_append_fits h0 h1 hu hu2 hd hi hN hus hfit]
        have e : (⟨b, o + s, none⟩ : Addr).add (n * i.size) = ⟨b, o + n * i.size + s, none⟩ := by rw [add_at]; congr 1; omega
        simp only [e, Sem.run_bind, hrun, Result.andThen_ok]
        rfl
      | slL B o n c c' zz q hβ hcc htop =>
        obtain ⟨w', hrun, hr⟩ := HR.storeFrom (P := P) (hm_of hβ) (o + n * i.size) news us 0 H H2 w h hst hvn
        refine ⟨[], .slice (some ⟨q.b, o + q.s, none⟩) (n + m) c', w', ?_, by rw [List.append_nil]; exact hr, by rw [List.append_nil]; exact .slL _ _ _ _ _ _ _ hβ hcc htop⟩
        rw [run_append_fits h0 h1 hu hu2 hd hi hN hus (by omega)]
        have e : (⟨q.b, o + q.s, none⟩ : Addr).add (n * i.size) = ⟨q.b, o + n * i.size + q.s, none⟩ := by rw [add_at]; congr 1; omega
        simp only [e, Sem.run_bind, hrun, Result.andThen_ok]
        rfl
    · rename_i hfit
      split at ha
      rotate_left
      · cases ha
      rename_i hb
      obtain ⟨hb1, hb2, hb3⟩ := hb
      split at ha
      · cases ha
      rename_i old hold
      have hlo := (aloads_at hold).1
      split at ha
      · -- the capacity is told
        cases hs with
        | sl B o b s n c hβ =>
          obtain ⟨os, hos, hvo⟩ := h.drew.loads (P := P) hold hβ
          exact ⟨grown_sound (P := P) (ty := ty) h h0 h1 hu hu2 hd hi hN hus' hos hz hzl hfit hb1 hb2 hvn' hvo hln hlo ha⟩
      · rename_i zz
        split at ha
        rotate_left
        · cases ha
        rename_i b H1 hg hk
        split at ha
        rotate_left
        · cases ha
        rename_i hbk
        obtain ⟨rfl, hel, hlive, hro⟩ := hbk
        cases hs with
        | slL B o n c c' zz q hβ hcc htop =>
          by_cases hfit' : n + m ≤ c'
          · -- it fits after all
            unfold agrown at ha
            simp only [Option.map_eq_some_iff, Prod.mk.injEq] at ha
            obtain ⟨⟨B', H2⟩, hn, rfl, rfl⟩ := ha
            have hmul : (n + m) * i.size ≤ c' * i.size := Nat.mul_le_mul_right _ hfit'
            rw [Nat.add_mul] at hmul
            subst hel
            obtain ⟨w', hrun, hr, hB'⟩ := h.rehome (P := P) hg hlive hro hβ hk (by rw [hlo]; exact hold) hvn huone (by rw [hlo, hvn.1, hln]; omega) hn
            refine ⟨_, .slice (some ⟨q.b, o + q.s, none⟩) (n + m) c', w', ?_, hr, ?_⟩
            · rw [run_append_fits h0 h1 hu hu2 hd hi hN hus hfit']
              have e : (⟨q.b, o + q.s, none⟩ : Addr).add (n * i.size) = ⟨q.b, o + q.s + old.length, none⟩ := by rw [add_at, hlo]
              simp only [e, Sem.run_bind, hrun, Result.andThen_ok]
              rfl
            · have := VR.slL (β := β ++ [⟨q.b, o + q.s, q.top, undef⟩]) B' 0 (n + m) (n + m) c' i.size _ hB' hfit' (by simp only; omega)
              simpa using this
          · obtain ⟨os, hos, hvo⟩ := h.drew.loads (P := P) hold (hm_of hβ)
            exact ⟨grown_sound (P := P) (ty := ty) (h.kill hk).1 h0 h1 hu hu2 hd hi hN hus' hos hz hzl hfit' hb1 hb2 hvn' hvo hln hlo ha⟩
  · cases ha
end
end Go.AM
