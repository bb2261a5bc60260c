/- A part of the proof: what functions of the program answer, for all arguments that meet the conditions named in each theorem. -/
import Derived.Test.YtafogjbbnfdjmaaC2
import Derived.OwnWalk
import Derived.Laws.OwnMore
import Derived.WalkSpells
namespace Go.Proofs.C1
open Go.RowKit
set_option linter.unusedVariables false
theorem info5 : (Try.prog.info? 5).map (fun i => (i.zero, i.size, i.bytes)) = some (some (.int .u8 0), 1, 1) := by kernel_rfl

/-- The copied text: its cells, and two noughts behind it. -/
theorem copied {w : World} {base : Nat} {v : Value} {ts : List Int} (h : w.ownsRow base 5 1 v (0 + ts.length + 2) ([] ++ ts.map (Value.int .u8) ++ [.int .u8 0, .int .u8 0])) :
    ∃ g cap C, v = .slice (some ⟨g, 0, none⟩) (0 + ts.length + 2) cap ∧ base ≤ g ∧ w.heap[g]? = some (.cells C 5 (0, 0)) ∧ ∀ k : Nat, k < ts.length + 2 → C[k]? = some (.int .u8 (byt ts k)) := by
  obtain ⟨h1, ⟨_, h2⟩ | ⟨g, cap, C, hv, hb, hw, hn, hm, hs, ht⟩⟩ := h
  · omega
  · refine ⟨g, cap, C, hv, hb, hw, fun k hk => ?_⟩
    have e1 : C.toList[k]? = (C.toList.take ((0 + ts.length + 2) * 1))[k]? := by rw [List.getElem?_take, if_pos (by omega)]
    rw [← Array.getElem?_toList, e1, ht]
    unfold byt
    rw [List.nil_append]
    by_cases hlt : k < ts.length
    · rw [List.getElem?_append_left (by simpa using hlt), if_pos (by omega), List.getElem?_map, List.getElem?_eq_getElem hlt]
      simp [List.getElem?_eq_getElem hlt]
    · rw [List.getElem?_append_right (by simp; omega), if_neg (by omega)]
      have : k - ts.length = 0 ∨ k - ts.length = 1 := by omega
      rcases this with e | e <;> simp [e]


theorem cell_lt {w : World} {a : Addr} {v : Value} (h : w.cell? a = some v) : a.block < w.heap.size := by
  rcases Nat.lt_or_ge a.block w.heap.size with h1 | h1
  · exact h1
  · unfold World.cell? at h
    rw [Array.getElem?_eq_none h1] at h
    simp at h
theorem cells_kept {w : World} {y : Addr} {ts : List Int} (o : Obj) (ht : Txt w (some y) ts) : ∀ (j : Nat) (u : Value), (ts.map (Value.int .u8))[j]? = some u → (w.alloc o).cell? (y.add j) = some u := by
  intro j u hu
  rw [List.getElem?_map, Option.map_eq_some_iff] at hu
  obtain ⟨n, hn, rfl⟩ := hu
  have hj : j < ts.length := by
    rcases Nat.lt_or_ge j ts.length with h | h
    · exact h
    · rw [List.getElem?_eq_none h] at hn; cases hn
  obtain ⟨x, hx, hc⟩ := ht.2 j hj
  cases hx
  have hl := cell_lt hc
  rw [World.cell?_of_block (Below.heap_alloc w o _ hl), hc, List.getD_eq_getElem?_getD, hn]
  rfl
theorem cells_two (w : World) (u0 u1 : Value) (e : TypeId) : ∀ (j : Nat) (u : Value), [u0, u1][j]? = some u → (w.alloc (.cells #[u0, u1] e)).cell? ((⟨w.heap.size, 0, none⟩ : Addr).add j) = some u := by
  intro j u hu
  have h0 : (w.alloc (.cells #[u0, u1] e)).heap[w.heap.size]? = some (.cells #[u0, u1] e (0, 0)) := heap_alloc_new w _
  have : ((⟨w.heap.size, 0, none⟩ : Addr).add j) = ⟨w.heap.size, j, none⟩ := by
    rw [Go.AM.add_at, Nat.zero_add]
  rw [this, cell_of_row _ _ _ _ _ _ h0]
  simpa using hu
theorem below2 {w w1 w2 : World} {v1 : Value} {n : Nat} {xs : List Value} {c1 c2 : Array Value} {r : Option Nat} (hr : r = some w.heap.size) (g1 : (w.alloc (.cells c1 5)).grownBy w1 r) (o1 : w1.ownsRow w.heap.size 5 1 v1 n xs) (g2 : (w1.alloc (.cells c2 5)).grownBy w2 v1.ownBlock) : Below w.heap.size w w2 := by
  subst hr
  have b1 : Below w.heap.size w w1 := Below.grown (Below.alloc (Below.refl _ _) (Nat.le_refl _) _) g1 (by simp) (fun k hk => by cases hk; exact Nat.le_refl _)
  have s1 : w.heap.size ≤ w1.heap.size := b1.size
  exact Below.grown (Below.alloc b1 s1 _) g2 (by simp; omega) (fun k hk => (o1.lt k hk).1)
theorem size1 {w w1 : World} {c1 : Array Value} {r : Option Nat} (g1 : (w.alloc (.cells c1 5)).grownBy w1 r) (o : Obj) : w.heap.size ≤ (w1.alloc o).heap.size := by
  have := g1.size
  simp at this ⊢
  omega

set_option maxRecDepth 100000 in
set_option maxHeartbeats 2000000 in
theorem iclass0 (w : World) (a : Option Addr) (ts : List Int) (cap : Nat) (i : Nat) (x : Int) (r : Bool) (hr : Hid (decide (48 ≤ x ∧ x ≤ 57 ∨ 65 ≤ x ∧ x ≤ 90 ∨ 97 ≤ x ∧ x ≤ 122 ∨ x = 95 ∨ x = 45) = r)) (hc : ts.length ≤ 2147483648) (ht : Hid (Txt w a ts)) (hi2 : i < ts.length)
    (ex : Hid (byt ts i = x)) (qx : Hid (0 ≤ x ∧ x ≤ 255)) :
    Calls Try.prog 8 #[.int .i64 0, .slice a ts.length cap, .int .i64 i] w fun e w' => e = .returned (.bool r) ∧ Below w.heap.size w w' := by
  obtain ⟨y0, rfl, _⟩ := ht.out.2 0 (by omega)
  obtain ⟨i0, hi0, hz0, hz1, hz2⟩ := info_parts info5
  have hown0 : (w.alloc (.cells #[] 5)).ownsRow w.heap.size 5 1 (.slice (some ⟨w.heap.size, 0, none⟩) 0 0) 0 [] := World.ownsRow_lit w #[] 0 (Nat.le_refl _) (by decide) rfl
  have hcells := cells_kept (.cells #[] 5) ht.out
  have HO := Lib.hid hown0
  have HC := Lib.hid hcells
  clear hown0 hcells
  go_enter Try.func8, Try.ntmps8
  go_wp2_with (first
    | (at_builtin; refine wpList_append_own _ rfl (.tmp 16) (.tmp 17) 29 rfl w.heap.size 5 i0 (.int .u8 0) 1 1 Try.underlying29 hi0 hz0 hz1 hz2 rfl (by decide) _ 0 [] rfl HO.out y0 ts.length cap (ts.map (Value.int .u8)) rfl (by simp) HC.out (by intro u hu; simp at hu; obtain ⟨_, _, rfl⟩ := hu; rfl) (by unfold maxLen; omega) (by omega) (by simp) ?_; intro v1 w1 hown1 hgrow1 hnil1; have HO1 := Lib.hid hown1; have HG1 := Lib.hid hgrow1; clear hown1 hgrow1 hnil1)
    | (at_builtin; refine wpList_append_own _ rfl (.tmp 18) (.tmp 19) 29 rfl w.heap.size 5 i0 (.int .u8 0) 1 1 Try.underlying29 hi0 hz0 hz1 hz2 rfl (by decide) _ _ _ rfl (HO1.out.alloc _) ⟨w1.heap.size, 0, none⟩ 2 2 [.int .u8 0, .int .u8 0] rfl rfl (cells_two _ _ _ _) (by intro u hu; simp at hu; rcases hu with rfl; rfl) (by unfold maxLen; omega) (by omega) (size1 HG1.out _) ?_; intro v2 w2 hown2 hgrow2 hnil2; have HO2 := Lib.hid hown2; have HB2 := Lib.hid (below2 rfl HG1.out HO1.out hgrow2); clear hown2 hgrow2 hnil2 HG1 HO1)
    | (go_at_call 14; obtain ⟨g, cp, C, rfl, hg, hw, hC⟩ := copied HO2.out; go_must (refine (LF.alpha_any hw (by omega) (by omega) (by rw [hC _ (by omega)]; exact congrArg (fun u => some (Value.int .u8 u)) (Eq.trans (congrArg (byt ts) (by omega)) ex.out)) qx.out).mono ?_); rintro e w' ⟨he, hb⟩; rw [hr.out] at he; subst he; have HB3 := Lib.hid (HB2.out.trans (hb.mono HB2.out.size)); clear hb hC hw))
  go_ret
  exact ⟨rfl, HB3.out⟩
set_option maxRecDepth 100000 in
set_option maxHeartbeats 2000000 in
theorem iclass1 (w : World) (a : Option Addr) (ts : List Int) (cap : Nat) (i : Nat) (x : Int) (r : Bool) (hr : Hid (decide (48 ≤ x ∧ x ≤ 57) = r)) (hc : ts.length ≤ 2147483648) (ht : Hid (Txt w a ts)) (hi2 : i < ts.length)
    (ex : Hid (byt ts i = x)) (qx : Hid (0 ≤ x ∧ x ≤ 255)) :
    Calls Try.prog 8 #[.int .i64 1, .slice a ts.length cap, .int .i64 i] w fun e w' => e = .returned (.bool r) ∧ Below w.heap.size w w' := by
  obtain ⟨y0, rfl, _⟩ := ht.out.2 0 (by omega)
  obtain ⟨i0, hi0, hz0, hz1, hz2⟩ := info_parts info5
  have hown0 : (w.alloc (.cells #[] 5)).ownsRow w.heap.size 5 1 (.slice (some ⟨w.heap.size, 0, none⟩) 0 0) 0 [] := World.ownsRow_lit w #[] 0 (Nat.le_refl _) (by decide) rfl
  have hcells := cells_kept (.cells #[] 5) ht.out
  have HO := Lib.hid hown0
  have HC := Lib.hid hcells
  clear hown0 hcells
  go_enter Try.func8, Try.ntmps8
  go_wp2_with (first
    | (at_builtin; refine wpList_append_own _ rfl (.tmp 16) (.tmp 17) 29 rfl w.heap.size 5 i0 (.int .u8 0) 1 1 Try.underlying29 hi0 hz0 hz1 hz2 rfl (by decide) _ 0 [] rfl HO.out y0 ts.length cap (ts.map (Value.int .u8)) rfl (by simp) HC.out (by intro u hu; simp at hu; obtain ⟨_, _, rfl⟩ := hu; rfl) (by unfold maxLen; omega) (by omega) (by simp) ?_; intro v1 w1 hown1 hgrow1 hnil1; have HO1 := Lib.hid hown1; have HG1 := Lib.hid hgrow1; clear hown1 hgrow1 hnil1)
    | (at_builtin; refine wpList_append_own _ rfl (.tmp 18) (.tmp 19) 29 rfl w.heap.size 5 i0 (.int .u8 0) 1 1 Try.underlying29 hi0 hz0 hz1 hz2 rfl (by decide) _ _ _ rfl (HO1.out.alloc _) ⟨w1.heap.size, 0, none⟩ 2 2 [.int .u8 0, .int .u8 0] rfl rfl (cells_two _ _ _ _) (by intro u hu; simp at hu; rcases hu with rfl; rfl) (by unfold maxLen; omega) (by omega) (size1 HG1.out _) ?_; intro v2 w2 hown2 hgrow2 hnil2; have HO2 := Lib.hid hown2; have HB2 := Lib.hid (below2 rfl HG1.out HO1.out hgrow2); clear hown2 hgrow2 hnil2 HG1 HO1)
    | (go_at_call 15; obtain ⟨g, cp, C, rfl, hg, hw, hC⟩ := copied HO2.out; go_must (refine (LF.digit_any hw (by omega) (by omega) (by rw [hC _ (by omega)]; exact congrArg (fun u => some (Value.int .u8 u)) (Eq.trans (congrArg (byt ts) (by omega)) ex.out)) qx.out).mono ?_); rintro e w' ⟨he, hb⟩; rw [hr.out] at he; subst he; have HB3 := Lib.hid (HB2.out.trans (hb.mono HB2.out.size)); clear hb hC hw))
  go_ret
  exact ⟨rfl, HB3.out⟩
set_option maxRecDepth 100000 in
set_option maxHeartbeats 2000000 in
theorem iclass2 (w : World) (a : Option Addr) (ts : List Int) (cap : Nat) (i : Nat) (x : Int) (r : Bool) (hr : Hid (decide (48 ≤ x ∧ x ≤ 57 ∨ 65 ≤ x ∧ x ≤ 70 ∨ 97 ≤ x ∧ x ≤ 102) = r)) (hc : ts.length ≤ 2147483648) (ht : Hid (Txt w a ts)) (hi2 : i < ts.length)
    (ex : Hid (byt ts i = x)) (qx : Hid (0 ≤ x ∧ x ≤ 255)) :
    Calls Try.prog 8 #[.int .i64 2, .slice a ts.length cap, .int .i64 i] w fun e w' => e = .returned (.bool r) ∧ Below w.heap.size w w' := by
  obtain ⟨y0, rfl, _⟩ := ht.out.2 0 (by omega)
  obtain ⟨i0, hi0, hz0, hz1, hz2⟩ := info_parts info5
  have hown0 : (w.alloc (.cells #[] 5)).ownsRow w.heap.size 5 1 (.slice (some ⟨w.heap.size, 0, none⟩) 0 0) 0 [] := World.ownsRow_lit w #[] 0 (Nat.le_refl _) (by decide) rfl
  have hcells := cells_kept (.cells #[] 5) ht.out
  have HO := Lib.hid hown0
  have HC := Lib.hid hcells
  clear hown0 hcells
  go_enter Try.func8, Try.ntmps8
  go_wp2_with (first
    | (at_builtin; refine wpList_append_own _ rfl (.tmp 16) (.tmp 17) 29 rfl w.heap.size 5 i0 (.int .u8 0) 1 1 Try.underlying29 hi0 hz0 hz1 hz2 rfl (by decide) _ 0 [] rfl HO.out y0 ts.length cap (ts.map (Value.int .u8)) rfl (by simp) HC.out (by intro u hu; simp at hu; obtain ⟨_, _, rfl⟩ := hu; rfl) (by unfold maxLen; omega) (by omega) (by simp) ?_; intro v1 w1 hown1 hgrow1 hnil1; have HO1 := Lib.hid hown1; have HG1 := Lib.hid hgrow1; clear hown1 hgrow1 hnil1)
    | (at_builtin; refine wpList_append_own _ rfl (.tmp 18) (.tmp 19) 29 rfl w.heap.size 5 i0 (.int .u8 0) 1 1 Try.underlying29 hi0 hz0 hz1 hz2 rfl (by decide) _ _ _ rfl (HO1.out.alloc _) ⟨w1.heap.size, 0, none⟩ 2 2 [.int .u8 0, .int .u8 0] rfl rfl (cells_two _ _ _ _) (by intro u hu; simp at hu; rcases hu with rfl; rfl) (by unfold maxLen; omega) (by omega) (size1 HG1.out _) ?_; intro v2 w2 hown2 hgrow2 hnil2; have HO2 := Lib.hid hown2; have HB2 := Lib.hid (below2 rfl HG1.out HO1.out hgrow2); clear hown2 hgrow2 hnil2 HG1 HO1)
    | (go_at_call 16; obtain ⟨g, cp, C, rfl, hg, hw, hC⟩ := copied HO2.out; go_must (refine (LF.hex_any hw (by omega) (by omega) (by rw [hC _ (by omega)]; exact congrArg (fun u => some (Value.int .u8 u)) (Eq.trans (congrArg (byt ts) (by omega)) ex.out)) qx.out).mono ?_); rintro e w' ⟨he, hb⟩; rw [hr.out] at he; subst he; have HB3 := Lib.hid (HB2.out.trans (hb.mono HB2.out.size)); clear hb hC hw))
  go_ret
  exact ⟨rfl, HB3.out⟩
set_option maxRecDepth 100000 in
set_option maxHeartbeats 2000000 in
theorem iclass3 (w : World) (a : Option Addr) (ts : List Int) (cap : Nat) (i : Nat) (x : Int) (r : Bool) (hr : Hid (decide (x ≤ 127) = r)) (hc : ts.length ≤ 2147483648) (ht : Hid (Txt w a ts)) (hi2 : i < ts.length)
    (ex : Hid (byt ts i = x)) (qx : Hid (0 ≤ x ∧ x ≤ 255)) :
    Calls Try.prog 8 #[.int .i64 3, .slice a ts.length cap, .int .i64 i] w fun e w' => e = .returned (.bool r) ∧ Below w.heap.size w w' := by
  obtain ⟨y0, rfl, _⟩ := ht.out.2 0 (by omega)
  obtain ⟨i0, hi0, hz0, hz1, hz2⟩ := info_parts info5
  have hown0 : (w.alloc (.cells #[] 5)).ownsRow w.heap.size 5 1 (.slice (some ⟨w.heap.size, 0, none⟩) 0 0) 0 [] := World.ownsRow_lit w #[] 0 (Nat.le_refl _) (by decide) rfl
  have hcells := cells_kept (.cells #[] 5) ht.out
  have HO := Lib.hid hown0
  have HC := Lib.hid hcells
  clear hown0 hcells
  go_enter Try.func8, Try.ntmps8
  go_wp2_with (first
    | (at_builtin; refine wpList_append_own _ rfl (.tmp 16) (.tmp 17) 29 rfl w.heap.size 5 i0 (.int .u8 0) 1 1 Try.underlying29 hi0 hz0 hz1 hz2 rfl (by decide) _ 0 [] rfl HO.out y0 ts.length cap (ts.map (Value.int .u8)) rfl (by simp) HC.out (by intro u hu; simp at hu; obtain ⟨_, _, rfl⟩ := hu; rfl) (by unfold maxLen; omega) (by omega) (by simp) ?_; intro v1 w1 hown1 hgrow1 hnil1; have HO1 := Lib.hid hown1; have HG1 := Lib.hid hgrow1; clear hown1 hgrow1 hnil1)
    | (at_builtin; refine wpList_append_own _ rfl (.tmp 18) (.tmp 19) 29 rfl w.heap.size 5 i0 (.int .u8 0) 1 1 Try.underlying29 hi0 hz0 hz1 hz2 rfl (by decide) _ _ _ rfl (HO1.out.alloc _) ⟨w1.heap.size, 0, none⟩ 2 2 [.int .u8 0, .int .u8 0] rfl rfl (cells_two _ _ _ _) (by intro u hu; simp at hu; rcases hu with rfl; rfl) (by unfold maxLen; omega) (by omega) (size1 HG1.out _) ?_; intro v2 w2 hown2 hgrow2 hnil2; have HO2 := Lib.hid hown2; have HB2 := Lib.hid (below2 rfl HG1.out HO1.out hgrow2); clear hown2 hgrow2 hnil2 HG1 HO1)
    | (go_at_call 17; obtain ⟨g, cp, C, rfl, hg, hw, hC⟩ := copied HO2.out; go_must (refine (LF.ascii_any hw (by omega) (by omega) (by rw [hC _ (by omega)]; exact congrArg (fun u => some (Value.int .u8 u)) (Eq.trans (congrArg (byt ts) (by omega)) ex.out)) qx.out).mono ?_); rintro e w' ⟨he, hb⟩; rw [hr.out] at he; subst he; have HB3 := Lib.hid (HB2.out.trans (hb.mono HB2.out.size)); clear hb hC hw))
  go_ret
  exact ⟨rfl, HB3.out⟩
set_option maxRecDepth 100000 in
set_option maxHeartbeats 2000000 in
theorem iclass5 (w : World) (a : Option Addr) (ts : List Int) (cap : Nat) (i : Nat) (x : Int) (r : Bool) (hr : Hid (decide (x = 0) = r)) (hc : ts.length ≤ 2147483648) (ht : Hid (Txt w a ts)) (hi2 : i < ts.length)
    (ex : Hid (byt ts i = x)) (qx : Hid (0 ≤ x ∧ x ≤ 255)) :
    Calls Try.prog 8 #[.int .i64 5, .slice a ts.length cap, .int .i64 i] w fun e w' => e = .returned (.bool r) ∧ Below w.heap.size w w' := by
  obtain ⟨y0, rfl, _⟩ := ht.out.2 0 (by omega)
  obtain ⟨i0, hi0, hz0, hz1, hz2⟩ := info_parts info5
  have hown0 : (w.alloc (.cells #[] 5)).ownsRow w.heap.size 5 1 (.slice (some ⟨w.heap.size, 0, none⟩) 0 0) 0 [] := World.ownsRow_lit w #[] 0 (Nat.le_refl _) (by decide) rfl
  have hcells := cells_kept (.cells #[] 5) ht.out
  have HO := Lib.hid hown0
  have HC := Lib.hid hcells
  clear hown0 hcells
  go_enter Try.func8, Try.ntmps8
  go_wp2_with (first
    | (at_builtin; refine wpList_append_own _ rfl (.tmp 16) (.tmp 17) 29 rfl w.heap.size 5 i0 (.int .u8 0) 1 1 Try.underlying29 hi0 hz0 hz1 hz2 rfl (by decide) _ 0 [] rfl HO.out y0 ts.length cap (ts.map (Value.int .u8)) rfl (by simp) HC.out (by intro u hu; simp at hu; obtain ⟨_, _, rfl⟩ := hu; rfl) (by unfold maxLen; omega) (by omega) (by simp) ?_; intro v1 w1 hown1 hgrow1 hnil1; have HO1 := Lib.hid hown1; have HG1 := Lib.hid hgrow1; clear hown1 hgrow1 hnil1)
    | (at_builtin; refine wpList_append_own _ rfl (.tmp 18) (.tmp 19) 29 rfl w.heap.size 5 i0 (.int .u8 0) 1 1 Try.underlying29 hi0 hz0 hz1 hz2 rfl (by decide) _ _ _ rfl (HO1.out.alloc _) ⟨w1.heap.size, 0, none⟩ 2 2 [.int .u8 0, .int .u8 0] rfl rfl (cells_two _ _ _ _) (by intro u hu; simp at hu; rcases hu with rfl; rfl) (by unfold maxLen; omega) (by omega) (size1 HG1.out _) ?_; intro v2 w2 hown2 hgrow2 hnil2; have HO2 := Lib.hid hown2; have HB2 := Lib.hid (below2 rfl HG1.out HO1.out hgrow2); clear hown2 hgrow2 hnil2 HG1 HO1)
    | (go_at_call 19; obtain ⟨g, cp, C, rfl, hg, hw, hC⟩ := copied HO2.out; go_must (refine (LF.z_any hw (by omega) (by omega) (by rw [hC _ (by omega)]; exact congrArg (fun u => some (Value.int .u8 u)) (Eq.trans (congrArg (byt ts) (by omega)) ex.out)) qx.out).mono ?_); rintro e w' ⟨he, hb⟩; rw [hr.out] at he; subst he; have HB3 := Lib.hid (HB2.out.trans (hb.mono HB2.out.size)); clear hb hC hw))
  go_ret
  exact ⟨rfl, HB3.out⟩
set_option maxRecDepth 100000 in
set_option maxHeartbeats 2000000 in
theorem iclass7 (w : World) (a : Option Addr) (ts : List Int) (cap : Nat) (i : Nat) (x : Int) (r : Bool) (hr : Hid (decide (x = 32) = r)) (hc : ts.length ≤ 2147483648) (ht : Hid (Txt w a ts)) (hi2 : i < ts.length)
    (ex : Hid (byt ts i = x)) (qx : Hid (0 ≤ x ∧ x ≤ 255)) :
    Calls Try.prog 8 #[.int .i64 7, .slice a ts.length cap, .int .i64 i] w fun e w' => e = .returned (.bool r) ∧ Below w.heap.size w w' := by
  obtain ⟨y0, rfl, _⟩ := ht.out.2 0 (by omega)
  obtain ⟨i0, hi0, hz0, hz1, hz2⟩ := info_parts info5
  have hown0 : (w.alloc (.cells #[] 5)).ownsRow w.heap.size 5 1 (.slice (some ⟨w.heap.size, 0, none⟩) 0 0) 0 [] := World.ownsRow_lit w #[] 0 (Nat.le_refl _) (by decide) rfl
  have hcells := cells_kept (.cells #[] 5) ht.out
  have HO := Lib.hid hown0
  have HC := Lib.hid hcells
  clear hown0 hcells
  go_enter Try.func8, Try.ntmps8
  go_wp2_with (first
    | (at_builtin; refine wpList_append_own _ rfl (.tmp 16) (.tmp 17) 29 rfl w.heap.size 5 i0 (.int .u8 0) 1 1 Try.underlying29 hi0 hz0 hz1 hz2 rfl (by decide) _ 0 [] rfl HO.out y0 ts.length cap (ts.map (Value.int .u8)) rfl (by simp) HC.out (by intro u hu; simp at hu; obtain ⟨_, _, rfl⟩ := hu; rfl) (by unfold maxLen; omega) (by omega) (by simp) ?_; intro v1 w1 hown1 hgrow1 hnil1; have HO1 := Lib.hid hown1; have HG1 := Lib.hid hgrow1; clear hown1 hgrow1 hnil1)
    | (at_builtin; refine wpList_append_own _ rfl (.tmp 18) (.tmp 19) 29 rfl w.heap.size 5 i0 (.int .u8 0) 1 1 Try.underlying29 hi0 hz0 hz1 hz2 rfl (by decide) _ _ _ rfl (HO1.out.alloc _) ⟨w1.heap.size, 0, none⟩ 2 2 [.int .u8 0, .int .u8 0] rfl rfl (cells_two _ _ _ _) (by intro u hu; simp at hu; rcases hu with rfl; rfl) (by unfold maxLen; omega) (by omega) (size1 HG1.out _) ?_; intro v2 w2 hown2 hgrow2 hnil2; have HO2 := Lib.hid hown2; have HB2 := Lib.hid (below2 rfl HG1.out HO1.out hgrow2); clear hown2 hgrow2 hnil2 HG1 HO1)
    | (go_at_call 21; obtain ⟨g, cp, C, rfl, hg, hw, hC⟩ := copied HO2.out; go_must (refine (LF.space_any hw (by omega) (by omega) (by rw [hC _ (by omega)]; exact congrArg (fun u => some (Value.int .u8 u)) (Eq.trans (congrArg (byt ts) (by omega)) ex.out)) qx.out).mono ?_); rintro e w' ⟨he, hb⟩; rw [hr.out] at he; subst he; have HB3 := Lib.hid (HB2.out.trans (hb.mono HB2.out.size)); clear hb hC hw))
  go_ret
  exact ⟨rfl, HB3.out⟩
set_option maxRecDepth 100000 in
set_option maxHeartbeats 2000000 in
theorem iclass8 (w : World) (a : Option Addr) (ts : List Int) (cap : Nat) (i : Nat) (x : Int) (r : Bool) (hr : Hid (decide (x = 9) = r)) (hc : ts.length ≤ 2147483648) (ht : Hid (Txt w a ts)) (hi2 : i < ts.length)
    (ex : Hid (byt ts i = x)) (qx : Hid (0 ≤ x ∧ x ≤ 255)) :
    Calls Try.prog 8 #[.int .i64 8, .slice a ts.length cap, .int .i64 i] w fun e w' => e = .returned (.bool r) ∧ Below w.heap.size w w' := by
  obtain ⟨y0, rfl, _⟩ := ht.out.2 0 (by omega)
  obtain ⟨i0, hi0, hz0, hz1, hz2⟩ := info_parts info5
  have hown0 : (w.alloc (.cells #[] 5)).ownsRow w.heap.size 5 1 (.slice (some ⟨w.heap.size, 0, none⟩) 0 0) 0 [] := World.ownsRow_lit w #[] 0 (Nat.le_refl _) (by decide) rfl
  have hcells := cells_kept (.cells #[] 5) ht.out
  have HO := Lib.hid hown0
  have HC := Lib.hid hcells
  clear hown0 hcells
  go_enter Try.func8, Try.ntmps8
  go_wp2_with (first
    | (at_builtin; refine wpList_append_own _ rfl (.tmp 16) (.tmp 17) 29 rfl w.heap.size 5 i0 (.int .u8 0) 1 1 Try.underlying29 hi0 hz0 hz1 hz2 rfl (by decide) _ 0 [] rfl HO.out y0 ts.length cap (ts.map (Value.int .u8)) rfl (by simp) HC.out (by intro u hu; simp at hu; obtain ⟨_, _, rfl⟩ := hu; rfl) (by unfold maxLen; omega) (by omega) (by simp) ?_; intro v1 w1 hown1 hgrow1 hnil1; have HO1 := Lib.hid hown1; have HG1 := Lib.hid hgrow1; clear hown1 hgrow1 hnil1)
    | (at_builtin; refine wpList_append_own _ rfl (.tmp 18) (.tmp 19) 29 rfl w.heap.size 5 i0 (.int .u8 0) 1 1 Try.underlying29 hi0 hz0 hz1 hz2 rfl (by decide) _ _ _ rfl (HO1.out.alloc _) ⟨w1.heap.size, 0, none⟩ 2 2 [.int .u8 0, .int .u8 0] rfl rfl (cells_two _ _ _ _) (by intro u hu; simp at hu; rcases hu with rfl; rfl) (by unfold maxLen; omega) (by omega) (size1 HG1.out _) ?_; intro v2 w2 hown2 hgrow2 hnil2; have HO2 := Lib.hid hown2; have HB2 := Lib.hid (below2 rfl HG1.out HO1.out hgrow2); clear hown2 hgrow2 hnil2 HG1 HO1)
    | (go_at_call 22; obtain ⟨g, cp, C, rfl, hg, hw, hC⟩ := copied HO2.out; go_must (refine (LF.tab_any hw (by omega) (by omega) (by rw [hC _ (by omega)]; exact congrArg (fun u => some (Value.int .u8 u)) (Eq.trans (congrArg (byt ts) (by omega)) ex.out)) qx.out).mono ?_); rintro e w' ⟨he, hb⟩; rw [hr.out] at he; subst he; have HB3 := Lib.hid (HB2.out.trans (hb.mono HB2.out.size)); clear hb hC hw))
  go_ret
  exact ⟨rfl, HB3.out⟩
set_option maxRecDepth 100000 in
set_option maxHeartbeats 2000000 in
theorem iclass9 (w : World) (a : Option Addr) (ts : List Int) (cap : Nat) (i : Nat) (x : Int) (r : Bool) (hr : Hid (decide (x = 32 ∨ x = 9) = r)) (hc : ts.length ≤ 2147483648) (ht : Hid (Txt w a ts)) (hi2 : i < ts.length)
    (ex : Hid (byt ts i = x)) (qx : Hid (0 ≤ x ∧ x ≤ 255)) :
    Calls Try.prog 8 #[.int .i64 9, .slice a ts.length cap, .int .i64 i] w fun e w' => e = .returned (.bool r) ∧ Below w.heap.size w w' := by
  obtain ⟨y0, rfl, _⟩ := ht.out.2 0 (by omega)
  obtain ⟨i0, hi0, hz0, hz1, hz2⟩ := info_parts info5
  have hown0 : (w.alloc (.cells #[] 5)).ownsRow w.heap.size 5 1 (.slice (some ⟨w.heap.size, 0, none⟩) 0 0) 0 [] := World.ownsRow_lit w #[] 0 (Nat.le_refl _) (by decide) rfl
  have hcells := cells_kept (.cells #[] 5) ht.out
  have HO := Lib.hid hown0
  have HC := Lib.hid hcells
  clear hown0 hcells
  go_enter Try.func8, Try.ntmps8
  go_wp2_with (first
    | (at_builtin; refine wpList_append_own _ rfl (.tmp 16) (.tmp 17) 29 rfl w.heap.size 5 i0 (.int .u8 0) 1 1 Try.underlying29 hi0 hz0 hz1 hz2 rfl (by decide) _ 0 [] rfl HO.out y0 ts.length cap (ts.map (Value.int .u8)) rfl (by simp) HC.out (by intro u hu; simp at hu; obtain ⟨_, _, rfl⟩ := hu; rfl) (by unfold maxLen; omega) (by omega) (by simp) ?_; intro v1 w1 hown1 hgrow1 hnil1; have HO1 := Lib.hid hown1; have HG1 := Lib.hid hgrow1; clear hown1 hgrow1 hnil1)
    | (at_builtin; refine wpList_append_own _ rfl (.tmp 18) (.tmp 19) 29 rfl w.heap.size 5 i0 (.int .u8 0) 1 1 Try.underlying29 hi0 hz0 hz1 hz2 rfl (by decide) _ _ _ rfl (HO1.out.alloc _) ⟨w1.heap.size, 0, none⟩ 2 2 [.int .u8 0, .int .u8 0] rfl rfl (cells_two _ _ _ _) (by intro u hu; simp at hu; rcases hu with rfl; rfl) (by unfold maxLen; omega) (by omega) (size1 HG1.out _) ?_; intro v2 w2 hown2 hgrow2 hnil2; have HO2 := Lib.hid hown2; have HB2 := Lib.hid (below2 rfl HG1.out HO1.out hgrow2); clear hown2 hgrow2 hnil2 HG1 HO1)
    | (go_at_call 23; obtain ⟨g, cp, C, rfl, hg, hw, hC⟩ := copied HO2.out; go_must (refine (LF.blank_any hw (by omega) (by omega) (by rw [hC _ (by omega)]; exact congrArg (fun u => some (Value.int .u8 u)) (Eq.trans (congrArg (byt ts) (by omega)) ex.out)) qx.out).mono ?_); rintro e w' ⟨he, hb⟩; rw [hr.out] at he; subst he; have HB3 := Lib.hid (HB2.out.trans (hb.mono HB2.out.size)); clear hb hC hw))
  go_ret
  exact ⟨rfl, HB3.out⟩
set_option maxRecDepth 100000 in
set_option maxHeartbeats 2000000 in
theorem iclass10 (w : World) (a : Option Addr) (ts : List Int) (cap : Nat) (i : Nat) (x y z : Int) (r : Bool) (hr : Hid (decide (LF.Brk x y z) = r)) (hc : ts.length ≤ 2147483648) (ht : Hid (Txt w a ts)) (hi2 : i < ts.length)
    (ex : Hid (byt ts i = x)) (qx : Hid (0 ≤ x ∧ x ≤ 255)) (ey : Hid (byt ts (i + 1) = y)) (qy : Hid (0 ≤ y ∧ y ≤ 255)) (ez : Hid (byt ts (i + 2) = z)) (qz : Hid (0 ≤ z ∧ z ≤ 255)) :
    Calls Try.prog 8 #[.int .i64 10, .slice a ts.length cap, .int .i64 i] w fun e w' => e = .returned (.bool r) ∧ Below w.heap.size w w' := by
  obtain ⟨y0, rfl, _⟩ := ht.out.2 0 (by omega)
  obtain ⟨i0, hi0, hz0, hz1, hz2⟩ := info_parts info5
  have hown0 : (w.alloc (.cells #[] 5)).ownsRow w.heap.size 5 1 (.slice (some ⟨w.heap.size, 0, none⟩) 0 0) 0 [] := World.ownsRow_lit w #[] 0 (Nat.le_refl _) (by decide) rfl
  have hcells := cells_kept (.cells #[] 5) ht.out
  have HO := Lib.hid hown0
  have HC := Lib.hid hcells
  clear hown0 hcells
  go_enter Try.func8, Try.ntmps8
  go_wp2_with (first
    | (at_builtin; refine wpList_append_own _ rfl (.tmp 16) (.tmp 17) 29 rfl w.heap.size 5 i0 (.int .u8 0) 1 1 Try.underlying29 hi0 hz0 hz1 hz2 rfl (by decide) _ 0 [] rfl HO.out y0 ts.length cap (ts.map (Value.int .u8)) rfl (by simp) HC.out (by intro u hu; simp at hu; obtain ⟨_, _, rfl⟩ := hu; rfl) (by unfold maxLen; omega) (by omega) (by simp) ?_; intro v1 w1 hown1 hgrow1 hnil1; have HO1 := Lib.hid hown1; have HG1 := Lib.hid hgrow1; clear hown1 hgrow1 hnil1)
    | (at_builtin; refine wpList_append_own _ rfl (.tmp 18) (.tmp 19) 29 rfl w.heap.size 5 i0 (.int .u8 0) 1 1 Try.underlying29 hi0 hz0 hz1 hz2 rfl (by decide) _ _ _ rfl (HO1.out.alloc _) ⟨w1.heap.size, 0, none⟩ 2 2 [.int .u8 0, .int .u8 0] rfl rfl (cells_two _ _ _ _) (by intro u hu; simp at hu; rcases hu with rfl; rfl) (by unfold maxLen; omega) (by omega) (size1 HG1.out _) ?_; intro v2 w2 hown2 hgrow2 hnil2; have HO2 := Lib.hid hown2; have HB2 := Lib.hid (below2 rfl HG1.out HO1.out hgrow2); clear hown2 hgrow2 hnil2 HG1 HO1)
    | (go_at_call 24; obtain ⟨g, cp, C, rfl, hg, hw, hC⟩ := copied HO2.out; go_must (refine (LF.brk_any hw (by omega) (by omega) (by rw [hC _ (by omega)]; exact congrArg (fun u => some (Value.int .u8 u)) (Eq.trans (congrArg (byt ts) (by omega)) ex.out)) qx.out (by rw [hC _ (by omega)]; exact congrArg (fun u => some (Value.int .u8 u)) (Eq.trans (congrArg (byt ts) (by omega)) ey.out)) qy.out (by rw [hC _ (by omega)]; exact congrArg (fun u => some (Value.int .u8 u)) (Eq.trans (congrArg (byt ts) (by omega)) ez.out)) qz.out).mono ?_); rintro e w' ⟨he, hb⟩; rw [hr.out] at he; subst he; have HB3 := Lib.hid (HB2.out.trans (hb.mono HB2.out.size)); clear hb hC hw))
  go_ret
  exact ⟨rfl, HB3.out⟩
set_option maxRecDepth 100000 in
set_option maxHeartbeats 2000000 in
theorem iclass11 (w : World) (a : Option Addr) (ts : List Int) (cap : Nat) (i : Nat) (x y : Int) (r : Bool) (hr : Hid (decide (x = 13 ∧ y = 10) = r)) (hc : ts.length ≤ 2147483648) (ht : Hid (Txt w a ts)) (hi2 : i < ts.length)
    (ex : Hid (byt ts i = x)) (qx : Hid (0 ≤ x ∧ x ≤ 255)) (ey : Hid (byt ts (i + 1) = y)) (qy : Hid (0 ≤ y ∧ y ≤ 255)) :
    Calls Try.prog 8 #[.int .i64 11, .slice a ts.length cap, .int .i64 i] w fun e w' => e = .returned (.bool r) ∧ Below w.heap.size w w' := by
  obtain ⟨y0, rfl, _⟩ := ht.out.2 0 (by omega)
  obtain ⟨i0, hi0, hz0, hz1, hz2⟩ := info_parts info5
  have hown0 : (w.alloc (.cells #[] 5)).ownsRow w.heap.size 5 1 (.slice (some ⟨w.heap.size, 0, none⟩) 0 0) 0 [] := World.ownsRow_lit w #[] 0 (Nat.le_refl _) (by decide) rfl
  have hcells := cells_kept (.cells #[] 5) ht.out
  have HO := Lib.hid hown0
  have HC := Lib.hid hcells
  clear hown0 hcells
  go_enter Try.func8, Try.ntmps8
  go_wp2_with (first
    | (at_builtin; refine wpList_append_own _ rfl (.tmp 16) (.tmp 17) 29 rfl w.heap.size 5 i0 (.int .u8 0) 1 1 Try.underlying29 hi0 hz0 hz1 hz2 rfl (by decide) _ 0 [] rfl HO.out y0 ts.length cap (ts.map (Value.int .u8)) rfl (by simp) HC.out (by intro u hu; simp at hu; obtain ⟨_, _, rfl⟩ := hu; rfl) (by unfold maxLen; omega) (by omega) (by simp) ?_; intro v1 w1 hown1 hgrow1 hnil1; have HO1 := Lib.hid hown1; have HG1 := Lib.hid hgrow1; clear hown1 hgrow1 hnil1)
    | (at_builtin; refine wpList_append_own _ rfl (.tmp 18) (.tmp 19) 29 rfl w.heap.size 5 i0 (.int .u8 0) 1 1 Try.underlying29 hi0 hz0 hz1 hz2 rfl (by decide) _ _ _ rfl (HO1.out.alloc _) ⟨w1.heap.size, 0, none⟩ 2 2 [.int .u8 0, .int .u8 0] rfl rfl (cells_two _ _ _ _) (by intro u hu; simp at hu; rcases hu with rfl; rfl) (by unfold maxLen; omega) (by omega) (size1 HG1.out _) ?_; intro v2 w2 hown2 hgrow2 hnil2; have HO2 := Lib.hid hown2; have HB2 := Lib.hid (below2 rfl HG1.out HO1.out hgrow2); clear hown2 hgrow2 hnil2 HG1 HO1)
    | (go_at_call 25; obtain ⟨g, cp, C, rfl, hg, hw, hC⟩ := copied HO2.out; go_must (refine (LF.crlf_any hw (by omega) (by omega) (by rw [hC _ (by omega)]; exact congrArg (fun u => some (Value.int .u8 u)) (Eq.trans (congrArg (byt ts) (by omega)) ex.out)) qx.out (by rw [hC _ (by omega)]; exact congrArg (fun u => some (Value.int .u8 u)) (Eq.trans (congrArg (byt ts) (by omega)) ey.out)) qy.out).mono ?_); rintro e w' ⟨he, hb⟩; rw [hr.out] at he; subst he; have HB3 := Lib.hid (HB2.out.trans (hb.mono HB2.out.size)); clear hb hC hw))
  go_ret
  exact ⟨rfl, HB3.out⟩
set_option maxRecDepth 100000 in
set_option maxHeartbeats 2000000 in
theorem iclass12 (w : World) (a : Option Addr) (ts : List Int) (cap : Nat) (i : Nat) (x y z : Int) (r : Bool) (hr : Hid (decide (LF.Brk x y z ∨ x = 0) = r)) (hc : ts.length ≤ 2147483648) (ht : Hid (Txt w a ts)) (hi2 : i < ts.length)
    (ex : Hid (byt ts i = x)) (qx : Hid (0 ≤ x ∧ x ≤ 255)) (ey : Hid (byt ts (i + 1) = y)) (qy : Hid (0 ≤ y ∧ y ≤ 255)) (ez : Hid (byt ts (i + 2) = z)) (qz : Hid (0 ≤ z ∧ z ≤ 255)) :
    Calls Try.prog 8 #[.int .i64 12, .slice a ts.length cap, .int .i64 i] w fun e w' => e = .returned (.bool r) ∧ Below w.heap.size w w' := by
  obtain ⟨y0, rfl, _⟩ := ht.out.2 0 (by omega)
  obtain ⟨i0, hi0, hz0, hz1, hz2⟩ := info_parts info5
  have hown0 : (w.alloc (.cells #[] 5)).ownsRow w.heap.size 5 1 (.slice (some ⟨w.heap.size, 0, none⟩) 0 0) 0 [] := World.ownsRow_lit w #[] 0 (Nat.le_refl _) (by decide) rfl
  have hcells := cells_kept (.cells #[] 5) ht.out
  have HO := Lib.hid hown0
  have HC := Lib.hid hcells
  clear hown0 hcells
  go_enter Try.func8, Try.ntmps8
  go_wp2_with (first
    | (at_builtin; refine wpList_append_own _ rfl (.tmp 16) (.tmp 17) 29 rfl w.heap.size 5 i0 (.int .u8 0) 1 1 Try.underlying29 hi0 hz0 hz1 hz2 rfl (by decide) _ 0 [] rfl HO.out y0 ts.length cap (ts.map (Value.int .u8)) rfl (by simp) HC.out (by intro u hu; simp at hu; obtain ⟨_, _, rfl⟩ := hu; rfl) (by unfold maxLen; omega) (by omega) (by simp) ?_; intro v1 w1 hown1 hgrow1 hnil1; have HO1 := Lib.hid hown1; have HG1 := Lib.hid hgrow1; clear hown1 hgrow1 hnil1)
    | (at_builtin; refine wpList_append_own _ rfl (.tmp 18) (.tmp 19) 29 rfl w.heap.size 5 i0 (.int .u8 0) 1 1 Try.underlying29 hi0 hz0 hz1 hz2 rfl (by decide) _ _ _ rfl (HO1.out.alloc _) ⟨w1.heap.size, 0, none⟩ 2 2 [.int .u8 0, .int .u8 0] rfl rfl (cells_two _ _ _ _) (by intro u hu; simp at hu; rcases hu with rfl; rfl) (by unfold maxLen; omega) (by omega) (size1 HG1.out _) ?_; intro v2 w2 hown2 hgrow2 hnil2; have HO2 := Lib.hid hown2; have HB2 := Lib.hid (below2 rfl HG1.out HO1.out hgrow2); clear hown2 hgrow2 hnil2 HG1 HO1)
    | (go_at_call 26; obtain ⟨g, cp, C, rfl, hg, hw, hC⟩ := copied HO2.out; go_must (refine (LF.breakz_any hw (by omega) (by omega) (by rw [hC _ (by omega)]; exact congrArg (fun u => some (Value.int .u8 u)) (Eq.trans (congrArg (byt ts) (by omega)) ex.out)) qx.out (by rw [hC _ (by omega)]; exact congrArg (fun u => some (Value.int .u8 u)) (Eq.trans (congrArg (byt ts) (by omega)) ey.out)) qy.out (by rw [hC _ (by omega)]; exact congrArg (fun u => some (Value.int .u8 u)) (Eq.trans (congrArg (byt ts) (by omega)) ez.out)) qz.out).mono ?_); rintro e w' ⟨he, hb⟩; rw [hr.out] at he; subst he; have HB3 := Lib.hid (HB2.out.trans (hb.mono HB2.out.size)); clear hb hC hw))
  go_ret
  exact ⟨rfl, HB3.out⟩
set_option maxRecDepth 100000 in
set_option maxHeartbeats 2000000 in
theorem iclass13 (w : World) (a : Option Addr) (ts : List Int) (cap : Nat) (i : Nat) (x y z : Int) (r : Bool) (hr : Hid (decide (LF.Brk x y z ∨ x = 0 ∨ x = 32) = r)) (hc : ts.length ≤ 2147483648) (ht : Hid (Txt w a ts)) (hi2 : i < ts.length)
    (ex : Hid (byt ts i = x)) (qx : Hid (0 ≤ x ∧ x ≤ 255)) (ey : Hid (byt ts (i + 1) = y)) (qy : Hid (0 ≤ y ∧ y ≤ 255)) (ez : Hid (byt ts (i + 2) = z)) (qz : Hid (0 ≤ z ∧ z ≤ 255)) :
    Calls Try.prog 8 #[.int .i64 13, .slice a ts.length cap, .int .i64 i] w fun e w' => e = .returned (.bool r) ∧ Below w.heap.size w w' := by
  obtain ⟨y0, rfl, _⟩ := ht.out.2 0 (by omega)
  obtain ⟨i0, hi0, hz0, hz1, hz2⟩ := info_parts info5
  have hown0 : (w.alloc (.cells #[] 5)).ownsRow w.heap.size 5 1 (.slice (some ⟨w.heap.size, 0, none⟩) 0 0) 0 [] := World.ownsRow_lit w #[] 0 (Nat.le_refl _) (by decide) rfl
  have hcells := cells_kept (.cells #[] 5) ht.out
  have HO := Lib.hid hown0
  have HC := Lib.hid hcells
  clear hown0 hcells
  go_enter Try.func8, Try.ntmps8
  go_wp2_with (first
    | (at_builtin; refine wpList_append_own _ rfl (.tmp 16) (.tmp 17) 29 rfl w.heap.size 5 i0 (.int .u8 0) 1 1 Try.underlying29 hi0 hz0 hz1 hz2 rfl (by decide) _ 0 [] rfl HO.out y0 ts.length cap (ts.map (Value.int .u8)) rfl (by simp) HC.out (by intro u hu; simp at hu; obtain ⟨_, _, rfl⟩ := hu; rfl) (by unfold maxLen; omega) (by omega) (by simp) ?_; intro v1 w1 hown1 hgrow1 hnil1; have HO1 := Lib.hid hown1; have HG1 := Lib.hid hgrow1; clear hown1 hgrow1 hnil1)
    | (at_builtin; refine wpList_append_own _ rfl (.tmp 18) (.tmp 19) 29 rfl w.heap.size 5 i0 (.int .u8 0) 1 1 Try.underlying29 hi0 hz0 hz1 hz2 rfl (by decide) _ _ _ rfl (HO1.out.alloc _) ⟨w1.heap.size, 0, none⟩ 2 2 [.int .u8 0, .int .u8 0] rfl rfl (cells_two _ _ _ _) (by intro u hu; simp at hu; rcases hu with rfl; rfl) (by unfold maxLen; omega) (by omega) (size1 HG1.out _) ?_; intro v2 w2 hown2 hgrow2 hnil2; have HO2 := Lib.hid hown2; have HB2 := Lib.hid (below2 rfl HG1.out HO1.out hgrow2); clear hown2 hgrow2 hnil2 HG1 HO1)
    | (go_at_call 27; obtain ⟨g, cp, C, rfl, hg, hw, hC⟩ := copied HO2.out; go_must (refine (LF.spacez_any hw (by omega) (by omega) (by rw [hC _ (by omega)]; exact congrArg (fun u => some (Value.int .u8 u)) (Eq.trans (congrArg (byt ts) (by omega)) ex.out)) qx.out (by rw [hC _ (by omega)]; exact congrArg (fun u => some (Value.int .u8 u)) (Eq.trans (congrArg (byt ts) (by omega)) ey.out)) qy.out (by rw [hC _ (by omega)]; exact congrArg (fun u => some (Value.int .u8 u)) (Eq.trans (congrArg (byt ts) (by omega)) ez.out)) qz.out).mono ?_); rintro e w' ⟨he, hb⟩; rw [hr.out] at he; subst he; have HB3 := Lib.hid (HB2.out.trans (hb.mono HB2.out.size)); clear hb hC hw))
  go_ret
  exact ⟨rfl, HB3.out⟩
set_option maxRecDepth 100000 in
set_option maxHeartbeats 2000000 in
theorem iclass14 (w : World) (a : Option Addr) (ts : List Int) (cap : Nat) (i : Nat) (x y z : Int) (r : Bool) (hr : Hid (decide (LF.Brk x y z ∨ x = 0 ∨ x = 32 ∨ x = 9) = r)) (hc : ts.length ≤ 2147483648) (ht : Hid (Txt w a ts)) (hi2 : i < ts.length)
    (ex : Hid (byt ts i = x)) (qx : Hid (0 ≤ x ∧ x ≤ 255)) (ey : Hid (byt ts (i + 1) = y)) (qy : Hid (0 ≤ y ∧ y ≤ 255)) (ez : Hid (byt ts (i + 2) = z)) (qz : Hid (0 ≤ z ∧ z ≤ 255)) :
    Calls Try.prog 8 #[.int .i64 14, .slice a ts.length cap, .int .i64 i] w fun e w' => e = .returned (.bool r) ∧ Below w.heap.size w w' := by
  obtain ⟨y0, rfl, _⟩ := ht.out.2 0 (by omega)
  obtain ⟨i0, hi0, hz0, hz1, hz2⟩ := info_parts info5
  have hown0 : (w.alloc (.cells #[] 5)).ownsRow w.heap.size 5 1 (.slice (some ⟨w.heap.size, 0, none⟩) 0 0) 0 [] := World.ownsRow_lit w #[] 0 (Nat.le_refl _) (by decide) rfl
  have hcells := cells_kept (.cells #[] 5) ht.out
  have HO := Lib.hid hown0
  have HC := Lib.hid hcells
  clear hown0 hcells
  go_enter Try.func8, Try.ntmps8
  go_wp2_with (first
    | (at_builtin; refine wpList_append_own _ rfl (.tmp 16) (.tmp 17) 29 rfl w.heap.size 5 i0 (.int .u8 0) 1 1 Try.underlying29 hi0 hz0 hz1 hz2 rfl (by decide) _ 0 [] rfl HO.out y0 ts.length cap (ts.map (Value.int .u8)) rfl (by simp) HC.out (by intro u hu; simp at hu; obtain ⟨_, _, rfl⟩ := hu; rfl) (by unfold maxLen; omega) (by omega) (by simp) ?_; intro v1 w1 hown1 hgrow1 hnil1; have HO1 := Lib.hid hown1; have HG1 := Lib.hid hgrow1; clear hown1 hgrow1 hnil1)
    | (at_builtin; refine wpList_append_own _ rfl (.tmp 18) (.tmp 19) 29 rfl w.heap.size 5 i0 (.int .u8 0) 1 1 Try.underlying29 hi0 hz0 hz1 hz2 rfl (by decide) _ _ _ rfl (HO1.out.alloc _) ⟨w1.heap.size, 0, none⟩ 2 2 [.int .u8 0, .int .u8 0] rfl rfl (cells_two _ _ _ _) (by intro u hu; simp at hu; rcases hu with rfl; rfl) (by unfold maxLen; omega) (by omega) (size1 HG1.out _) ?_; intro v2 w2 hown2 hgrow2 hnil2; have HO2 := Lib.hid hown2; have HB2 := Lib.hid (below2 rfl HG1.out HO1.out hgrow2); clear hown2 hgrow2 hnil2 HG1 HO1)
    | (go_at_call 28; obtain ⟨g, cp, C, rfl, hg, hw, hC⟩ := copied HO2.out; go_must (refine (LF.blankz_any hw (by omega) (by omega) (by rw [hC _ (by omega)]; exact congrArg (fun u => some (Value.int .u8 u)) (Eq.trans (congrArg (byt ts) (by omega)) ex.out)) qx.out (by rw [hC _ (by omega)]; exact congrArg (fun u => some (Value.int .u8 u)) (Eq.trans (congrArg (byt ts) (by omega)) ey.out)) qy.out (by rw [hC _ (by omega)]; exact congrArg (fun u => some (Value.int .u8 u)) (Eq.trans (congrArg (byt ts) (by omega)) ez.out)) qz.out).mono ?_); rintro e w' ⟨he, hb⟩; rw [hr.out] at he; subst he; have HB3 := Lib.hid (HB2.out.trans (hb.mono HB2.out.size)); clear hb hC hw))
  go_ret
  exact ⟨rfl, HB3.out⟩
end Go.Proofs.C1
