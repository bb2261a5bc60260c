/- A part of the proof: what functions of the program answer, for all arguments that meet the conditions named in each theorem. -/
import Derived.Test.YtafogjbbnfdjmaaZ7
namespace Go.Proofs.Z1
open Go.RowKit Go.AM
set_option linter.unusedVariables false
theorem flB {β : Ren} {tm : Array Value} {t1 t2 : Nat} {v1 v2 : Value} (h1 : t1 < 2 ^ 12 ∧ ∀ u, tm[t1]? = some u → VR β v1 u) (h2 : t2 < 2 ^ 12 ∧ ∀ u, tm[t2]? = some u → VR β v2 u) : ∀ p ∈ [(t1, v1), (t2, v2)], p.1 < 2 ^ 12 ∧ ∀ u, tm[p.1]? = some u → VR β p.2 u := by
  intro p hp
  rcases List.mem_cons.1 hp with rfl | hp
  · exact h1
  · rw [List.mem_singleton] at hp; subst hp; exact h2
theorem slB {β : Ren} {tm : Array Value} {t : Nat} {b : Bool} {v : Value} (ht : t < 2 ^ 12) (hv : tm[t]? = some (.bool b)) (h : v = .bool b) : t < 2 ^ 12 ∧ ∀ u, tm[t]? = some u → VR β v u :=
  ⟨ht, fun u hu => by rw [hv] at hu; cases hu; rw [h]; exact .bool b⟩
theorem slP {tm : Array Value} {t n g top : Nat} (ht : t < 2 ^ 12) (hn : tm.size = n) (hv : tm[t]? = some (.pointer (some ⟨g, 0, none⟩))) : t < 2 ^ 12 ∧ ∀ u, tm[t]? = some u → VR (ren0 tm ++ [⟨g, 0, top, undef⟩]) (.pointer (some ⟨n, 0, none⟩)) u :=
  ⟨ht, fun u hu => by
    rw [hv] at hu; cases hu
    exact .ptr n 0 g 0 (hm_last (h := ⟨g, 0, top, undef⟩) (by unfold ren0; simpa using hn)).1⟩
theorem cells_mat {p : Pat} {k s : Int} {t v a h l f : ByteArray} {r c : Int} {kid : Bool} (M : Mat p k s t v a h l f r c kid) (kids : Value) : ∀ (j : Nat) (x : Value), p.cells[j]? = some x → ∃ u, (#[.int .i64 k, .int .i64 s, .string t, .string v, .string a, .string h, .string l, .string f, .int .i64 r, .int .i64 c, .int .i64 (-1), kids] : Array Value)[j]? = some u ∧ VR [] x u := by
  intro j x hx
  unfold Pat.cells at hx
  match j, hx with
  | 0, hx => cases hx; exact ⟨_, rfl, M.k⟩
  | 1, hx => cases hx; exact ⟨_, rfl, M.s⟩
  | 2, hx => cases hx; exact ⟨_, rfl, M.t⟩
  | 3, hx => cases hx; exact ⟨_, rfl, M.v⟩
  | 4, hx => cases hx; exact ⟨_, rfl, M.a⟩
  | 5, hx => cases hx; exact ⟨_, rfl, M.h⟩
  | 6, hx => cases hx; exact ⟨_, rfl, M.l⟩
  | 7, hx => cases hx; exact ⟨_, rfl, M.f⟩
  | 8, hx => cases hx; exact ⟨_, rfl, M.r⟩
  | 9, hx => cases hx; exact ⟨_, rfl, M.c⟩
  | 10, hx => cases hx; exact ⟨_, rfl, .int _ _⟩
  | 11, hx => cases hx; exact ⟨_, rfl, .any _⟩
theorem gen_world {P : Program} {c : Code} {Q : Exit → Act → World → Prop} {a : Act} (w : World) (Pr : World → Prop) (h : Pr w) (k : ∀ w', Pr w' → c.wp P Q a w') : c.wp P Q a w := k w h
theorem heap_other {w : World} {g j b : Nat} {v : Value} {o : Obj} (h : w.heap[b]? = some o) (hne : b ≠ g) : (w.setCell ⟨g, j, none⟩ v).heap[b]? = some o := by
  rw [Below.heap_setCell _ _ _ _ hne]; exact h
theorem lt_of_some {w : World} {b : Nat} {o : Obj} (h : w.heap[b]? = some o) : b < w.heap.size := by
  rcases Nat.lt_or_ge b w.heap.size with h1 | h1
  · exact h1
  · rw [Array.getElem?_eq_none h1] at h; cases h
theorem c9_ok : codeOk Try.prog (fun _ => false) c9 = true := by kernel_rfl
set_option maxRecDepth 100000 in
set_option maxHeartbeats 1000000 in
theorem law_some (w : World) (k s : Int) (t v a h l f : ByteArray) (r c al : Int) (ka : Option Addr) (kn kc : Nat) (kid : Bool) :
    Calls Try.prog 3 #[NodeV k s t v a h l f r c al (.slice ka kn kc), .bool kid] w fun e w' => e = .returned (.bool true) ∧ Below w.heap.size w w' := by
  have hf := fun (w1 : World) => fits w1 k s t v a h l f r c al ka kn kc
  unfold NodeV at hf ⊢
  have HF := Lib.hid hf
  clear hf
  go_enter Try.func3, Try.ntmps3
  go_upto_region 3 with (go_at_call 6; refine (HF.out _).mono ?_; rintro e w1 ⟨b, rfl, hfit, hb⟩; have HFI := Lib.hid hfit; have HB := Lib.hid hb; clear hfit hb)
  · go_ret
    exact ⟨rfl, ((Below.refl _ _).alloc (Nat.le_refl _) _).trans (HB.out.mono (by simp))⟩
  · have hbt : b = true := by cases b <;> simp_all
    obtain ⟨ht, hv, ha, hh, hl, hf⟩ := HFI.out hbt
    have hr : BX w1 w.heap.size k s t v a h l f r c al (.slice ka kn kc) := (HB.out.block w.heap.size (by simp)).trans (heap_alloc_new _ _)
    have hb2 := ((Below.refl w.heap.size w).alloc (Nat.le_refl _) _).trans (HB.out.mono (by simp))
    generalize hg : w.heap.size = g at *
    obtain ⟨c1, f1⟩ := hr.cell 1 (.int .i64 s) rfl
    obtain ⟨c10, f10⟩ := hr.cell 10 (.int .i64 al) rfl
    obtain ⟨c11, f11⟩ := hr.cell 11 (.slice ka kn kc) rfl
    have HR := Lib.hid hr
    have HB2 := Lib.hid hb2
    have HS := Lib.hid (And.intro ht (And.intro hv (And.intro ha (And.intro hh (And.intro hl hf)))))
    clear hr hb2 ht hv ha hh hl hf HB HF
    go_upto_region 5 with (fail)
    have hr5 : BX (((w1.setCell ⟨g, 10, none⟩ (.int .i64 (-1))).setCell ⟨g, 11, none⟩ (.slice none 0 0)).setCell ⟨g, 1, none⟩ (.int .i64 (bits .and .i64 s 63))) g k (s % 64) t v a h l f r c (-1) (.slice none 0 0) := by
      have := heap_set (j := 1) (.int .i64 (bits .and .i64 s 63)) (heap_set (j := 11) (.slice none 0 0) (heap_set (j := 10) (.int .i64 (-1)) HR.out))
      rw [i64_and63] at this ⊢
      exact this
    have hb5 : Below g w (((w1.setCell ⟨g, 10, none⟩ (.int .i64 (-1))).setCell ⟨g, 11, none⟩ (.slice none 0 0)).setCell ⟨g, 1, none⟩ (.int .i64 (bits .and .i64 s 63))) := ((HB2.out.setCell (Nat.le_refl _) _).setCell (Nat.le_refl _) _).setCell (Nat.le_refl _) _
    clear c1 f1 c10 f10 c11 f11
    generalize (((w1.setCell ⟨g, 10, none⟩ (.int .i64 (-1))).setCell ⟨g, 11, none⟩ (.slice none 0 0)).setCell ⟨g, 1, none⟩ (.int .i64 (bits .and .i64 s 63))) = w5 at *
    have R5 := Lib.hid hr5
    have B5 := Lib.hid hb5
    clear hr5 hb5
    obtain ⟨c8, f8⟩ := R5.out.cell 8 (.int .i64 r) rfl
    obtain ⟨c9, f9⟩ := R5.out.cell 9 (.int .i64 c) rfl
    obtain ⟨c11, f11⟩ := R5.out.cell 11 (.slice none 0 0) rfl
    cases kid with
    | false =>
      go_upto_region 8 with (fail)
      generalize (if r < 0 then (0 : Int) else r) = ri at *
      generalize (if c < 0 then (0 : Int) else c) = ci at *
      have hrr : ∃ rr : Int, ri % 1000 = rr ∧ 0 ≤ rr ∧ rr ≤ 999 := ⟨_, rfl, by omega, by omega⟩
      have hcc : ∃ cc : Int, ci % 1000 = cc ∧ 0 ≤ cc ∧ cc ≤ 999 := ⟨_, rfl, by omega, by omega⟩
      obtain ⟨rr, er, qr⟩ := hrr
      obtain ⟨cc, ec, qc⟩ := hcc
      rw [er, ec]
      have hr8 : BX ((w5.setCell ⟨g, 8, none⟩ (.int .i64 rr)).setCell ⟨g, 9, none⟩ (.int .i64 cc)) g k (s % 64) t v a h l f rr cc (-1) (.slice none 0 0) := heap_set (j := 9) (.int .i64 cc) (heap_set (j := 8) (.int .i64 rr) R5.out)
      have hb8 := (B5.out.setCell (p := ⟨g, 8, none⟩) (Nat.le_refl _) (.int .i64 rr)).setCell (p := ⟨g, 9, none⟩) (Nat.le_refl _) (.int .i64 cc)
      clear c11 f11
      clear c8 f8 c9 f9 er ec
      generalize ((w5.setCell ⟨g, 8, none⟩ (.int .i64 rr)).setCell ⟨g, 9, none⟩ (.int .i64 cc)) = w8 at *
      have R8 := Lib.hid hr8
      have B8 := Lib.hid hb8
      have QR := Lib.hid qr
      have QC := Lib.hid qc
      clear hr8 hb8 qr qc
      have c0 := fun o => ((R8.out.later ((Below.refl _ _).alloc (Nat.le_refl _) o)).cell 0 (.int .i64 k) rfl).1
      have f0 := fun o => ((R8.out.later ((Below.refl _ _).alloc (Nat.le_refl _) o)).cell 0 (.int .i64 k) rfl).2
      have hmod : (IntKind.u64.wrap k).tmod 5 = 0 ∨ (IntKind.u64.wrap k).tmod 5 = 1 ∨ (IntKind.u64.wrap k).tmod 5 = 2 ∨ (IntKind.u64.wrap k).tmod 5 = 3 ∨ (IntKind.u64.wrap k).tmod 5 = 4 := by
        have h0 : 0 ≤ IntKind.u64.wrap k := by rw [IntKind.wrap_u64]; omega
        rw [Int.tmod_eq_emod_of_nonneg h0]
        omega
      rcases hmod with hm | hm | hm | hm | hm
      all_goals
        go_upto_region 9 with (fail)
      ·
        have hr9 := fun o => heap_set (j := 0) (.int .i64 0) (R8.out.later ((Below.refl _ _).alloc (Nat.le_refl _) o))
        have hb9 := fun o => (B8.out.alloc (Nat.le_of_lt R8.out.lt) o).setCell (p := ⟨g, 0, none⟩) (Nat.le_refl _) (.int .i64 0)
        have KO := fun o => (fun (w9 : World) (_ : Below ((w8.alloc o).setCell ⟨g, 0, none⟩ (.int .i64 0)).heap.size ((w8.alloc o).setCell ⟨g, 0, none⟩ (.int .i64 0)) w9) => (Or.inl ⟨rfl, rfl⟩ : KidsOk w9 false (.slice none 0 0)))
        refine mat_any 0 (s % 64) t v a h l f rr cc false (by omega) (by omega) HS.out.1 HS.out.2.1 HS.out.2.2.1 HS.out.2.2.2.1 HS.out.2.2.2.2.1 HS.out.2.2.2.2.2 QR.out QC.out _ ?_ ⟨g0, g1, g2, g3, g4, g5, g6, g7, g8, g9, g10, g11, g12, g13, g14, g15, g16, g17, g18, g19, g20, g21, g22, g23, g24, g25, g26, g27⟩
        intro p hp M
        have hp9 : chkCB Try.prog nocall 87 1000 c9 [(1, .bool p.kid), (2, .pointer (some ⟨87, 0, none⟩))] D9 [(5, .bool p.z)] p.cells 24 = true := by
          unfold Pat.ok at hp; rw [Bool.and_eq_true] at hp; exact hp.2
        refine Code.wp_mono ?_ (am_cutB (n := 87) (pu := fun _ => false) (l := [(1, .bool p.kid), (2, .pointer (some ⟨87, 0, none⟩))]) (D := D9) (res := [(5, .bool p.z)]) (call := nocall) (fu := 1000) (cells := p.cells) noNum follows (nocall_ok _ _) (fun f args H v H' h => by cases h) c9_ok rfl (by decide) (show BX _ g 0 (s % 64) t v a h l f rr cc (-1) (.slice none 0 0) from hr9 _) (Nat.le_refl _) (cells_mat M _) (flB (slB (by decide) rfl (by rw [M.kid])) (slP (by decide) rfl rfl)) hp9)
        rintro _ _ w9 ⟨rfl, ff, rfl, hres, hbel⟩
        have h5 := hres (5, .bool p.z) (List.mem_singleton.2 rfl)
        simp only [over, D9, inD, Nat.reduceLeDiff, Nat.reduceAdd, decide_true, decide_false, Bool.and_true, Bool.and_false, Bool.or_false, Bool.or_true, cond_true, cond_false, h5]
        have R9 := BX.later (show BX _ g 0 (s % 64) t v a h l f rr cc (-1) (.slice none 0 0) from hr9 _) hbel
        have b9 := (hb9 _).trans (hbel.mono (Nat.le_of_lt (BX.lt (show BX _ g 0 (s % 64) t v a h l f rr cc (-1) (.slice none 0 0) from hr9 _))))
        have ko9 := KO _ w9 hbel
        clear hr9 hb9 KO hres h5 hbel c0 f0
        obtain ⟨d0, _⟩ := R9.cell 0 (.int .i64 0) rfl
        obtain ⟨d1, _⟩ := R9.cell 1 (.int .i64 (s % 64)) rfl
        obtain ⟨d2, _⟩ := R9.cell 2 (.string t) rfl
        obtain ⟨d3, _⟩ := R9.cell 3 (.string v) rfl
        obtain ⟨d4, _⟩ := R9.cell 4 (.string a) rfl
        obtain ⟨d5, _⟩ := R9.cell 5 (.string h) rfl
        obtain ⟨d6, _⟩ := R9.cell 6 (.string l) rfl
        obtain ⟨d7, _⟩ := R9.cell 7 (.string f) rfl
        obtain ⟨d8, _⟩ := R9.cell 8 (.int .i64 rr) rfl
        obtain ⟨d9, _⟩ := R9.cell 9 (.int .i64 cc) rfl
        obtain ⟨d10, _⟩ := R9.cell 10 (.int .i64 (-1)) rfl
        obtain ⟨d11, _⟩ := R9.cell 11 ((.slice none 0 0)) rfl
        have hz := fun w' (q : KidsOk w' false (.slice none 0 0)) => zcall hp M w' _ q
        have hzz := zzero
        unfold NodeV at hz hzz
        have HZ := Lib.hid hz
        have HZZ := Lib.hid hzz
        have B9 := Lib.hid b9
        have KO9 := Lib.hid ko9
        have HG := Lib.hid (BX.lt R9)
        clear hz hzz b9 ko9 R9
        go_wp2_with (first
          | (go_at_call 7; refine (HZ.out _ KO9.out).mono ?_; rintro e w10 ⟨rfl, hb10⟩; have HB10 := Lib.hid (B9.out.trans (hb10.mono (Nat.le_of_lt HG.out))); have HS10 := Lib.hid hb10.size; clear hb10 HZ)
          | (go_at_call 7; refine (HZZ.out _).mono ?_; rintro e w11 ⟨rfl, hb11⟩; have HB11 := Lib.hid (HB10.out.trans (hb11.mono (Nat.le_trans (Nat.le_of_lt HG.out) HS10.out))); clear hb11))
        go_ret
        exact ⟨rfl, by rw [hg]; exact HB11.out⟩
      ·
        have hr9 := fun o => heap_set (j := 0) (.int .i64 1) (R8.out.later ((Below.refl _ _).alloc (Nat.le_refl _) o))
        have hb9 := fun o => (B8.out.alloc (Nat.le_of_lt R8.out.lt) o).setCell (p := ⟨g, 0, none⟩) (Nat.le_refl _) (.int .i64 1)
        have KO := fun o => (fun (w9 : World) (_ : Below ((w8.alloc o).setCell ⟨g, 0, none⟩ (.int .i64 1)).heap.size ((w8.alloc o).setCell ⟨g, 0, none⟩ (.int .i64 1)) w9) => (Or.inl ⟨rfl, rfl⟩ : KidsOk w9 false (.slice none 0 0)))
        refine mat_any 1 (s % 64) t v a h l f rr cc false (by omega) (by omega) HS.out.1 HS.out.2.1 HS.out.2.2.1 HS.out.2.2.2.1 HS.out.2.2.2.2.1 HS.out.2.2.2.2.2 QR.out QC.out _ ?_ ⟨g0, g1, g2, g3, g4, g5, g6, g7, g8, g9, g10, g11, g12, g13, g14, g15, g16, g17, g18, g19, g20, g21, g22, g23, g24, g25, g26, g27⟩
        intro p hp M
        have hp9 : chkCB Try.prog nocall 87 1000 c9 [(1, .bool p.kid), (2, .pointer (some ⟨87, 0, none⟩))] D9 [(5, .bool p.z)] p.cells 24 = true := by
          unfold Pat.ok at hp; rw [Bool.and_eq_true] at hp; exact hp.2
        refine Code.wp_mono ?_ (am_cutB (n := 87) (pu := fun _ => false) (l := [(1, .bool p.kid), (2, .pointer (some ⟨87, 0, none⟩))]) (D := D9) (res := [(5, .bool p.z)]) (call := nocall) (fu := 1000) (cells := p.cells) noNum follows (nocall_ok _ _) (fun f args H v H' h => by cases h) c9_ok rfl (by decide) (show BX _ g 1 (s % 64) t v a h l f rr cc (-1) (.slice none 0 0) from hr9 _) (Nat.le_refl _) (cells_mat M _) (flB (slB (by decide) rfl (by rw [M.kid])) (slP (by decide) rfl rfl)) hp9)
        rintro _ _ w9 ⟨rfl, ff, rfl, hres, hbel⟩
        have h5 := hres (5, .bool p.z) (List.mem_singleton.2 rfl)
        simp only [over, D9, inD, Nat.reduceLeDiff, Nat.reduceAdd, decide_true, decide_false, Bool.and_true, Bool.and_false, Bool.or_false, Bool.or_true, cond_true, cond_false, h5]
        have R9 := BX.later (show BX _ g 1 (s % 64) t v a h l f rr cc (-1) (.slice none 0 0) from hr9 _) hbel
        have b9 := (hb9 _).trans (hbel.mono (Nat.le_of_lt (BX.lt (show BX _ g 1 (s % 64) t v a h l f rr cc (-1) (.slice none 0 0) from hr9 _))))
        have ko9 := KO _ w9 hbel
        clear hr9 hb9 KO hres h5 hbel c0 f0
        obtain ⟨d0, _⟩ := R9.cell 0 (.int .i64 1) rfl
        obtain ⟨d1, _⟩ := R9.cell 1 (.int .i64 (s % 64)) rfl
        obtain ⟨d2, _⟩ := R9.cell 2 (.string t) rfl
        obtain ⟨d3, _⟩ := R9.cell 3 (.string v) rfl
        obtain ⟨d4, _⟩ := R9.cell 4 (.string a) rfl
        obtain ⟨d5, _⟩ := R9.cell 5 (.string h) rfl
        obtain ⟨d6, _⟩ := R9.cell 6 (.string l) rfl
        obtain ⟨d7, _⟩ := R9.cell 7 (.string f) rfl
        obtain ⟨d8, _⟩ := R9.cell 8 (.int .i64 rr) rfl
        obtain ⟨d9, _⟩ := R9.cell 9 (.int .i64 cc) rfl
        obtain ⟨d10, _⟩ := R9.cell 10 (.int .i64 (-1)) rfl
        obtain ⟨d11, _⟩ := R9.cell 11 ((.slice none 0 0)) rfl
        have hz := fun w' (q : KidsOk w' false (.slice none 0 0)) => zcall hp M w' _ q
        have hzz := zzero
        unfold NodeV at hz hzz
        have HZ := Lib.hid hz
        have HZZ := Lib.hid hzz
        have B9 := Lib.hid b9
        have KO9 := Lib.hid ko9
        have HG := Lib.hid (BX.lt R9)
        clear hz hzz b9 ko9 R9
        go_wp2_with (first
          | (go_at_call 7; refine (HZ.out _ KO9.out).mono ?_; rintro e w10 ⟨rfl, hb10⟩; have HB10 := Lib.hid (B9.out.trans (hb10.mono (Nat.le_of_lt HG.out))); have HS10 := Lib.hid hb10.size; clear hb10 HZ)
          | (go_at_call 7; refine (HZZ.out _).mono ?_; rintro e w11 ⟨rfl, hb11⟩; have HB11 := Lib.hid (HB10.out.trans (hb11.mono (Nat.le_trans (Nat.le_of_lt HG.out) HS10.out))); clear hb11))
        go_ret
        exact ⟨rfl, by rw [hg]; exact HB11.out⟩
      ·
        have hr9 := fun o => heap_set (j := 0) (.int .i64 2) (R8.out.later ((Below.refl _ _).alloc (Nat.le_refl _) o))
        have hb9 := fun o => (B8.out.alloc (Nat.le_of_lt R8.out.lt) o).setCell (p := ⟨g, 0, none⟩) (Nat.le_refl _) (.int .i64 2)
        have KO := fun o => (fun (w9 : World) (_ : Below ((w8.alloc o).setCell ⟨g, 0, none⟩ (.int .i64 2)).heap.size ((w8.alloc o).setCell ⟨g, 0, none⟩ (.int .i64 2)) w9) => (Or.inl ⟨rfl, rfl⟩ : KidsOk w9 false (.slice none 0 0)))
        refine mat_any 2 (s % 64) t v a h l f rr cc false (by omega) (by omega) HS.out.1 HS.out.2.1 HS.out.2.2.1 HS.out.2.2.2.1 HS.out.2.2.2.2.1 HS.out.2.2.2.2.2 QR.out QC.out _ ?_ ⟨g0, g1, g2, g3, g4, g5, g6, g7, g8, g9, g10, g11, g12, g13, g14, g15, g16, g17, g18, g19, g20, g21, g22, g23, g24, g25, g26, g27⟩
        intro p hp M
        have hp9 : chkCB Try.prog nocall 87 1000 c9 [(1, .bool p.kid), (2, .pointer (some ⟨87, 0, none⟩))] D9 [(5, .bool p.z)] p.cells 24 = true := by
          unfold Pat.ok at hp; rw [Bool.and_eq_true] at hp; exact hp.2
        refine Code.wp_mono ?_ (am_cutB (n := 87) (pu := fun _ => false) (l := [(1, .bool p.kid), (2, .pointer (some ⟨87, 0, none⟩))]) (D := D9) (res := [(5, .bool p.z)]) (call := nocall) (fu := 1000) (cells := p.cells) noNum follows (nocall_ok _ _) (fun f args H v H' h => by cases h) c9_ok rfl (by decide) (show BX _ g 2 (s % 64) t v a h l f rr cc (-1) (.slice none 0 0) from hr9 _) (Nat.le_refl _) (cells_mat M _) (flB (slB (by decide) rfl (by rw [M.kid])) (slP (by decide) rfl rfl)) hp9)
        rintro _ _ w9 ⟨rfl, ff, rfl, hres, hbel⟩
        have h5 := hres (5, .bool p.z) (List.mem_singleton.2 rfl)
        simp only [over, D9, inD, Nat.reduceLeDiff, Nat.reduceAdd, decide_true, decide_false, Bool.and_true, Bool.and_false, Bool.or_false, Bool.or_true, cond_true, cond_false, h5]
        have R9 := BX.later (show BX _ g 2 (s % 64) t v a h l f rr cc (-1) (.slice none 0 0) from hr9 _) hbel
        have b9 := (hb9 _).trans (hbel.mono (Nat.le_of_lt (BX.lt (show BX _ g 2 (s % 64) t v a h l f rr cc (-1) (.slice none 0 0) from hr9 _))))
        have ko9 := KO _ w9 hbel
        clear hr9 hb9 KO hres h5 hbel c0 f0
        obtain ⟨d0, _⟩ := R9.cell 0 (.int .i64 2) rfl
        obtain ⟨d1, _⟩ := R9.cell 1 (.int .i64 (s % 64)) rfl
        obtain ⟨d2, _⟩ := R9.cell 2 (.string t) rfl
        obtain ⟨d3, _⟩ := R9.cell 3 (.string v) rfl
        obtain ⟨d4, _⟩ := R9.cell 4 (.string a) rfl
        obtain ⟨d5, _⟩ := R9.cell 5 (.string h) rfl
        obtain ⟨d6, _⟩ := R9.cell 6 (.string l) rfl
        obtain ⟨d7, _⟩ := R9.cell 7 (.string f) rfl
        obtain ⟨d8, _⟩ := R9.cell 8 (.int .i64 rr) rfl
        obtain ⟨d9, _⟩ := R9.cell 9 (.int .i64 cc) rfl
        obtain ⟨d10, _⟩ := R9.cell 10 (.int .i64 (-1)) rfl
        obtain ⟨d11, _⟩ := R9.cell 11 ((.slice none 0 0)) rfl
        have hz := fun w' (q : KidsOk w' false (.slice none 0 0)) => zcall hp M w' _ q
        have hzz := zzero
        unfold NodeV at hz hzz
        have HZ := Lib.hid hz
        have HZZ := Lib.hid hzz
        have B9 := Lib.hid b9
        have KO9 := Lib.hid ko9
        have HG := Lib.hid (BX.lt R9)
        clear hz hzz b9 ko9 R9
        go_wp2_with (first
          | (go_at_call 7; refine (HZ.out _ KO9.out).mono ?_; rintro e w10 ⟨rfl, hb10⟩; have HB10 := Lib.hid (B9.out.trans (hb10.mono (Nat.le_of_lt HG.out))); have HS10 := Lib.hid hb10.size; clear hb10 HZ)
          | (go_at_call 7; refine (HZZ.out _).mono ?_; rintro e w11 ⟨rfl, hb11⟩; have HB11 := Lib.hid (HB10.out.trans (hb11.mono (Nat.le_trans (Nat.le_of_lt HG.out) HS10.out))); clear hb11))
        go_ret
        exact ⟨rfl, by rw [hg]; exact HB11.out⟩
      ·
        have hr9 := fun o => heap_set (j := 0) (.int .i64 4) (R8.out.later ((Below.refl _ _).alloc (Nat.le_refl _) o))
        have hb9 := fun o => (B8.out.alloc (Nat.le_of_lt R8.out.lt) o).setCell (p := ⟨g, 0, none⟩) (Nat.le_refl _) (.int .i64 4)
        have KO := fun o => (fun (w9 : World) (_ : Below ((w8.alloc o).setCell ⟨g, 0, none⟩ (.int .i64 4)).heap.size ((w8.alloc o).setCell ⟨g, 0, none⟩ (.int .i64 4)) w9) => (Or.inl ⟨rfl, rfl⟩ : KidsOk w9 false (.slice none 0 0)))
        refine mat_any 4 (s % 64) t v a h l f rr cc false (by omega) (by omega) HS.out.1 HS.out.2.1 HS.out.2.2.1 HS.out.2.2.2.1 HS.out.2.2.2.2.1 HS.out.2.2.2.2.2 QR.out QC.out _ ?_ ⟨g0, g1, g2, g3, g4, g5, g6, g7, g8, g9, g10, g11, g12, g13, g14, g15, g16, g17, g18, g19, g20, g21, g22, g23, g24, g25, g26, g27⟩
        intro p hp M
        have hp9 : chkCB Try.prog nocall 87 1000 c9 [(1, .bool p.kid), (2, .pointer (some ⟨87, 0, none⟩))] D9 [(5, .bool p.z)] p.cells 24 = true := by
          unfold Pat.ok at hp; rw [Bool.and_eq_true] at hp; exact hp.2
        refine Code.wp_mono ?_ (am_cutB (n := 87) (pu := fun _ => false) (l := [(1, .bool p.kid), (2, .pointer (some ⟨87, 0, none⟩))]) (D := D9) (res := [(5, .bool p.z)]) (call := nocall) (fu := 1000) (cells := p.cells) noNum follows (nocall_ok _ _) (fun f args H v H' h => by cases h) c9_ok rfl (by decide) (show BX _ g 4 (s % 64) t v a h l f rr cc (-1) (.slice none 0 0) from hr9 _) (Nat.le_refl _) (cells_mat M _) (flB (slB (by decide) rfl (by rw [M.kid])) (slP (by decide) rfl rfl)) hp9)
        rintro _ _ w9 ⟨rfl, ff, rfl, hres, hbel⟩
        have h5 := hres (5, .bool p.z) (List.mem_singleton.2 rfl)
        simp only [over, D9, inD, Nat.reduceLeDiff, Nat.reduceAdd, decide_true, decide_false, Bool.and_true, Bool.and_false, Bool.or_false, Bool.or_true, cond_true, cond_false, h5]
        have R9 := BX.later (show BX _ g 4 (s % 64) t v a h l f rr cc (-1) (.slice none 0 0) from hr9 _) hbel
        have b9 := (hb9 _).trans (hbel.mono (Nat.le_of_lt (BX.lt (show BX _ g 4 (s % 64) t v a h l f rr cc (-1) (.slice none 0 0) from hr9 _))))
        have ko9 := KO _ w9 hbel
        clear hr9 hb9 KO hres h5 hbel c0 f0
        obtain ⟨d0, _⟩ := R9.cell 0 (.int .i64 4) rfl
        obtain ⟨d1, _⟩ := R9.cell 1 (.int .i64 (s % 64)) rfl
        obtain ⟨d2, _⟩ := R9.cell 2 (.string t) rfl
        obtain ⟨d3, _⟩ := R9.cell 3 (.string v) rfl
        obtain ⟨d4, _⟩ := R9.cell 4 (.string a) rfl
        obtain ⟨d5, _⟩ := R9.cell 5 (.string h) rfl
        obtain ⟨d6, _⟩ := R9.cell 6 (.string l) rfl
        obtain ⟨d7, _⟩ := R9.cell 7 (.string f) rfl
        obtain ⟨d8, _⟩ := R9.cell 8 (.int .i64 rr) rfl
        obtain ⟨d9, _⟩ := R9.cell 9 (.int .i64 cc) rfl
        obtain ⟨d10, _⟩ := R9.cell 10 (.int .i64 (-1)) rfl
        obtain ⟨d11, _⟩ := R9.cell 11 ((.slice none 0 0)) rfl
        have hz := fun w' (q : KidsOk w' false (.slice none 0 0)) => zcall hp M w' _ q
        have hzz := zzero
        unfold NodeV at hz hzz
        have HZ := Lib.hid hz
        have HZZ := Lib.hid hzz
        have B9 := Lib.hid b9
        have KO9 := Lib.hid ko9
        have HG := Lib.hid (BX.lt R9)
        clear hz hzz b9 ko9 R9
        go_wp2_with (first
          | (go_at_call 7; refine (HZ.out _ KO9.out).mono ?_; rintro e w10 ⟨rfl, hb10⟩; have HB10 := Lib.hid (B9.out.trans (hb10.mono (Nat.le_of_lt HG.out))); have HS10 := Lib.hid hb10.size; clear hb10 HZ)
          | (go_at_call 7; refine (HZZ.out _).mono ?_; rintro e w11 ⟨rfl, hb11⟩; have HB11 := Lib.hid (HB10.out.trans (hb11.mono (Nat.le_trans (Nat.le_of_lt HG.out) HS10.out))); clear hb11))
        go_ret
        exact ⟨rfl, by rw [hg]; exact HB11.out⟩
      ·
        have hr9 := fun o => heap_set (j := 0) (.int .i64 8) (R8.out.later ((Below.refl _ _).alloc (Nat.le_refl _) o))
        have hb9 := fun o => (B8.out.alloc (Nat.le_of_lt R8.out.lt) o).setCell (p := ⟨g, 0, none⟩) (Nat.le_refl _) (.int .i64 8)
        have KO := fun o => (fun (w9 : World) (_ : Below ((w8.alloc o).setCell ⟨g, 0, none⟩ (.int .i64 8)).heap.size ((w8.alloc o).setCell ⟨g, 0, none⟩ (.int .i64 8)) w9) => (Or.inl ⟨rfl, rfl⟩ : KidsOk w9 false (.slice none 0 0)))
        refine mat_any 8 (s % 64) t v a h l f rr cc false (by omega) (by omega) HS.out.1 HS.out.2.1 HS.out.2.2.1 HS.out.2.2.2.1 HS.out.2.2.2.2.1 HS.out.2.2.2.2.2 QR.out QC.out _ ?_ ⟨g0, g1, g2, g3, g4, g5, g6, g7, g8, g9, g10, g11, g12, g13, g14, g15, g16, g17, g18, g19, g20, g21, g22, g23, g24, g25, g26, g27⟩
        intro p hp M
        have hp9 : chkCB Try.prog nocall 87 1000 c9 [(1, .bool p.kid), (2, .pointer (some ⟨87, 0, none⟩))] D9 [(5, .bool p.z)] p.cells 24 = true := by
          unfold Pat.ok at hp; rw [Bool.and_eq_true] at hp; exact hp.2
        refine Code.wp_mono ?_ (am_cutB (n := 87) (pu := fun _ => false) (l := [(1, .bool p.kid), (2, .pointer (some ⟨87, 0, none⟩))]) (D := D9) (res := [(5, .bool p.z)]) (call := nocall) (fu := 1000) (cells := p.cells) noNum follows (nocall_ok _ _) (fun f args H v H' h => by cases h) c9_ok rfl (by decide) (show BX _ g 8 (s % 64) t v a h l f rr cc (-1) (.slice none 0 0) from hr9 _) (Nat.le_refl _) (cells_mat M _) (flB (slB (by decide) rfl (by rw [M.kid])) (slP (by decide) rfl rfl)) hp9)
        rintro _ _ w9 ⟨rfl, ff, rfl, hres, hbel⟩
        have h5 := hres (5, .bool p.z) (List.mem_singleton.2 rfl)
        simp only [over, D9, inD, Nat.reduceLeDiff, Nat.reduceAdd, decide_true, decide_false, Bool.and_true, Bool.and_false, Bool.or_false, Bool.or_true, cond_true, cond_false, h5]
        have R9 := BX.later (show BX _ g 8 (s % 64) t v a h l f rr cc (-1) (.slice none 0 0) from hr9 _) hbel
        have b9 := (hb9 _).trans (hbel.mono (Nat.le_of_lt (BX.lt (show BX _ g 8 (s % 64) t v a h l f rr cc (-1) (.slice none 0 0) from hr9 _))))
        have ko9 := KO _ w9 hbel
        clear hr9 hb9 KO hres h5 hbel c0 f0
        obtain ⟨d0, _⟩ := R9.cell 0 (.int .i64 8) rfl
        obtain ⟨d1, _⟩ := R9.cell 1 (.int .i64 (s % 64)) rfl
        obtain ⟨d2, _⟩ := R9.cell 2 (.string t) rfl
        obtain ⟨d3, _⟩ := R9.cell 3 (.string v) rfl
        obtain ⟨d4, _⟩ := R9.cell 4 (.string a) rfl
        obtain ⟨d5, _⟩ := R9.cell 5 (.string h) rfl
        obtain ⟨d6, _⟩ := R9.cell 6 (.string l) rfl
        obtain ⟨d7, _⟩ := R9.cell 7 (.string f) rfl
        obtain ⟨d8, _⟩ := R9.cell 8 (.int .i64 rr) rfl
        obtain ⟨d9, _⟩ := R9.cell 9 (.int .i64 cc) rfl
        obtain ⟨d10, _⟩ := R9.cell 10 (.int .i64 (-1)) rfl
        obtain ⟨d11, _⟩ := R9.cell 11 ((.slice none 0 0)) rfl
        have hz := fun w' (q : KidsOk w' false (.slice none 0 0)) => zcall hp M w' _ q
        have hzz := zzero
        unfold NodeV at hz hzz
        have HZ := Lib.hid hz
        have HZZ := Lib.hid hzz
        have B9 := Lib.hid b9
        have KO9 := Lib.hid ko9
        have HG := Lib.hid (BX.lt R9)
        clear hz hzz b9 ko9 R9
        go_wp2_with (first
          | (go_at_call 7; refine (HZ.out _ KO9.out).mono ?_; rintro e w10 ⟨rfl, hb10⟩; have HB10 := Lib.hid (B9.out.trans (hb10.mono (Nat.le_of_lt HG.out))); have HS10 := Lib.hid hb10.size; clear hb10 HZ)
          | (go_at_call 7; refine (HZZ.out _).mono ?_; rintro e w11 ⟨rfl, hb11⟩; have HB11 := Lib.hid (HB10.out.trans (hb11.mono (Nat.le_trans (Nat.le_of_lt HG.out) HS10.out))); clear hb11))
        go_ret
        exact ⟨rfl, by rw [hg]; exact HB11.out⟩
    | true =>
      have hkb : w5.heap.size ≠ g := Nat.ne_of_gt R5.out.lt
      obtain ⟨kb, ekb⟩ : ∃ kb, kb = w5.heap.size := ⟨_, rfl⟩
      have c11a := fun o => ((R5.out.later ((Below.refl _ _).alloc (Nat.le_refl _) o)).cell 11 (.slice none 0 0) rfl).1
      have f11a := fun o => ((R5.out.later ((Below.refl _ _).alloc (Nat.le_refl _) o)).cell 11 (.slice none 0 0) rfl).2
      go_upto_region 7 with (fail)
      refine gen_world _ (fun w' => BX w' g k (s % 64) t v a h l f r c (-1) (.slice (some ⟨kb, 0, none⟩) 1 1) ∧ Below g w w' ∧ w'.heap[kb]? = some (.cells kidArr 24 (0, 0))) ⟨?_, ?_, ?_⟩ ?_
      · rw [ekb]; exact heap_set (j := 11) _ (R5.out.later ((Below.refl _ _).alloc (Nat.le_refl _) _))
      · exact (B5.out.alloc (Nat.le_of_lt R5.out.lt) _).setCell (p := ⟨g, 11, none⟩) (Nat.le_refl _) _
      · rw [ekb]; exact heap_other (heap_alloc_new w5 _) hkb
      rintro w7 ⟨hr7, hb7, hk7⟩
      have R7 := Lib.hid hr7
      have B7 := Lib.hid hb7
      have K7 := Lib.hid hk7
      have HKB : Hid (kb ≠ g) := Lib.hid (by rw [ekb]; exact hkb)
      clear hr7 hb7 hk7 c11a f11a c8 f8 c9 f9 c11 f11 hkb
      rw [← ekb]
      clear ekb
      obtain ⟨c8, f8⟩ := R7.out.cell 8 (.int .i64 r) rfl
      obtain ⟨c9, f9⟩ := R7.out.cell 9 (.int .i64 c) rfl
      go_upto_region 8 with (fail)
      generalize (if r < 0 then (0 : Int) else r) = ri at *
      generalize (if c < 0 then (0 : Int) else c) = ci at *
      have hrr : ∃ rr : Int, ri % 1000 = rr ∧ 0 ≤ rr ∧ rr ≤ 999 := ⟨_, rfl, by omega, by omega⟩
      have hcc : ∃ cc : Int, ci % 1000 = cc ∧ 0 ≤ cc ∧ cc ≤ 999 := ⟨_, rfl, by omega, by omega⟩
      obtain ⟨rr, er, qr⟩ := hrr
      obtain ⟨cc, ec, qc⟩ := hcc
      rw [er, ec]
      have hr8 : BX ((w7.setCell ⟨g, 8, none⟩ (.int .i64 rr)).setCell ⟨g, 9, none⟩ (.int .i64 cc)) g k (s % 64) t v a h l f rr cc (-1) (.slice (some ⟨kb, 0, none⟩) 1 1) := heap_set (j := 9) (.int .i64 cc) (heap_set (j := 8) (.int .i64 rr) R7.out)
      have hb8 := (B7.out.setCell (p := ⟨g, 8, none⟩) (Nat.le_refl _) (.int .i64 rr)).setCell (p := ⟨g, 9, none⟩) (Nat.le_refl _) (.int .i64 cc)
      have hk8 := heap_other (j := 9) (v := .int .i64 cc) (heap_other (j := 8) (v := .int .i64 rr) K7.out HKB.out) HKB.out
      have K8 := Lib.hid hk8
      clear hk8
      clear c8 f8 c9 f9 er ec
      generalize ((w7.setCell ⟨g, 8, none⟩ (.int .i64 rr)).setCell ⟨g, 9, none⟩ (.int .i64 cc)) = w8 at *
      have R8 := Lib.hid hr8
      have B8 := Lib.hid hb8
      have QR := Lib.hid qr
      have QC := Lib.hid qc
      clear hr8 hb8 qr qc
      have c0 := fun o => ((R8.out.later ((Below.refl _ _).alloc (Nat.le_refl _) o)).cell 0 (.int .i64 k) rfl).1
      have f0 := fun o => ((R8.out.later ((Below.refl _ _).alloc (Nat.le_refl _) o)).cell 0 (.int .i64 k) rfl).2
      have hmod : (IntKind.u64.wrap k).tmod 5 = 0 ∨ (IntKind.u64.wrap k).tmod 5 = 1 ∨ (IntKind.u64.wrap k).tmod 5 = 2 ∨ (IntKind.u64.wrap k).tmod 5 = 3 ∨ (IntKind.u64.wrap k).tmod 5 = 4 := by
        have h0 : 0 ≤ IntKind.u64.wrap k := by rw [IntKind.wrap_u64]; omega
        rw [Int.tmod_eq_emod_of_nonneg h0]
        omega
      rcases hmod with hm | hm | hm | hm | hm
      all_goals
        go_upto_region 9 with (fail)
      ·
        have hr9 := fun o => heap_set (j := 0) (.int .i64 0) (R8.out.later ((Below.refl _ _).alloc (Nat.le_refl _) o))
        have hb9 := fun o => (B8.out.alloc (Nat.le_of_lt R8.out.lt) o).setCell (p := ⟨g, 0, none⟩) (Nat.le_refl _) (.int .i64 0)
        have KO := fun o => (fun (w9 : World) (hbb : Below ((w8.alloc o).setCell ⟨g, 0, none⟩ (.int .i64 0)).heap.size ((w8.alloc o).setCell ⟨g, 0, none⟩ (.int .i64 0)) w9) => (Or.inr ⟨rfl, kb, rfl, (hbb.block kb (lt_of_some (heap_other (o := .cells kidArr 24 (0, 0)) (by rw [Below.heap_alloc _ _ _ (lt_of_some K8.out)]; exact K8.out) HKB.out))).trans (heap_other (by rw [Below.heap_alloc _ _ _ (lt_of_some K8.out)]; exact K8.out) HKB.out)⟩ : KidsOk w9 true (.slice (some ⟨kb, 0, none⟩) 1 1)))
        refine mat_any 0 (s % 64) t v a h l f rr cc true (by omega) (by omega) HS.out.1 HS.out.2.1 HS.out.2.2.1 HS.out.2.2.2.1 HS.out.2.2.2.2.1 HS.out.2.2.2.2.2 QR.out QC.out _ ?_ ⟨g0, g1, g2, g3, g4, g5, g6, g7, g8, g9, g10, g11, g12, g13, g14, g15, g16, g17, g18, g19, g20, g21, g22, g23, g24, g25, g26, g27⟩
        intro p hp M
        have hp9 : chkCB Try.prog nocall 87 1000 c9 [(1, .bool p.kid), (2, .pointer (some ⟨87, 0, none⟩))] D9 [(5, .bool p.z)] p.cells 24 = true := by
          unfold Pat.ok at hp; rw [Bool.and_eq_true] at hp; exact hp.2
        refine Code.wp_mono ?_ (am_cutB (n := 87) (pu := fun _ => false) (l := [(1, .bool p.kid), (2, .pointer (some ⟨87, 0, none⟩))]) (D := D9) (res := [(5, .bool p.z)]) (call := nocall) (fu := 1000) (cells := p.cells) noNum follows (nocall_ok _ _) (fun f args H v H' h => by cases h) c9_ok rfl (by decide) (show BX _ g 0 (s % 64) t v a h l f rr cc (-1) (.slice (some ⟨kb, 0, none⟩) 1 1) from hr9 _) (Nat.le_refl _) (cells_mat M _) (flB (slB (by decide) rfl (by rw [M.kid])) (slP (by decide) rfl rfl)) hp9)
        rintro _ _ w9 ⟨rfl, ff, rfl, hres, hbel⟩
        have h5 := hres (5, .bool p.z) (List.mem_singleton.2 rfl)
        simp only [over, D9, inD, Nat.reduceLeDiff, Nat.reduceAdd, decide_true, decide_false, Bool.and_true, Bool.and_false, Bool.or_false, Bool.or_true, cond_true, cond_false, h5]
        have R9 := BX.later (show BX _ g 0 (s % 64) t v a h l f rr cc (-1) (.slice (some ⟨kb, 0, none⟩) 1 1) from hr9 _) hbel
        have b9 := (hb9 _).trans (hbel.mono (Nat.le_of_lt (BX.lt (show BX _ g 0 (s % 64) t v a h l f rr cc (-1) (.slice (some ⟨kb, 0, none⟩) 1 1) from hr9 _))))
        have ko9 := KO _ w9 hbel
        clear hr9 hb9 KO hres h5 hbel c0 f0
        obtain ⟨d0, _⟩ := R9.cell 0 (.int .i64 0) rfl
        obtain ⟨d1, _⟩ := R9.cell 1 (.int .i64 (s % 64)) rfl
        obtain ⟨d2, _⟩ := R9.cell 2 (.string t) rfl
        obtain ⟨d3, _⟩ := R9.cell 3 (.string v) rfl
        obtain ⟨d4, _⟩ := R9.cell 4 (.string a) rfl
        obtain ⟨d5, _⟩ := R9.cell 5 (.string h) rfl
        obtain ⟨d6, _⟩ := R9.cell 6 (.string l) rfl
        obtain ⟨d7, _⟩ := R9.cell 7 (.string f) rfl
        obtain ⟨d8, _⟩ := R9.cell 8 (.int .i64 rr) rfl
        obtain ⟨d9, _⟩ := R9.cell 9 (.int .i64 cc) rfl
        obtain ⟨d10, _⟩ := R9.cell 10 (.int .i64 (-1)) rfl
        obtain ⟨d11, _⟩ := R9.cell 11 ((.slice (some ⟨kb, 0, none⟩) 1 1)) rfl
        have hz := fun w' (q : KidsOk w' true (.slice (some ⟨kb, 0, none⟩) 1 1)) => zcall hp M w' _ q
        have hzz := zzero
        unfold NodeV at hz hzz
        have HZ := Lib.hid hz
        have HZZ := Lib.hid hzz
        have B9 := Lib.hid b9
        have KO9 := Lib.hid ko9
        have HG := Lib.hid (BX.lt R9)
        clear hz hzz b9 ko9 R9
        go_wp2_with (first
          | (go_at_call 7; refine (HZ.out _ KO9.out).mono ?_; rintro e w10 ⟨rfl, hb10⟩; have HB10 := Lib.hid (B9.out.trans (hb10.mono (Nat.le_of_lt HG.out))); have HS10 := Lib.hid hb10.size; clear hb10 HZ)
          | (go_at_call 7; refine (HZZ.out _).mono ?_; rintro e w11 ⟨rfl, hb11⟩; have HB11 := Lib.hid (HB10.out.trans (hb11.mono (Nat.le_trans (Nat.le_of_lt HG.out) HS10.out))); clear hb11))
        go_ret
        exact ⟨rfl, by rw [hg]; exact HB11.out⟩
      ·
        have hr9 := fun o => heap_set (j := 0) (.int .i64 1) (R8.out.later ((Below.refl _ _).alloc (Nat.le_refl _) o))
        have hb9 := fun o => (B8.out.alloc (Nat.le_of_lt R8.out.lt) o).setCell (p := ⟨g, 0, none⟩) (Nat.le_refl _) (.int .i64 1)
        have KO := fun o => (fun (w9 : World) (hbb : Below ((w8.alloc o).setCell ⟨g, 0, none⟩ (.int .i64 1)).heap.size ((w8.alloc o).setCell ⟨g, 0, none⟩ (.int .i64 1)) w9) => (Or.inr ⟨rfl, kb, rfl, (hbb.block kb (lt_of_some (heap_other (o := .cells kidArr 24 (0, 0)) (by rw [Below.heap_alloc _ _ _ (lt_of_some K8.out)]; exact K8.out) HKB.out))).trans (heap_other (by rw [Below.heap_alloc _ _ _ (lt_of_some K8.out)]; exact K8.out) HKB.out)⟩ : KidsOk w9 true (.slice (some ⟨kb, 0, none⟩) 1 1)))
        refine mat_any 1 (s % 64) t v a h l f rr cc true (by omega) (by omega) HS.out.1 HS.out.2.1 HS.out.2.2.1 HS.out.2.2.2.1 HS.out.2.2.2.2.1 HS.out.2.2.2.2.2 QR.out QC.out _ ?_ ⟨g0, g1, g2, g3, g4, g5, g6, g7, g8, g9, g10, g11, g12, g13, g14, g15, g16, g17, g18, g19, g20, g21, g22, g23, g24, g25, g26, g27⟩
        intro p hp M
        have hp9 : chkCB Try.prog nocall 87 1000 c9 [(1, .bool p.kid), (2, .pointer (some ⟨87, 0, none⟩))] D9 [(5, .bool p.z)] p.cells 24 = true := by
          unfold Pat.ok at hp; rw [Bool.and_eq_true] at hp; exact hp.2
        refine Code.wp_mono ?_ (am_cutB (n := 87) (pu := fun _ => false) (l := [(1, .bool p.kid), (2, .pointer (some ⟨87, 0, none⟩))]) (D := D9) (res := [(5, .bool p.z)]) (call := nocall) (fu := 1000) (cells := p.cells) noNum follows (nocall_ok _ _) (fun f args H v H' h => by cases h) c9_ok rfl (by decide) (show BX _ g 1 (s % 64) t v a h l f rr cc (-1) (.slice (some ⟨kb, 0, none⟩) 1 1) from hr9 _) (Nat.le_refl _) (cells_mat M _) (flB (slB (by decide) rfl (by rw [M.kid])) (slP (by decide) rfl rfl)) hp9)
        rintro _ _ w9 ⟨rfl, ff, rfl, hres, hbel⟩
        have h5 := hres (5, .bool p.z) (List.mem_singleton.2 rfl)
        simp only [over, D9, inD, Nat.reduceLeDiff, Nat.reduceAdd, decide_true, decide_false, Bool.and_true, Bool.and_false, Bool.or_false, Bool.or_true, cond_true, cond_false, h5]
        have R9 := BX.later (show BX _ g 1 (s % 64) t v a h l f rr cc (-1) (.slice (some ⟨kb, 0, none⟩) 1 1) from hr9 _) hbel
        have b9 := (hb9 _).trans (hbel.mono (Nat.le_of_lt (BX.lt (show BX _ g 1 (s % 64) t v a h l f rr cc (-1) (.slice (some ⟨kb, 0, none⟩) 1 1) from hr9 _))))
        have ko9 := KO _ w9 hbel
        clear hr9 hb9 KO hres h5 hbel c0 f0
        obtain ⟨d0, _⟩ := R9.cell 0 (.int .i64 1) rfl
        obtain ⟨d1, _⟩ := R9.cell 1 (.int .i64 (s % 64)) rfl
        obtain ⟨d2, _⟩ := R9.cell 2 (.string t) rfl
        obtain ⟨d3, _⟩ := R9.cell 3 (.string v) rfl
        obtain ⟨d4, _⟩ := R9.cell 4 (.string a) rfl
        obtain ⟨d5, _⟩ := R9.cell 5 (.string h) rfl
        obtain ⟨d6, _⟩ := R9.cell 6 (.string l) rfl
        obtain ⟨d7, _⟩ := R9.cell 7 (.string f) rfl
        obtain ⟨d8, _⟩ := R9.cell 8 (.int .i64 rr) rfl
        obtain ⟨d9, _⟩ := R9.cell 9 (.int .i64 cc) rfl
        obtain ⟨d10, _⟩ := R9.cell 10 (.int .i64 (-1)) rfl
        obtain ⟨d11, _⟩ := R9.cell 11 ((.slice (some ⟨kb, 0, none⟩) 1 1)) rfl
        have hz := fun w' (q : KidsOk w' true (.slice (some ⟨kb, 0, none⟩) 1 1)) => zcall hp M w' _ q
        have hzz := zzero
        unfold NodeV at hz hzz
        have HZ := Lib.hid hz
        have HZZ := Lib.hid hzz
        have B9 := Lib.hid b9
        have KO9 := Lib.hid ko9
        have HG := Lib.hid (BX.lt R9)
        clear hz hzz b9 ko9 R9
        go_wp2_with (first
          | (go_at_call 7; refine (HZ.out _ KO9.out).mono ?_; rintro e w10 ⟨rfl, hb10⟩; have HB10 := Lib.hid (B9.out.trans (hb10.mono (Nat.le_of_lt HG.out))); have HS10 := Lib.hid hb10.size; clear hb10 HZ)
          | (go_at_call 7; refine (HZZ.out _).mono ?_; rintro e w11 ⟨rfl, hb11⟩; have HB11 := Lib.hid (HB10.out.trans (hb11.mono (Nat.le_trans (Nat.le_of_lt HG.out) HS10.out))); clear hb11))
        go_ret
        exact ⟨rfl, by rw [hg]; exact HB11.out⟩
      ·
        have hr9 := fun o => heap_set (j := 0) (.int .i64 2) (R8.out.later ((Below.refl _ _).alloc (Nat.le_refl _) o))
        have hb9 := fun o => (B8.out.alloc (Nat.le_of_lt R8.out.lt) o).setCell (p := ⟨g, 0, none⟩) (Nat.le_refl _) (.int .i64 2)
        have KO := fun o => (fun (w9 : World) (hbb : Below ((w8.alloc o).setCell ⟨g, 0, none⟩ (.int .i64 2)).heap.size ((w8.alloc o).setCell ⟨g, 0, none⟩ (.int .i64 2)) w9) => (Or.inr ⟨rfl, kb, rfl, (hbb.block kb (lt_of_some (heap_other (o := .cells kidArr 24 (0, 0)) (by rw [Below.heap_alloc _ _ _ (lt_of_some K8.out)]; exact K8.out) HKB.out))).trans (heap_other (by rw [Below.heap_alloc _ _ _ (lt_of_some K8.out)]; exact K8.out) HKB.out)⟩ : KidsOk w9 true (.slice (some ⟨kb, 0, none⟩) 1 1)))
        refine mat_any 2 (s % 64) t v a h l f rr cc true (by omega) (by omega) HS.out.1 HS.out.2.1 HS.out.2.2.1 HS.out.2.2.2.1 HS.out.2.2.2.2.1 HS.out.2.2.2.2.2 QR.out QC.out _ ?_ ⟨g0, g1, g2, g3, g4, g5, g6, g7, g8, g9, g10, g11, g12, g13, g14, g15, g16, g17, g18, g19, g20, g21, g22, g23, g24, g25, g26, g27⟩
        intro p hp M
        have hp9 : chkCB Try.prog nocall 87 1000 c9 [(1, .bool p.kid), (2, .pointer (some ⟨87, 0, none⟩))] D9 [(5, .bool p.z)] p.cells 24 = true := by
          unfold Pat.ok at hp; rw [Bool.and_eq_true] at hp; exact hp.2
        refine Code.wp_mono ?_ (am_cutB (n := 87) (pu := fun _ => false) (l := [(1, .bool p.kid), (2, .pointer (some ⟨87, 0, none⟩))]) (D := D9) (res := [(5, .bool p.z)]) (call := nocall) (fu := 1000) (cells := p.cells) noNum follows (nocall_ok _ _) (fun f args H v H' h => by cases h) c9_ok rfl (by decide) (show BX _ g 2 (s % 64) t v a h l f rr cc (-1) (.slice (some ⟨kb, 0, none⟩) 1 1) from hr9 _) (Nat.le_refl _) (cells_mat M _) (flB (slB (by decide) rfl (by rw [M.kid])) (slP (by decide) rfl rfl)) hp9)
        rintro _ _ w9 ⟨rfl, ff, rfl, hres, hbel⟩
        have h5 := hres (5, .bool p.z) (List.mem_singleton.2 rfl)
        simp only [over, D9, inD, Nat.reduceLeDiff, Nat.reduceAdd, decide_true, decide_false, Bool.and_true, Bool.and_false, Bool.or_false, Bool.or_true, cond_true, cond_false, h5]
        have R9 := BX.later (show BX _ g 2 (s % 64) t v a h l f rr cc (-1) (.slice (some ⟨kb, 0, none⟩) 1 1) from hr9 _) hbel
        have b9 := (hb9 _).trans (hbel.mono (Nat.le_of_lt (BX.lt (show BX _ g 2 (s % 64) t v a h l f rr cc (-1) (.slice (some ⟨kb, 0, none⟩) 1 1) from hr9 _))))
        have ko9 := KO _ w9 hbel
        clear hr9 hb9 KO hres h5 hbel c0 f0
        obtain ⟨d0, _⟩ := R9.cell 0 (.int .i64 2) rfl
        obtain ⟨d1, _⟩ := R9.cell 1 (.int .i64 (s % 64)) rfl
        obtain ⟨d2, _⟩ := R9.cell 2 (.string t) rfl
        obtain ⟨d3, _⟩ := R9.cell 3 (.string v) rfl
        obtain ⟨d4, _⟩ := R9.cell 4 (.string a) rfl
        obtain ⟨d5, _⟩ := R9.cell 5 (.string h) rfl
        obtain ⟨d6, _⟩ := R9.cell 6 (.string l) rfl
        obtain ⟨d7, _⟩ := R9.cell 7 (.string f) rfl
        obtain ⟨d8, _⟩ := R9.cell 8 (.int .i64 rr) rfl
        obtain ⟨d9, _⟩ := R9.cell 9 (.int .i64 cc) rfl
        obtain ⟨d10, _⟩ := R9.cell 10 (.int .i64 (-1)) rfl
        obtain ⟨d11, _⟩ := R9.cell 11 ((.slice (some ⟨kb, 0, none⟩) 1 1)) rfl
        have hz := fun w' (q : KidsOk w' true (.slice (some ⟨kb, 0, none⟩) 1 1)) => zcall hp M w' _ q
        have hzz := zzero
        unfold NodeV at hz hzz
        have HZ := Lib.hid hz
        have HZZ := Lib.hid hzz
        have B9 := Lib.hid b9
        have KO9 := Lib.hid ko9
        have HG := Lib.hid (BX.lt R9)
        clear hz hzz b9 ko9 R9
        go_wp2_with (first
          | (go_at_call 7; refine (HZ.out _ KO9.out).mono ?_; rintro e w10 ⟨rfl, hb10⟩; have HB10 := Lib.hid (B9.out.trans (hb10.mono (Nat.le_of_lt HG.out))); have HS10 := Lib.hid hb10.size; clear hb10 HZ)
          | (go_at_call 7; refine (HZZ.out _).mono ?_; rintro e w11 ⟨rfl, hb11⟩; have HB11 := Lib.hid (HB10.out.trans (hb11.mono (Nat.le_trans (Nat.le_of_lt HG.out) HS10.out))); clear hb11))
        go_ret
        exact ⟨rfl, by rw [hg]; exact HB11.out⟩
      ·
        have hr9 := fun o => heap_set (j := 0) (.int .i64 4) (R8.out.later ((Below.refl _ _).alloc (Nat.le_refl _) o))
        have hb9 := fun o => (B8.out.alloc (Nat.le_of_lt R8.out.lt) o).setCell (p := ⟨g, 0, none⟩) (Nat.le_refl _) (.int .i64 4)
        have KO := fun o => (fun (w9 : World) (hbb : Below ((w8.alloc o).setCell ⟨g, 0, none⟩ (.int .i64 4)).heap.size ((w8.alloc o).setCell ⟨g, 0, none⟩ (.int .i64 4)) w9) => (Or.inr ⟨rfl, kb, rfl, (hbb.block kb (lt_of_some (heap_other (o := .cells kidArr 24 (0, 0)) (by rw [Below.heap_alloc _ _ _ (lt_of_some K8.out)]; exact K8.out) HKB.out))).trans (heap_other (by rw [Below.heap_alloc _ _ _ (lt_of_some K8.out)]; exact K8.out) HKB.out)⟩ : KidsOk w9 true (.slice (some ⟨kb, 0, none⟩) 1 1)))
        refine mat_any 4 (s % 64) t v a h l f rr cc true (by omega) (by omega) HS.out.1 HS.out.2.1 HS.out.2.2.1 HS.out.2.2.2.1 HS.out.2.2.2.2.1 HS.out.2.2.2.2.2 QR.out QC.out _ ?_ ⟨g0, g1, g2, g3, g4, g5, g6, g7, g8, g9, g10, g11, g12, g13, g14, g15, g16, g17, g18, g19, g20, g21, g22, g23, g24, g25, g26, g27⟩
        intro p hp M
        have hp9 : chkCB Try.prog nocall 87 1000 c9 [(1, .bool p.kid), (2, .pointer (some ⟨87, 0, none⟩))] D9 [(5, .bool p.z)] p.cells 24 = true := by
          unfold Pat.ok at hp; rw [Bool.and_eq_true] at hp; exact hp.2
        refine Code.wp_mono ?_ (am_cutB (n := 87) (pu := fun _ => false) (l := [(1, .bool p.kid), (2, .pointer (some ⟨87, 0, none⟩))]) (D := D9) (res := [(5, .bool p.z)]) (call := nocall) (fu := 1000) (cells := p.cells) noNum follows (nocall_ok _ _) (fun f args H v H' h => by cases h) c9_ok rfl (by decide) (show BX _ g 4 (s % 64) t v a h l f rr cc (-1) (.slice (some ⟨kb, 0, none⟩) 1 1) from hr9 _) (Nat.le_refl _) (cells_mat M _) (flB (slB (by decide) rfl (by rw [M.kid])) (slP (by decide) rfl rfl)) hp9)
        rintro _ _ w9 ⟨rfl, ff, rfl, hres, hbel⟩
        have h5 := hres (5, .bool p.z) (List.mem_singleton.2 rfl)
        simp only [over, D9, inD, Nat.reduceLeDiff, Nat.reduceAdd, decide_true, decide_false, Bool.and_true, Bool.and_false, Bool.or_false, Bool.or_true, cond_true, cond_false, h5]
        have R9 := BX.later (show BX _ g 4 (s % 64) t v a h l f rr cc (-1) (.slice (some ⟨kb, 0, none⟩) 1 1) from hr9 _) hbel
        have b9 := (hb9 _).trans (hbel.mono (Nat.le_of_lt (BX.lt (show BX _ g 4 (s % 64) t v a h l f rr cc (-1) (.slice (some ⟨kb, 0, none⟩) 1 1) from hr9 _))))
        have ko9 := KO _ w9 hbel
        clear hr9 hb9 KO hres h5 hbel c0 f0
        obtain ⟨d0, _⟩ := R9.cell 0 (.int .i64 4) rfl
        obtain ⟨d1, _⟩ := R9.cell 1 (.int .i64 (s % 64)) rfl
        obtain ⟨d2, _⟩ := R9.cell 2 (.string t) rfl
        obtain ⟨d3, _⟩ := R9.cell 3 (.string v) rfl
        obtain ⟨d4, _⟩ := R9.cell 4 (.string a) rfl
        obtain ⟨d5, _⟩ := R9.cell 5 (.string h) rfl
        obtain ⟨d6, _⟩ := R9.cell 6 (.string l) rfl
        obtain ⟨d7, _⟩ := R9.cell 7 (.string f) rfl
        obtain ⟨d8, _⟩ := R9.cell 8 (.int .i64 rr) rfl
        obtain ⟨d9, _⟩ := R9.cell 9 (.int .i64 cc) rfl
        obtain ⟨d10, _⟩ := R9.cell 10 (.int .i64 (-1)) rfl
        obtain ⟨d11, _⟩ := R9.cell 11 ((.slice (some ⟨kb, 0, none⟩) 1 1)) rfl
        have hz := fun w' (q : KidsOk w' true (.slice (some ⟨kb, 0, none⟩) 1 1)) => zcall hp M w' _ q
        have hzz := zzero
        unfold NodeV at hz hzz
        have HZ := Lib.hid hz
        have HZZ := Lib.hid hzz
        have B9 := Lib.hid b9
        have KO9 := Lib.hid ko9
        have HG := Lib.hid (BX.lt R9)
        clear hz hzz b9 ko9 R9
        go_wp2_with (first
          | (go_at_call 7; refine (HZ.out _ KO9.out).mono ?_; rintro e w10 ⟨rfl, hb10⟩; have HB10 := Lib.hid (B9.out.trans (hb10.mono (Nat.le_of_lt HG.out))); have HS10 := Lib.hid hb10.size; clear hb10 HZ)
          | (go_at_call 7; refine (HZZ.out _).mono ?_; rintro e w11 ⟨rfl, hb11⟩; have HB11 := Lib.hid (HB10.out.trans (hb11.mono (Nat.le_trans (Nat.le_of_lt HG.out) HS10.out))); clear hb11))
        go_ret
        exact ⟨rfl, by rw [hg]; exact HB11.out⟩
      ·
        have hr9 := fun o => heap_set (j := 0) (.int .i64 8) (R8.out.later ((Below.refl _ _).alloc (Nat.le_refl _) o))
        have hb9 := fun o => (B8.out.alloc (Nat.le_of_lt R8.out.lt) o).setCell (p := ⟨g, 0, none⟩) (Nat.le_refl _) (.int .i64 8)
        have KO := fun o => (fun (w9 : World) (hbb : Below ((w8.alloc o).setCell ⟨g, 0, none⟩ (.int .i64 8)).heap.size ((w8.alloc o).setCell ⟨g, 0, none⟩ (.int .i64 8)) w9) => (Or.inr ⟨rfl, kb, rfl, (hbb.block kb (lt_of_some (heap_other (o := .cells kidArr 24 (0, 0)) (by rw [Below.heap_alloc _ _ _ (lt_of_some K8.out)]; exact K8.out) HKB.out))).trans (heap_other (by rw [Below.heap_alloc _ _ _ (lt_of_some K8.out)]; exact K8.out) HKB.out)⟩ : KidsOk w9 true (.slice (some ⟨kb, 0, none⟩) 1 1)))
        refine mat_any 8 (s % 64) t v a h l f rr cc true (by omega) (by omega) HS.out.1 HS.out.2.1 HS.out.2.2.1 HS.out.2.2.2.1 HS.out.2.2.2.2.1 HS.out.2.2.2.2.2 QR.out QC.out _ ?_ ⟨g0, g1, g2, g3, g4, g5, g6, g7, g8, g9, g10, g11, g12, g13, g14, g15, g16, g17, g18, g19, g20, g21, g22, g23, g24, g25, g26, g27⟩
        intro p hp M
        have hp9 : chkCB Try.prog nocall 87 1000 c9 [(1, .bool p.kid), (2, .pointer (some ⟨87, 0, none⟩))] D9 [(5, .bool p.z)] p.cells 24 = true := by
          unfold Pat.ok at hp; rw [Bool.and_eq_true] at hp; exact hp.2
        refine Code.wp_mono ?_ (am_cutB (n := 87) (pu := fun _ => false) (l := [(1, .bool p.kid), (2, .pointer (some ⟨87, 0, none⟩))]) (D := D9) (res := [(5, .bool p.z)]) (call := nocall) (fu := 1000) (cells := p.cells) noNum follows (nocall_ok _ _) (fun f args H v H' h => by cases h) c9_ok rfl (by decide) (show BX _ g 8 (s % 64) t v a h l f rr cc (-1) (.slice (some ⟨kb, 0, none⟩) 1 1) from hr9 _) (Nat.le_refl _) (cells_mat M _) (flB (slB (by decide) rfl (by rw [M.kid])) (slP (by decide) rfl rfl)) hp9)
        rintro _ _ w9 ⟨rfl, ff, rfl, hres, hbel⟩
        have h5 := hres (5, .bool p.z) (List.mem_singleton.2 rfl)
        simp only [over, D9, inD, Nat.reduceLeDiff, Nat.reduceAdd, decide_true, decide_false, Bool.and_true, Bool.and_false, Bool.or_false, Bool.or_true, cond_true, cond_false, h5]
        have R9 := BX.later (show BX _ g 8 (s % 64) t v a h l f rr cc (-1) (.slice (some ⟨kb, 0, none⟩) 1 1) from hr9 _) hbel
        have b9 := (hb9 _).trans (hbel.mono (Nat.le_of_lt (BX.lt (show BX _ g 8 (s % 64) t v a h l f rr cc (-1) (.slice (some ⟨kb, 0, none⟩) 1 1) from hr9 _))))
        have ko9 := KO _ w9 hbel
        clear hr9 hb9 KO hres h5 hbel c0 f0
        obtain ⟨d0, _⟩ := R9.cell 0 (.int .i64 8) rfl
        obtain ⟨d1, _⟩ := R9.cell 1 (.int .i64 (s % 64)) rfl
        obtain ⟨d2, _⟩ := R9.cell 2 (.string t) rfl
        obtain ⟨d3, _⟩ := R9.cell 3 (.string v) rfl
        obtain ⟨d4, _⟩ := R9.cell 4 (.string a) rfl
        obtain ⟨d5, _⟩ := R9.cell 5 (.string h) rfl
        obtain ⟨d6, _⟩ := R9.cell 6 (.string l) rfl
        obtain ⟨d7, _⟩ := R9.cell 7 (.string f) rfl
        obtain ⟨d8, _⟩ := R9.cell 8 (.int .i64 rr) rfl
        obtain ⟨d9, _⟩ := R9.cell 9 (.int .i64 cc) rfl
        obtain ⟨d10, _⟩ := R9.cell 10 (.int .i64 (-1)) rfl
        obtain ⟨d11, _⟩ := R9.cell 11 ((.slice (some ⟨kb, 0, none⟩) 1 1)) rfl
        have hz := fun w' (q : KidsOk w' true (.slice (some ⟨kb, 0, none⟩) 1 1)) => zcall hp M w' _ q
        have hzz := zzero
        unfold NodeV at hz hzz
        have HZ := Lib.hid hz
        have HZZ := Lib.hid hzz
        have B9 := Lib.hid b9
        have KO9 := Lib.hid ko9
        have HG := Lib.hid (BX.lt R9)
        clear hz hzz b9 ko9 R9
        go_wp2_with (first
          | (go_at_call 7; refine (HZ.out _ KO9.out).mono ?_; rintro e w10 ⟨rfl, hb10⟩; have HB10 := Lib.hid (B9.out.trans (hb10.mono (Nat.le_of_lt HG.out))); have HS10 := Lib.hid hb10.size; clear hb10 HZ)
          | (go_at_call 7; refine (HZZ.out _).mono ?_; rintro e w11 ⟨rfl, hb11⟩; have HB11 := Lib.hid (HB10.out.trans (hb11.mono (Nat.le_trans (Nat.le_of_lt HG.out) HS10.out))); clear hb11))
        go_ret
        exact ⟨rfl, by rw [hg]; exact HB11.out⟩
end Go.Proofs.Z1
