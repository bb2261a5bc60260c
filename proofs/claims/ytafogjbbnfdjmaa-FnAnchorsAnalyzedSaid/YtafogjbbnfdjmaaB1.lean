/- A part of the proof: what functions of the program answer, for all arguments that meet the conditions named in each theorem. -/
import Derived.Test.YtafogjbbnfdjmaaA9
namespace Go.Proofs.A1
open Go.RowKit Go.AM Go.Proofs.C1
set_option linter.unusedVariables false
theorem vr_fault (k : Int) : VR [] (FaultOf k) (FaultOf k) := by
  refine .agg _ _ rfl ?_
  intro i v u hv hu
  rw [hv] at hu; cases hu
  match i, hv with
  | 0, hv => cases hv; exact .int _ _
  | 1, hv => cases hv; exact .int _ _
  | 2, hv => cases hv; exact .int _ _
  | 3, hv => cases hv; exact .int _ _
  | 4, hv => cases hv; exact .int _ _
  | 5, hv => cases hv; exact .int _ _
  | 6, hv => cases hv; exact .int _ _
  | 7, hv => cases hv; exact .int _ _
  | 8, hv => cases hv; exact .int _ _
theorem afld (k : Int) : afield Try.prog 35 0 (FaultOf k) = some (.int .i64 k) := by kernel_rfl
theorem fld (k : Int) (w : World) : (Instr.field 35 (FaultOf k) 0).run Try.prog w = .ok (.int .i64 k) w := by
  obtain ⟨u, h1, h2⟩ := VR.field (w := w) (vr_fault k) (afld k)
  rw [h1, h2.eq_of_ground rfl]
set_option maxRecDepth 100000 in
set_option maxHeartbeats 1000000 in
theorem law_some (w : World) (a : Option Addr) (ts : List Int) (cap : Nat) (al : Bool) (hn : ts.length ≤ 1024) (ht : Txt w a ts) :
    Calls Try.prog 5 #[.slice a ts.length cap, .bool al] w fun e w' => e = .returned (.bool true) ∧ Below w.heap.size w w' := by
  obtain ⟨kk, hkk, hcall⟩ := analyzed ts cap al hn
  have HT := Lib.hid ht
  have HK := Lib.hid hkk
  have HCL := Lib.hid hcall
  clear ht hkk hcall
  go_enter Try.func5, Try.ntmps5
  go_wp2
  go_loopw [5, 20] (fun fine idx wr => ∃ (k : Nat) (b : Bool), k ≤ ts.length ∧ idx = .int .i64 k ∧ fine = .bool b ∧ Below w.heap.size w wr ∧ (b = true ↔ 0 < ts.length ∧ ∀ j : Nat, j < k → Alnum (byt ts j))) (fun _ i _ => ts.length - (intOf i).toNat)
  case atStart => exact ⟨0, decide (0 < ts.length), Nat.zero_le _, rfl, by simp, Below.refl _ _, by simp⟩
  case round =>
    obtain ⟨k, b, hk, rfl, rfl, hb, hfine⟩ := hrel
    have HB := Lib.hid hb
    have HF := Lib.hid hfine
    clear hb hfine
    by_cases hlt : k < ts.length
    · obtain ⟨x, hx, hcx⟩ := (HT.out.below HB.out).2 k hlt
      subst hx
      have hv : ts.getD k 0 = byt ts k := by unfold byt; rw [if_pos (by omega)]; rfl
      rw [hv] at hcx
      have hq := byt_rng HT.out k
      have HV := Lib.hid hv
      clear hv
      generalize hz : byt ts k = z at *
      have HZ := Lib.hid hz
      have HQ := Lib.hid hq
      clear hz hq
      by_cases hbig : 128 ≤ z
      · go_wp2
        go_ret
        exact ⟨rfl, HB.out⟩
      · go_upto_region 11 with (fail)
        obtain ⟨m, rfl⟩ : ∃ m : Nat, z = m := ⟨z.toNat, by have := HQ.out; omega⟩
        have hm : m < 128 := by omega
        cases b with
        | true =>
          refine Code.wp_mono ?_ (am_draw (n := 52) (l := [(5, .bool true), (7, .int .u8 (m : Nat))]) (D := [(5, 5), (26, 36)]) (res := [(5, .bool (alnumB m))]) LF.noNum LF.follows (prim10_ok _) rfl (by decide) (flc (slg (by decide) rfl rfl) (fl1 (slg (by decide) rfl rfl))) (tabT m hm))
          rintro _ _ w' ⟨rfl, f, rfl, hres, hb'⟩
          have h5 := hres (5, .bool (alnumB m)) (List.mem_singleton.2 rfl)
          simp only [over, inD, Nat.reduceLeDiff, Nat.reduceAdd, decide_true, decide_false, Bool.and_true, Bool.and_false, Bool.or_false, Bool.or_true, cond_true, cond_false, h5]
          have HB' := Lib.hid (HB.out.trans (hb'.mono HB.out.size))
          clear hb' hres h5
          go_wp2
          go_roundw
          case rel =>
            refine ⟨k + 1, alnumB m, by omega, by go_num, rfl, HB'.out, ?_⟩
            rw [alnumB_iff]
            constructor
            · intro h
              refine ⟨by omega, fun j hj => ?_⟩
              by_cases hjk : j = k
              · rw [hjk, HZ.out]; exact h
              · exact (HF.out.1 rfl).2 j (by omega)
            · intro h
              have := h.2 k (by omega)
              rw [HZ.out] at this; exact this
          case measure => simp [intOf]; omega
        | false =>
          refine Code.wp_mono ?_ (am_draw (n := 52) (l := [(5, .bool false)]) (D := [(5, 5), (26, 36)]) (res := [(5, .bool false)]) LF.noNum LF.follows (prim10_ok _) rfl (by decide) (fl1 (slg (by decide) rfl rfl)) tF)
          rintro _ _ w' ⟨rfl, f, rfl, hres, hb'⟩
          have h5 := hres (5, .bool false) (List.mem_singleton.2 rfl)
          simp only [over, inD, Nat.reduceLeDiff, Nat.reduceAdd, decide_true, decide_false, Bool.and_true, Bool.and_false, Bool.or_false, Bool.or_true, cond_true, cond_false, h5]
          have HB' := Lib.hid (HB.out.trans (hb'.mono HB.out.size))
          clear hb' hres h5
          go_wp2
          go_roundw
          case rel =>
            refine ⟨k + 1, false, by omega, by go_num, rfl, HB'.out, ?_⟩
            constructor
            · intro h; cases h
            · intro h
              exact HF.out.2 ⟨h.1, fun j hj => h.2 j (by omega)⟩
          case measure => simp [intOf]; omega
    · have hk2 : k = ts.length := by omega
      have hbg : (b = true) ↔ kk = 0 := by
        rw [HK.out, HF.out, hk2]
        exact Iff.rfl
      have HG := Lib.hid hbg
      clear hk2 hbg
      go_upto_region 14 with (go_at_call 11; refine (nil_any _ _).mono ?_; rintro e1 w1 ⟨rfl, hb1⟩; unfold FaultOf; have HB1 := Lib.hid (HB.out.trans (hb1.mono HB.out.size)); clear hb1)
      have hT1 := HT.out.below (HB1.out.alloc HB1.out.size (Obj.cells #[.int .i64 5, .int .i64 0, .int .i64 0, .int .i64 0, .int .i64 0, .int .i64 0, .int .i64 0, .int .i64 0, .int .i64 0] 35))
      have hB1 := HB1.out.alloc HB1.out.size (Obj.cells #[.int .i64 5, .int .i64 0, .int .i64 0, .int .i64 0, .int .i64 0, .int .i64 0, .int .i64 0, .int .i64 0, .int .i64 0] 35)
      have hC1 := cell_of_row (w1.alloc (Obj.cells #[.int .i64 5, .int .i64 0, .int .i64 0, .int .i64 0, .int .i64 0, .int .i64 0, .int .i64 0, .int .i64 0, .int .i64 0] 35)) w1.heap.size 0 _ _ _ (heap_alloc_new _ _)
      have hL1 : w1.heap.size < (w1.alloc (Obj.cells #[.int .i64 5, .int .i64 0, .int .i64 0, .int .i64 0, .int .i64 0, .int .i64 0, .int .i64 0, .int .i64 0, .int .i64 0] 35)).heap.size := by simp
      generalize w1.alloc (Obj.cells #[.int .i64 5, .int .i64 0, .int .i64 0, .int .i64 0, .int .i64 0, .int .i64 0, .int .i64 0, .int .i64 0, .int .i64 0] 35) = W1 at *
      have hC1 : W1.cell? ⟨w1.heap.size, 0, none⟩ = some (.int .i64 5) := hC1
      generalize w1.heap.size = g1 at *
      have T1 := Lib.hid hT1
      have B1 := Lib.hid hB1
      have C1 := Lib.hid hC1
      have L1 := Lib.hid hL1
      clear hT1 hB1 hC1 hL1 HB1
      have hcallW := HCL.out W1 a T1.out
      have HCW := Lib.hid hcallW
      clear hcallW
      cases b with
      | true =>
        have hk0 : kk = 0 := HG.out.1 rfl
        subst hk0
        have hfld := fld 0
        unfold FaultOf at hfld
        go_wp2_with (go_at_call 11; refine (HCW.out).mono ?_; rintro e2 w2 ⟨rfl, hb2⟩; unfold FaultOf; have hc2 := cell_kept hb2 L1.out C1.out; have HB2 := Lib.hid (B1.out.trans (hb2.mono B1.out.size)); clear hb2)
        go_ret
        exact ⟨rfl, HB2.out⟩
      | false =>
        have hk0 : (kk == 0) = false := by
          rw [beq_eq_false_iff_ne]
          intro h
          have := HG.out.2 h
          cases this
        have hfld := fld kk
        unfold FaultOf at hfld
        go_wp2_with (go_at_call 11; refine (HCW.out).mono ?_; rintro e2 w2 ⟨rfl, hb2⟩; unfold FaultOf; have hc2 := cell_kept hb2 L1.out C1.out; have HB2 := Lib.hid (B1.out.trans (hb2.mono B1.out.size)); clear hb2)
        go_ret
        exact ⟨rfl, HB2.out⟩
theorem law_row (a : Option Addr) (n cap : Nat) (ts : List Int) (al : Bool) (w : World) (hn : n = ts.length) (ht : (∀ m ∈ ts, 0 ≤ m ∧ m ≤ 255) ∧ ∀ i, i < ts.length → ∃ x, a = some x ∧ w.cell? (x.add i) = some (.int .u8 (ts.getD i 0))) :
    Calls Try.prog 5 #[.slice a n cap, .bool al] w fun e w' => e = .returned (.bool true) ∧ Below w.heap.size w w' := by
  subst hn
  by_cases hs : ts.length ≤ 1024
  · exact law_some w a ts cap al hs ht
  · clear ht
    by_cases h2 : 2147483647 < ts.length
    · go_enter Try.func5, Try.ntmps5
      go_wp2
      go_ret
      exact ⟨rfl, Below.refl _ _⟩
    · go_enter Try.func5, Try.ntmps5
      go_wp2
      go_ret
      exact ⟨rfl, Below.refl _ _⟩
end Go.Proofs.A1
