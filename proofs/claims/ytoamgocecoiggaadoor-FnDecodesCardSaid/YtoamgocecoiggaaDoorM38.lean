-- the statement of this claim: see YtoamgocecoiggaaDoorRw
import Derived.Test.YtoamgocecoiggaaDoorM37
set_option linter.unusedVariables false
set_option linter.unusedSimpArgs false
open Go Go.SM Go.Proofs
namespace U
set_option maxRecDepth 100000
abbrev z6a0:List TB:=[(.lt (.var 166) (.var 165))]
abbrev z6a1:List TB:=(.lt (.var 166) (.len (.var 93)))::z6a0
abbrev z6a2:List TB:=(.eq (.sel (.var 93) (.var 166)) (.lit 0))::z6a1
abbrev z6a3:List TB:=(.not (.eq (.sel (.var 93) (.var 166)) (.lit 0)))::z6a1
abbrev z6s0:SgT:=[(0,.blk 0),(73,.blk 73)]
abbrev z6s1:SgT:=(74,.blk 74)::(17,.ltm (.var 17))::(4,.ltm (.var 4))::(3,.ltm (.var 3))::(ids (dn 71 6++dn 64 18)++((46,.val (.func (.yield 0) #[(.int .i64 0),(.map (some 78)),(.int .i64 0),(.int .i64 8000000)] #[]))::(45,.idn)::(44,.val (.func (.yield 0) #[(.int .i64 0),(.map (some 77)),(.int .i64 0),(.int .i64 8000000)] #[]))::(9,.itm (.var 9))::(10,.itm (.var 10))::(7,.itm (.var 7))::(6,.itm (.var 6))::(2,.blk 2)::(39,.idn)::(8,.itm (.var 8))::(76,.itm (.var 76))::(75,.itm (.var 75))::(1,.blk 1)::(11,.btm (.var 11))::(19,.itm (.var 19))::(72,.itm (.var 72))::(18,.itm (.var 18))::(16,.blk 16)::(ids ([32]++dn 30 11)++((12,.itm (.lit 1))::z6s0))))
abbrev z6s2:SgT:=[(83,.blk 83),(73,.blk 73)]
abbrev z6s3:SgT:=(82,.ltm (.var 262))::(74,.blk 74)::(17,.ltm (.var 17))::(4,.ltm (.var 94))::(3,.ltm (.var 93))::(ids (dn 71 6++dn 64 18)++((78,.itm (.var 258))::(45,.idn)::(77,.itm (.var 257))::(9,.itm (.var 99))::(10,.itm (.var 100))::(7,.itm (.var 97))::(6,.itm (.var 96))::(2,.blk 2)::(39,.opq 219)::(8,.itm (.var 188))::(76,.itm (.var 256))::(75,.itm (.var 165))::(1,.blk 1)::(11,.btm (.var 101))::(19,.itm (.var 109))::(72,.itm (.var 72))::(18,.itm (.var 18))::(16,.blk 16)::(ids ([32]++dn 30 11)++((81,.itm (.var 261))::(80,.itm (.var 260))::(79,.blk 259)::(0,.blk 0)::z6s2))))
noncomputable def lit_yN:Tre:=(.call 17 90 90 (rgs (spC 17).n (spC 17).tin) (SgT.enc z6s1) (List.map TB.enc []) (.cons (rgs 0 tUo++rgV (.bool true)) (nd 180 [] ((.lt (.var 166) (.var 165)))
 (nd 180 z6a0 ((.lt (.var 166) (.len (.var 93))))
 (.fork (lf 2 90 180 (rgs EYN.n tYsN) z6s2 z6a2)
 (.call 20 90 180 (rgs (spKN 20).n (spKN 20).tin) (SgT.enc ((74,.blk 74)::(3,.ltm (.var 93))::(ids (dn 71 6++dn 64 18)++((78,.itm (.var 78))::(45,.idn)::(77,.itm (.var 77))::(43,.val (.func (.yield 0) #[(.int .i64 0),(.map (some 99)),(.int .i64 0),(.int .i64 10000000)] #[]))::(42,.val (.func (.yield 0) #[(.int .i64 0),(.map (some 100)),(.int .i64 0),(.int .i64 3)] #[]))::(41,.val (.func (.yield 0) #[(.int .i64 0),(.map (some 97)),(.int .i64 0),(.int .i64 512)] #[]))::(40,.val (.func (.yield 4) #[(.int .i64 2),(.int .i64 0),(.map (some 96)),(.int .i64 512)] #[]))::(39,.idn)::(8,.itm (.var 98))::(76,.itm (.var 166))::(75,.itm (.var 165))::(1,.blk 1)::(35,.val (.func (.yield 1) #[(.map (some 101))] #[]))::(34,.val (.func (.yield 0) #[(.int .i64 0),(.map (some 109)),(.int .i64 0),(.int .i64 2000000)] #[]))::(33,.val (.func (.yield 4) #[(.int .i64 16),(.int .i64 0),(.map (some 18)),(.map (some 72))] #[]))::(32,.idn)::(31,.val (.func (.func 47) #[] #[]))::(ids (dn 30 11)++z6s0))))) (List.map TB.enc z6a3) (.cons (rgs 0 tKo++rgV sOut) (lf 0 90 270 (rgs EYN.n tY) z6s3 z6a3)
 .nil)))))
 (.cons (rgs 0 tEw++rgV (.bool false)) (lf 1 90 185 (rgs EYN.n tYe) z6s2 [])
 .nil)))
theorem lit_yN_eq:treYN []=lit_yN:=by kernel_rfl
noncomputable def lit_yS:Tre:=(.call 17 90 90 (rgs (spC 17).n (spC 17).tin) (SgT.enc z6s1) (List.map TB.enc []) (.cons (rgs 0 tUo++rgV (.bool true)) (nd 180 [] ((.lt (.var 166) (.var 165)))
 (nd 180 z6a0 ((.lt (.var 166) (.len (.var 93))))
 (.fork (lf 2 90 180 (rgs EYY.n tYs) ((82,.ltm (.var 82))::(81,.itm (.var 81))::(80,.itm (.var 80))::(79,.blk 79)::z6s2) z6a2)
 (.call 20 90 180 (rgs (spKS 20).n (spKS 20).tin) (SgT.enc ((82,.ltm (.var 82))::(74,.blk 74)::(3,.ltm (.var 93))::(ids (dn 71 6++dn 64 18)++((78,.itm (.var 78))::(45,.idn)::(77,.itm (.var 77))::(43,.val (.func (.yield 0) #[(.int .i64 0),(.map (some 99)),(.int .i64 0),(.int .i64 10000000)] #[]))::(42,.val (.func (.yield 0) #[(.int .i64 0),(.map (some 100)),(.int .i64 0),(.int .i64 3)] #[]))::(41,.val (.func (.yield 0) #[(.int .i64 0),(.map (some 97)),(.int .i64 0),(.int .i64 512)] #[]))::(40,.val (.func (.yield 4) #[(.int .i64 2),(.int .i64 0),(.map (some 96)),(.int .i64 512)] #[]))::(39,.idn)::(8,.itm (.var 98))::(76,.itm (.var 166))::(75,.itm (.var 165))::(1,.blk 1)::(35,.val (.func (.yield 1) #[(.map (some 101))] #[]))::(34,.val (.func (.yield 0) #[(.int .i64 0),(.map (some 109)),(.int .i64 0),(.int .i64 2000000)] #[]))::(33,.val (.func (.yield 4) #[(.int .i64 16),(.int .i64 0),(.map (some 18)),(.map (some 72))] #[]))::(32,.idn)::(31,.val (.func (.func 47) #[] #[]))::(ids (dn 30 11)++((81,.itm (.var 81))::(80,.itm (.var 80))::(79,.blk 79)::z6s0)))))) (List.map TB.enc z6a3) (.cons (rgs 0 tKo++rgV sOut) (lf 0 90 270 (rgs EYY.n tY) z6s3 z6a3)
 .nil)))))
 (.cons (rgs 0 tEw++rgV (.bool false)) (lf 1 90 185 (rgs EYY.n tYe) z6s2 [])
 .nil)))
theorem lit_yS_eq:treYY []=lit_yS:=by kernel_rfl
def opY:List Nat:=[20,21,22,23,24,25,26,27,28,29,30,32,39,45,47,48,49,50,51,52,53,54,55,56,57,58,59,60,61,62,63,64,66,67,68,69,70,71]
set_option maxRecDepth 100000
theorem hold_yN {R0:List UInt8} {β:Ren} (hR:R0.length≤2000000) (dy:DY R0 [] β):lit_yN.Holds (GY R0 [] (fun _=>True) ON (fun _=>True) β) β:=by
 unfold lit_yN
 have hβ:=dy.pu.p.n.1
 have ix:=dy.ix.2; have co:=dy.co
 refine (call_of opY hβ (by kernel_rfl) (by kernel_rfl) ?_)
 ·intro γ0 hl0 hA hr0 hid0 hI
  clear hA
  simp only [DD] at hI
  obtain ⟨i74,i17,i4,i3,i46,i44,i9,i10,i7,i6,i2,i8,i76,i75,i1,i11,i19,i72,i18,i16,i12,i0,i73⟩:=hI
  have ea:AlW β γ0:=⟨i17,i18,i3,i4,i6,i7,i8,i9,i10,Bool.eq_iff_iff.2 i11,i19,i75,i76⟩
  have hL0:(GY R0 [] (fun _=>True) ON (fun _=>True) β).CL 17 γ0:=ea.pu dy.pu (dy.pu.p.n.of i73 hl0)
  refine ⟨hL0,(callo_cons ?_ (callo_cons ?_ callo_nil))⟩
  ·intro β1 hq1 hO1
   obtain ⟨hn1,ut⟩:=hO1
   have dz:=dy_cache dy hR ea i12 ut
   have zl:=dz_lt dz
   have ul:=ut.le
   have zb:=dz.pu.buf
   have hb1:=app_len hβ hn1.1
   simp only [Nat.reduceAdd] at hb1
   refine (need_o hb1 ?_ (need_o hb1 ?_ (fork_of (leaf_o [] hb1 ?_) (call_of [] hb1 (by kernel_rfl) (by kernel_rfl) ?_))))
   ·intro hA; clear hA; simp only [DD,aA hβ,Nat.reduceLT,Nat.reduceLeDiff,Nat.reduceSub]; omega
   ·intro hA; simp only [DD,aA hβ,Nat.reduceLT,Nat.reduceLeDiff,Nat.reduceSub] at hA ⊢; omega
   ·intro γ1 hl1 hA hr1 hid1 hI
    simp only [DD,aA hβ,Nat.reduceLT,Nat.reduceLeDiff,Nat.reduceSub] at hA
    obtain ⟨b0,b1,b2⟩:=hA
    simp only [DD,aA hβ,Nat.reduceLT,Nat.reduceLeDiff,Nat.reduceSub] at hI
    obtain ⟨j83,j73⟩:=hI
    exact ⟨j73,dz_end dz (by omega) (by omega) (by unfold bb; assumption),trivial⟩
   ·intro γ1 hl1 hA hr1 hid1 hI
    simp only [DD,aA hβ,Nat.reduceLT,Nat.reduceLeDiff,Nat.reduceSub] at hA
    obtain ⟨b0,b1,b2⟩:=hA
    simp only [DD,aA hβ,Nat.reduceLT,Nat.reduceLeDiff,Nat.reduceSub] at hI
    obtain ⟨j74,j3,j78,j77,j43,j42,j41,j40,j8,j76,j75,j1,j35,j34,j33,j31,j0,j73⟩:=hI
    have hn2:Ln γ1:=dy.pu.p.n.of j73 hl1
    have hb0:bb β1≠0:=by unfold bb; assumption
    have kp:KP γ1:=dz_kp dz hn2 (by omega) (by omega) hb0 j3 j75 j76 j8 (by rw [j77]; exact ix) (by rw [j78,j77]; exact co)
    have hL1:(GY R0 [] (fun _=>True) ON (fun _=>True) β).CL 20 γ1:=⟨kp,trivial⟩
    refine ⟨hL1,(callo_cons ?_ callo_nil)⟩
    ·intro β2 hq2 hO2
     obtain ⟨hn3,q⟩:=hO2
     have hb2:=app_len hb1 hn3.1
     simp only [Nat.reduceAdd] at hb2
     refine (leaf_o [] hb2 ?_)
     ·intro γ2 hl2 hA hr2 hid2 hI
      simp only [DD,aA hβ,aA hb1,Nat.reduceLT,Nat.reduceLeDiff,Nat.reduceSub] at hA
      obtain ⟨c0,c1,c2⟩:=hA
      simp only [DD,aA hβ,aA hb1,Nat.reduceLT,Nat.reduceLeDiff,Nat.reduceSub] at hI
      obtain ⟨k82,k74,k17,k4,k3,k78,k77,k9,k10,k7,k6,k2,k39,k8,k76,k75,k1,k11,k19,k72,k18,k16,k81,k80,k79,k0,k83,k73⟩:=hI
      exact ⟨k73,dz_next dz (by omega) (by omega) hb0 j3 j76 j8 (by rw [j77]; exact ix) (by rw [j78,j77]; exact co) q rfl (dy.pu.p.n.of k73 hl2) k3 k4 k6 k7 (Bool.eq_iff_iff.2 k11) (k17.trans (i17.symm.trans ut.s.l17.symm)) (k18.trans (i18.symm.trans ut.s.i18.symm)) k19 k9 k10 k75 k76 k8 k77 k78 k80 k81 k82⟩
  ·intro β1 hq1 hO1
   obtain ⟨hn1,ue⟩:=hO1
   have hb1:=app_len hβ hn1.1
   simp only [Nat.reduceAdd] at hb1
   refine (leaf_gen [] hb1 (by kernel_rfl) (by kernel_rfl) ?_)
   ·intro δ1 γ1 hl1 hA hr1 hid1 hI
    clear hA
    simp only [DD,aA hβ,aL hb1,Nat.reduceLT,Nat.reduceLeDiff,Nat.reduceSub] at hI
    obtain ⟨j83,j73⟩:=hI
    exact ⟨j73,fe_of dy ea ue⟩
theorem hold_yS {R0:List UInt8} {β:Ren} {done:List Int} (hR:R0.length≤2000000) (dy:DY R0 done β) (o:DO done β):lit_yS.Holds (GY R0 done KO OS (OutIs done) β) β:=by
 unfold lit_yS
 have hβ:=dy.pu.p.n.1
 have ix:=dy.ix.2; have co:=dy.co
 refine (call_of opY hβ (by kernel_rfl) (by kernel_rfl) ?_)
 ·intro γ0 hl0 hA hr0 hid0 hI
  clear hA
  simp only [DD] at hI
  obtain ⟨i74,i17,i4,i3,i46,i44,i9,i10,i7,i6,i2,i8,i76,i75,i1,i11,i19,i72,i18,i16,i12,i0,i73⟩:=hI
  have ea:AlW β γ0:=⟨i17,i18,i3,i4,i6,i7,i8,i9,i10,Bool.eq_iff_iff.2 i11,i19,i75,i76⟩
  have hL0:(GY R0 done KO OS (OutIs done) β).CL 17 γ0:=ea.pu dy.pu (dy.pu.p.n.of i73 hl0)
  refine ⟨hL0,(callo_cons ?_ (callo_cons ?_ callo_nil))⟩
  ·intro β1 hq1 hO1
   obtain ⟨hn1,ut⟩:=hO1
   have dz:=dy_cache dy hR ea i12 ut
   have zl:=dz_lt dz
   have ul:=ut.le
   have zb:=dz.pu.buf
   have hb1:=app_len hβ hn1.1
   simp only [Nat.reduceAdd] at hb1
   refine (need_o hb1 ?_ (need_o hb1 ?_ (fork_of (leaf_o [] hb1 ?_) (call_of [] hb1 (by kernel_rfl) (by kernel_rfl) ?_))))
   ·intro hA; clear hA; simp only [DD,aA hβ,Nat.reduceLT,Nat.reduceLeDiff,Nat.reduceSub]; omega
   ·intro hA; simp only [DD,aA hβ,Nat.reduceLT,Nat.reduceLeDiff,Nat.reduceSub] at hA ⊢; omega
   ·intro γ1 hl1 hA hr1 hid1 hI
    simp only [DD,aA hβ,Nat.reduceLT,Nat.reduceLeDiff,Nat.reduceSub] at hA
    obtain ⟨b0,b1,b2⟩:=hA
    simp only [DD,aA hβ,Nat.reduceLT,Nat.reduceLeDiff,Nat.reduceSub] at hI
    obtain ⟨j82,j81,j80,j79,j83,j73⟩:=hI
    exact ⟨j73,dz_end dz (by omega) (by omega) (by unfold bb; assumption),by have oi:=o.is; unfold OutIs at *; rw [j80,j82]; exact oi⟩
   ·intro γ1 hl1 hA hr1 hid1 hI
    simp only [DD,aA hβ,Nat.reduceLT,Nat.reduceLeDiff,Nat.reduceSub] at hA
    obtain ⟨b0,b1,b2⟩:=hA
    simp only [DD,aA hβ,Nat.reduceLT,Nat.reduceLeDiff,Nat.reduceSub] at hI
    obtain ⟨j82,j74,j3,j78,j77,j43,j42,j41,j40,j8,j76,j75,j1,j35,j34,j33,j31,j81,j80,j79,j0,j73⟩:=hI
    have hn2:Ln γ1:=dy.pu.p.n.of j73 hl1
    have hb0:bb β1≠0:=by unfold bb; assumption
    have kp:KP γ1:=dz_kp dz hn2 (by omega) (by omega) hb0 j3 j75 j76 j8 (by rw [j77]; exact ix) (by rw [j78,j77]; exact co)
    have hL1:(GY R0 done KO OS (OutIs done) β).CL 20 γ1:=⟨kp,do_ko dz o j80 j81 j82⟩
    refine ⟨hL1,(callo_cons ?_ callo_nil)⟩
    ·intro β2 hq2 hO2
     obtain ⟨hn3,q⟩:=hO2
     have hb2:=app_len hb1 hn3.1
     simp only [Nat.reduceAdd] at hb2
     refine (leaf_o [] hb2 ?_)
     ·intro γ2 hl2 hA hr2 hid2 hI
      simp only [DD,aA hβ,aA hb1,Nat.reduceLT,Nat.reduceLeDiff,Nat.reduceSub] at hA
      obtain ⟨c0,c1,c2⟩:=hA
      simp only [DD,aA hβ,aA hb1,Nat.reduceLT,Nat.reduceLeDiff,Nat.reduceSub] at hI
      obtain ⟨k82,k74,k17,k4,k3,k78,k77,k9,k10,k7,k6,k2,k39,k8,k76,k75,k1,k11,k19,k72,k18,k16,k81,k80,k79,k0,k83,k73⟩:=hI
      exact ⟨k73,dz_next dz (by omega) (by omega) hb0 j3 j76 j8 (by rw [j77]; exact ix) (by rw [j78,j77]; exact co) q (by unfold OS; rw [j80,j82]; exact o.out) (dy.pu.p.n.of k73 hl2) k3 k4 k6 k7 (Bool.eq_iff_iff.2 k11) (k17.trans (i17.symm.trans ut.s.l17.symm)) (k18.trans (i18.symm.trans ut.s.i18.symm)) k19 k9 k10 k75 k76 k8 k77 k78 k80 k81 k82⟩
  ·intro β1 hq1 hO1
   obtain ⟨hn1,ue⟩:=hO1
   have hb1:=app_len hβ hn1.1
   simp only [Nat.reduceAdd] at hb1
   refine (leaf_gen [] hb1 (by kernel_rfl) (by kernel_rfl) ?_)
   ·intro δ1 γ1 hl1 hA hr1 hid1 hI
    clear hA
    simp only [DD,aA hβ,aL hb1,Nat.reduceLT,Nat.reduceLeDiff,Nat.reduceSub] at hI
    obtain ⟨j83,j73⟩:=hI
    exact ⟨j73,fe_of dy ea ue⟩
set_option maxRecDepth 100000
abbrev x3a0:List TB:=[(.lt (.var 8) (.var 12))]
abbrev x3s0:SgT:=[(0,.blk 0),(73,.blk 73)]
abbrev x3s1:SgT:=(72,.itm (.var 72))::(18,.itm (.var 18))::(16,.blk 16)::(ids ([32]++dn 30 11)++((12,.itm (.var 12))::x3s0))
abbrev x3s2:SgT:=(74,.blk 74)::(17,.ltm (.var 17))::(4,.ltm (.var 4))::(3,.ltm (.var 3))::(ids (dn 71 6++dn 64 21)++((9,.itm (.var 9))::(10,.itm (.var 10))::(7,.itm (.var 7))::(6,.itm (.var 6))::(2,.blk 2)::(39,.idn)::(8,.itm (.var 8))::(76,.itm (.var 76))::(75,.itm (.var 75))::(1,.blk 1)::(11,.btm (.var 11))::(19,.itm (.var 19))::x3s1))
abbrev x3s3:SgT:=(74,.blk 74)::(17,.ltm (.var 17))::(4,.ltm (.var 94))::(3,.ltm (.var 93))::(ids (dn 71 6++dn 64 21)++((9,.itm (.var 99))::(10,.itm (.var 100))::(7,.itm (.var 97))::(6,.itm (.var 96))::(2,.blk 2)::(39,.idn)::(8,.itm (.var 98))::(76,.itm (.var 166))::(75,.itm (.var 165))::(1,.blk 1)::(11,.btm (.var 101))::(19,.itm (.var 109))::x3s1))
noncomputable def lit_c31:Tre:=(.fork (.call 42 90 90 (rgs spU.n spU.tin) (SgT.enc x3s2) (List.map TB.enc x3a0) (.cons (rgs 0 tUo++rgV (.bool true)) (lf 0 90 180 (rgs EC31.n tUo) x3s3 x3a0)
 (.cons (rgs 0 tEw++rgV (.bool false)) (lf 1 90 180 (rgs EC31.n tEw) ((74,.blk 74)::x3s0) x3a0)
 .nil)))
 (lf 0 90 90 (rgs EC31.n tUo) x3s2 [(.not (.lt (.var 8) (.var 12)))]))
theorem lit_c31_eq:tre31=lit_c31:=by kernel_rfl
noncomputable def lit_c17:Tre:=(.call 31 90 90 (rgs (spC 31).n (spC 31).tin) (SgT.enc x3s2) (List.map TB.enc []) (.cons (rgs 0 tUo++rgV (.bool true)) (lf 0 90 180 (rgs EC17.n tUo) x3s3 [])
 (.cons (rgs 0 tEw++rgV (.bool false)) (lf 1 90 180 (rgs EC17.n tEw) ((74,.blk 74)::x3s0) [])
 .nil)))
theorem lit_c17_eq:tre17=lit_c17:=by kernel_rfl
set_option maxRecDepth 100000
theorem hold_c31 {β:Ren} (pu:PU β) (r:RU β):lit_c31.Holds (GC β) β:=by
 unfold lit_c31
 have hβ:=pu.p.n.1
 refine (fork_of (call_of opX hβ (by kernel_rfl) (by kernel_rfl) ?_) (leaf_o opX hβ ?_))
 ·intro γ0 hl0 hA hr0 hid0 hI
  simp only [DD] at hA
  have a0:=hA
  simp only [DD] at hI
  obtain ⟨i74,i17,i4,i3,i9,i10,i7,i6,i2,i8,i76,i75,i1,i11,i19,i72,i18,i16,i12,i0,i73⟩:=hI
  have ea:Al β γ0:=⟨⟨i0,i1,i2,i16,i73,i74,i17,i18,i72,hid0⟩,i3,i4,i6,i7,i8,i9,i10,Bool.eq_iff_iff.2 i11,i19,i75,i76⟩
  have hL0:(GC β).CL 42 γ0:=ea.pu pu (pu.p.n.of i73 hl0)
  refine ⟨hL0,(callo_cons ?_ (callo_cons ?_ callo_nil))⟩
  ·intro β1 hq1 hO1
   obtain ⟨hn1,ut⟩:=hO1
   have hb1:=app_len hβ hn1.1
   simp only [Nat.reduceAdd] at hb1
   refine (leaf_o opX hb1 ?_)
   ·intro γ1 hl1 hA hr1 hid1 hI
    simp only [DD,aA hβ,Nat.reduceLT,Nat.reduceLeDiff,Nat.reduceSub] at hA
    have b0:=hA
    simp only [DD,aA hβ,Nat.reduceLT,Nat.reduceLeDiff,Nat.reduceSub] at hI
    obtain ⟨j74,j17,j4,j3,j9,j10,j7,j6,j2,j8,j76,j75,j1,j11,j19,j72,j18,j16,j12,j0,j73⟩:=hI
    have us1:Us β γ1:=⟨j0,j1,j2,j16,j73,j74,j17,j18,j72,hid_l hβ (by decide) hid1⟩
    have s1:=ut.s
    have eb:Al β1 γ1:=⟨⟨by rw [j0,s1.h0,i0],by rw [j1,s1.h1,i1],by rw [j2,s1.h2,i2],by rw [j16,s1.h16,i16],by rw [j73,s1.h73,i73],by rw [j74,s1.h74,i74],by rw [j17,s1.l17,i17],by rw [j18,s1.i18,i18],by rw [j72,s1.i72,i72],fun x hx=>by rw [us1.op x hx,s1.op x hx,ea.s.op x hx]⟩,j3,j4,j6,j7,j8,j9,j10,Bool.eq_iff_iff.2 j11,j19,j75,j76⟩
    exact ut_cong ut ea i12 eb (hn1.of eb.s.h73 hl1)
  ·intro β1 hq1 hO1
   obtain ⟨hn1,ue⟩:=hO1
   have hb1:=app_len hβ hn1.1
   simp only [Nat.reduceAdd] at hb1
   refine (leaf_o [] hb1 ?_)
   ·intro γ1 hl1 hA hr1 hid1 hI
    simp only [DD,aA hβ,Nat.reduceLT,Nat.reduceLeDiff,Nat.reduceSub] at hA
    have b0:=hA
    simp only [DD,aA hβ,Nat.reduceLT,Nat.reduceLeDiff,Nat.reduceSub] at hI
    obtain ⟨j74,j0,j73⟩:=hI
    exact ue_cong ue ea (j0.trans (i0.symm.trans ue.1.1.symm)) (j73.trans (i73.symm.trans ue.1.2.symm))
 ·intro γ0 hl0 hA hr0 hid0 hI
  simp only [DD] at hA
  have a0:=hA
  simp only [DD] at hI
  obtain ⟨i74,i17,i4,i3,i9,i10,i7,i6,i2,i8,i76,i75,i1,i11,i19,i72,i18,i16,i12,i0,i73⟩:=hI
  have ea:Al β γ0:=⟨⟨i0,i1,i2,i16,i73,i74,i17,i18,i72,hid0⟩,i3,i4,i6,i7,i8,i9,i10,Bool.eq_iff_iff.2 i11,i19,i75,i76⟩
  exact ut_same pu r (pu.p.n.of i73 hl0) ea (by omega)
theorem hold_c17 {β:Ren} (pu:PU β) (r:RU β):lit_c17.Holds (GC β) β:=by
 unfold lit_c17
 have hβ:=pu.p.n.1
 refine (call_of opX hβ (by kernel_rfl) (by kernel_rfl) ?_)
 ·intro γ0 hl0 hA hr0 hid0 hI
  clear hA
  simp only [DD] at hI
  obtain ⟨i74,i17,i4,i3,i9,i10,i7,i6,i2,i8,i76,i75,i1,i11,i19,i72,i18,i16,i12,i0,i73⟩:=hI
  have ea:Al β γ0:=⟨⟨i0,i1,i2,i16,i73,i74,i17,i18,i72,hid0⟩,i3,i4,i6,i7,i8,i9,i10,Bool.eq_iff_iff.2 i11,i19,i75,i76⟩
  have hL0:(GC β).CL 31 γ0:=ea.pu pu (pu.p.n.of i73 hl0)
  refine ⟨hL0,(callo_cons ?_ (callo_cons ?_ callo_nil))⟩
  ·intro β1 hq1 hO1
   obtain ⟨hn1,ut⟩:=hO1
   have hb1:=app_len hβ hn1.1
   simp only [Nat.reduceAdd] at hb1
   refine (leaf_o opX hb1 ?_)
   ·intro γ1 hl1 hA hr1 hid1 hI
    clear hA
    simp only [DD,aA hβ,Nat.reduceLT,Nat.reduceLeDiff,Nat.reduceSub] at hI
    obtain ⟨j74,j17,j4,j3,j9,j10,j7,j6,j2,j8,j76,j75,j1,j11,j19,j72,j18,j16,j12,j0,j73⟩:=hI
    have us1:Us β γ1:=⟨j0,j1,j2,j16,j73,j74,j17,j18,j72,hid_l hβ (by decide) hid1⟩
    have s1:=ut.s
    have eb:Al β1 γ1:=⟨⟨by rw [j0,s1.h0,i0],by rw [j1,s1.h1,i1],by rw [j2,s1.h2,i2],by rw [j16,s1.h16,i16],by rw [j73,s1.h73,i73],by rw [j74,s1.h74,i74],by rw [j17,s1.l17,i17],by rw [j18,s1.i18,i18],by rw [j72,s1.i72,i72],fun x hx=>by rw [us1.op x hx,s1.op x hx,ea.s.op x hx]⟩,j3,j4,j6,j7,j8,j9,j10,Bool.eq_iff_iff.2 j11,j19,j75,j76⟩
    exact ut_cong ut ea i12 eb (hn1.of eb.s.h73 hl1)
  ·intro β1 hq1 hO1
   obtain ⟨hn1,ue⟩:=hO1
   have hb1:=app_len hβ hn1.1
   simp only [Nat.reduceAdd] at hb1
   refine (leaf_o [] hb1 ?_)
   ·intro γ1 hl1 hA hr1 hid1 hI
    clear hA
    simp only [DD,aA hβ,Nat.reduceLT,Nat.reduceLeDiff,Nat.reduceSub] at hI
    obtain ⟨j74,j0,j73⟩:=hI
    exact ue_cong ue ea (j0.trans (i0.symm.trans ue.1.1.symm)) (j73.trans (i73.symm.trans ue.1.2.symm))
theorem law31 {G:Goal} (hCL:∀ β,G.CL 31 β→PU β) (hCO:∀ β β1,G.CL 31 β→PU β→Ln β1→UT β β1→G.CO 31 0 β β1) (hCE:∀ β β1,G.CL 31 β→PU β→Ln β1→UE β β1→G.CO 31 1 β β1):CLaw Tryd.prog G 31 (spC 31):=by
 refine claw_of (E:=EC31) (Gt:=GC) (fn:=fnAt 31) (c:=body 31) (s:=spC 31) noNum callOkG follows (by kernel_rfl) (by kernel_rfl) (by kernel_rfl) (by kernel_rfl) (by kernel_rfl) (by kernel_rfl) ?_ ?_ ?_ (fun β w0 r s c h=>by rcases h with h | h <;> cases h) (fun β j i β1 β2 h=>h.elim) (fun β r s h=>by rcases h with h | h <;> cases h) ?_
 ·intro e j tp h
  rcases h with h | h
  ·cases e with
   | normal=>cases h; exact ⟨(fun id h=>by cases h),.bool true,by kernel_rfl,_,rfl⟩
   | ret=>cases h; exact ⟨(fun id h=>by cases h),.bool true,by kernel_rfl,_,rfl⟩
   | exit id=>cases h
  ·cases e with
   | normal=>cases h
   | ret=>cases h; exact ⟨(fun id h=>by cases h),.bool false,by kernel_rfl,_,rfl⟩
   | exit id=>cases h
 ·intro β hcl hlen hr
  have pu:=hCL β hcl
  refine ⟨pu.p.n.2,[],2000,Facts.nil _,?_⟩
  show (tre31).Holds (GC β) β
  rw [lit_c31_eq]
  exact hold_c31 pu (ru_of hr)
 ·intro β j v tp sm β1 hcl hout hlen _ hJ
  have pu:=hCL β hcl
  exact out_smU (G:=G) (j:=31) pu hout hlen hJ (fun hn h=>hCO β β1 hcl pu hn h) (fun hn h=>hCE β β1 hcl pu hn h)
 ·intro β f s hs
  have hs:ct42 f=some s:=hs
  unfold ct42 at hs
  split at hs
  ·rename_i hf; subst hf; cases hs
   exact law42 (fun _ h=>h) (fun _ _ _ _ a b=>⟨a,b⟩) (fun _ _ _ _ a b=>⟨a,b⟩)
  ·cases hs
theorem law17 {G:Goal} (hCL:∀ β,G.CL 17 β→PU β) (hCO:∀ β β1,G.CL 17 β→PU β→Ln β1→UT β β1→G.CO 17 0 β β1) (hCE:∀ β β1,G.CL 17 β→PU β→Ln β1→UE β β1→G.CO 17 1 β β1):CLaw Tryd.prog G 17 (spC 17):=by
 refine claw_of (E:=EC17) (Gt:=GC) (fn:=fnAt 17) (c:=body 17) (s:=spC 17) noNum callOkG follows (by kernel_rfl) (by kernel_rfl) (by kernel_rfl) (by kernel_rfl) (by kernel_rfl) (by kernel_rfl) ?_ ?_ ?_ (fun β w0 r s c h=>by rcases h with h | h <;> cases h) (fun β j i β1 β2 h=>h.elim) (fun β r s h=>by rcases h with h | h <;> cases h) ?_
 ·intro e j tp h
  rcases h with h | h
  ·cases e with
   | normal=>cases h; exact ⟨(fun id h=>by cases h),.bool true,by kernel_rfl,_,rfl⟩
   | ret=>cases h; exact ⟨(fun id h=>by cases h),.bool true,by kernel_rfl,_,rfl⟩
   | exit id=>cases h
  ·cases e with
   | normal=>cases h
   | ret=>cases h; exact ⟨(fun id h=>by cases h),.bool false,by kernel_rfl,_,rfl⟩
   | exit id=>cases h
 ·intro β hcl hlen hr
  have pu:=hCL β hcl
  refine ⟨pu.p.n.2,[],2000,Facts.nil _,?_⟩
  show (tre17).Holds (GC β) β
  rw [lit_c17_eq]
  exact hold_c17 pu (ru_of hr)
 ·intro β j v tp sm β1 hcl hout hlen _ hJ
  have pu:=hCL β hcl
  exact out_smU (G:=G) (j:=17) pu hout hlen hJ (fun hn h=>hCO β β1 hcl pu hn h) (fun hn h=>hCE β β1 hcl pu hn h)
 ·intro β f s hs
  have hs:ct31 f=some s:=hs
  unfold ct31 at hs
  split at hs
  ·rename_i hf; subst hf; cases hs
   exact law31 (fun _ h=>h) (fun _ _ _ _ a b=>⟨a,b⟩) (fun _ _ _ _ a b=>⟨a,b⟩)
  ·cases hs
end U
open Go Go.SM Go.Proofs
namespace Go.SM
theorem wp_of_tre' {E:Env} {w0:W0} {G:Goal} {Q:Exit→Act→World→Prop} {k:Nat} {c:Code} {A:List Value} {F:Tr Value} {H:AS} {β:Ren} {a:Act} {w:World}
    (hN:NoNum E.P) (hC:CallOk E.P (E.gl []) E.call) (hm:E.P.follows .mixedOrders=true) (hh:(tre E k c [] A F H).Holds G β) (hg:GlobOk E.g β) (hH:HR w0 β H w) (hA:Facts β A) (hF:FS β E.n F a)
    (hJ:∀ (j:Nat) (e:AExit) (tp:Tpl) (β1:Ren) (a:Act) (w:World),(E.ft e=some (j,tp)∨E.ft2 e=some (j,tp))→HR w0 β1 tp.heap w→FS β1 E.n tp.frame a→G.J j β1→Q e.conc a w)
    (hW:∀ (r:Nat) (s:LSpec) (c:Code),E.lt r=some s∨E.bt r=some s→G.W s.j c→LoopOk E w0 G s c)
    (hO:∀ j i β1 β2,G.O j i β1 β2→GlobOk E.g β2)
    (hO2:∀ (r:Nat) (s:LSpec),E.lt r=some s∨E.bt r=some s→∀ (i:Nat) (e:AExit) (tp:Tpl) (B:List Value),s.outs[i]?=some (e,tp,B)→∀ (β1 β2:Ren),G.O s.j i β1 β2→Facts β2 B)
    (hCT:∀ f s,E.ct f=some s→CLaw E.P G f s):c.wp E.P Q a w :=
 (tre_sound hN hC hm hJ hW hO hO2 hCT k).1 c [] A F H β [] a w hh hg (by rw [List.append_nil]; exact hH) (by rw [List.append_nil]; exact hA) (by rw [List.append_nil]; exact hF)
end Go.SM
namespace U
set_option maxRecDepth 100000
theorem ct17N {G:Goal} (h17:∀ β,G.CL 17 β→PU β) (c0:∀ β β1,G.CL 17 β→Ln β1→UT β β1→G.CO 17 0 β β1) (c1:∀ β β1,G.CL 17 β→Ln β1→UE β β1→G.CO 17 1 β β1)
    (h20:∀ β,G.CL 20 β→KP β) (d0:∀ β β1,G.CL 20 β→Ln β1→KQ β β1 []→G.CO 20 0 β β1):∀ f s,ct17 (spKN 20) f=some s→CLaw Tryd.prog G f s:=by
 intro f s hs
 unfold ct17 at hs
 split at hs
 ·rename_i hf; subst hf; cases hs
  exact law17 h17 (fun β β1 a _ b c=>c0 β β1 a b c) (fun β β1 a _ b c=>c1 β β1 a b c)
 ·split at hs
  ·rename_i hf; subst hf; cases hs
   exact law20N h20 d0
  ·cases hs
theorem ct17S {G:Goal} (h17:∀ β,G.CL 17 β→PU β) (c0:∀ β β1,G.CL 17 β→Ln β1→UT β β1→G.CO 17 0 β β1) (c1:∀ β β1,G.CL 17 β→Ln β1→UE β β1→G.CO 17 1 β β1)
    (h20:∀ β,G.CL 20 β→KP β∧KO β) (d0:∀ β β1,G.CL 20 β→Ln β1→KQ β β1 (OS β)→G.CO 20 0 β β1):∀ f s,ct17 (spKS 20) f=some s→CLaw Tryd.prog G f s:=by
 intro f s hs
 unfold ct17 at hs
 split at hs
 ·rename_i hf; subst hf; cases hs
  exact law17 h17 (fun β β1 a _ b c=>c0 β β1 a b c) (fun β β1 a _ b c=>c1 β β1 a b c)
 ·split at hs
  ·rename_i hf; subst hf; cases hs
   exact law20S h20 d0
  ·cases hs
theorem dy_len {R0:List UInt8} {done:List Int} {β:Ren} (d:DY R0 done β):done.length≤2000000:=by
 rcases d.st with ⟨_,h,_⟩ | ⟨_,R1,us,z,_,h2,h3,_⟩
 ·rw [h]; simp
 ·have:=h3.len; simp at this; omega
theorem loopY_law {w0:W0} {Q:Exit→Act→World→Prop} {R0:List UInt8} (hR:R0.length≤2000000):∀ (m:Nat) (done:List Int) (β:Ren) (a:Act) (w:World),2000000 - done.length≤m→DY R0 done β→DO done β→HR w0 β tY.heap w→FS β (ntmps 9) tY.frame a →
    (∀ β1 a' w',Ln β1→FE R0→HR w0 β1 tYe.heap w'→FS β1 (ntmps 9) tYe.frame a'→Q .ret a' w') →
    (∀ β1 a' w' done',Ln β1→FSu R0 done'→done'≠[]→OutIs done' β1→HR w0 β1 tYs.heap w'→FS β1 (ntmps 9) tYs.frame a'→Q .ret a' w')→wpL Tryd.prog loop9 Q a w:=by
 intro m
 induction m with
 | zero =>
  intro done β a w hm d o hH hF h1 h2
  refine wpL_round (wp_of_tre' (E:=EYY) (G:=GY R0 done KO OS (OutIs done) β) noNum callOkG follows (by show (treYY []).Holds _ _; rw [lit_yS_eq]; exact hold_yS hR d o) d.pu.p.n.2 hH (Facts.nil _) hF ?_ (fun r s c h=>by rcases h with h | h <;> cases h) (fun j i β1 β2 h=>h.elim) (fun r s h=>by rcases h with h | h <;> cases h) (ct17S (fun _ h=>h) (fun _ _ _ a b=>⟨a,b⟩) (fun _ _ _ a b=>⟨a,b⟩) (fun _ h=>h) (fun _ _ _ a b=>⟨a,b⟩)))
  intro j e tp β1 a' w' hft q1 q2 q3
  have hl:β1.length=tp.m:=by rw [q1.len]; exact heapOf_size _ _
  rcases hft with hft | hft
  ·cases e with
   | normal=>cases hft; exfalso; obtain ⟨_,v,d1,_⟩:=q3; have:=dy_len d1; simp at this; omega
   | ret=>cases hft; exact h1 β1 a' w' (d.pu.p.n.of q3.1 hl) q3.2 q1 q2
   | exit id=>cases hft
  ·cases e with
   | normal=>cases hft
   | ret=>cases hft; exact h2 β1 a' w' done (d.pu.p.n.of q3.1 hl) q3.2.1 o.ne q3.2.2 q1 q2
   | exit id=>cases hft
 | succ m ih =>
  intro done β a w hm d o hH hF h1 h2
  refine wpL_round (wp_of_tre' (E:=EYY) (G:=GY R0 done KO OS (OutIs done) β) noNum callOkG follows (by show (treYY []).Holds _ _; rw [lit_yS_eq]; exact hold_yS hR d o) d.pu.p.n.2 hH (Facts.nil _) hF ?_ (fun r s c h=>by rcases h with h | h <;> cases h) (fun j i β1 β2 h=>h.elim) (fun r s h=>by rcases h with h | h <;> cases h) (ct17S (fun _ h=>h) (fun _ _ _ a b=>⟨a,b⟩) (fun _ _ _ a b=>⟨a,b⟩) (fun _ h=>h) (fun _ _ _ a b=>⟨a,b⟩)))
  intro j e tp β1 a' w' hft q1 q2 q3
  have hl:β1.length=tp.m:=by rw [q1.len]; exact heapOf_size _ _
  rcases hft with hft | hft
  ·cases e with
   | normal =>
    cases hft
    obtain ⟨_,v,d1,o1⟩:=q3
    exact ih (done++[v]) β1 a' w' (by simp; omega) d1 o1 q1 q2 h1 h2
   | ret=>cases hft; exact h1 β1 a' w' (d.pu.p.n.of q3.1 hl) q3.2 q1 q2
   | exit id=>cases hft
  ·cases e with
   | normal=>cases hft
   | ret=>cases hft; exact h2 β1 a' w' done (d.pu.p.n.of q3.1 hl) q3.2.1 o.ne q3.2.2 q1 q2
   | exit id=>cases hft
theorem loopN_law {w0:W0} {Q:Exit→Act→World→Prop} {R0:List UInt8} (hR:R0.length≤2000000) (β:Ren) (a:Act) (w:World) (d:DY R0 [] β) (hH:HR w0 β tYN.heap w) (hF:FS β (ntmps 9) tYN.frame a)
    (h1:∀ β1 a' w',Ln β1→FE R0→HR w0 β1 tYe.heap w'→FS β1 (ntmps 9) tYe.frame a'→Q .ret a' w')
    (h2:∀ β1 a' w' done',Ln β1→FSu R0 done'→done'≠[]→OutIs done' β1→HR w0 β1 tYs.heap w'→FS β1 (ntmps 9) tYs.frame a'→Q .ret a' w')
    (h3:∀ β1 a' w',Ln β1→FSu R0 []→HR w0 β1 tYsN.heap w'→FS β1 (ntmps 9) tYsN.frame a'→Q .ret a' w'):wpL Tryd.prog loop9 Q a w:=by
 refine wpL_round (wp_of_tre' (E:=EYN) (G:=GY R0 [] (fun _=>True) ON (fun _=>True) β) noNum callOkG follows (by show (treYN []).Holds _ _; rw [lit_yN_eq]; exact hold_yN hR d) d.pu.p.n.2 hH (Facts.nil _) hF ?_ (fun r s c h=>by rcases h with h | h <;> cases h) (fun j i β1 β2 h=>h.elim) (fun r s h=>by rcases h with h | h <;> cases h) (ct17N (fun _ h=>h) (fun _ _ _ a b=>⟨a,b⟩) (fun _ _ _ a b=>⟨a,b⟩) (fun _ h=>h.1) (fun _ _ _ a b=>⟨a,b⟩)))
 intro j e tp β1 a' w' hft q1 q2 q3
 have hl:β1.length=tp.m:=by rw [q1.len]; exact heapOf_size _ _
 rcases hft with hft | hft
 ·cases e with
  | normal =>
   cases hft
   obtain ⟨_,v,d1,o1⟩:=q3
   exact loopY_law hR _ ([]++[v]) β1 a' w' (Nat.le_refl _) d1 o1 q1 q2 h1 h2
  | ret=>cases hft; exact h1 β1 a' w' (d.pu.p.n.of q3.1 hl) q3.2 q1 q2
  | exit id=>cases hft
 ·cases e with
  | normal=>cases hft
  | ret=>cases hft; exact h3 β1 a' w' (d.pu.p.n.of q3.1 hl) q3.2.1 q1 q2
  | exit id=>cases hft
def anyP:Blk:={ cells:=List.replicate 52 (.chan none),elem:=76,ro:=false,live:=true }
def txtB:Blk:={ cells:=[],elem:=5,ro:=true,live:=true,seq:=some (x 17) }
def eofB:Blk:={ cells:=[.iface 89 (.pointer (some ⟨74,0,none⟩))],elem:=86,ro:=true,live:=true }
def bufB (i:Nat):Blk:={ cells:=[],elem:=5,ro:=false,live:=true,seq:=some (x i) }
def zcell (i:Nat):Value :=
 if [1,7].contains i then .string .empty else if i=11 then .nilFunc else if i=12 then .nilIface else if [15,34,35,40,43].contains i then .bool false
 else if [13,16,20,27,28,29,30,31,32,37,42,44,47,48,49,50].contains i then .slice none 0 0 else if i=45 then .chan none else if i=51 then .pointer none else Z 0
def cellsZ (upd:List (Nat × Value)):List Value:=(List.range 52).map fun i=>match upd.find? fun p=>Nat.beq p.1 i with
 | some p=>p.2
 | none=>zcell i
def updZ:List (Nat × Value):=[(16,sL 1 (Z 0) (Z 0) (Z 1536)),(20,sL 2 (Z 0) (Z 0) (Z 512))]
def HZ (upd:List (Nat × Value)):List (Nat × Blk):=[(0,{ cells:=cellsZ (upd++updZ),elem:=76,ro:=false,live:=true }),(1,bufB 3),(2,bufB 4),(73,eofB)]
def t40:Tpl:={ m:=90,F:=[(0,pt 0)],H:=[(0,anyP),(73,eofB)],G:=[73] }
def t40o:Tpl:={ m:=90,F:=[(0,pt 0),(2,.bool true)],H:=HZ [],G:=[73] }
def t28o:Tpl:={ m:=90,F:=[(2,pt 0)],H:=HZ [],G:=[73] }
def sm40:List (Nat × Nat):=[(0,0),(73,0),(74,0)]
def sp40:CSpec:={ j:=40,n:=1,tin:=t40,outs:=[(.bool true,t40o,sm40)] }
def sp28:CSpec:={ j:=28,n:=1,tin:=t40,outs:=[(.tuple #[],t28o,sm40)] }
def t14:Tpl:={ m:=90,F:=[(0,sL 16 (Z 0) (x 18) (x 72))],H:=[(16,txtB),(73,eofB)],G:=[73] }
def t14o:Tpl:={ m:=90,F:=[(2,pt 0)],H:=HZ [(11,.func (.func 47) #[] #[]),(13,sL 16 (Z 0) (x 18) (x 72))]++[(16,txtB)],G:=[73] }
def sp14:CSpec:={ j:=14,n:=1,tin:=t14,outs:=[(pt 0,t14o,[(16,0),(17,2),(18,1),(72,1),(73,0),(74,0)])] }
def ft40:AExit→Option (Nat × Tpl):=fun e=>match e with
 | .normal=>some (0,t40o)
 | .ret=>some (0,t40o)
 | _=>none
def ft28:AExit→Option (Nat × Tpl):=fun e=>match e with
 | .normal=>some (0,t28o)
 | .ret=>some (0,t28o)
 | _=>none
def ft14:AExit→Option (Nat × Tpl):=fun e=>match e with
 | .normal=>some (0,t14o)
 | .ret=>some (0,t14o)
 | _=>none
def ctI (g:Nat) (s:CSpec):FuncId→Option CSpec:=fun f=>if f=g then some s else none
noncomputable def E40:Env:={ EG 40 (fun _=>none) (fun _=>false) (fun _=>none) (fun _=>none) ft40 (fun _=>none) with al:=fun n=>if n=1 then some [0,2,1,3,4,5] else none }
noncomputable def E28:Env:=EG 28 (ctI 40 sp40) (fun n=>Nat.beq n 0) (fun _=>none) (fun _=>none) ft28 (fun _=>none)
noncomputable def E14:Env:=EG 14 (ctI 28 sp28) (fun n=>Nat.beq n 2) (fun _=>none) (fun _=>none) ft14 (fun _=>none)
noncomputable def tre40:Tre:=tre E40 2000 (body 40) [] [] t40.frame t40.heap
noncomputable def tre28:Tre:=tre E28 2000 (body 28) [] [] t40.frame t40.heap
noncomputable def tre14:Tre:=tre E14 2000 (body 14) [] [] t14.frame t14.heap
def tDe:Tpl:={ m:=90,F:=[(0,sL 16 (Z 0) (x 18) (x 72)),(1,Z 0)],H:=[(16,txtB),(73,eofB)],G:=[73] }
def sp9L (A:Bool):LSpec:={ j:=4,tin:=tYN,outs:=if A then [(.ret,tYsN,[])] else [(.ret,tYe,[]),(.ret,tYs,[])] }
def lt9 (A:Bool):Nat→Option LSpec:=fun n=>if n=4 then some (sp9L A) else none
def ft9A:AExit→Option (Nat × Tpl):=fun e=>match e with
 | .ret=>some (0,tYsN)
 | _=>none
def ft9B:AExit→Option (Nat × Tpl):=fun e=>match e with
 | .ret=>some (0,tYe)
 | _=>none
def ft9B2:AExit→Option (Nat × Tpl):=fun e=>match e with
 | .ret=>some (1,tYs)
 | _=>none
noncomputable def E9A:Env:=EG 9 (ctI 14 sp14) (fun n=>Nat.beq n 1) (fun _=>none) (lt9 true) ft9A (fun _=>none)
noncomputable def E9B:Env:=EG 9 (ctI 14 sp14) (fun n=>Nat.beq n 1) (fun _=>none) (lt9 false) ft9B ft9B2
noncomputable def tre9A:Tre:=tre E9A 2000 (body 9) [] [] tDe.frame tDe.heap
noncomputable def tre9B:Tre:=tre E9B 2000 (body 9) [] [] tDe.frame tDe.heap
end U
