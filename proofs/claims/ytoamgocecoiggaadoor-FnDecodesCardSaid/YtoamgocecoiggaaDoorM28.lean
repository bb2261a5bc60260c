-- the statement of this claim: see YtoamgocecoiggaaDoorRw
import Derived.Test.YtoamgocecoiggaaDoorM27
set_option linter.unusedVariables false
set_option linter.unusedSimpArgs false
open Go Go.SM Go.Proofs
namespace U
set_option maxRecDepth 100000
noncomputable def loopD:Code:=.loop loop48
abbrev s2a0:List TB:=[(.not (.var 11)),(.lt (.op .sub (.var 6) (.var 7)) (.lit 3))]
abbrev s2s0:SgT:=(72,.itm (.var 72))::(18,.itm (.var 18))::(16,.blk 16)::(ids ([32]++dn 30 11)++[(0,.blk 0),(73,.blk 73)])
abbrev s2s1:SgT:=(6,.itm (.var 6))::(2,.blk 2)::(ids (dn 39 4)++((11,.btm (.var 11))::(19,.itm (.var 19))::s2s0))
abbrev s2s2:SgT:=(7,.itm (.var 7))::s2s1
abbrev s2s3:SgT:=(74,.blk 74)::(17,.ltm (.var 17))::(4,.ltm (.var 4))::(ids (dn 71 6++dn 64 21)++((9,.itm (.var 9))::(10,.itm (.var 10))::s2s2))
noncomputable def lit_d1:Tre:=(.fork (.call 49 90 90 (rgs spR.n spR.tin) (SgT.enc ((74,.blk 74)::(17,.ltm (.var 17))::(4,.ltm (.var 4))::(ids (dn 71 6++dn 64 21)++((43,.val (.func (.yield 0) #[(.int .i64 0),(.map (some 9)),(.int .i64 0),(.int .i64 10000000)] #[]))::(42,.val (.func (.yield 0) #[(.int .i64 0),(.map (some 10)),(.int .i64 0),(.int .i64 3)] #[]))::s2s2)))) (List.map TB.enc s2a0) (.cons (rgs 0 tRo++rgV (.bool true)) (lf 0 90 180 (rgs ED1.n tD) ((74,.blk 74)::(17,.ltm (.var 17))::(4,.ltm (.var 94))::(ids (dn 71 6++dn 64 21)++((9,.itm (.var 9))::(10,.itm (.var 10))::(7,.itm (.var 97))::(6,.itm (.var 96))::(2,.blk 2)::(ids (dn 39 4)++((11,.btm (.var 101))::(19,.itm (.var 109))::s2s0))))) s2a0)
 .nil))
 (lf 1 90 90 (rgs ED1.n tD) s2s3 [(.not (.and (.not (.var 11)) (.lt (.op .sub (.var 6) (.var 7)) (.lit 3))))]))
theorem lit_d1_eq:treD1=lit_d1:=by kernel_rfl
abbrev s2a1:List TB:=[(.or (.lt (.op .sub (.var 6) (.var 7)) (.lit 2)) (.lt (.var 7) (.var 6)))]
abbrev s2a2:List TB:=(.or (.lt (.op .sub (.var 6) (.var 7)) (.lit 2)) (.lt (.var 7) (.len (.var 4))))::s2a1
abbrev s2a3:List TB:=(.or (.not (.and (.not (.lt (.op .sub (.var 6) (.var 7)) (.lit 2))) (.eq (.sel (.var 4) (.var 7)) (.lit 255)))) (.lt (.op .add (.var 7) (.lit 1)) (.var 6)))::s2a2
abbrev s2a4:List TB:=(.or (.not (.and (.not (.lt (.op .sub (.var 6) (.var 7)) (.lit 2))) (.eq (.sel (.var 4) (.var 7)) (.lit 255)))) (.lt (.op .add (.var 7) (.lit 1)) (.len (.var 4))))::s2a3
abbrev s2a5:List TB:=(.not (.lt (.op .sub (.var 6) (.var 7)) (.lit 2)))::(.eq (.sel (.var 4) (.var 7)) (.lit 255))::(.eq (.sel (.var 4) (.op .add (.var 7) (.lit 1))) (.lit 254))::s2a4
abbrev s2a6:List TB:=(.not (.lt (.lit 512) (.op .add (.var 7) (.lit 2))))::s2a5
abbrev s2a7:List TB:=(.not (.and (.and (.not (.lt (.op .sub (.var 6) (.var 7)) (.lit 2))) (.eq (.sel (.var 4) (.var 7)) (.lit 255))) (.eq (.sel (.var 4) (.op .add (.var 7) (.lit 1))) (.lit 254))))::s2a4
abbrev s2a8:List TB:=(.or (.not (.and (.not (.lt (.op .sub (.var 6) (.var 7)) (.lit 2))) (.eq (.sel (.var 4) (.var 7)) (.lit 254)))) (.lt (.op .add (.var 7) (.lit 1)) (.var 6)))::s2a7
abbrev s2a9:List TB:=(.or (.not (.and (.not (.lt (.op .sub (.var 6) (.var 7)) (.lit 2))) (.eq (.sel (.var 4) (.var 7)) (.lit 254)))) (.lt (.op .add (.var 7) (.lit 1)) (.len (.var 4))))::s2a8
abbrev s2a10:List TB:=(.not (.lt (.op .sub (.var 6) (.var 7)) (.lit 2)))::(.eq (.sel (.var 4) (.var 7)) (.lit 254))::(.eq (.sel (.var 4) (.op .add (.var 7) (.lit 1))) (.lit 255))::s2a9
abbrev s2a11:List TB:=(.not (.lt (.lit 512) (.op .add (.var 7) (.lit 2))))::s2a10
abbrev s2a12:List TB:=(.not (.and (.and (.not (.lt (.op .sub (.var 6) (.var 7)) (.lit 2))) (.eq (.sel (.var 4) (.var 7)) (.lit 254))) (.eq (.sel (.var 4) (.op .add (.var 7) (.lit 1))) (.lit 255))))::s2a9
abbrev s2a13:List TB:=(.or (.lt (.op .sub (.var 6) (.var 7)) (.lit 3)) (.lt (.var 7) (.var 6)))::s2a12
abbrev s2a14:List TB:=(.or (.lt (.op .sub (.var 6) (.var 7)) (.lit 3)) (.lt (.var 7) (.len (.var 4))))::s2a13
abbrev s2a15:List TB:=(.or (.not (.and (.not (.lt (.op .sub (.var 6) (.var 7)) (.lit 3))) (.eq (.sel (.var 4) (.var 7)) (.lit 239)))) (.lt (.op .add (.var 7) (.lit 1)) (.var 6)))::s2a14
abbrev s2a16:List TB:=(.or (.not (.and (.not (.lt (.op .sub (.var 6) (.var 7)) (.lit 3))) (.eq (.sel (.var 4) (.var 7)) (.lit 239)))) (.lt (.op .add (.var 7) (.lit 1)) (.len (.var 4))))::s2a15
abbrev s2a17:List TB:=(.or (.not (.and (.and (.not (.lt (.op .sub (.var 6) (.var 7)) (.lit 3))) (.eq (.sel (.var 4) (.var 7)) (.lit 239))) (.eq (.sel (.var 4) (.op .add (.var 7) (.lit 1))) (.lit 187)))) (.lt (.op .add (.var 7) (.lit 2)) (.var 6)))::s2a16
abbrev s2a18:List TB:=(.or (.not (.and (.and (.not (.lt (.op .sub (.var 6) (.var 7)) (.lit 3))) (.eq (.sel (.var 4) (.var 7)) (.lit 239))) (.eq (.sel (.var 4) (.op .add (.var 7) (.lit 1))) (.lit 187)))) (.lt (.op .add (.var 7) (.lit 2)) (.len (.var 4))))::s2a17
abbrev s2a19:List TB:=(.not (.lt (.op .sub (.var 6) (.var 7)) (.lit 3)))::(.eq (.sel (.var 4) (.var 7)) (.lit 239))::(.eq (.sel (.var 4) (.op .add (.var 7) (.lit 1))) (.lit 187))::(.eq (.sel (.var 4) (.op .add (.var 7) (.lit 2))) (.lit 191))::s2a18
abbrev s2a20:List TB:=(.not (.lt (.lit 512) (.op .add (.var 7) (.lit 3))))::s2a19
abbrev s2s4:SgT:=(7,.itm (.op .add (.var 7) (.lit 2)))::s2s1
noncomputable def lit_d2:Tre:=(.loop 1 90 90 (rgs ED.n sp48.tin) loopD (SgT.enc s2s3) (List.map TB.enc []) (.cons (rgs ED.n tD) (nd 90 [] ((.or (.lt (.op .sub (.var 6) (.var 7)) (.lit 2)) (.lt (.var 7) (.var 6))))
 (nd 90 s2a1 ((.or (.lt (.op .sub (.var 6) (.var 7)) (.lit 2)) (.lt (.var 7) (.len (.var 4)))))
 (nd 90 s2a2 ((.or (.not (.and (.not (.lt (.op .sub (.var 6) (.var 7)) (.lit 2))) (.eq (.sel (.var 4) (.var 7)) (.lit 255)))) (.lt (.op .add (.var 7) (.lit 1)) (.var 6))))
 (nd 90 s2a3 ((.or (.not (.and (.not (.lt (.op .sub (.var 6) (.var 7)) (.lit 2))) (.eq (.sel (.var 4) (.var 7)) (.lit 255)))) (.lt (.op .add (.var 7) (.lit 1)) (.len (.var 4)))))
 (.fork (nd 90 s2a5 ((.not (.lt (.lit 512) (.op .add (.var 7) (.lit 2)))))
 (nd 90 s2a6 ((.not (.lt (.lit 10000000) (.op .add (.var 9) (.lit 2)))))
 (lf 0 90 90 (rgs ED.n tDo) ((74,.blk 74)::(17,.ltm (.var 17))::(4,.ltm (.var 4))::(ids (dn 71 6++dn 64 21)++((9,.itm (.op .add (.var 9) (.lit 2)))::(10,.itm (.lit 2))::s2s4))) ((.not (.lt (.lit 10000000) (.op .add (.var 9) (.lit 2))))::s2a6))))
 (nd 90 s2a7 ((.or (.not (.and (.not (.lt (.op .sub (.var 6) (.var 7)) (.lit 2))) (.eq (.sel (.var 4) (.var 7)) (.lit 254)))) (.lt (.op .add (.var 7) (.lit 1)) (.var 6))))
 (nd 90 s2a8 ((.or (.not (.and (.not (.lt (.op .sub (.var 6) (.var 7)) (.lit 2))) (.eq (.sel (.var 4) (.var 7)) (.lit 254)))) (.lt (.op .add (.var 7) (.lit 1)) (.len (.var 4)))))
 (.fork (nd 90 s2a10 ((.not (.lt (.lit 512) (.op .add (.var 7) (.lit 2)))))
 (nd 90 s2a11 ((.not (.lt (.lit 10000000) (.op .add (.var 9) (.lit 2)))))
 (lf 0 90 90 (rgs ED.n tDo) ((74,.blk 74)::(17,.ltm (.var 17))::(4,.ltm (.var 4))::(ids (dn 71 6++dn 64 21)++((9,.itm (.op .add (.var 9) (.lit 2)))::(10,.itm (.lit 3))::s2s4))) ((.not (.lt (.lit 10000000) (.op .add (.var 9) (.lit 2))))::s2a11))))
 (nd 90 s2a12 ((.or (.lt (.op .sub (.var 6) (.var 7)) (.lit 3)) (.lt (.var 7) (.var 6))))
 (nd 90 s2a13 ((.or (.lt (.op .sub (.var 6) (.var 7)) (.lit 3)) (.lt (.var 7) (.len (.var 4)))))
 (nd 90 s2a14 ((.or (.not (.and (.not (.lt (.op .sub (.var 6) (.var 7)) (.lit 3))) (.eq (.sel (.var 4) (.var 7)) (.lit 239)))) (.lt (.op .add (.var 7) (.lit 1)) (.var 6))))
 (nd 90 s2a15 ((.or (.not (.and (.not (.lt (.op .sub (.var 6) (.var 7)) (.lit 3))) (.eq (.sel (.var 4) (.var 7)) (.lit 239)))) (.lt (.op .add (.var 7) (.lit 1)) (.len (.var 4)))))
 (nd 90 s2a16 ((.or (.not (.and (.and (.not (.lt (.op .sub (.var 6) (.var 7)) (.lit 3))) (.eq (.sel (.var 4) (.var 7)) (.lit 239))) (.eq (.sel (.var 4) (.op .add (.var 7) (.lit 1))) (.lit 187)))) (.lt (.op .add (.var 7) (.lit 2)) (.var 6))))
 (nd 90 s2a17 ((.or (.not (.and (.and (.not (.lt (.op .sub (.var 6) (.var 7)) (.lit 3))) (.eq (.sel (.var 4) (.var 7)) (.lit 239))) (.eq (.sel (.var 4) (.op .add (.var 7) (.lit 1))) (.lit 187)))) (.lt (.op .add (.var 7) (.lit 2)) (.len (.var 4)))))
 (.fork (nd 90 s2a19 ((.not (.lt (.lit 512) (.op .add (.var 7) (.lit 3)))))
 (nd 90 s2a20 ((.not (.lt (.lit 10000000) (.op .add (.var 9) (.lit 3)))))
 (lf 0 90 90 (rgs ED.n tDo) ((74,.blk 74)::(17,.ltm (.var 17))::(4,.ltm (.var 4))::(ids (dn 71 6++dn 64 21)++((9,.itm (.op .add (.var 9) (.lit 3)))::(10,.itm (.lit 1))::(7,.itm (.op .add (.var 7) (.lit 3)))::s2s1))) ((.not (.lt (.lit 10000000) (.op .add (.var 9) (.lit 3))))::s2a20))))
 (lf 0 90 90 (rgs ED.n tDo) ((74,.blk 74)::(17,.ltm (.var 17))::(4,.ltm (.var 4))::(ids (dn 71 6++dn 64 21)++((9,.itm (.var 9))::(10,.itm (.lit 1))::s2s2))) ((.not (.and (.and (.and (.not (.lt (.op .sub (.var 6) (.var 7)) (.lit 3))) (.eq (.sel (.var 4) (.var 7)) (.lit 239))) (.eq (.sel (.var 4) (.op .add (.var 7) (.lit 1))) (.lit 187))) (.eq (.sel (.var 4) (.op .add (.var 7) (.lit 2))) (.lit 191))))::s2a18)))))))))))))))))
 .nil))
theorem lit_d2_eq:treD []=lit_d2:=by kernel_rfl
set_option maxRecDepth 100000
theorem hold_d1 {β:Ren} (p:PR β) (r:RD β):lit_d1.Holds (GD1 β) β:=by
 unfold lit_d1
 have hβ:=p.n.1
 obtain ⟨⟨x18,x19,x6,x7⟩,x9,x10⟩:=r
 have r:RR β:=⟨x18,x19,x6,x7⟩
 have y1:=p.raw; have y2:=p.le; have y3:=p.inp; have y4:=p.inl; have y5:=p.inb
 refine (fork_of (call_of opD hβ (by kernel_rfl) (by kernel_rfl) ?_) (leaf_o opD hβ ?_))
 ·intro γ0 hl0 hA hr0 hid0 hI
  simp only [DD] at hA
  obtain ⟨a0,a1⟩:=hA
  simp only [DD] at hI
  obtain ⟨i74,i17,i4,i43,i42,i7,i6,i2,i11,i19,i72,i18,i16,i0,i73⟩:=hI
  have s0:SD9 β γ0:=⟨i0,i2,i16,i73,i74,i17,i18,i72,hid0⟩
  have hn0:Ln γ0:=p.n.of i73 hl0
  have p0:PR γ0:=p.of hn0 i4 i6 i7 (Bool.eq_iff_iff.2 i11) i17 i18 i19
  have hL0:(GD1 β).CL 49 γ0:=⟨rfl,p0⟩
  refine ⟨hL0,(callo_cons ?_ callo_nil)⟩
  ·intro β1 hq1 hO1
   obtain ⟨hn1,q⟩:=hO1
   have hb1:=app_len hβ hn1.1
   simp only [Nat.reduceAdd] at hb1
   refine (leaf_o opD hb1 ?_)
   ·intro γ1 hl1 hA hr1 hid1 hI
    simp only [DD,aA hβ,Nat.reduceLT,Nat.reduceLeDiff,Nat.reduceSub] at hA
    obtain ⟨b0,b1⟩:=hA
    simp only [DD,aA hβ,Nat.reduceLT,Nat.reduceLeDiff,Nat.reduceSub] at hI
    obtain ⟨j74,j17,j4,j9,j10,j7,j6,j2,j11,j19,j72,j18,j16,j0,j73⟩:=hI
    have s1:SD9 β γ1:=⟨j0,j2,j16,j73,j74,j17,j18,j72,hid_l hβ (by decide) hid1⟩
    exact d1_leaf p r (by simpa using (by assumption:¬ gB β 11=true)) (by omega) s0 p0 i4 i6 i7 (Bool.eq_iff_iff.2 i11) i19 hn1 q (p.n.of j73 hl1) j4 j6 j7 (Bool.eq_iff_iff.2 j11) j19 s1 j9 j10
 ·intro γ0 hl0 hA hr0 hid0 hI
  simp only [DD] at hA
  have a0:=hA
  simp only [DD] at hI
  obtain ⟨i74,i17,i4,i9,i10,i7,i6,i2,i11,i19,i72,i18,i16,i0,i73⟩:=hI
  have s1:SD9 β γ0:=⟨i0,i2,i16,i73,i74,i17,i18,i72,hid0⟩
  refine ⟨⟨s1,p.of (p.n.of i73 hl0) i4 i6 i7 (Bool.eq_iff_iff.2 i11) i17 i18 i19,rest_of i4 i6 i7 i17 i18 i19,i9,i10,by omega⟩,?_⟩
  unfold Full
  rw [i6,i7]
  by_cases h:gB β 11=true
  ·exact .inl (i11.2 h)
  ·exact .inr (Int.not_lt.1 fun hh=>a0 ⟨h,hh⟩)
set_option maxRecDepth 100000
noncomputable def mu48 (β:Ren):Nat:=2 * (gI β 18 - gI β 19).toNat + (if gB β 11=true then 0 else 1)
theorem loop48_law {w0:W0} {Q:Exit→Act→World→Prop}:∀ (m:Nat) (β:Ren) (a:Act) (w:World),mu48 β≤m→PR β→HR w0 β tD.heap w→FS β (ntmps 48) tD.frame a →
    (∀ β1 a' w',LD β β1→Full β1→HR w0 β1 tD.heap w'→FS β1 (ntmps 48) tD.frame a'→Q (.exit 0) a' w')→wpL Tryd.prog loop48 Q a w:=by
 intro m
 induction m with
 | zero =>
  intro β a w hm p hH hF hQ
  refine wpL_round (wp_of_tre (E:=ED1) (G:=GD1 β) noNum callOk follows (by show (treD1).Holds _ _; rw [lit_d1_eq]; exact hold_d1 p (rd_of (by rw [← rgs_D48]; exact rgs_sound hH hF))) p.n.2 hH (Facts.nil _) hF ?_ (fun r s c h=>by rcases h with h | h <;> cases h) (fun j i β1 β2 h=>h.elim) (fun r s h=>by rcases h with h | h <;> cases h) ?_)
  ·intro j e tp β1 a' w' hft h1 h2 h3
   cases e with
   | normal =>
    cases hft
    exfalso
    obtain ⟨l,hf,_⟩:=h3
    unfold mu48 at hm
    rw [hf] at hm
    simp at hm
   | ret=>cases hft
   | exit id =>
    match id,hft with
    | 0,hft=>cases hft; exact hQ β1 a' w' h3.1 h3.2 h1 h2
  ·intro f s hs
   have hs:ct49 f=some s:=hs
   unfold ct49 at hs
   split at hs
   ·rename_i hf; subst hf; cases hs
    exact law49 (fun β h=>h.2) (fun β β1 _ _ h1 h2=>⟨h1,h2⟩)
   ·cases hs
 | succ m ih =>
  intro β a w hm p hH hF hQ
  refine wpL_round (wp_of_tre (E:=ED1) (G:=GD1 β) noNum callOk follows (by show (treD1).Holds _ _; rw [lit_d1_eq]; exact hold_d1 p (rd_of (by rw [← rgs_D48]; exact rgs_sound hH hF))) p.n.2 hH (Facts.nil _) hF ?_ (fun r s c h=>by rcases h with h | h <;> cases h) (fun j i β1 β2 h=>h.elim) (fun r s h=>by rcases h with h | h <;> cases h) ?_)
  ·intro j e tp β1 a' w' hft h1 h2 h3
   cases e with
   | normal =>
    cases hft
    obtain ⟨l,hf,hp⟩:=h3
    refine ih β1 a' w' ?_ l.p h1 h2 (fun β2 a2 w2 l2=>hQ β2 a2 w2 (l.trans l2))
    unfold mu48 at hm ⊢
    rw [hf] at hm
    have h18:=l.s.i18
    have h19:=l.b19
    have p1:=p.inp; have p2:=l.p.inp
    rw [if_neg (by simp)] at hm
    rcases hp with hp | hp
    ·rw [hp,if_pos rfl]; omega
    ·split <;> omega
   | ret=>cases hft
   | exit id =>
    match id,hft with
    | 0,hft=>cases hft; exact hQ β1 a' w' h3.1 h3.2 h1 h2
  ·intro f s hs
   have hs:ct49 f=some s:=hs
   unfold ct49 at hs
   split at hs
   ·rename_i hf; subst hf; cases hs
    exact law49 (fun β h=>h.2) (fun β β1 _ _ h1 h2=>⟨h1,h2⟩)
   ·cases hs
noncomputable def rbyte (β:Ren) (k:Int):UInt8:=(gL β 4).getD (gI β 7 + k).toNat 0
theorem drop_cons {L:List UInt8} {a b:Nat} (h:a < b) (hb:b≤L.length):(L.take b).drop a=L.getD a 0::(L.take b).drop (a + 1):=by
 rw [List.drop_eq_getElem_cons (by rw [List.length_take]; omega)]
 congr 1
 rw [List.getElem_take,List.getD_eq_getElem?_getD,List.getElem?_eq_getElem (by omega)]
 rfl
theorem rest_c {β:Ren} (p:PR β) (r:RR β) (k:Nat) (hk:(k:Int) < gI β 6 - gI β 7):(rawB β).drop k=rbyte β k::(rawB β).drop (k + 1):=by
 have x6:=r.i6; have x7:=r.i7; have y:=p.raw
 unfold rawB rbyte
 rw [List.drop_drop,List.drop_drop,show (gI β 7 + (k:Int)).toNat=(gI β 7).toNat + k from by omega,drop_cons (by omega) (by omega)]
 rfl
theorem rest2 {β:Ren} (p:PR β) (r:RR β) (h:2≤gI β 6 - gI β 7):restB β=rbyte β 0::rbyte β 1::((rawB β).drop 2++inpB β):=by
 have e0:=rest_c p r 0 (by omega)
 have e1:=rest_c p r 1 (by omega)
 rw [List.drop_zero] at e0
 unfold restB
 rw [e0,e1]; rfl
theorem rest3 {β:Ren} (p:PR β) (r:RR β) (h:3≤gI β 6 - gI β 7):restB β=rbyte β 0::rbyte β 1::rbyte β 2::((rawB β).drop 3++inpB β):=by
 rw [rest2 p r (by omega),rest_c p r 2 (by omega)]; rfl
theorem rest_short {β:Ren} (p:PR β) (r:RR β) (f:Full β) (h:gI β 6 - gI β 7 < 3):(restB β).length=(gI β 6 - gI β 7).toNat:=by
 have e:inpB β=[]:=by
  rcases f with f | f
  ·have:=p.eo f
   unfold inpB
   exact List.drop_eq_nil_of_le (by rw [List.length_take,this]; omega)
  ·omega
 unfold restB
 rw [e,List.append_nil,rawB_len p r]
theorem pre2 {β:Ren} (p:PR β) (r:RR β) (f:Full β) (a b:UInt8):[a,b] <+: restB β↔(2≤gI β 6 - gI β 7∧rbyte β 0=a∧rbyte β 1=b):=by
 by_cases h:2≤gI β 6 - gI β 7
 ·rw [rest2 p r h,List.cons_prefix_cons,List.cons_prefix_cons]
  simp [h,eq_comm]
 ·constructor
  ·intro hp
   have:=hp.length_le
   rw [rest_short p r f (by omega)] at this
   simp at this
   omega
  ·exact fun hp=>absurd hp.1 h
theorem pre3 {β:Ren} (p:PR β) (r:RR β) (f:Full β) (a b c:UInt8):[a,b,c] <+: restB β↔(3≤gI β 6 - gI β 7∧rbyte β 0=a∧rbyte β 1=b∧rbyte β 2=c):=by
 by_cases h:3≤gI β 6 - gI β 7
 ·rw [rest3 p r h,List.cons_prefix_cons,List.cons_prefix_cons,List.cons_prefix_cons]
  simp [h,eq_comm]
 ·constructor
  ·intro hp
   have:=hp.length_le
   rw [rest_short p r f (by omega)] at this
   simp at this
   omega
  ·exact fun hp=>absurd hp.1 h
structure DE (β β1:Ren):Prop where
 s:SD9 β β1
 p:PR β1
 b19:gI β 19≤gI β1 19
 e:∃ bom:List UInt8,restB β=bom++restB β1∧gI β1 9=gI β 9 + bom.length∧((bom=[255,254]∧gI β1 10=2)∨(bom=[254,255]∧gI β1 10=3)∨(bom=[239,187,191]∧gI β1 10=1) ∨
  (bom=[]∧gI β1 10=1∧¬ [255,254] <+: restB β∧¬ [254,255] <+: restB β∧¬ [239,187,191] <+: restB β))
theorem byte_of {x:UInt8} {n:Nat} (h:((x.toNat:Nat):Int)=(n:Int)) (hn:n < 256):x=UInt8.ofNat n:=by
 apply UInt8.toNat_inj.1
 rw [UInt8.toNat_ofNat']
 omega
theorem to_byte {x:UInt8} {n:Nat} (h:x=UInt8.ofNat n) (hn:n < 256):((x.toNat:Nat):Int)=(n:Int):=by
 subst h
 rw [UInt8.toNat_ofNat']
 omega
theorem rest_skip {β γ:Ren} {k:Int} (p:PR β) (r:RR β) (h4:gL γ 4=gL β 4) (h6:gI γ 6=gI β 6) (h7:gI γ 7=gI β 7 + k) (h17:gL γ 17=gL β 17) (h18:gI γ 18=gI β 18) (h19:gI γ 19=gI β 19) (h0:0≤k):restB γ=(rawB β).drop k.toNat++inpB β:=by
 have x7:=r.i7
 unfold restB rawB inpB
 rw [h4,h6,h7,h17,h18,h19,List.drop_drop,show (gI β 7 + k).toNat=(gI β 7).toNat + k.toNat from by omega]
theorem de_bom {β β1 γ1:Ren} (bom:List UInt8) {k:Int} (hk:(bom.length:Int)=k) (s:SD9 β γ1) (s1:SD9 β1 γ1) (p1:PR β1) (r1:RR β1) (hn:Ln γ1) (rest:restB β1=restB β) (b19:gI β 19≤gI β1 19) (i9:gI β1 9=gI β 9)
    (e4:gL γ1 4=gL β1 4) (e6:gI γ1 6=gI β1 6) (e7:gI γ1 7=gI β1 7 + k) (e11:gB γ1 11=gB β1 11) (e19:gI γ1 19=gI β1 19) (e9:gI γ1 9=gI β1 9 + k) (hle:gI β1 7 + k≤gI β1 6)
    (h:restB β1=bom++((rawB β1).drop k.toNat++inpB β1)) (hc:(bom=[255,254]∧gI γ1 10=2)∨(bom=[254,255]∧gI γ1 10=3)∨(bom=[239,187,191]∧gI γ1 10=1) ∨
    (bom=[]∧gI γ1 10=1∧¬ [255,254] <+: restB β∧¬ [254,255] <+: restB β∧¬ [239,187,191] <+: restB β)):DE β γ1:=by
 have h0:0≤k:=by omega
 refine ⟨s,⟨hn,by rw [e4]; exact p1.raw,by omega,by rw [e19,s1.i18]; exact p1.inp,by rw [s1.i18,s1.l17]; exact p1.inl,by rw [s1.i18]; exact p1.inb,by rw [e11,e19,s1.i18]; exact p1.eo⟩,by omega,bom,?_,by rw [e9,i9,hk],hc⟩
 rw [← rest,h,rest_skip p1 r1 e4 e6 e7 s1.l17 s1.i18 e19 h0]
def GD (β:Ren):Goal where
 J:=fun _ β1=>DE β β1
 L:=fun _ β1=>PR β1
 O:=fun _ _ β1 β2=>Ln β2∧LD β1 β2∧Full β2
 W:=fun _ c=>c=loopD
theorem bb0 (β:Ren):(gL β 4).getD (gI β 7).toNat 0=rbyte β 0:=by unfold rbyte; rw [Int.add_zero]
theorem bb1 (β:Ren) (k:Int):(gL β 4).getD (gI β 7 + k).toNat 0=rbyte β k:=rfl
set_option maxRecDepth 100000
theorem hold_d2 {β:Ren} (p:PR β) (r:RD β) (ho:gI β 9≤9000000):lit_d2.Holds (GD β) β:=by
 unfold lit_d2
 have hβ:=p.n.1
 obtain ⟨⟨x18,x19,x6,x7⟩,x9,x10⟩:=r
 have r:RR β:=⟨x18,x19,x6,x7⟩
 have y1:=p.raw; have y2:=p.le; have y3:=p.inp; have y4:=p.inl; have y5:=p.inb
 refine (loop_of opD hβ (by kernel_rfl) (by kernel_rfl) (by kernel_rfl) (by kernel_rfl) rfl ?_)
 ·intro γ0 hl0 hA hr0 hid0 hI
  clear hA
  simp only [DD] at hI
  obtain ⟨i74,i17,i4,i9,i10,i7,i6,i2,i11,i19,i72,i18,i16,i0,i73⟩:=hI
  have s0:SD9 β γ0:=⟨i0,i2,i16,i73,i74,i17,i18,i72,hid0⟩
  have hn0:Ln γ0:=p.n.of i73 hl0
  have p0:PR γ0:=p.of hn0 i4 i6 i7 (Bool.eq_iff_iff.2 i11) i17 i18 i19
  have hL0:(GD β).L 1 γ0:=p0
  refine ⟨hL0,(outs_cons ?_ outs_nil)⟩
  ·intro β1 hq1 hO1
   obtain ⟨⟨hb1,hg1⟩,l,fu⟩:=hO1
   have hn1:Ln β1:=⟨hb1,hg1⟩
   have rd1:RD β1:=rd_of (by rw [← rgs_D48]; exact hq1)
   have r1:RR β1:=rd1.toRR
   have z6:=r1.i6
   have z7:=r1.i7
   have z9:=rd1.i9
   have w1:=l.p.raw
   have w2:=l.p.le
   have rest:restB β1=restB β:=l.rest.trans (rest_of i4 i6 i7 i17 i18 i19)
   have le19:gI β 19≤gI β1 19:=by have:=l.b19; omega
   have i9':gI β1 9=gI β 9:=l.i9.trans i9
   refine (need_o hb1 ?_ (need_o hb1 ?_ (need_o hb1 ?_ (need_o hb1 ?_ (fork_of (need_o hb1 ?_ (need_o hb1 ?_ (leaf_o opD hb1 ?_))) (need_o hb1 ?_ (need_o hb1 ?_ (fork_of (need_o hb1 ?_ (need_o hb1 ?_ (leaf_o opD hb1 ?_))) (need_o hb1 ?_ (need_o hb1 ?_ (need_o hb1 ?_ (need_o hb1 ?_ (need_o hb1 ?_ (need_o hb1 ?_ (fork_of (need_o hb1 ?_ (need_o hb1 ?_ (leaf_o opD hb1 ?_))) (leaf_o opD hb1 ?_))))))))))))))))
   ·intro hA; clear hA; simp only [DD]; omega
   iterate 5 (focus (intro hA; simp only [DD] at hA ⊢; omega))
   ·intro γ1 hl1 hA hr1 hid1 hI
    simp only [DD] at hA
    obtain ⟨b0,b1,b2,b3,b4,b5,b6,b7,b8⟩:=hA
    simp only [DD] at hI
    obtain ⟨j74,j17,j4,j9,j10,j7,j6,j2,j11,j19,j72,j18,j16,j0,j73⟩:=hI
    simp only [bb0,bb1] at *
    have s1:SD9 β1 γ1:=⟨j0,j2,j16,j73,j74,j17,j18,j72,hid1⟩
    have s:SD9 β γ1:=(s0.trans l.s).trans s1
    have h0:rbyte β1 0=255:=byte_of (n:=255) (by assumption) (by decide)
    have h1:rbyte β1 1=254:=byte_of (n:=254) (by assumption) (by decide)
    exact de_bom [255,254] (k:=2) rfl s s1 l.p r1 (hn1.of j73 hl1) rest le19 i9' j4 j6 j7 (Bool.eq_iff_iff.2 j11) j19 j9 (by omega) (by rw [rest2 l.p r1 (by omega),h0,h1]; rfl) (.inl ⟨rfl,j10⟩)
   iterate 4 (focus (intro hA; simp only [DD] at hA ⊢; omega))
   ·intro γ1 hl1 hA hr1 hid1 hI
    simp only [DD] at hA
    obtain ⟨b0,b1,b2,b3,b4,b5,b6,b7,b8,b9,b10,b11⟩:=hA
    simp only [DD] at hI
    obtain ⟨j74,j17,j4,j9,j10,j7,j6,j2,j11,j19,j72,j18,j16,j0,j73⟩:=hI
    simp only [bb0,bb1] at *
    have s1:SD9 β1 γ1:=⟨j0,j2,j16,j73,j74,j17,j18,j72,hid1⟩
    have s:SD9 β γ1:=(s0.trans l.s).trans s1
    have h0:rbyte β1 0=254:=byte_of (n:=254) (by assumption) (by decide)
    have h1:rbyte β1 1=255:=byte_of (n:=255) (by assumption) (by decide)
    exact de_bom [254,255] (k:=2) rfl s s1 l.p r1 (hn1.of j73 hl1) rest le19 i9' j4 j6 j7 (Bool.eq_iff_iff.2 j11) j19 j9 (by omega) (by rw [rest2 l.p r1 (by omega),h0,h1]; rfl) (.inr (.inl ⟨rfl,j10⟩))
   iterate 8 (focus (intro hA; simp only [DD] at hA ⊢; omega))
   ·intro γ1 hl1 hA hr1 hid1 hI
    simp only [DD] at hA
    obtain ⟨b0,b1,b2,b3,b4,b5,b6,b7,b8,b9,b10,b11,b12,b13,b14,b15,b16,b17,b18,b19⟩:=hA
    simp only [DD] at hI
    obtain ⟨j74,j17,j4,j9,j10,j7,j6,j2,j11,j19,j72,j18,j16,j0,j73⟩:=hI
    simp only [bb0,bb1] at *
    have s1:SD9 β1 γ1:=⟨j0,j2,j16,j73,j74,j17,j18,j72,hid1⟩
    have s:SD9 β γ1:=(s0.trans l.s).trans s1
    have h0:rbyte β1 0=239:=byte_of (n:=239) (by assumption) (by decide)
    have h1:rbyte β1 1=187:=byte_of (n:=187) (by assumption) (by decide)
    have h2:rbyte β1 2=191:=byte_of (n:=191) (by assumption) (by decide)
    exact de_bom [239,187,191] (k:=3) rfl s s1 l.p r1 (hn1.of j73 hl1) rest le19 i9' j4 j6 j7 (Bool.eq_iff_iff.2 j11) j19 j9 (by omega) (by rw [rest3 l.p r1 (by omega),h0,h1,h2]; rfl) (.inr (.inr (.inl ⟨rfl,j10⟩)))
   ·intro γ1 hl1 hA hr1 hid1 hI
    simp only [DD] at hA
    obtain ⟨b0,b1,b2,b3,b4,b5,b6,b7,b8,b9,b10,b11,b12,b13,b14⟩:=hA
    simp only [DD] at hI
    obtain ⟨j74,j17,j4,j9,j10,j7,j6,j2,j11,j19,j72,j18,j16,j0,j73⟩:=hI
    simp only [bb0,bb1] at *
    have s1:SD9 β1 γ1:=⟨j0,j2,j16,j73,j74,j17,j18,j72,hid1⟩
    have s:SD9 β γ1:=(s0.trans l.s).trans s1
    refine de_bom [] (k:=0) rfl s s1 l.p r1 (hn1.of j73 hl1) rest le19 i9' j4 j6 (by omega) (Bool.eq_iff_iff.2 j11) j19 (by omega) (by omega) rfl (.inr (.inr (.inr ⟨rfl,j10,?_,?_,?_⟩)))
    ·rw [← rest,pre2 l.p r1 fu]
     rintro ⟨hl,h0,h1⟩
     have h0:=to_byte (n:=255) h0 (by decide)
     have h1:=to_byte (n:=254) h1 (by decide)
     rw [show rbyte β1 0=rbyte β1 0 from rfl] at h0
     first | (exact absurd (show (¬ gI β1 6 - gI β1 7 < 2∧((rbyte β1 0).toNat:Int)=255)∧((rbyte β1 1).toNat:Int)=254 from ⟨⟨by omega,h0⟩,h1⟩) (by assumption))
    ·rw [← rest,pre2 l.p r1 fu]
     rintro ⟨hl,h0,h1⟩
     have h0:=to_byte (n:=254) h0 (by decide)
     have h1:=to_byte (n:=255) h1 (by decide)
     rw [show rbyte β1 0=rbyte β1 0 from rfl] at h0
     first | (exact absurd (show (¬ gI β1 6 - gI β1 7 < 2∧((rbyte β1 0).toNat:Int)=254)∧((rbyte β1 1).toNat:Int)=255 from ⟨⟨by omega,h0⟩,h1⟩) (by assumption))
    ·rw [← rest,pre3 l.p r1 fu]
     rintro ⟨hl,h0,h1,h2⟩
     have h0:=to_byte (n:=239) h0 (by decide)
     have h1:=to_byte (n:=187) h1 (by decide)
     have h2:=to_byte (n:=191) h2 (by decide)
     rw [show rbyte β1 0=rbyte β1 0 from rfl] at h0
     exact absurd (show ((¬ gI β1 6 - gI β1 7 < 3∧((rbyte β1 0).toNat:Int)=239)∧((rbyte β1 1).toNat:Int)=187)∧((rbyte β1 2).toNat:Int)=191 from ⟨⟨⟨by omega,h0⟩,h1⟩,h2⟩) (by assumption)
end U
