-- the statement of this claim: see YtoamgocecoiggaaDoorRs
import Derived.Test.YtoamgocecoiggaaDoorM20
set_option linter.unusedVariables false
set_option linter.unusedSimpArgs false
set_option maxRecDepth 100000
noncomputable section
open Go Go.SM Go.Proofs
namespace U
set_option maxHeartbeats 0
theorem Fx.trans{a b c:Ren}(h:Fx a b)(g:Fx b c):Fx a c:=⟨g.h0.trans h.h0,g.h1.trans h.h1,g.h2.trans h.h2,g.l4.trans h.l4,g.i6.trans h.i6,g.i10.trans h.i10,g.i12.trans h.i12,g.b11.trans h.b11,g.h16.trans h.h16,g.h73.trans h.h73,g.h74.trans h.h74,g.l17.trans h.l17,g.i18.trans h.i18,g.i19.trans h.i19,g.i72.trans h.i72,fun i hi=>(g.op i hi).trans (h.op i hi)⟩
theorem Sm.trans{a b c:Ren}(h:Sm a b)(g:Sm b c):Sm a c:=⟨h.toFx.trans g.toFx,g.l3.trans h.l3,g.i5.trans h.i5,g.i7.trans h.i7,g.i8.trans h.i8,g.i9.trans h.i9⟩
theorem aO2{V V1:Ren}(h:Sm V V1)(hn:gI V1 15=gI V 6-gI V 7):dcs V1=dc V:=by
 have:rb V1=rb V:=by funext k;unfold rb;rw[h.l4,h.i7]
 unfold dcs dc;rw[h.i10,hn,this]
theorem acQ{v:Int}(h:¬ 127<v):enc1 v=[u8 (IntKind.u8.wrap v)]:=by unfold enc1;rw[if_pos h]
theorem ac1{v:Int}(h:127<v)(h2:¬ 2047<v):enc1 v=[u8 (IntKind.u8.wrap (sr v 6+192)),u8 (ia v 63+128)]:=by unfold enc1;rw[if_neg (Classical.not_not.2 h),if_pos h2]
theorem ae5{v:Int}(h:127<v)(h2:2047<v)(h3:¬ 65535<v):enc1 v=[u8 (IntKind.u8.wrap (sr v 12+224)),u8 (ia (sr v 6) 63+128),u8 (ia v 63+128)]:=by unfold enc1;rw[if_neg (Classical.not_not.2 h),if_neg (Classical.not_not.2 h2),if_pos h3]
theorem adW{v:Int}(h:127<v)(h2:2047<v)(h3:65535<v):enc1 v=[u8 (sr v 18+240),u8 (ia (sr v 12) 63+128),u8 (ia (sr v 6) 63+128),u8 (ia v 63+128)]:=by unfold enc1;rw[if_neg (Classical.not_not.2 h),if_neg (Classical.not_not.2 h2),if_neg (Classical.not_not.2 h3)]
theorem tn{a:Int}(h:0<=a)(k:Nat):(a+(k:Int)).toNat=a.toNat+k:=by omega
theorem aa5{l:List UInt8}{a:Int}{x:UInt8}(h:0<=a)(hl:a+1<=l.length):(l.set a.toNat x).take (a+1).toNat=l.take a.toNat++[x]:=by
 rw[show (a+1).toNat=a.toNat+1 from tn h 1];exact tk _ _ _ (by omega)
theorem aRK{l:List UInt8}{a:Int}{x y:UInt8}(h:0<=a)(hl:a+2<=l.length):((l.set a.toNat x).set (a+1).toNat y).take (a+2).toNat=l.take a.toNat++[x,y]:=by
 rw[show (a+1).toNat=a.toNat+1 from tn h 1,show (a+2).toNat=a.toNat+1+1 from tn h 2,tk _ _ _ (by simp;omega),tk _ _ _ (by omega)];simp
theorem aUQ{l:List UInt8}{a:Int}{x y z:UInt8}(h:0<=a)(hl:a+3<=l.length):(((l.set a.toNat x).set (a+1).toNat y).set (a+2).toNat z).take (a+3).toNat=l.take a.toNat++[x,y,z]:=by
 rw[show (a+1).toNat=a.toNat+1 from tn h 1,show (a+2).toNat=a.toNat+1+1 from tn h 2,show (a+3).toNat=a.toNat+1+1+1 from tn h 3,tk _ _ _ (by simp;omega),tk _ _ _ (by simp;omega),tk _ _ _ (by omega)];simp
theorem aVK{l:List UInt8}{a:Int}{x y z u:UInt8}(h:0<=a)(hl:a+4<=l.length):((((l.set a.toNat x).set (a+1).toNat y).set (a+2).toNat z).set (a+3).toNat u).take (a+4).toNat=l.take a.toNat++[x,y,z,u]:=by
 rw[show (a+1).toNat=a.toNat+1 from tn h 1,show (a+2).toNat=a.toNat+1+1 from tn h 2,show (a+3).toNat=a.toNat+1+1+1 from tn h 3,show (a+4).toNat=a.toNat+1+1+1+1 from tn h 4,tk _ _ _ (by simp;omega),tk _ _ _ (by simp;omega),tk _ _ _ (by simp;omega),tk _ _ _ (by omega)];simp
theorem aUF{V:Ren}(hv:RA V)(hI0:Inv V):aNN.Holds (GI V) V:=by
 unfold aNN;have hβ:=hI0.n.1;have hle:=hI0.le;have hv6:=hv.i6;have hv7:=hv.i7;refine (fO (nO hβ ?_ (nO hβ ?_ (pO opA hβ rfl ?_))) (lO opA hβ ?_));iterate 2 (focus (intro hA;simp only[DD]at hA ⊢;omega))
 .intro J0 hl0 hA hr0 hid0 hI;simp only[DD]at hA hI;obtain⟨a0,a1,a2⟩:=hA;obtain⟨i74,i17,i4,i3,i9,i7,i6,i2,i8,i1,i11,i19,i72,i18,i16,i10,i15,i5,i12,i0,i73⟩:=hI;have s0:Sm V J0:=⟨⟨i0,i1,i2,i4,i6,i10,i12,Bool.eq_iff_iff.2 i11,i16,i73,i74,i17,i18,i19,i72,hid0⟩,i3,i5,i7,i8,i9⟩
  try simp only[fn_sub]at i15 a0 a1 a2
  have hlt:gI V 7<gI V 6:=by omega
  have lk:Look J0:=⟨by rw[i15,i6,i7],by rw[i6,i7];exact hlt,by rw[i4];exact hI0.raw⟩
  have hdc:dcs J0=dc V:=aO2 s0 (by rw[i15]);have hL0:(GI V).L 4 J0:=⟨hI0.n.of s0.h73 hl0,lk⟩
  refine⟨hL0,(oC ?_ (oC ?_ (oC ?_ oN)))⟩
  .intro V1 hq1 hO1;obtain⟨⟨hb1,hgb1⟩,rv1,s1,hd⟩:=hO1;have s1:=s0.trans s1;rw[hdc]at hd;refine (pO opA hb1 rfl ?_)
   .intro J1 hl1 hA hr1 hid1 hI;simp only[DD]at hI;obtain⟨j74,j17,j4,j3,j9,j10,j7,j6,j2,j8,j1,j11,j19,j72,j18,j16,j14,j13,j5,j12,j0,j73⟩:=hI;have s2:Sm V1 J1:=⟨⟨j0,j1,j2,j4,j6,j10,j12,Bool.eq_iff_iff.2 j11,j16,j73,j74,j17,j18,j19,j72,hid1⟩,j3,j5,j7,j8,j9⟩
    have s2:=s1.trans s2;have hL1:(GI V).L 10 J1:=hI0.n.of s2.h73 hl1;refine⟨hL1,(oC ?_ (oC ?_ oN))⟩
    .intro V2 hq2 hO2;obtain⟨⟨hb2,hgb2⟩,s3,p13,p14,pp⟩:=hO2;have s3:=s2.trans s3;rw[j13]at p13 pp;rw[j14]at p14;obtain⟨w1,w2,w3⟩:=aCV hd;obtain⟨z0,z1,z2,z3,z4⟩:gI V2 5=gI V 5/\gI V2 7=gI V 7/\gI V2 8=gI V 8/\gI V2 9=gI V 9/\(gL V2 3).length=1536:=⟨s3.i5,s3.i7,s3.i8,s3.i9,by rw[s3.l3];exact hI0.buf⟩
     obtain⟨y1,y2,y3,y4,y5,y6⟩:gI V 5+2*(gI V 6-gI V 7)<=1500/\gI V 8+(gI V 6-gI V 7)<=1000/\gI V 9+(gI V 6-gI V 7)<=10000000/\0<=gI V 5/\gI V 6<=512/\0<=gI V 7:=⟨hI0.cap,hI0.un,hI0.off,hv.i5.1,hv.i6.2,hv.i7.1⟩
     refine (fO (nO hb2 ?_ (nO hb2 ?_ (nO hb2 ?_ (nO hb2 ?_ (nO hb2 ?_ (nO hb2 ?_ (lO opA hb2 ?_))))))) (fO (nO hb2 ?_ (nO hb2 ?_ (nO hb2 ?_ (nO hb2 ?_ (nO hb2 ?_ (nO hb2 ?_ (nO hb2 ?_ (nO hb2 ?_ (lO opA hb2 ?_))))))))) (fO (nO hb2 ?_ (nO hb2 ?_ (nO hb2 ?_ (nO hb2 ?_ (nO hb2 ?_ (nO hb2 ?_ (nO hb2 ?_ (nO hb2 ?_ (nO hb2 ?_ (nO hb2 ?_ (lO opA hb2 ?_))))))))))) (nO hb2 ?_ (nO hb2 ?_ (nO hb2 ?_ (nO hb2 ?_ (nO hb2 ?_ (nO hb2 ?_ (nO hb2 ?_ (nO hb2 ?_ (nO hb2 ?_ (nO hb2 ?_ (nO hb2 ?_ (nO hb2 ?_ (lO opA hb2 ?_))))))))))))))));iterate 6 (focus (intro hA;simp only[DD]at hA ⊢;omega))
     .intro J2 hl2 hA hr2 hid2 hI;simp only[DD]at hA hI;obtain⟨c0,c1,c2,c3,c4,c5,c6⟩:=hA;obtain⟨k74,k17,k4,k3,k9,k10,k7,k6,k2,k8,k1,k11,k19,k72,k18,k16,k5,k12,k0,k73⟩:=hI;try simp only[zA]at k3 k5 k7 k8 k9
      have he:=acQ c6;have hN:0<=gI V2 5:=by omega
      have hN2:gI V2 5+4<=1536:=by omega
      refine⟨gI V2 13,s3.toFx.trans ⟨k0,k1,k2,k4,k6,k10,k12,Bool.eq_iff_iff.2 k11,k16,k73,k74,k17,k18,k19,k72,hid2⟩,⟨gI V1 14,by rw[p13];exact hd,by rw[k7,p14];omega,by rw[k9,p14];omega,w1,w2,by rw[p13];exact w3⟩,by rw[p13];exact pp,?_,?_,?_,by rw[k8];omega⟩
      .rw[k3,k5,he,<-s3.l3,<-z0];exact aa5 hN (by omega)
      .rw[k5,he,z0];rfl
      .rw[k3,<-s3.l3];simp
     iterate 8 (focus (intro hA;simp only[DD]at hA ⊢;omega))
     .intro J2 hl2 hA hr2 hid2 hI;simp only[DD]at hA hI;obtain⟨c0,c1,c2,c3,c4,c5,c6,c7,c8,c9⟩:=hA;obtain⟨k74,k17,k4,k3,k9,k10,k7,k6,k2,k8,k1,k11,k19,k72,k18,k16,k5,k12,k0,k73⟩:=hI;try simp only[zA]at k3 k5 k7 k8 k9
      have he:=ac1 c9 c8;have hN:0<=gI V2 5:=by omega
      have hN2:gI V2 5+4<=1536:=by omega
      refine⟨gI V2 13,s3.toFx.trans ⟨k0,k1,k2,k4,k6,k10,k12,Bool.eq_iff_iff.2 k11,k16,k73,k74,k17,k18,k19,k72,hid2⟩,⟨gI V1 14,by rw[p13];exact hd,by rw[k7,p14];omega,by rw[k9,p14];omega,w1,w2,by rw[p13];exact w3⟩,by rw[p13];exact pp,?_,?_,?_,by rw[k8];omega⟩
      .rw[k3,k5,he,<-s3.l3,<-z0];exact aRK hN (by omega)
      .rw[k5,he,z0];rfl
      .rw[k3,<-s3.l3];simp
     iterate 10 (focus (intro hA;simp only[DD]at hA ⊢;omega))
     .intro J2 hl2 hA hr2 hid2 hI;simp only[DD]at hA hI;obtain⟨c0,c1,c2,c3,c4,c5,c6,c7,c8,c9,c10,c11,c12⟩:=hA;obtain⟨k74,k17,k4,k3,k9,k10,k7,k6,k2,k8,k1,k11,k19,k72,k18,k16,k5,k12,k0,k73⟩:=hI;try simp only[zA]at k3 k5 k7 k8 k9
      have he:=ae5 c12 c11 c10;have hN:0<=gI V2 5:=by omega
      have hN2:gI V2 5+4<=1536:=by omega
      refine⟨gI V2 13,s3.toFx.trans ⟨k0,k1,k2,k4,k6,k10,k12,Bool.eq_iff_iff.2 k11,k16,k73,k74,k17,k18,k19,k72,hid2⟩,⟨gI V1 14,by rw[p13];exact hd,by rw[k7,p14];omega,by rw[k9,p14];omega,w1,w2,by rw[p13];exact w3⟩,by rw[p13];exact pp,?_,?_,?_,by rw[k8];omega⟩
      .rw[k3,k5,he,<-s3.l3,<-z0];exact aUQ hN (by omega)
      .rw[k5,he,z0];rfl
      .rw[k3,<-s3.l3];simp
     iterate 12 (focus (intro hA;simp only[DD]at hA ⊢;omega))
     .intro J2 hl2 hA hr2 hid2 hI;simp only[DD]at hA hI;obtain⟨c0,c1,c2,c3,c4,c5,c6,c7,c8,c9,c10,c11,c12,c13,c14⟩:=hA;obtain⟨k74,k17,k4,k3,k9,k10,k7,k6,k2,k8,k1,k11,k19,k72,k18,k16,k5,k12,k0,k73⟩:=hI;try simp only[zA]at k3 k5 k7 k8 k9
      have he:=adW c14 c13 c12;have hN:0<=gI V2 5:=by omega
      have hN2:gI V2 5+4<=1536:=by omega
      refine⟨gI V2 13,s3.toFx.trans ⟨k0,k1,k2,k4,k6,k10,k12,Bool.eq_iff_iff.2 k11,k16,k73,k74,k17,k18,k19,k72,hid2⟩,⟨gI V1 14,by rw[p13];exact hd,by rw[k7,p14];omega,by rw[k9,p14];omega,w1,w2,by rw[p13];exact w3⟩,by rw[p13];exact pp,?_,?_,?_,by rw[k8];omega⟩
      .rw[k3,k5,he,<-s3.l3,<-z0];exact aVK hN (by omega)
      .rw[k5,he,z0];rfl
      .rw[k3,<-s3.l3];simp
    .intro V2 hq2 hO2;obtain⟨⟨hb2,hgb2⟩,s3,pp⟩:=hO2;have s3:Er V V2:=⟨s3.1.trans s2.h0,s3.2.trans s2.h73⟩
     rw[j13]at pp;refine (lO [] hb2 ?_)
     .intro J2 hl2 hA hr2 hid2 hI;simp only[DD]at hI;obtain⟨_,_,_,_,_,_,_,_,_,_,_,_,_,_,_,_,k0,k73⟩:=hI;exact⟨⟨k0.trans s3.1,k73.trans s3.2⟩,hlt,.inr (.inr ⟨_,_,hd,pp⟩)⟩
  .intro V1 hq1 hO1;obtain⟨⟨hb1,hgb1⟩,s1,hd,he⟩:=hO1;have s1:=s0.trans s1;rw[hdc]at hd;rw[s0.b11]at he;refine (lO opA hb1 ?_)
   .intro J1 hl1 hA hr1 hid1 hI;simp only[DD]at hI;obtain⟨j74,j17,j4,j3,j9,j10,j7,j6,j2,j8,j1,j11,j19,j72,j18,j16,j5,j12,j0,j73⟩:=hI;have s2:Sm V1 J1:=⟨⟨j0,j1,j2,j4,j6,j10,j12,Bool.eq_iff_iff.2 j11,j16,j73,j74,j17,j18,j19,j72,hid1⟩,j3,j5,j7,j8,j9⟩
    exact⟨s1.trans s2,.inr ⟨hlt,hd,he⟩⟩
  .intro V1 hq1 hO1;obtain⟨⟨hb1,hgb1⟩,s1,hd⟩:=hO1;have s1:Er V V1:=⟨s1.1.trans s0.h0,s1.2.trans s0.h73⟩
   rw[hdc,s0.b11]at hd;refine (lO [] hb1 ?_)
   .intro J1 hl1 hA hr1 hid1 hI;simp only[DD]at hI;obtain⟨_,_,_,_,_,_,_,_,_,_,_,_,_,_,_,_,j0,j73⟩:=hI;refine⟨⟨j0.trans s1.1,j73.trans s1.2⟩,hlt,?_⟩;rcases hd with hd|hd
    .exact .inl hd
    .exact .inr (.inl hd)
 .intro J0 hl0 hA hr0 hid0 hI;simp only[DD]at hA hI;obtain⟨i74,i17,i4,i3,i9,i10,i7,i6,i2,i8,i1,i11,i19,i72,i18,i16,i5,i12,i0,i73⟩:=hI;exact⟨⟨⟨i0,i1,i2,i4,i6,i10,i12,Bool.eq_iff_iff.2 i11,i16,i73,i74,i17,i18,i19,i72,hid0⟩,i3,i5,i7,i8,i9⟩,.inl (by omega)⟩
inductive Rounds:Ren->List Int->Ren->Prop
 |nil {V V1:Ren}:Sm V V1->Rounds V [] V1
 |cons {V V1 V2:Ren} {v:Int} {cs:List Int}:Rnd V V1 v->Ln V1->Rounds V1 cs V2->Rounds V (v::cs) V2
def aQV(V V2:Ren):Prop:=∃ cs,Rounds V cs V2/\Inv V2/\(gI V2 7=gI V2 6\/gI V2 7<gI V2 6/\dc V2=.more/\gB V2 11=false)
def avB(V V2:Ren):Prop:=Er V V2/\∃ cs Vm,Rounds V cs Vm/\Ln Vm/\gI Vm 7<gI Vm 6/\Bad Vm
theorem Inv.rnd{V V1:Ren}{v:Int}(h:Inv V)(hr:Rnd V V1 v)(hl:V1.length=90):Inv V1:=by
 have hl:=h.n.of hr.fx.h73 hl;obtain⟨w,_,h7,h9,w1,w2,w3⟩:=hr.ok;have h6:=hr.fx.i6;have hb:=hr.bl;have hu:=hr.un;have:=h.cap;have:=h.un;have:=h.off;have:=h.le;exact⟨hl,by rw[hr.fx.l4];exact h.raw,by rw[hr.len];exact h.buf,by omega,by omega,by omega,by omega⟩
theorem Inv.sm{V V1:Ren}(h:Inv V)(hr:Sm V V1)(hl:V1.length=90):Inv V1:=by
 have hl:=h.n.of hr.h73 hl;have h6:=hr.i6;have h5:=hr.i5;have h7:=hr.i7;have h8:=hr.i8;have h9:=hr.i9;have:=h.cap;have:=h.un;have:=h.off;have:=h.le;exact⟨hl,by rw[hr.l4];exact h.raw,by rw[hr.l3];exact h.buf,by omega,by omega,by omega,by omega⟩
theorem yO{V:Ren}{B:List Value}(h:B=[]):Facts V B:=by subst h;exact Facts.nil _
theorem okI{w0:W0}{Q:Exit->Act->World->Prop}{V:Ren}{a:Act}{w:World}(hI:Inv V)(hH:HR w0 V tA.heap w)(hF:FS V (ntmps 42) tA.frame a)
    (h0:∀ V1 a' w' v,Rnd V V1 v->Inv V1->HR w0 V1 tA.heap w'->FS V1 (ntmps 42) tA.frame a'->Q .normal a' w')
    (h1:∀ V1 a' w',aQV V V1->HR w0 V1 tA.heap w'->FS V1 (ntmps 42) tA.frame a'->Q (.exit 2) a' w')
    (h2:∀ V1 a' w',avB V V1->HR w0 V1 tE.heap w'->FS V1 (ntmps 42) tE.frame a'->Q .ret a' w'):hU.wp Tryd.prog Q a w:=by
 have hv:RA V:=xZ (yS hH hF)
 refine fS (bt:=btI) (ft:=ftI) (G:=GI V) (A:=[]) (tin:=tA) hI.n.2 (fun j i b1 b2 h=>by
  unfold GI at h;dsimp only at h;split at h
  .exact h.1.2
  .exact h.1.2
  .exact h.1.2
  .exact h.1.2
  .exact h.1.2
  .exact h.elim) au5 (aUF hv hI) ?_ ?_ ?_ hH hF (Facts.nil _)
 .intro j e tp V1 a' w' hft q1 q2 q3
  cases e with
  |normal=>cases hft;obtain⟨v,q3⟩:=q3;exact h0 V1 a' w' v q3 (hI.rnd q3 q1.len) q1 q2
  |ret=>cases hft;exact h2 V1 a' w' ⟨q3.1,[],V,.nil ⟨⟨rfl,rfl,rfl,rfl,rfl,rfl,rfl,rfl,rfl,rfl,rfl,rfl,rfl,rfl,rfl,fun _ _=>rfl⟩,rfl,rfl,rfl,rfl,rfl⟩,hI.n,q3.2⟩ q1 q2
  |exit id =>
   match id,hft with
   |2,hft =>
    cases hft
    obtain⟨s,q3⟩:=q3
    refine h1 V1 a' w' ⟨[],.nil s,hI.sm s q1.len,?_⟩ q1 q2
    have hd:dc V1=dc V:=by
     have:rb V1=rb V:=by funext k;unfold rb;rw[s.l4,s.i7]
     unfold dc;rw[s.i10,s.i6,s.i7,this]
    rw[s.i7,s.i6,hd,s.b11];exact q3
 .intro r s c hs hw
  unfold btI at hs
  split at hs
  .cases hs
   cases (hw:c=blk4)
   exact ok4 (fun V hl=>hl) (fun V V1 _ hl hv h=>⟨hl,hv,h⟩) (fun V V1 _ hl h=>⟨hl,h⟩) (fun V V1 _ hl h=>⟨hl,h⟩)
  .split at hs
   .cases hs
    cases (hw:c=V9)
    exact aZ6 (fun V hl=>hl) (fun V V1 _ hl h=>⟨hl,h⟩) (fun V V1 _ hl h=>⟨hl,h⟩)
   .cases hs
 .intro r s hs i e tp B hi V1 V2 _
  refine yO ?_
  unfold btI at hs
  split at hs
  .cases hs
   match i,hi with
   |0,hi=>cases hi;rfl
   |1,hi=>cases hi;rfl
   |2,hi=>cases hi;rfl
  .split at hs
   .cases hs
    match i,hi with
    |0,hi=>cases hi;rfl
    |1,hi=>cases hi;rfl
   .cases hs
theorem ajH{w0:W0}{Q:Exit->Act->World->Prop}:∀(m:Nat)(V:Ren)(a:Act)(w:World),(gI V 6-gI V 7).toNat<=m->Inv V->HR w0 V tA.heap w->FS V (ntmps 42) tA.frame a ->
    (∀ V1 a' w',aQV V V1->HR w0 V1 tA.heap w'->FS V1 (ntmps 42) tA.frame a'->Q (.exit 2) a' w') ->
    (∀ V1 a' w',avB V V1->HR w0 V1 tE.heap w'->FS V1 (ntmps 42) tE.frame a'->Q .ret a' w')->wpL Tryd.prog hU Q a w:=by
 intro m
 induction m with
 |zero =>
  intro V a w hm hI hH hF h1 h2
  refine zR (okI hI hH hF ?_ h1 h2)
  intro V1 a' w' v hr _ _ _
  obtain⟨w,_,h7,h9,w1,w2,w3⟩:=hr.ok
  omega
 |succ m ih =>
  intro V a w hm hI hH hF h1 h2
  refine zR (okI hI hH hF ?_ h1 h2)
  intro V1 a' w' v hr hI1 hH1 hF1
  have h6:=hr.fx.i6
  have h0:=hr.fx.h0;have h73:=hr.fx.h73
  refine ih V1 a' w' ?_ hI1 hH1 hF1 ?_ ?_
  .obtain⟨w,_,h7,h9,w1,w2,w3⟩:=hr.ok
   omega
  .intro V2 a'' w'' ⟨cs,q1,q2,q3⟩
   exact h1 V2 a'' w'' ⟨v::cs,.cons hr hI1.n q1,q2,q3⟩
  .intro V2 a'' w'' ⟨q0,cs,Vm,q1,q2⟩
   exact h2 V2 a'' w'' ⟨⟨q0.1.trans h0,q0.2.trans h73⟩,v::cs,Vm,.cons hr hI1.n q1,q2⟩
theorem eL{G:Goal}(hCL:∀ V,G.CL 49 V->PR V)(hCO:∀ V V1,G.CL 49 V->PR V->Ln V1->QR V V1->G.CO 49 0 V V1):∀ f s,cM f=some s->yT Tryd.prog G f s:=by
 intro f s hs;unfold cM at hs;split at hs
 .rename_i hf;subst hf;cases hs;exact akU hCL hCO
 .cases hs
def PD(V:Ren):Prop:=PR V/\gI V 9<=9000000
theorem aVH{G:Goal}(hCL:∀ V,G.CL 48 V->PD V)(hCO:∀ V V1,G.CL 48 V->PD V->Ln V1->DE V V1->G.CO 48 0 V V1):yT Tryd.prog G 48 spD:=by
 refine zU (E:=ED) (Gt:=GD) (fn:=wK 48) (c:=body 48) (s:=spD) zQ qB follows (by kernel_rfl) (by kernel_rfl) (by kernel_rfl) (by kernel_rfl) (by kernel_rfl) (by kernel_rfl) ?_ ?_ ?_ ?_ (fun V j i V1 V2 h=>h.1.2) ?_ (fun V=>eL (fun _ h=>h.elim) (fun _ _ h=>h.elim))
 .intro e j tp h;have h:=h.resolve_right fun h=>by cases h
  cases e with
  |normal=>cases h;exact⟨(fun id h=>by cases h),.bool true,by kernel_rfl,_,rfl⟩
  |ret=>cases h;exact⟨(fun id h=>by cases h),.bool true,by kernel_rfl,_,rfl⟩
  |exit id=>cases h
 .intro V hcl hlen hr;have p:=hCL V hcl;refine⟨p.1.n.2,[],2000,Facts.nil _,?_⟩;show (aRV []).Holds (GD V) V;rw[aiZ];exact awH p.1 (ahH hr) p.2
 .intro V j v tp sm V1 hcl hout hlen _ hJ;have p:=hCL V hcl;have q:DE V V1:=hJ;match j,hout with
  |0,hout =>
   cases hout;refine⟨hCO V V1 hcl p q.p.n q,fun x hx=>?_⟩;have hx:x∈[(0,0),(2,0),(16,0),(73,0),(74,0),(17,2),(18,1),(72,1)]++opD.map fun i=>(i,4):=hx;have q:=q.s;rw[List.mem_append]at hx;rcases hx with hx|hx
   .simp only[List.mem_cons,List.not_mem_nil,or_false]at hx;rcases hx with rfl|rfl|rfl|rfl|rfl|rfl|rfl|rfl
    .exact q.h0
    .exact q.h2
    .exact q.h16
    .exact q.h73
    .exact q.h74
    .exact q.l17
    .exact q.i18
    .exact q.i72
   .obtain⟨i,hi,rfl⟩:=List.mem_map.1 hx;exact q.op i hi
 .intro V w0 r s c hs hw;rcases hs with hs|hs
  .have hs:lt1 r=some s:=hs;unfold lt1 at hs;split at hs
   .cases hs;cases (hw:c=aqG);intro Q b a w hH hF hl hQ;exact xU (adA (av6 b) b a w (Nat.le_refl _) hl hH hF (fun V1 a' w' l f h1 h2=>hQ 0 (.exit 0) tD [] rfl V1 a' w' h1 h2 ⟨l.p.n,l,f⟩))
   .cases hs
  .cases hs
 .intro V r s hs i e tp B hi V1 V2 _;refine yO ?_;rcases hs with hs|hs
  .have hs:lt1 r=some s:=hs;unfold lt1 at hs;split at hs
   .cases hs;match i,hi with
    |0,hi=>cases hi;rfl
   .cases hs
  .cases hs
def bt(R:List UInt8)(k:Int):Int:=((R.getD k.toNat 0).toNat:Int)
def d1(e:Int)(R:List UInt8):Dc:=dcd e R.length (bt R)
theorem O4{n n':Int}{b b':Int->Int}(h1:1<=n)(hn:n<=n')(h:∀ k:Int,0<=k->k<n->b' k=b k)(hne:yE n b≠.more):yE n' b'=yE n b:=by
 have e0:b' 0=b 0:=h 0 (by omega) (by omega);unfold yE at hne ⊢;rw[e0];by_cases c:ia (b 0) 128=0
 .rw[if_pos c,if_pos c,if_neg (show ¬ n'<1 by omega),if_neg (show ¬ n<1 by omega)]
 rw[if_neg c]at hne;rw[if_neg c,if_neg c];by_cases c2:ia (b 0) 224=192
 .rw[if_pos c2]at hne;by_cases hn2:n<2
  .rw[if_pos hn2]at hne;exact (hne rfl).elim
  rw[if_pos c2,if_pos c2,if_neg hn2,if_neg (show ¬ n'<2 by omega),h 1 (by omega) (by omega)]
 rw[if_neg c2]at hne;rw[if_neg c2,if_neg c2];by_cases c3:ia (b 0) 240=224
 .rw[if_pos c3]at hne;by_cases hn2:n<3
  .rw[if_pos hn2]at hne;exact (hne rfl).elim
  rw[if_pos c3,if_pos c3,if_neg hn2,if_neg (show ¬ n'<3 by omega),h 1 (by omega) (by omega),h 2 (by omega) (by omega)]
 rw[if_neg c3]at hne;rw[if_neg c3,if_neg c3];by_cases c4:ia (b 0) 248=240
 .rw[if_pos c4]at hne;by_cases hn2:n<4
  .rw[if_pos hn2]at hne;exact (hne rfl).elim
  rw[if_pos c4,if_pos c4,if_neg hn2,if_neg (show ¬ n'<4 by omega),h 1 (by omega) (by omega),h 2 (by omega) (by omega),h 3 (by omega) (by omega)]
 .rw[if_neg c4,if_neg c4]
theorem nI{n n' u u' v v':Int}(hn:n<=n')(hu:2<=n->u'=u)(hv:4<=n->v'=v)(hne:zW n u v≠.more):zW n' u' v'=zW n u v:=by
 unfold zW at hne ⊢;by_cases hn2:n<2
 .rw[if_pos hn2]at hne;exact (hne rfl).elim
 rw[if_neg hn2]at hne;rw[if_neg hn2,if_neg (show ¬ n'<2 by omega),hu (by omega)];by_cases c:ia u 64512=56320
 .rw[if_pos c,if_pos c]
 rw[if_neg c]at hne;rw[if_neg c,if_neg c];by_cases c2:ia u 64512=55296
 .rw[if_pos c2]at hne;by_cases hn3:n<4
  .rw[if_pos hn3]at hne;exact (hne rfl).elim
  rw[if_pos c2,if_pos c2,if_neg hn3,if_neg (show ¬ n'<4 by omega),hv (by omega)]
 .rw[if_neg c2,if_neg c2]
theorem oI{e n n':Int}{b b':Int->Int}(h1:1<=n)(hn:n<=n')(h:∀ k:Int,0<=k->k<n->b' k=b k)(hne:dcd e n b≠.more):dcd e n' b'=dcd e n b:=by
 unfold dcd at hne ⊢;split
 .rename_i c;rw[if_pos c]at hne;exact O4 h1 hn h hne
 rename_i c;rw[if_neg c]at hne;split
 .rename_i c2;rw[if_pos c2]at hne;exact nI hn (fun h2=>by rw[h 0 (by omega) (by omega),h 1 (by omega) (by omega)]) (fun h2=>by rw[h 2 (by omega) (by omega),h 3 (by omega) (by omega)]) hne
 .rename_i c2;rw[if_neg c2]at hne;exact nI hn (fun h2=>by rw[h 0 (by omega) (by omega),h 1 (by omega) (by omega)]) (fun h2=>by rw[h 2 (by omega) (by omega),h 3 (by omega) (by omega)]) hne
theorem dO{e n:Int}{b b':Int->Int}(h1:1<=n)(h:∀ k:Int,0<=k->k<n->b' k=b k):dcd e n b'=dcd e n b:=by
 by_cases hm:dcd e n b=.more
 .by_cases hm':dcd e n b'=.more
  .rw[hm,hm']
  .exact (oI h1 (Int.le_refl _) (fun k a c=>(h k a c).symm) hm').symm
 .exact oI h1 (Int.le_refl _) h hm
theorem anJ{e n:Int}{b:Int->Int}(h:dcd e n b=.more):n<4:=by
 rcases Int.lt_or_le n 4 with h4|h4
 .exact h4
 exfalso;unfold dcd yE zW at h;rw[if_neg (show ¬ n<1 by omega),if_neg (show ¬ n<2 by omega),if_neg (show ¬ n<3 by omega),if_neg (show ¬ n<4 by omega),if_neg (show ¬ n<2 by omega),if_neg (show ¬ n<4 by omega),if_neg (show ¬ n<2 by omega),if_neg (show ¬ n<4 by omega)]at h;repeat' (split at h)
 all_goals cases h
theorem aCC{V:Ren}(p:PR V)(r:RR V){k:Int}(h0:0<=k)(hk:k<gI V 6-gI V 7):bt (zH V) k=rb V k:=by
 have hl:=zG p r;have x6:=r.i6;have x7:=r.i7;have y:=p.raw;unfold bt rb;congr 2;unfold zH;rw[List.getD_eq_getElem?_getD,List.getElem?_append_left (by omega),List.getD_eq_getElem?_getD];unfold zY;rw[List.getElem?_drop,List.getElem?_take,if_pos (by omega),show (gI V 7).toNat+k.toNat=(gI V 7+k).toNat from by omega]
theorem rE{V:Ren}(p:PR V)(r:RR V):((zH V).length:Int)=(gI V 6-gI V 7)+(gI V 18-gI V 19):=by
 have hl:=zG p r;have h2:=(mB2 p r).1;have:=p.le;unfold zH;rw[List.length_append];omega
theorem aX{V:Ren}(p:PR V)(r:RR V)(hlt:gI V 7<gI V 6)(hne:dc V≠.more):d1 (gI V 10) (zH V)=dc V:=by
 unfold dc at hne ⊢;unfold d1;have:=rE p r;have:=p.inp;exact oI (by omega) (by omega) (fun k h0 hk=>aCC p r h0 hk) hne
theorem aN3{V:Ren}(p:PR V)(r:RR V)(hlt:gI V 7<gI V 6)(he:gB V 11=true):d1 (gI V 10) (zH V)=dc V:=by
 unfold dc d1;have:=rE p r;have:=p.eo he;rw[show ((zH V).length:Int)=gI V 6-gI V 7 from by omega];exact dO (by omega) (fun k h0 hk=>aCC p r h0 hk)
inductive DR(e:Int):List UInt8->List Int->List UInt8->Prop
 |nil (R:List UInt8):DR e R [] R
 |cons {R R':List UInt8} {v w:Int} {cs:List Int}:d1 e R=.ok v w->1<=w->w<=R.length->Prn v->DR e (R.drop w.toNat) cs R'->DR e R (v::cs) R'
theorem DR.append{e:Int}{R R' R'':List UInt8}{cs ds:List Int}(h:DR e R cs R')(g:DR e R' ds R''):DR e R (cs++ds) R'':=by
 induction h with
 |nil R=>exact g
 |cons h1 h2 h3 h4 _ ih=>exact .cons h1 h2 h3 h4 (ih g)
theorem DR.len{e:Int}{R R':List UInt8}{cs:List Int}(h:DR e R cs R'):R'.length+cs.length<=R.length:=by
 induction h with
 |nil R=>simp
 |cons h1 h2 h3 h4 _ ih=>simp at ih ⊢;omega
def awX(e:Int)(R:List UInt8):Prop:=R≠[]/\(d1 e R=.bad\/d1 e R=.more\/∃ v w,d1 e R=.ok v w/\¬ Prn v)
def encs(cs:List Int):List UInt8:=cs.flatMap enc1
theorem iV(v:Int):1<=(enc1 v).length/\(enc1 v).length<=4:=by
 unfold enc1;split
 .simp
 .split
  .simp
  .split<;>simp
theorem vW(cs:List Int):cs.length<=(encs cs).length/\(encs cs).length<=4*cs.length:=by
 induction cs with
 |nil=>simp[encs]
 |cons v cs ih =>
  have:=iV v;simp only[encs,List.flatMap_cons,List.length_append,List.length_cons]at ih ⊢;omega
structure RndsL(V V1:Ren)(cs:List Int):Prop where
 fx:Fx V V1
 p:PR V1
 dr:DR (gI V 10) (zH V) cs (zH V1)
 buf:(gL V1 3).take (gI V1 5).toNat=(gL V 3).take (gI V 5).toNat++encs cs
 bl:gI V1 5=gI V 5+(encs cs).length
 len:(gL V1 3).length=(gL V 3).length
 un:gI V1 8=gI V 8+cs.length
 off:gI V1 9+(zH V1).length=gI V 9+(zH V).length
theorem aoB{V V1:Ren}(r:RR V)(f:Fx V V1)(h:0<=gI V1 7/\gI V1 7<=512):RR V1:=⟨by rw[f.i18,f.i72];exact r.i18,by rw[f.i19];exact r.i19,by rw[f.i6];exact r.i6,h⟩
theorem aaG{V V1:Ren}(p:PR V)(hn:Ln V1)(f:Fx V V1)(h:gI V1 7<=gI V1 6):PR V1 :=
 ⟨hn,by rw[f.l4];exact p.raw,h,by rw[f.i18,f.i19];exact p.inp,by rw[f.i18,f.l17];exact p.inl,by rw[f.i18];exact p.inb,by rw[f.b11,f.i18,f.i19];exact p.eo⟩
theorem ahQ{V V1:Ren}{w:Int}(p:PR V)(r:RR V)(f:Fx V V1)(h:gI V1 7=gI V 7+w)(h0:0<=w)(hw:w<=gI V 6-gI V 7):zH V1=(zH V).drop w.toNat:=by
 rw[cB p r f.l4 f.i6 h f.l17 f.i18 f.i19 h0];unfold zH;rw[List.drop_append_of_le_length (by rw[zG p r];omega)]
theorem Rounds.list{V V1:Ren}{cs:List Int}(h:Rounds V cs V1):PR V->RR V->Ln V1->RndsL V V1 cs:=by
 induction h with
 |nil s =>
  intro p r hn;have p1:PR _:=aaG p hn s.toFx (by rw[s.i6,s.i7];exact p.le);have hr:=ahQ (w:=0) p r s.toFx (by rw[s.i7];omega) (by omega) (by have:=p.le;omega);simp only[Int.toNat_zero,List.drop_zero]at hr;exact⟨s.toFx,p1,by rw[hr];exact .nil _,by rw[s.l3,s.i5];simp[encs],by rw[s.i5];simp[encs],by rw[s.l3],by rw[s.i8];simp,by rw[s.i9,hr]⟩
 |cons hr hn1 hrs ih =>
  intro p r hn;rename_i b b1 b2 v cs;obtain⟨w,hd,h7,h9,w1,w2,w3⟩:=hr.ok;have x6:=r.i6;have x7:=r.i7;have f6:=hr.fx.i6;have p1:=aaG p hn1 hr.fx (by omega);have r1:=aoB r hr.fx (by omega);have hl:=rE p r;have:=p.inp;have hrest:=ahQ p r hr.fx h7 (by omega) w2;obtain⟨q1,q2,q3,q4,q5,q6,q7,q8⟩:=ih p1 r1 hn;have hwl:w<=(zH b).length:=by omega
  refine⟨hr.fx.trans q1,q2,.cons (w:=w) ?_ w1 hwl hr.prn (by rw[<-hrest,<-hr.fx.i10];exact q3),?_,?_,by rw[q6,hr.len],?_,?_⟩
  .rw[aX p r (by omega) (by rw[hd];intro h;cases h)];exact hd
  .rw[q4,hr.buf,List.append_assoc];rfl
  .rw[q5,hr.bl];simp only[encs,List.flatMap_cons,List.length_append];omega
  .rw[q7,hr.un];simp only[List.length_cons];omega
  .rw[q8,h9,hrest,List.length_drop];omega
def FO(l:List (Nat × Value)):List (Nat × Value):=[(0,.pointer (some ⟨0,0,none⟩)),(1,I 12 0 100),(5,I 5 0 1536)]++l
def tO:Tpl:={ m:=90,F:=FO [(6,sB (x 13))],H:=HP [],G:=[73] }
def tX:Tpl:={ m:=90,F:=FO [],H:=HP [],G:=[73] }
def tX0:Tpl:={ m:=90,F:=FO [],H:=HP [(17,Z 0)],G:=[73] }
def opX:List Nat:=(List.range 52).filterMap fun i=>if [15,17,20,21,18,22,23,16,45,11,13,14].contains i then none else some (20+i)
def av7:LSpec:={ j:=25,tin:=tA,outs:=[(.exit 2,tA,[]),(.ret,tE,[])] }
def auE:Nat->Option LSpec:=fun n=>if n=25 then some av7 else none
def aZ8:Nat->Bool:=fun n=>Nat.beq n 21
def aa9:Code:=(findLoop 19 100 (body 42)).getD .skip
def ftO:AExit->Option (Nat × Tpl):=fun e=>match e with
 | .normal=>some (0,tO)
 | .exit 0=>some (1,tX)
 | .ret=>some (2,tE)
 |_=>none
def EO:Env:=EF 42 cM aZ8 (fun _=>none) auE ftO
def aVO(A:List TB):Tre:=tre EO 2000 aa9 [] (A.map TB.enc) tO.frame tO.heap
def pad:Code:=(findLoop 123 100 (body 42)).getD .skip
def ftP:AExit->Option (Nat × Tpl):=fun e=>match e with
 | .normal=>some (0,tX0)
 | .exit 11=>some (1,tX0)
 |_=>none
def EPd:Env:=EF 42 (fun _=>none) (fun _=>false) (fun _=>none) (fun _=>none) ftP
def aPY:Tre:=tre EPd 2000 pad [] [] tX0.frame tX0.heap
theorem RA.rr{V:Ren}(r:RA V):RR V:=⟨r.i18,r.i19,r.i6,r.i7⟩
structure OB(V:Ren):Prop where
 p:PR V
 buf:(gL V 3).length=1536
 b5:gI V 5<=4*gI V 8+20
 off:gI V 9+(zH V).length<=4000000
structure Up(V γ:Ren):Prop where
 h0:γ[0]?=V[0]?
 h1:γ[1]?=V[1]?
 h2:γ[2]?=V[2]?
 h16:γ[16]?=V[16]?
 h73:γ[73]?=V[73]?
 h74:γ[74]?=V[74]?
 l17:gL γ 17=gL V 17
 i18:gI γ 18=gI V 18
 i72:gI γ 72=gI V 72
 i10:gI γ 10=gI V 10
 i12:gI γ 12=gI V 12
 op:∀ i∈opA,gV γ i=gV V i
 p:PR γ
 rest:zH γ=zH V
 b19:gI V 19<=gI γ 19
structure Up0(V γ:Ren):Prop extends Up V γ where
 l3:gL γ 3=gL V 3
 i5:gI γ 5=gI V 5
 i8:gI γ 8=gI V 8
 i9:gI γ 9=gI V 9
theorem aNA{V γ:Ren}(p:PR V)(hn:Ln γ)(s:Sm V γ):Up0 V γ :=
 ⟨⟨s.h0,s.h1,s.h2,s.h16,s.h73,s.h74,s.l17,s.i18,s.i72,s.i10,s.i12,s.op,aaG p hn s.toFx (by rw[s.i6,s.i7];exact p.le),rest_of s.l4 s.i6 s.i7 s.l17 s.i18 s.i19,by rw[s.i19];exact Int.le_refl _⟩,s.l3,s.i5,s.i8,s.i9⟩
theorem aq6{V γ:Ren}(o:OB V)(r:RA V)(u:Up0 V γ)(rg:RR γ)(hlt:gI V 8<gI V 12):Inv γ:=by
 have h12:=r.i12;have h8:=r.i8;have h5:=r.i5;have b:=o.b5;have x6:=rg.i6;have x7:=rg.i7;have l:=u.p.le;have hl:=rE u.p rg;have y:=u.p.inp;have off:=o.off;have e:=congrArg List.length u.rest;have e5:=u.i5;have e8:=u.i8;have e9:=u.i9;exact⟨u.p.n,u.p.raw,by rw[u.l3];exact o.buf,l,by omega,by omega,by omega⟩
structure Os(V γ:Ren):Prop where
 h0:γ[0]?=V[0]?
 h1:γ[1]?=V[1]?
 h2:γ[2]?=V[2]?
 h16:γ[16]?=V[16]?
 h73:γ[73]?=V[73]?
 h74:γ[74]?=V[74]?
 l17:gL γ 17=gL V 17
 i18:gI γ 18=gI V 18
 i72:gI γ 72=gI V 72
 i10:gI γ 10=gI V 10
 i12:gI γ 12=gI V 12
 op:∀ i∈opA,gV γ i=gV V i
theorem Os.trans{a b c:Ren}(h:Os a b)(g:Os b c):Os a c:=⟨g.h0.trans h.h0,g.h1.trans h.h1,g.h2.trans h.h2,g.h16.trans h.h16,g.h73.trans h.h73,g.h74.trans h.h74,g.l17.trans h.l17,g.i18.trans h.i18,g.i72.trans h.i72,g.i10.trans h.i10,g.i12.trans h.i12,fun i hi=>(g.op i hi).trans (h.op i hi)⟩
theorem Os.refl(a:Ren):Os a a:=⟨rfl,rfl,rfl,rfl,rfl,rfl,rfl,rfl,rfl,rfl,rfl,fun _ _=>rfl⟩
theorem Fx.os{a b:Ren}(f:Fx a b):Os a b:=⟨f.h0,f.h1,f.h2,f.h16,f.h73,f.h74,f.l17,f.i18,f.i72,f.i10,f.i12,f.op⟩
theorem Up.os{a b:Ren}(f:Up a b):Os a b:=⟨f.h0,f.h1,f.h2,f.h16,f.h73,f.h74,f.l17,f.i18,f.i72,f.i10,f.i12,f.op⟩
structure RO(V γ:Ren)(cs:List Int)(z:List UInt8):Prop where
 s:Os V γ
 p:PR γ
 dr:DR (gI V 10) (zH V) cs (zH γ)
 buf:(gL γ 3).take (gI γ 5).toNat=(gL V 3).take (gI V 5).toNat++encs cs++z
 bl:gI γ 5=gI V 5+(encs cs).length+z.length
 len:(gL γ 3).length=(gL V 3).length
 un:gI γ 8=gI V 8+cs.length+z.length
 off:gI γ 9+(zH γ).length=gI V 9+(zH V).length
 b19:gI V 19<=gI γ 19
theorem qL(a b:List Int):encs (a++b)=encs a++encs b:=by unfold encs;exact List.flatMap_append
theorem RO.trans{a b c:Ren}{cs ds:List Int}{z:List UInt8}(h:RO a b cs [])(g:RO b c ds z):RO a c (cs++ds) z:=by
 refine⟨h.s.trans g.s,g.p,h.dr.append (by rw[<-h.s.i10];exact g.dr),?_,?_,by rw[g.len,h.len],?_,by rw[g.off,h.off],Int.le_trans h.b19 g.b19⟩
 .rw[g.buf,h.buf,qL];simp
 .have:=h.bl;have:=g.bl;rw[qL];simp at *;omega
 .have:=h.un;have:=g.un;simp at *;omega
theorem akS{V J1 V2:Ren}{cs:List Int}(u:Up0 V J1)(q:RndsL J1 V2 cs):RO V V2 cs []:=by
 have h19:=q.fx.i19;have b:=u.b19;refine⟨u.os.trans q.fx.os,q.p,by rw[<-u.rest,<-u.i10];exact q.dr,by rw[q.buf,u.l3,u.i5,List.append_nil],by rw[q.bl,u.i5];simp,by rw[q.len,u.l3],by rw[q.un,u.i8];simp,by rw[q.off,u.i9,u.rest],by omega⟩
theorem RO.sm{V b2 J2:Ren}{cs:List Int}{z:List UInt8}(h:RO V b2 cs z)(hn:Ln J2)(s:Sm b2 J2):RO V J2 cs z:=by
 have p:=h.p;have e:=rest_of s.l4 s.i6 s.i7 s.l17 s.i18 s.i19;exact⟨h.s.trans s.os,aaG p hn s.toFx (by rw[s.i6,s.i7];exact p.le),by rw[e];exact h.dr,by rw[s.l3,s.i5];exact h.buf,by rw[s.i5];exact h.bl,by rw[s.l3];exact h.len,by rw[s.i8];exact h.un,by rw[s.i9,e];exact h.off,by rw[s.i19];exact h.b19⟩
theorem RO.nul{V b2 J2:Ren}{cs:List Int}(h:RO V b2 cs [])(hn:Ln J2)(f:Fx b2 J2)(l3:gL J2 3=(gL b2 3).set (gI b2 5).toNat 0)(i5:gI J2 5=gI b2 5+1)(i7:gI J2 7=gI b2 7)(i8:gI J2 8=gI b2 8+1)(i9:gI J2 9=gI b2 9)
    (h0:0<=gI b2 5) (hl:gI b2 5+1<=(gL b2 3).length):RO V J2 cs [0]:=by
 have p:=h.p
 have e:=rest_of f.l4 f.i6 i7 f.l17 f.i18 f.i19
 refine⟨h.s.trans f.os,aaG p hn f (by rw[f.i6,i7];exact p.le),by rw[e];exact h.dr,?_,by rw[i5,h.bl];simp,by rw[l3];simp[h.len],by rw[i8,h.un];simp,by rw[i9,e];exact h.off,by rw[f.i19];exact h.b19⟩
 rw[l3,i5,aa5 h0 hl,h.buf];simp
def XO(V γ:Ren):Prop:=∃ cs,(RO V γ cs []/\gI γ 12<=gI γ 8)\/(RO V γ cs [0]/\gB γ 11=true/\zH γ=[])
def EO2(V γ:Ren):Prop:=Er V γ/\∃ cs R,DR (gI V 10) (zH V) cs R/\awX (gI V 10) R
theorem aPP{b:Ren}(p:PR b)(r:RR b)(hlt:gI b 7<gI b 6)(h:Bad b):awX (gI b 10) (zH b):=by
 have hl:=rE p r;have:=p.inp;refine⟨fun e=>by rw[e]at hl;simp at hl;omega,?_⟩;rcases h with h|⟨h,he⟩|⟨v,w,h,hp⟩
 .left;rw[aX p r hlt (by rw[h];intro h;cases h)];exact h
 .right;left;rw[aN3 p r hlt he];exact h
 .right;right;exact⟨v,w,by rw[aX p r hlt (by rw[h];intro h;cases h)];exact h,hp⟩
theorem Rounds.mono{V V1:Ren}{cs:List Int}(h:Rounds V cs V1):gI V 7<=gI V1 7:=by
 induction h with
 |nil s=>rw[s.i7];exact Int.le_refl _
 |cons hr hn1 hrs ih =>
  obtain⟨w,hd,h7,h9,w1,w2,w3⟩:=hr.ok;omega
theorem aCF{V J1 b2:Ren}(u:Up0 V J1)(rg:RR J1)(h:avB J1 b2):EO2 V b2:=by
 obtain⟨he,cs,bm,hr,hn,hlt,hb⟩:=h;have q:=hr.list u.p rg hn;have h10:=q.fx.i10;have hle:=q.p.le;have x6:=rg.i6;have x7:=rg.i7;have f6:=q.fx.i6;have rm:RR bm:=aoB rg q.fx (by have:=hr.mono;omega);refine⟨⟨he.1.trans u.h0,he.2.trans u.h73⟩,cs,zH bm,by rw[<-u.rest,<-u.i10];exact q.dr,?_⟩;have:=aPP q.p rm hlt hb;rw[h10,u.i10]at this;exact this
theorem upB{V J0 V1 J1:Ren}(p0:PR J0)(e17:gL J0 17=gL V 17)(e18:gI J0 18=gI V 18)(er:zH J0=zH V)(i19:gI J0 19=gI V 19)(hn1:Ln V1)(q:QR J0 V1)(hn:Ln J1)(f4:gL J1 4=gL V1 4)(f6:gI J1 6=gI V1 6)(f7:gI J1 7=gI V1 7)(f11:gB J1 11=gB V1 11)(f19:gI J1 19=gI V1 19)
    (os:Os V J1) (l3:gL J1 3=gL V 3) (i5:gI J1 5=gI V 5) (i8:gI J1 8=gI V 8) (i9:gI J1 9=gI V 9):Up0 V J1:=by
 have p1:=q.pp p0 hn1
 have b:=q.b19
 have h17:gL J1 17=gL V1 17:=by rw[os.l17,q.l17,e17]
 have h18:gI J1 18=gI V1 18:=by rw[os.i18,q.i18,e18]
 exact⟨⟨os.h0,os.h1,os.h2,os.h16,os.h73,os.h74,os.l17,os.i18,os.i72,os.i10,os.i12,os.op,p1.of hn f4 f6 f7 f11 h17 h18 f19,by rw[rest_of f4 f6 f7 h17 h18 f19,q.rest,er],by omega⟩,l3,i5,i8,i9⟩
theorem aRD{V J0 V1 J1 V2:Ren}{cs:List Int}(q:QR J0 V1)(f6:gI J1 6=gI V1 6)(f7:gI J1 7=gI V1 7)(f11:gB J1 11=gB V1 11)(f19:gI J1 19=gI V1 19)(i19:gI J0 19=gI V 19)(hr:Rounds J1 cs V2)
    (he:gI V2 7=gI V2 6\/gI V2 7<gI V2 6/\dc V2=.more/\gB V2 11=false) (fx:Fx J1 V2) (hf:gB V2 11=false):cs≠[]\/gI V 19<gI V2 19:=by
 by_cases hc:cs=[]
 .right
  subst hc
  have h19:=fx.i19
  have h11:=fx.b11
  cases hr with
  |nil s =>
  have s6:=s.i6;have s7:=s.i7
  rcases q.pr with⟨_,e7,e6,_,e11,h|h⟩|⟨_,_,_,⟨h,_⟩|⟨_,h,_⟩⟩
  .rw[<-e11,<-f11,<-h11,hf]at h;cases h
  .rcases he with he|⟨_,he,_⟩
   .omega
   .have:=anJ he;omega
  .rw[<-f11,<-h11,hf]at h;cases h
  .omega
 .exact .inl hc
theorem agF{b:Ren}(p:PR b)(r:RR b)(he:gB b 11=true)(h:gI b 7=gI b 6):zH b=[]:=by
 have hl:=rE p r;have:=p.eo he;exact List.eq_nil_of_length_eq_zero (by omega)
def GO(V:Ren):Goal where
 J:=fun j γ=>match j with
  |0=>∃ cs,RO V γ cs []/\gB γ 11=false/\gB γ 13=false/\(gB V 13=true\/cs≠[]\/gI V 19<gI γ 19)/\gI V 8<gI V 12
  |1=>XO V γ
  |2=>EO2 V γ
  |_=>False
 L:=fun j V1=>Inv V1
 O:=fun j i V1 V2=>match i with
  |0=>Ln V2/\aQV V1 V2
  |1=>Ln V2/\avB V1 V2
  |_=>False
 W:=fun j c=>c=.loop hU
 CL:=fun j V1=>PR V1
 CO:=fun j i V1 V2=>Ln V2/\QR V1 V2
abbrev aG5:Code:=.loop hU
abbrev aS6:List TB:=[(.lt (v 8) (v 12))]
abbrev aS9:=.or (.not (.var 13)) (.eq (v 7) (v 6))::aS6
abbrev aPG:List TB:=[(.lt (v 5) 1536),(.var 11)]
abbrev aO4:=.lt (v 5) (lb 3)::aPG
abbrev aP6:=nl 1536 (v 5+1)::aO4
abbrev aUR:=nl 2000 (v 8+1)::aP6
abbrev aPB:SgT:=[bm 0,bm 73]
abbrev aS5:SgT:=im 12::aPB
abbrev aV5:SgT:=im 5::aS5
abbrev aYU:SgT:=im 72::im 18::bm 16::(ids ([32]++dn 30 11)++aV5)
abbrev aVM:SgT:=bm 74::lm 17::lm 4::(3,.ltm (.set (.var 3) (v 5) 0))::(ids (dn 71 6++dn 64 21)++(im 9::im 10::im 7::im 6::bm 2::(39,.idn)::(8,.itm (v 8+1))::(37,.idn)::bm 1::(11,.btm (.var 11))::im 19::im 72::im 18::bm 16::(ids ([32]++dn 30 11)++((5,.itm (v 5+1))::aS5))))
abbrev aW6:SgT:=bm 74::lm 17::lm 4::lm 3::(ids (dn 71 6++dn 64 21)++(im 9::im 10::im 7::im 6::bm 2::(39,.idn)::im 8::(37,.idn)::bm 1::(11,.btm (.var 11))::im 19::im 72::im 18::bm 16::(ids ([32]++dn 30 11)++((13,.btm (.lit false))::aV5))))
abbrev aYO:SgT:=bm 74::lm 17::lm 4::lm 3::(ids (dn 71 6++dn 64 21)++(im 9::im 10::im 7::im 6::bm 2::(39,.idn)::im 8::(37,.idn)::bm 1::(11,.btm (.var 11))::im 19::im 72::im 18::bm 16::(ids ([32]++dn 30 7)++aPB)))
abbrev aRN:SgT:=bm 74::lm 17::lm 4::lm 3::(ids (dn 71 6++dn 64 21)++(im 9::im 10::im 7::im 6::bm 2::(39,.idn)::im 8::(37,.idn)::bm 1::(11,.btm (.var 11))::im 19::aYU))
def abZ:Tre:=(.fork (.fork (.call 49 90 90 (rgs spR.n spR.tin) (SgT.enc (bm 74::lm 17::lm 4::(ids (dn 71 6++dn 64 21)++((43,.val (rv 9 0 10000000))::(42,.val (rv 10 1 3))::im 7::im 6::bm 2::(39,.idn)::(38,.val (rv 8 0 2000))::(37,.idn)::(36,.val (.func (.yield 4) #[(.int .i64 1),(.int .i64 0),(.int .i64 1536),(.int .i64 1536)] #[]))::(11,.btm (.var 11))::im 19::im 72::im 18::bm 16::(ids ([32]++dn 30 11)++aPB))))) (List.map TB.enc aS9) (.cons (rgs 0 tRo++rgV (.bool true)) (.loop 25 90 180 (rgs EO.n av7.tin) aG5 (SgT.enc (bm 74::lm 17::lj 4 94::lm 3::(ids (dn 71 6++dn 64 21)++(im 9::im 10::ij 7 97::ij 6 96::bm 2::(39,.idn)::im 8::(37,.idn)::bm 1::(11,.btm (.var 101))::ij 19 109::aYU)))) (List.map TB.enc aS9) (.cons (rgs EO.n tA) (.fork (nd 90 [(.var 11)] ((.lt (v 5) 1536))
 (nd 90 aPG ((.lt (v 5) (lb 3)))
 (nd 90 aO4 ((nl 1536 (v 5+1)))
 (nd 90 aP6 ((nl 2000 (v 8+1)))
 (lf 1 90 90 (rgs EO.n tX) aVM aUR)))))
 (lf 0 90 90 (rgs EO.n tO) aW6 [(.not (.var 11))]))
 (.cons (rgs EO.n tE) (lf 2 90 90 (rgs EO.n tE) aYO [])
 .nil)))
 .nil))
 (.loop 25 90 90 (rgs EO.n av7.tin) aG5 (SgT.enc aRN) (List.map TB.enc ((.var 13)::(nq (v 7) (v 6))::aS6)) (.cons (rgs EO.n tA) (.fork (nd 90 [(.var 11)] ((.lt (v 5) 1536))
 (nd 90 aPG ((.lt (v 5) (lb 3)))
 (nd 90 aO4 ((nl 1536 (v 5+1)))
 (nd 90 aP6 ((nl 2000 (v 8+1)))
 (lf 1 90 90 (rgs EO.n tX) aVM aUR)))))
 (lf 0 90 90 (rgs EO.n tO) aW6 [(.not (.var 11))]))
 (.cons (rgs EO.n tE) (lf 2 90 90 (rgs EO.n tE) aYO [])
 .nil))))
 (lf 1 90 90 (rgs EO.n tX) aRN [(nl (v 8) (v 12))]))
theorem ai5:aVO []=abZ:=by kernel_rfl
theorem Sm.refl(a:Ren):Sm a a:=⟨⟨rfl,rfl,rfl,rfl,rfl,rfl,rfl,rfl,rfl,rfl,rfl,rfl,rfl,rfl,rfl,fun _ _=>rfl⟩,rfl,rfl,rfl,rfl,rfl⟩
theorem au8{V:Ren}(o:OB V)(r:RA V):abZ.Holds (GO V) V:=by
 unfold abZ;have p:=o.p;have rr:=r.rr;have hβ:=p.n.1;have r12:=r.i12;have r8:=r.i8;have r5:=r.i5;have yb:=o.buf;refine (fO (fO (cO opA hβ ?_) (pO opA hβ rfl ?_)) (lO opA hβ ?_))
 .intro J0 hl0 hA hr0 hid0 hI;simp only[DD]at hA hI;obtain⟨a0,a1⟩:=hA;obtain⟨_,i17,i4,_,_,i7,i6,_,_,_,i11,i19,_,i18,_,_,i73⟩:=hI;have hn0:Ln J0:=p.n.of i73 hl0;have p0:PR J0:=p.of hn0 i4 i6 i7 (Bool.eq_iff_iff.2 i11) i17 i18 i19;have er:zH J0=zH V:=rest_of i4 i6 i7 i17 i18 i19;have hL0:(GO V).CL 49 J0:=p0;refine⟨hL0,(aC ?_ aN)⟩
  .intro V1 hq1 hO1;obtain⟨hn1,q⟩:=hO1;have hb1:=zE hβ hn1.1;simp only[Nat.reduceAdd]at hb1;refine (pO opA hb1 rfl ?_)
   .intro J1 hl1 hA hr1 hid1 hI;simp +decide only[DD,aA hβ]at hA hI;obtain⟨b0,b1⟩:=hA;obtain⟨j74,j17,j4,j3,j9,j10,j7,j6,j2,j8,j1,j11,j19,j72,j18,j16,j5,j12,j0,j73⟩:=hI;have os:Os V J1:=⟨j0,j1,j2,j16,j73,j74,j17,j18,j72,j10,j12,uU hβ (by decide) hid1⟩
    have hm1:Ln J1:=p.n.of j73 hl1;have u:Up0 V J1:=upB p0 i17 i18 er i19 hn1 q hm1 j4 j6 j7 (Bool.eq_iff_iff.2 j11) j19 os j3 j5 j8 j9;have b6:=q.b6;have b19:=q.b19;have h18:=q.i18;have x18:=rr.i18;have x19:=rr.i19;have hle:=p.inp;have hib:=p.inb;have rg:RR J1:=⟨by rw[j18,j72];exact rr.i18,by omega,by omega,by omega⟩
    have hlt:gI V 8<gI V 12:=by omega
    have hL1:(GO V).L 25 J1:=aq6 o r u rg hlt;refine⟨hL1,(oC ?_ (oC ?_ oN))⟩
    .intro V2 hq2 hO2;obtain⟨⟨hb2,hg2⟩,cs,hr,hI,hend⟩:=hO2;have hne:Ln V2:=⟨hb2,hg2⟩
     have rl:=hr.list u.p rg hne;have ro:=akS u rl;have zz:=xZ hq2;have zz5:=zz.i5;have zzr:=zz.rr;have zl:=rl.len;have zb:=hI.buf;have zc:=hI.cap;have zu:=hI.un;have ze:=hI.le;refine (fO (nO hb2 ?_ (nO hb2 ?_ (nO hb2 ?_ (nO hb2 ?_ (lO opA hb2 ?_))))) (lO opA hb2 ?_));iterate 4 (focus (intro hA;simp only[DD]at hA ⊢;omega))
     .intro J2 hl2 hA hr2 hid2 hI;simp only[DD]at hA hI;obtain⟨c0,c1,c2,c3,c4⟩:=hA;obtain⟨k74,k17,k4,k3,k9,k10,k7,k6,k2,k8,k1,k11,k19,k72,k18,k16,k5,k12,k0,k73⟩:=hI;have f2:Fx V2 J2:=⟨k0,k1,k2,k4,k6,k10,k12,Bool.eq_iff_iff.2 k11,k16,k73,k74,k17,k18,k19,k72,hid2⟩
      have hn2:Ln J2:=hne.of f2.h73 hl2;have he:gB V2 11=true:=by first|exact c0|assumption
      have h7:gI V2 7=gI V2 6:=by rcases hend with h|⟨_,_,h⟩;exact h;rw[he]at h;cases h
      have rn:=ro.nul hn2 f2 k3 k5 k7 k8 k9 zz5.1 (by omega);refine⟨cs,.inr ⟨rn,by rw[f2.b11];exact he,?_⟩⟩;rw[rest_of f2.l4 f2.i6 k7 f2.l17 f2.i18 f2.i19];exact agF rl.p zzr he h7
     .intro J2 hl2 hA hr2 hid2 hI;simp only[DD]at hA hI;have c0:=hA;obtain⟨k74,k17,k4,k3,k9,k10,k7,k6,k2,k8,k1,k11,k19,k72,k18,k16,k13,k5,k12,k0,k73⟩:=hI;have s2:Sm V2 J2:=⟨⟨k0,k1,k2,k4,k6,k10,k12,Bool.eq_iff_iff.2 k11,k16,k73,k74,k17,k18,k19,k72,hid2⟩,k3,k5,k7,k8,k9⟩
      have hf:gB J2 11=false:=by rw[s2.b11];simpa using c0
      have hf1:gB V2 11=false:=by simpa using c0
      have h13:gB J2 13=false:=by simpa using k13
      refine⟨cs,ro.sm (hne.of s2.h73 hl2) s2,hf,h13,.inr ?_,hlt⟩;rw[s2.i19];exact aRD q j6 j7 (Bool.eq_iff_iff.2 j11) j19 i19 hr hend rl.fx hf1
    .intro V2 hq2 hO2;obtain⟨⟨hb2,hg2⟩,he⟩:=hO2;have hne:Ln V2:=⟨hb2,hg2⟩
     have eo:=aCF u rg he;refine (lO [] hb2 ?_)
     .intro J2 hl2 hA hr2 hid2 hI;simp only[DD]at hI;obtain⟨_,_,_,_,_,_,_,_,_,_,_,_,_,_,_,_,k0,k73⟩:=hI;exact⟨⟨k0.trans eo.1.1,k73.trans eo.1.2⟩,eo.2⟩
 .intro J0 hl0 hA hr0 hid0 hI;simp only[DD]at hA hI;obtain⟨a0,a1,a2⟩:=hA;obtain⟨i74,i17,i4,i3,i9,i10,i7,i6,i2,i8,i1,i11,i19,i72,i18,i16,i5,i12,i0,i73⟩:=hI;have s0:Sm V J0:=⟨⟨i0,i1,i2,i4,i6,i10,i12,Bool.eq_iff_iff.2 i11,i16,i73,i74,i17,i18,i19,i72,hid0⟩,i3,i5,i7,i8,i9⟩
  have hn0:Ln J0:=p.n.of i73 hl0;have u:Up0 V J0:=aNA p hn0 s0;have rg:RR J0:=aoB rr s0.toFx (by rw[s0.i7];exact rr.i7);have hlt:gI V 8<gI V 12:=by omega
  have hL0:(GO V).L 25 J0:=aq6 o r u rg hlt;refine⟨hL0,(oC ?_ (oC ?_ oN))⟩
  .intro V1 hq1 hO1;obtain⟨⟨hb1,hg1⟩,cs,hr,hI,hend⟩:=hO1;have hne:Ln V1:=⟨hb1,hg1⟩
   have rl:=hr.list u.p rg hne;have ro:=akS u rl;have zz:=xZ hq1;have zz5:=zz.i5;have zzr:=zz.rr;have zl:=rl.len;have zb:=hI.buf;have zc:=hI.cap;have zu:=hI.un;have ze:=hI.le;refine (fO (nO hb1 ?_ (nO hb1 ?_ (nO hb1 ?_ (nO hb1 ?_ (lO opA hb1 ?_))))) (lO opA hb1 ?_));iterate 4 (focus (intro hA;simp only[DD]at hA ⊢;omega))
   .intro J1 hl1 hA hr1 hid1 hI;simp only[DD]at hA hI;obtain⟨b0,b1,b2,b3,b4⟩:=hA;obtain⟨j74,j17,j4,j3,j9,j10,j7,j6,j2,j8,j1,j11,j19,j72,j18,j16,j5,j12,j0,j73⟩:=hI;have f2:Fx V1 J1:=⟨j0,j1,j2,j4,j6,j10,j12,Bool.eq_iff_iff.2 j11,j16,j73,j74,j17,j18,j19,j72,hid1⟩
    have hn2:Ln J1:=hne.of f2.h73 hl1;have he:gB V1 11=true:=by first|exact b0|assumption
    have h7:gI V1 7=gI V1 6:=by rcases hend with h|⟨_,_,h⟩;exact h;rw[he]at h;cases h
    have rn:=ro.nul hn2 f2 j3 j5 j7 j8 j9 zz5.1 (by omega);refine⟨cs,.inr ⟨rn,by rw[f2.b11];exact he,?_⟩⟩;rw[rest_of f2.l4 f2.i6 j7 f2.l17 f2.i18 f2.i19];exact agF rl.p zzr he h7
   .intro J1 hl1 hA hr1 hid1 hI;simp only[DD]at hA hI;have b0:=hA;obtain⟨j74,j17,j4,j3,j9,j10,j7,j6,j2,j8,j1,j11,j19,j72,j18,j16,j13,j5,j12,j0,j73⟩:=hI;have s2:Sm V1 J1:=⟨⟨j0,j1,j2,j4,j6,j10,j12,Bool.eq_iff_iff.2 j11,j16,j73,j74,j17,j18,j19,j72,hid1⟩,j3,j5,j7,j8,j9⟩
    have hf:gB J1 11=false:=by rw[s2.b11];simpa using b0
    have hf1:gB V1 11=false:=by simpa using b0
    have h13:gB J1 13=false:=by simpa using j13
    exact⟨cs,ro.sm (hne.of s2.h73 hl1) s2,hf,h13,(.inl (by assumption)),hlt⟩
  .intro V1 hq1 hO1;obtain⟨⟨hb1,hg1⟩,he⟩:=hO1;have hne:Ln V1:=⟨hb1,hg1⟩
   have eo:=aCF u rg he;refine (lO [] hb1 ?_)
   .intro J1 hl1 hA hr1 hid1 hI;simp only[DD]at hI;obtain⟨_,_,_,_,_,_,_,_,_,_,_,_,_,_,_,_,j0,j73⟩:=hI;exact⟨⟨j0.trans eo.1.1,j73.trans eo.1.2⟩,eo.2⟩
 .intro J0 hl0 hA hr0 hid0 hI;simp only[DD]at hA hI;obtain⟨i74,i17,i4,i3,i9,i10,i7,i6,i2,i8,i1,i11,i19,i72,i18,i16,i5,i12,i0,i73⟩:=hI;have s0:Sm V J0:=⟨⟨i0,i1,i2,i4,i6,i10,i12,Bool.eq_iff_iff.2 i11,i16,i73,i74,i17,i18,i19,i72,hid0⟩,i3,i5,i7,i8,i9⟩
  refine⟨[],.inl ⟨?_,by rw[i12,i8];omega⟩⟩;have:=akS (aNA p p.n (Sm.refl V)) (Rounds.list (.nil (Sm.refl V)) p rr p.n);exact this.sm (p.n.of i73 hl0) s0
def aPM(lo:Int):List (Nat × Value):=[(16,sL 1 (Z 0) (x 75) (Z 1536)),(17,I 76 0 1536),(22,I 10 lo 3)]
def tU:Tpl:={ m:=90,F:=[(0,.pointer (some ⟨0,0,none⟩)),(1,I 12 0 100)],H:=HP (aPM 0),G:=[73] }
def tUo:Tpl:={ m:=90,F:=[(0,.pointer (some ⟨0,0,none⟩)),(1,I 12 0 100),(4,.bool true)],H:=HP (aPM 0),G:=[73] }
abbrev opU:List Nat:=opX
def smU:List (Nat × Nat):=[(0,0),(1,0),(2,0),(16,0),(73,0),(74,0),(17,2),(18,1),(72,1)]++opU.map fun i=>(i,4)
def tEw:Tpl:={ m:=90,F:=[(0,.pointer (some ⟨0,0,none⟩)),(4,.bool false)],H:=[(0,{ cells:=Z 2::List.replicate 51 (.chan none),elem:=76,ro:=false,live:=true }),(73,{ cells:=[.iface 89 (.pointer (some ⟨74,0,none⟩))],elem:=86,ro:=true,live:=true })],G:=[73] }
def spU:CSpec:={ j:=42,n:=2,tin:=tU,outs:=[(.bool true,tUo,smU),(.bool false,tEw,[(0,0),(73,0)])] }
def aQE:FuncId->Option CSpec:=fun f=>if f=48 then some spD else none
def rc7:Nat->Bool:=fun n=>Nat.beq n 7
def mU:LSpec:={ j:=19,tin:=tO,outs:=[(.exit 0,tX0,[]),(.ret,tE,[])] }
def sV:LSpec:={ j:=123,tin:=tX0,outs:=[(.exit 11,tX0,[])] }
def ltU:Nat->Option LSpec:=fun n=>if n=19 then some mU else if n=123 then some sV else none
def ftU:AExit->Option (Nat × Tpl):=fun e=>match e with
 | .normal=>some (0,tUo)
 | .ret=>some (0,tUo)
 |_=>none
def aPX:AExit->Option (Nat × Tpl):=fun e=>match e with
 | .ret=>some (1,tEw)
 |_=>none
def EU:Env:={ EF 42 aQE rc7 (fun _=>none) ltU ftU with ft2:=aPX }
def aG(A:List TB):Tre:=tre EU 2000 (body 42) [] (A.map TB.enc) tU.frame tU.heap
def uE:List TB:=[.not (.lt (.var 8) (.var 12))]
def uL:List TB:=[.lt (.var 8) (.var 12)]
def uz:List TB:=[.eq (.var 10) (.lit 0)]
def un:List TB:=[.not (.eq (.var 10) (.lit 0))]
def u1:List TB:=[.lt (.lit 0) (.var 76),.lt (.var 76) (.var 75),.lt (.var 76) (.lit 1536),.not (.lt (.var 75) (.op .sub (.var 75) (.var 76)))]
def u2:List TB:=[.not (.lt (.var 76) (.var 75)),.eq (.var 76) (.var 75)]
def u3:List TB:=[.not (.lt (.lit 0) (.var 76)),.not (.eq (.var 76) (.var 75))]
end U
