-- the statement of this claim: see YtoamgocecoiggaaDoorRs
import Derived.Test.YtoamgocecoiggaaDoorM35
set_option linter.unusedVariables false
set_option linter.unusedSimpArgs false
set_option maxRecDepth 100000
noncomputable section
open Go Go.SM Go.Proofs
namespace U
theorem aaF{R0:List UInt8}{cs steps:List Int}{n:Nat}{V:Ren}(t:TXT R0 cs)(hs:steps.length<=4096)(ly:LY R0 cs steps n false true V):N7.Holds (GZs R0 cs steps n false true V) V:=by
 unfold N7;have hβ:=ly.sy.pu.p.n.1;have y36:=ly.i36;have y86:=ly.i86;have y85:=afA ly;have yle:=ly.le;have ymk:=ly.mks;try simp only[if_true]at ymk
 refine (fO (nO hβ ?_ (cO opQ hβ ?_)) (lO [] hβ ?_))
 .intro hA;simp only[DD]at hA ⊢;try simp only[zA,fn_sub,zJ,zI]at *
  omega
 .intro J0 hl0 hA hr0 hid0 hI;simp only[DD]at hA hI;obtain⟨a0,a1⟩:=hA;obtain⟨_,i17,i4,i3,_,_,_,i9,i10,i7,i6,_,_,i8,i76,i75,_,i11,i19,_,i18,_,i12,_,i73⟩:=hI;have ea:AlW V J0:=⟨i17,i18,i3,i4,i6,i7,i8,i9,i10,Bool.eq_iff_iff.2 i11,i19,i75,i76⟩
  have hL0:(GZs R0 cs steps n false true V).CL 17 J0:=ea.pu ly.sy.pu (ly.sy.pu.p.n.of i73 hl0);refine⟨hL0,(aC ?_ (aC ?_ aN))⟩
  .intro V1 hq1 hO1;obtain⟨hn1,ut⟩:=hO1;have ut:UT J0 V1:=ut;have sz:=iE t ly.sy ea i12 ut;have tw:=sz.tw;have ul:=ut.le;have zb:=sz.pu.buf;have hb1:=zE hβ hn1.1;simp only[Nat.reduceAdd]at hb1;refine (nO hb1 ?_ (nO hb1 ?_ (fO (lO [] hb1 ?_) (fO (cO kK hb1 ?_) (fO (cO kK hb1 ?_) (fO (cO kK hb1 ?_) (fO (cO kK hb1 ?_) (nO hb1 ?_ (nO hb1 ?_ (nO hb1 ?_ (lG opQ hb1 ?_)))))))))))
   .intro hA;simp +decide only[DD,aA hβ]at hA ⊢;try simp only[zA,fn_sub,zJ,zI]at *
    omega
   .intro hA;simp +decide only[DD,aA hβ]at hA ⊢;try simp only[zA,fn_sub,zJ,zI]at *
    omega
   .intro J1 hl1 hA hr1 hid1 hI;simp +decide only[DD,aA hβ]at hA hI;obtain⟨b0,b1,b2,b3,b4⟩:=hA;obtain⟨j89,j85,j87,j86,j84,_,j14,_,_,j73⟩:=hI;try simp only[zA,fn_sub,zJ,zI]at *
    exact⟨⟨j84,j85,j86,j87,j73⟩,ly.lt,ly.le,.inr (acT sz (by omega) (by omega) (by rw[<-xC];unfold bb;assumption) t.dr.prn),ly.out,xQ ⟨by rw[j14];exact (zP ly.mks).1,by rw[j89];exact (zP ly.mks).2.1⟩⟩
   .intro J1 hl1 hA hr1 hid1 hI;simp +decide only[DD,aA hβ]at hA hI;obtain⟨b0,b1,b2,b3,b4,b5⟩:=hA;obtain⟨_,j3,j78,j45,j77,_,_,_,_,j39,j8,j76,j75,_,_,_,_,_,_,j73⟩:=hI;try simp only[zA,fn_sub,zJ,zI]at *
    have hb0:bk V1 0≠0:=by rw[<-xC];unfold bb;assumption
    obtain⟨v,ch,hpv⟩:=t9 t sz (by omega) (by omega) hb0;have sa:=wI ly (by omega);have hn2:Ln J1:=ly.sy.pu.p.n.of j73 hl1;have q3:Q3 (sts cs steps n) V1 J1:=⟨j3,j75,j76,j8,by rw[j77];exact ly.i77,by rw[j45];exact ly.i45,by rw[j78];exact ly.i78,by rw[j39];exact ly.i39⟩
    have kr:=qF t (nF ly) sz ch (by omega) (by omega) q3 hn2;have hL1:(GZs R0 cs steps n false true V).CL 23 J1:=kr.p;refine⟨hL1,(aC ?_ aN)⟩
    .intro V2 hq2 hO2;obtain⟨hn3,q0⟩:=hO2;have q:wL J1 V2:=q0;clear q0;have hb2:=zE hb1 hn3.1;simp only[Nat.reduceAdd]at hb2;refine (nO hb2 ?_ (nO hb2 ?_ (nO hb2 ?_ (lG opQ hb2 ?_))))
     .intro hA;simp +decide only[DD,aA hβ,aA hb1]at hA ⊢;try simp only[zA,fn_sub,zJ,zI]at *
      omega
     .intro hA;simp +decide only[DD,aA hβ,aA hb1]at hA ⊢;try simp only[zA,fn_sub,zJ,zI]at *
      omega
     .intro hA;simp +decide only[DD,aA hβ,aA hb1]at hA ⊢;try simp only[zA,fn_sub,zJ,zI]at *
      omega
     .intro δ2 J2 hl2 hA hr2 hid2 hI;simp +decide only[DD,aA hβ,aA hb1,aL hb2]at hA hI;obtain⟨c0,c1,c2,c3,c4,c5,c6,c7,c8⟩:=hA;obtain⟨k89,k85,_,k17,k4,k3,k78,k45,k77,k9,k10,k7,k6,_,k39,k8,k76,k75,_,k11,k19,_,k18,_,k36,k87,k86,k84,k15,k14,_,_,k73⟩:=hI;try simp only[zA,fn_sub,zJ,zI]at *
      have kd:Kd V1 J2:=⟨ly.sy.pu.p.n.of k73 hl2,k3,k4,k6,k7,Bool.eq_iff_iff.2 k11,k17.trans (i17.symm.trans ut.s.l17.symm),k18.trans (i18.symm.trans ut.s.i18.symm),k19,k9,k10,k75⟩
      have mi:MI V2 J2:=⟨k76,k8,k77,k78,k45,k39⟩
      have sv:steps.getD n 0=0:=by rw[<-sa];assumption
      have adv:Adv cs (steps.getD n 0) (sts cs steps n) V1 J2:=by rw[sv];exact mR (.inl rfl) q3 q mi
      have hout:if false=true then OutIt J2 (encs (stp cs (steps.getD n 0) (sts cs steps n)).w)/\(stp cs (steps.getD n 0) (sts cs steps n)).w≠[] else (stp cs (steps.getD n 0) (sts cs steps n)).w=[]:=vV (by rw[sv,af0];exact yU ly.out)
      have mk:Mks cs steps n J2:=kP ly k89 k14 k15 k77 k45 k78;exact⟨⟨k84,k85,k86,k87,k73⟩,xO ly sz ch kd (by omega) (by omega) (by omega) adv k36 k86 k85 hout mk.1 mk.2⟩
   .intro J1 hl1 hA hr1 hid1 hI;simp +decide only[DD,aA hβ]at hA hI;obtain⟨b0,b1,b2,b3,b4,b5,b6⟩:=hA;obtain⟨_,j3,j78,j45,j77,_,_,_,_,j39,j8,j76,j75,_,_,_,_,_,_,j73⟩:=hI;try simp only[zA,fn_sub,zJ,zI]at *
    have hb0:bk V1 0≠0:=by rw[<-xC];unfold bb;assumption
    obtain⟨v,ch,hpv⟩:=t9 t sz (by omega) (by omega) hb0;have sa:=wI ly (by omega);have hn2:Ln J1:=ly.sy.pu.p.n.of j73 hl1;have q3:Q3 (sts cs steps n) V1 J1:=⟨j3,j75,j76,j8,by rw[j77];exact ly.i77,by rw[j45];exact ly.i45,by rw[j78];exact ly.i78,by rw[j39];exact ly.i39⟩
    have kr:=qF t (nF ly) sz ch (by omega) (by omega) q3 hn2;have hL1:(GZs R0 cs steps n false true V).CL 24 J1:=kr.p;refine⟨hL1,(aC ?_ aN)⟩
    .intro V2 hq2 hO2;obtain⟨hn3,q0⟩:=hO2;have q:qK J1 V2:=q0;clear q0;have hb2:=zE hb1 hn3.1;simp only[Nat.reduceAdd]at hb2;refine (nO hb2 ?_ (nO hb2 ?_ (nO hb2 ?_ (lG opQ hb2 ?_))))
     .intro hA;simp +decide only[DD,aA hβ,aA hb1]at hA ⊢;try simp only[zA,fn_sub,zJ,zI]at *
      omega
     .intro hA;simp +decide only[DD,aA hβ,aA hb1]at hA ⊢;try simp only[zA,fn_sub,zJ,zI]at *
      omega
     .intro hA;simp +decide only[DD,aA hβ,aA hb1]at hA ⊢;try simp only[zA,fn_sub,zJ,zI]at *
      omega
     .intro δ2 J2 hl2 hA hr2 hid2 hI;simp +decide only[DD,aA hβ,aA hb1,aL hb2]at hA hI;obtain⟨c0,c1,c2,c3,c4,c5,c6,c7,c8,c9⟩:=hA;obtain⟨k89,k85,_,k17,k4,k3,k78,k45,k77,k9,k10,k7,k6,_,k39,k8,k76,k75,_,k11,k19,_,k18,_,k36,k87,k86,k84,k15,k14,_,_,k73⟩:=hI;try simp only[zA,fn_sub,zJ,zI]at *
      have kd:Kd V1 J2:=⟨ly.sy.pu.p.n.of k73 hl2,k3,k4,k6,k7,Bool.eq_iff_iff.2 k11,k17.trans (i17.symm.trans ut.s.l17.symm),k18.trans (i18.symm.trans ut.s.i18.symm),k19,k9,k10,k75⟩
      have mi:MI V2 J2:=⟨k76,k8,k77,k78,k45,k39⟩
      have sv:steps.getD n 0=1:=by rw[<-sa];assumption
      have ad:=acC ch q3 q mi;have adv:Adv cs (steps.getD n 0) (sts cs steps n) V1 J2:=by rw[sv];exact ad.1
      have hout:if false=true then OutIt J2 (encs (stp cs (steps.getD n 0) (sts cs steps n)).w)/\(stp cs (steps.getD n 0) (sts cs steps n)).w≠[] else (stp cs (steps.getD n 0) (sts cs steps n)).w=[]:=vV (by rw[sv,ad.2];exact yU ly.out)
      have mk:Mks cs steps n J2:=kP ly k89 k14 k15 k77 k45 k78;exact⟨⟨k84,k85,k86,k87,k73⟩,xO ly sz ch kd (by omega) (by omega) (by omega) adv k36 k86 k85 hout mk.1 mk.2⟩
   .intro J1 hl1 hA hr1 hid1 hI;simp +decide only[DD,aA hβ]at hA hI;obtain⟨b0,b1,b2,b3,b4,b5,b6,b7⟩:=hA;obtain⟨_,j3,j78,j45,j77,_,_,_,_,j39,j8,j76,j75,_,_,_,_,_,_,j73⟩:=hI;try simp only[zA,fn_sub,zJ,zI]at *
    have hb0:bk V1 0≠0:=by rw[<-xC];unfold bb;assumption
    obtain⟨v,ch,hpv⟩:=t9 t sz (by omega) (by omega) hb0;have sa:=wI ly (by omega);have hn2:Ln J1:=ly.sy.pu.p.n.of j73 hl1;have q3:Q3 (sts cs steps n) V1 J1:=⟨j3,j75,j76,j8,by rw[j77];exact ly.i77,by rw[j45];exact ly.i45,by rw[j78];exact ly.i78,by rw[j39];exact ly.i39⟩
    have kr:=qF t (nF ly) sz ch (by omega) (by omega) q3 hn2;have hL1:(GZs R0 cs steps n false true V).CL 20 J1:=⟨kr.p,fun h=>by cases h⟩
    refine⟨hL1,(aC ?_ aN)⟩
    .intro V2 hq2 hO2;obtain⟨hn3,q0⟩:=hO2;have q:RQ J1 V2 []:=q0;clear q0;have hb2:=zE hb1 hn3.1;simp only[Nat.reduceAdd]at hb2;refine (nO hb2 ?_ (nO hb2 ?_ (nO hb2 ?_ (lG opQ hb2 ?_))))
     .intro hA;simp +decide only[DD,aA hβ,aA hb1]at hA ⊢;try simp only[zA,fn_sub,zJ,zI]at *
      omega
     .intro hA;simp +decide only[DD,aA hβ,aA hb1]at hA ⊢;try simp only[zA,fn_sub,zJ,zI]at *
      omega
     .intro hA;simp +decide only[DD,aA hβ,aA hb1]at hA ⊢;try simp only[zA,fn_sub,zJ,zI]at *
      omega
     .intro δ2 J2 hl2 hA hr2 hid2 hI;simp +decide only[DD,aA hβ,aA hb1,aL hb2]at hA hI;obtain⟨c0,c1,c2,c3,c4,c5,c6,c7,c8,c9,c10⟩:=hA;obtain⟨k89,k82,k85,_,k17,k4,k3,k78,k45,k77,k9,k10,k7,k6,_,k39,k8,k76,k75,_,k11,k19,_,k18,_,k36,k87,k86,k84,k15,k14,k81,k80,_,_,_,k73⟩:=hI;try simp only[zA,fn_sub,zJ,zI]at *
      have kd:Kd V1 J2:=⟨ly.sy.pu.p.n.of k73 hl2,k3,k4,k6,k7,Bool.eq_iff_iff.2 k11,k17.trans (i17.symm.trans ut.s.l17.symm),k18.trans (i18.symm.trans ut.s.i18.symm),k19,k9,k10,k75⟩
      have mi:MI V2 J2:=⟨k76,k8,k77,k78,k45,k39⟩
      have sv:steps.getD n 0=2:=by rw[<-sa];assumption
      have adv:Adv cs (steps.getD n 0) (sts cs steps n) V1 J2:=by rw[sv];exact mR (.inr rfl) q3 q.m mi
      have oo:OutIt V2 (encs ((sts cs steps n).w++[v])):=by rw[yU ly.out];exact abU (w:=[]) ch q3 q
      have hout:if true=true then OutIt J2 (encs (stp cs (steps.getD n 0) (sts cs steps n)).w)/\(stp cs (steps.getD n 0) (sts cs steps n)).w≠[] else (stp cs (steps.getD n 0) (sts cs steps n)).w=[]:=xQ (by rw[sv,ag8 ch.hv];exact⟨oo.cong k82 k80 k81,mJ⟩)
      have mk:Mks cs steps n J2:=kP ly k89 k14 k15 k77 k45 k78;exact⟨⟨k84,k85,k86,k87,k73⟩,xO ly sz ch kd (by omega) (by omega) (by omega) adv k36 k86 k85 hout mk.1 mk.2⟩
   .intro J1 hl1 hA hr1 hid1 hI;simp +decide only[DD,aA hβ]at hA hI;obtain⟨b0,b1,b2,b3,b4,b5,b6,b7,b8⟩:=hA;obtain⟨_,j3,j78,j45,j77,_,_,_,_,j39,j8,j76,j75,_,_,_,_,_,_,j73⟩:=hI;try simp only[zA,fn_sub,zJ,zI]at *
    have hb0:bk V1 0≠0:=by rw[<-xC];unfold bb;assumption
    obtain⟨v,ch,hpv⟩:=t9 t sz (by omega) (by omega) hb0;have sa:=wI ly (by omega);have hn2:Ln J1:=ly.sy.pu.p.n.of j73 hl1;have q3:Q3 (sts cs steps n) V1 J1:=⟨j3,j75,j76,j8,by rw[j77];exact ly.i77,by rw[j45];exact ly.i45,by rw[j78];exact ly.i78,by rw[j39];exact ly.i39⟩
    have kr:=qF t (nF ly) sz ch (by omega) (by omega) q3 hn2;have hL1:(GZs R0 cs steps n false true V).CL 25 J1:=⟨kr,fun h=>by cases h⟩
    refine⟨hL1,(aC ?_ (aC ?_ aN))⟩
    .intro V2 hq2 hO2;obtain⟨hn3,q0⟩:=hO2;have q:RlN J1 V2:=q0;clear q0;have hb2:=zE hb1 hn3.1;simp only[Nat.reduceAdd]at hb2;refine (nO hb2 ?_ (nO hb2 ?_ (nO hb2 ?_ (lG opQ hb2 ?_))))
     .intro hA;simp +decide only[DD,aA hβ,aA hb1]at hA ⊢;try simp only[zA,fn_sub,zJ,zI]at *
      omega
     .intro hA;simp +decide only[DD,aA hβ,aA hb1]at hA ⊢;try simp only[zA,fn_sub,zJ,zI]at *
      omega
     .intro hA;simp +decide only[DD,aA hβ,aA hb1]at hA ⊢;try simp only[zA,fn_sub,zJ,zI]at *
      omega
     .intro δ2 J2 hl2 hA hr2 hid2 hI;simp +decide only[DD,aA hβ,aA hb1,aL hb2]at hA hI;obtain⟨c0,c1,c2,c3,c4,c5,c6,c7,c8,c9,c10,c11⟩:=hA;obtain⟨k89,k82,k85,_,k17,k4,k3,k78,k45,k77,k9,k10,k7,k6,_,k39,k8,k76,k75,_,k11,k19,_,k18,_,k36,k87,k86,k84,k15,k14,k81,k80,_,_,_,k73⟩:=hI;try simp only[zA,fn_sub,zJ,zI]at *
      have kd:Kd V1 J2:=⟨ly.sy.pu.p.n.of k73 hl2,k3,k4,k6,k7,Bool.eq_iff_iff.2 k11,k17.trans (i17.symm.trans ut.s.l17.symm),k18.trans (i18.symm.trans ut.s.i18.symm),k19,k9,k10,k75⟩
      have mi:MI V2 J2:=⟨k76,k8,k77,k78,k45,k39⟩
      have sv:steps.getD n 0=3:=by rw[<-sa];assumption
      have ad:=lA (.inr rfl) ch q3 q.1 mi;have aw:(stp cs (steps.getD n 0) (sts cs steps n)).w=(sts cs steps n).w++[10]:=by rw[sv];exact ad.2.trans (if_pos rfl)
      have adv:Adv cs (steps.getD n 0) (sts cs steps n) V1 J2:=by rw[sv];exact ad.1
      have hout:if true=true then OutIt J2 (encs (stp cs (steps.getD n 0) (sts cs steps n)).w)/\(stp cs (steps.getD n 0) (sts cs steps n)).w≠[] else (stp cs (steps.getD n 0) (sts cs steps n)).w=[]:=xQ (by rw[aw,<-ab7];exact⟨by rw[yU ly.out];exact q.2.cong k82 k80 k81,mJ⟩)
      have mk:Mks cs steps n J2:=kP ly k89 k14 k15 k77 k45 k78;exact⟨⟨k84,k85,k86,k87,k73⟩,xO ly sz ch kd (by omega) (by omega) (by omega) adv k36 k86 k85 hout mk.1 mk.2⟩
    .intro V2 hq2 hO2;obtain⟨hn3,q0⟩:=hO2;have q:pU J1 V2:=q0;clear q0;have hb2:=zE hb1 hn3.1;simp only[Nat.reduceAdd]at hb2;refine (nO hb2 ?_ (nO hb2 ?_ (nO hb2 ?_ (lG opQ hb2 ?_))))
     .intro hA;simp +decide only[DD,aA hβ,aA hb1]at hA ⊢;try simp only[zA,fn_sub,zJ,zI]at *
      omega
     .intro hA;simp +decide only[DD,aA hβ,aA hb1]at hA ⊢;try simp only[zA,fn_sub,zJ,zI]at *
      omega
     .intro hA;simp +decide only[DD,aA hβ,aA hb1]at hA ⊢;try simp only[zA,fn_sub,zJ,zI]at *
      omega
     .intro δ2 J2 hl2 hA hr2 hid2 hI;simp +decide only[DD,aA hβ,aA hb1,aL hb2]at hA hI;obtain⟨c0,c1,c2,c3,c4,c5,c6,c7,c8,c9,c10,c11⟩:=hA;obtain⟨k89,k85,_,k17,k4,k3,k78,k45,k77,k9,k10,k7,k6,_,k39,k8,k76,k75,_,k11,k19,_,k18,_,k36,k87,k86,k84,k15,k14,_,_,k73⟩:=hI;try simp only[zA,fn_sub,zJ,zI]at *
      have kd:Kd V1 J2:=⟨ly.sy.pu.p.n.of k73 hl2,k3,k4,k6,k7,Bool.eq_iff_iff.2 k11,k17.trans (i17.symm.trans ut.s.l17.symm),k18.trans (i18.symm.trans ut.s.i18.symm),k19,k9,k10,k75⟩
      have mi:MI V2 J2:=⟨k76,k8,k77,k78,k45,k39⟩
      have sv:steps.getD n 0=3:=by rw[<-sa];assumption
      have ad:=bR (.inr rfl) ch q3 q mi;have adv:Adv cs (steps.getD n 0) (sts cs steps n) V1 J2:=by rw[sv];exact ad.1
      have hout:if false=true then OutIt J2 (encs (stp cs (steps.getD n 0) (sts cs steps n)).w)/\(stp cs (steps.getD n 0) (sts cs steps n)).w≠[] else (stp cs (steps.getD n 0) (sts cs steps n)).w=[]:=vV (by rw[sv,ad.2];exact yU ly.out)
      have mk:Mks cs steps n J2:=kP ly k89 k14 k15 k77 k45 k78;exact⟨⟨k84,k85,k86,k87,k73⟩,xO ly sz ch kd (by omega) (by omega) (by omega) adv k36 k86 k85 hout mk.1 mk.2⟩
   .intro hA;simp +decide only[DD,aA hβ]at hA ⊢;try simp only[zA,fn_sub,zJ,zI]at *
    omega
   .intro hA;simp +decide only[DD,aA hβ]at hA ⊢;try simp only[zA,fn_sub,zJ,zI]at *
    omega
   .intro hA;simp +decide only[DD,aA hβ]at hA ⊢;try simp only[zA,fn_sub,zJ,zI]at *
    omega
   .intro δ1 J1 hl1 hA hr1 hid1 hI;simp +decide only[DD,aA hβ,aL hb1]at hA hI;obtain⟨b0,b1,b2,b3,b4,b5,b6,b7,b8,b9,b10,b11⟩:=hA;obtain⟨j89,j85,_,j17,j4,j3,j78,j45,j77,j9,j10,j7,j6,_,j39,j8,j76,j75,_,j11,j19,_,j18,_,j36,j87,j86,j84,j15,j14,_,_,j73⟩:=hI;try simp only[zA,fn_sub,zJ,zI]at *
    have hb0:bk V1 0≠0:=by rw[<-xC];unfold bb;assumption
    obtain⟨v,ch,hpv⟩:=t9 t sz (by omega) (by omega) hb0;have sa:=wI ly (by omega);have kd:Kd V1 J1:=⟨ly.sy.pu.p.n.of j73 hl1,j3,j4,j6,j7,Bool.eq_iff_iff.2 j11,j17.trans (i17.symm.trans ut.s.l17.symm),j18.trans (i18.symm.trans ut.s.i18.symm),j19,j9,j10,j75⟩
    have se:stp cs (steps.getD n 0) (sts cs steps n)=sts cs steps n:=ae7 (by rw[<-sa];refine⟨?_,?_,?_,?_⟩<;>assumption);have adv:Adv cs (steps.getD n 0) (sts cs steps n) V1 J1:=fG se (by rw[j77];exact ly.i77) (by rw[j45];exact ly.i45) (by rw[j78];exact ly.i78) (by rw[j39];exact ly.i39) j76 j8;have hout:if false=true then OutIt J1 (encs (stp cs (steps.getD n 0) (sts cs steps n)).w)/\(stp cs (steps.getD n 0) (sts cs steps n)).w≠[] else (stp cs (steps.getD n 0) (sts cs steps n)).w=[]:=vV (by rw[se];exact yU ly.out)
    have mk:Mks cs steps n J1:=kP ly j89 j14 j15 j77 j45 j78;exact⟨⟨j84,j85,j86,j87,j73⟩,xO ly sz ch kd (by omega) (by omega) (by omega) adv j36 j86 j85 hout mk.1 mk.2⟩
  .intro V1 hq1 hO1;obtain⟨hn1,ue⟩:=hO1;have hb1:=zE hβ hn1.1;simp only[Nat.reduceAdd]at hb1;refine (lG [] hb1 ?_)
   .intro δ1 J1 hl1 hA hr1 hid1 hI;simp +decide only[DD,aA hβ,aL hb1]at hA hI;exact (acY t ly.sy ea ue).elim
 .intro J0 hl0 hA hr0 hid0 hI;simp only[DD]at hA hI;obtain⟨i89,i85,i87,i86,i84,_,i14,_,_,i73⟩:=hI;try simp only[zA,fn_sub,zJ,zI]at *
  exact⟨⟨i84,i85,i86,i87,i73⟩,ly.lt,ly.le,.inl (by omega),ly.out,xQ ⟨by rw[i14];exact (zP ly.mks).1,by rw[i89];exact (zP ly.mks).2.1⟩⟩
theorem W8{R0:List UInt8}{cs steps:List Int}{n:Nat}{V:Ren}(t:TXT R0 cs)(hs:steps.length<=4096)(ly:LY R0 cs steps n true true V):M5.Holds (GZs R0 cs steps n true true V) V:=by
 unfold M5;have hβ:=ly.sy.pu.p.n.1;have y36:=ly.i36;have y86:=ly.i86;have y85:=afA ly;have yle:=ly.le;have ymk:=ly.mks;try simp only[if_true]at ymk
 refine (fO (nO hβ ?_ (cO opQ hβ ?_)) (lO [] hβ ?_))
 .intro hA;simp only[DD]at hA ⊢;try simp only[zA,fn_sub,zJ,zI]at *
  omega
 .intro J0 hl0 hA hr0 hid0 hI;simp only[DD]at hA hI;obtain⟨a0,a1⟩:=hA;obtain⟨_,i17,i4,i3,_,_,_,i9,i10,i7,i6,_,_,i8,i76,i75,_,i11,i19,_,i18,_,i12,_,i73⟩:=hI;have ea:AlW V J0:=⟨i17,i18,i3,i4,i6,i7,i8,i9,i10,Bool.eq_iff_iff.2 i11,i19,i75,i76⟩
  have hL0:(GZs R0 cs steps n true true V).CL 17 J0:=ea.pu ly.sy.pu (ly.sy.pu.p.n.of i73 hl0);refine⟨hL0,(aC ?_ (aC ?_ aN))⟩
  .intro V1 hq1 hO1;obtain⟨hn1,ut⟩:=hO1;have ut:UT J0 V1:=ut;have sz:=iE t ly.sy ea i12 ut;have tw:=sz.tw;have ul:=ut.le;have zb:=sz.pu.buf;have hb1:=zE hβ hn1.1;simp only[Nat.reduceAdd]at hb1;refine (nO hb1 ?_ (nO hb1 ?_ (fO (lO [] hb1 ?_) (fO (cO kK hb1 ?_) (fO (cO kK hb1 ?_) (fO (cO kK hb1 ?_) (fO (cO kK hb1 ?_) (nO hb1 ?_ (nO hb1 ?_ (nO hb1 ?_ (lG opQ hb1 ?_)))))))))))
   .intro hA;simp +decide only[DD,aA hβ]at hA ⊢;try simp only[zA,fn_sub,zJ,zI]at *
    omega
   .intro hA;simp +decide only[DD,aA hβ]at hA ⊢;try simp only[zA,fn_sub,zJ,zI]at *
    omega
   .intro J1 hl1 hA hr1 hid1 hI;simp +decide only[DD,aA hβ]at hA hI;obtain⟨b0,b1,b2,b3,b4⟩:=hA;obtain⟨j89,j82,j85,j87,j86,j84,_,j14,_,j81,j80,_,_,j73⟩:=hI;try simp only[zA,fn_sub,zJ,zI]at *
    exact⟨⟨j84,j85,j86,j87,j73⟩,ly.lt,ly.le,.inr (acT sz (by omega) (by omega) (by rw[<-xC];unfold bb;assumption) t.dr.prn),xQ ⟨(zP ly.out).1.cong j82 j80 j81,(zP ly.out).2⟩,xQ ⟨by rw[j14];exact (zP ly.mks).1,by rw[j89];exact (zP ly.mks).2.1⟩⟩
   .intro J1 hl1 hA hr1 hid1 hI;simp +decide only[DD,aA hβ]at hA hI;obtain⟨b0,b1,b2,b3,b4,b5⟩:=hA;obtain⟨_,j3,j78,j45,j77,_,_,_,_,j39,j8,j76,j75,_,_,_,_,_,_,j73⟩:=hI;try simp only[zA,fn_sub,zJ,zI]at *
    have hb0:bk V1 0≠0:=by rw[<-xC];unfold bb;assumption
    obtain⟨v,ch,hpv⟩:=t9 t sz (by omega) (by omega) hb0;have sa:=wI ly (by omega);have hn2:Ln J1:=ly.sy.pu.p.n.of j73 hl1;have q3:Q3 (sts cs steps n) V1 J1:=⟨j3,j75,j76,j8,by rw[j77];exact ly.i77,by rw[j45];exact ly.i45,by rw[j78];exact ly.i78,by rw[j39];exact ly.i39⟩
    have kr:=qF t (nF ly) sz ch (by omega) (by omega) q3 hn2;have hL1:(GZs R0 cs steps n true true V).CL 23 J1:=kr.p;refine⟨hL1,(aC ?_ aN)⟩
    .intro V2 hq2 hO2;obtain⟨hn3,q0⟩:=hO2;have q:wL J1 V2:=q0;clear q0;have hb2:=zE hb1 hn3.1;simp only[Nat.reduceAdd]at hb2;refine (nO hb2 ?_ (nO hb2 ?_ (nO hb2 ?_ (lG opQ hb2 ?_))))
     .intro hA;simp +decide only[DD,aA hβ,aA hb1]at hA ⊢;try simp only[zA,fn_sub,zJ,zI]at *
      omega
     .intro hA;simp +decide only[DD,aA hβ,aA hb1]at hA ⊢;try simp only[zA,fn_sub,zJ,zI]at *
      omega
     .intro hA;simp +decide only[DD,aA hβ,aA hb1]at hA ⊢;try simp only[zA,fn_sub,zJ,zI]at *
      omega
     .intro δ2 J2 hl2 hA hr2 hid2 hI;simp +decide only[DD,aA hβ,aA hb1,aL hb2]at hA hI;obtain⟨c0,c1,c2,c3,c4,c5,c6,c7,c8⟩:=hA;obtain⟨k89,k82,k85,_,k17,k4,k3,k78,k45,k77,k9,k10,k7,k6,_,k39,k8,k76,k75,_,k11,k19,_,k18,_,k36,k87,k86,k84,k15,k14,k81,k80,_,_,_,k73⟩:=hI;try simp only[zA,fn_sub,zJ,zI]at *
      have kd:Kd V1 J2:=⟨ly.sy.pu.p.n.of k73 hl2,k3,k4,k6,k7,Bool.eq_iff_iff.2 k11,k17.trans (i17.symm.trans ut.s.l17.symm),k18.trans (i18.symm.trans ut.s.i18.symm),k19,k9,k10,k75⟩
      have mi:MI V2 J2:=⟨k76,k8,k77,k78,k45,k39⟩
      have sv:steps.getD n 0=0:=by rw[<-sa];assumption
      have adv:Adv cs (steps.getD n 0) (sts cs steps n) V1 J2:=by rw[sv];exact mR (.inl rfl) q3 q mi
      have hout:if true=true then OutIt J2 (encs (stp cs (steps.getD n 0) (sts cs steps n)).w)/\(stp cs (steps.getD n 0) (sts cs steps n)).w≠[] else (stp cs (steps.getD n 0) (sts cs steps n)).w=[]:=xQ (by rw[sv,af0];exact⟨(zP ly.out).1.cong k82 k80 k81,(zP ly.out).2⟩)
      have mk:Mks cs steps n J2:=kP ly k89 k14 k15 k77 k45 k78;exact⟨⟨k84,k85,k86,k87,k73⟩,xO ly sz ch kd (by omega) (by omega) (by omega) adv k36 k86 k85 hout mk.1 mk.2⟩
   .intro J1 hl1 hA hr1 hid1 hI;simp +decide only[DD,aA hβ]at hA hI;obtain⟨b0,b1,b2,b3,b4,b5,b6⟩:=hA;obtain⟨_,j3,j78,j45,j77,_,_,_,_,j39,j8,j76,j75,_,_,_,_,_,_,j73⟩:=hI;try simp only[zA,fn_sub,zJ,zI]at *
    have hb0:bk V1 0≠0:=by rw[<-xC];unfold bb;assumption
    obtain⟨v,ch,hpv⟩:=t9 t sz (by omega) (by omega) hb0;have sa:=wI ly (by omega);have hn2:Ln J1:=ly.sy.pu.p.n.of j73 hl1;have q3:Q3 (sts cs steps n) V1 J1:=⟨j3,j75,j76,j8,by rw[j77];exact ly.i77,by rw[j45];exact ly.i45,by rw[j78];exact ly.i78,by rw[j39];exact ly.i39⟩
    have kr:=qF t (nF ly) sz ch (by omega) (by omega) q3 hn2;have hL1:(GZs R0 cs steps n true true V).CL 24 J1:=kr.p;refine⟨hL1,(aC ?_ aN)⟩
    .intro V2 hq2 hO2;obtain⟨hn3,q0⟩:=hO2;have q:qK J1 V2:=q0;clear q0;have hb2:=zE hb1 hn3.1;simp only[Nat.reduceAdd]at hb2;refine (nO hb2 ?_ (nO hb2 ?_ (nO hb2 ?_ (lG opQ hb2 ?_))))
     .intro hA;simp +decide only[DD,aA hβ,aA hb1]at hA ⊢;try simp only[zA,fn_sub,zJ,zI]at *
      omega
     .intro hA;simp +decide only[DD,aA hβ,aA hb1]at hA ⊢;try simp only[zA,fn_sub,zJ,zI]at *
      omega
     .intro hA;simp +decide only[DD,aA hβ,aA hb1]at hA ⊢;try simp only[zA,fn_sub,zJ,zI]at *
      omega
     .intro δ2 J2 hl2 hA hr2 hid2 hI;simp +decide only[DD,aA hβ,aA hb1,aL hb2]at hA hI;obtain⟨c0,c1,c2,c3,c4,c5,c6,c7,c8,c9⟩:=hA;obtain⟨k89,k82,k85,_,k17,k4,k3,k78,k45,k77,k9,k10,k7,k6,_,k39,k8,k76,k75,_,k11,k19,_,k18,_,k36,k87,k86,k84,k15,k14,k81,k80,_,_,_,k73⟩:=hI;try simp only[zA,fn_sub,zJ,zI]at *
      have kd:Kd V1 J2:=⟨ly.sy.pu.p.n.of k73 hl2,k3,k4,k6,k7,Bool.eq_iff_iff.2 k11,k17.trans (i17.symm.trans ut.s.l17.symm),k18.trans (i18.symm.trans ut.s.i18.symm),k19,k9,k10,k75⟩
      have mi:MI V2 J2:=⟨k76,k8,k77,k78,k45,k39⟩
      have sv:steps.getD n 0=1:=by rw[<-sa];assumption
      have ad:=acC ch q3 q mi;have adv:Adv cs (steps.getD n 0) (sts cs steps n) V1 J2:=by rw[sv];exact ad.1
      have hout:if true=true then OutIt J2 (encs (stp cs (steps.getD n 0) (sts cs steps n)).w)/\(stp cs (steps.getD n 0) (sts cs steps n)).w≠[] else (stp cs (steps.getD n 0) (sts cs steps n)).w=[]:=xQ (by rw[sv,ad.2];exact⟨(zP ly.out).1.cong k82 k80 k81,(zP ly.out).2⟩)
      have mk:Mks cs steps n J2:=kP ly k89 k14 k15 k77 k45 k78;exact⟨⟨k84,k85,k86,k87,k73⟩,xO ly sz ch kd (by omega) (by omega) (by omega) adv k36 k86 k85 hout mk.1 mk.2⟩
   .intro J1 hl1 hA hr1 hid1 hI;simp +decide only[DD,aA hβ]at hA hI;obtain⟨b0,b1,b2,b3,b4,b5,b6,b7⟩:=hA;obtain⟨j82,_,j3,j78,j45,j77,_,_,_,_,j39,j8,j76,j75,_,_,_,_,_,j81,j80,_,_,j73⟩:=hI;try simp only[zA,fn_sub,zJ,zI]at *
    have hb0:bk V1 0≠0:=by rw[<-xC];unfold bb;assumption
    obtain⟨v,ch,hpv⟩:=t9 t sz (by omega) (by omega) hb0;have sa:=wI ly (by omega);have hn2:Ln J1:=ly.sy.pu.p.n.of j73 hl1;have q3:Q3 (sts cs steps n) V1 J1:=⟨j3,j75,j76,j8,by rw[j77];exact ly.i77,by rw[j45];exact ly.i45,by rw[j78];exact ly.i78,by rw[j39];exact ly.i39⟩
    have kr:=qF t (nF ly) sz ch (by omega) (by omega) q3 hn2;have hL1:(GZs R0 cs steps n true true V).CL 20 J1:=⟨kr.p,fun _=>ax7 t ly j80 j81 j82⟩
    refine⟨hL1,(aC ?_ aN)⟩
    .intro V2 hq2 hO2;obtain⟨hn3,q0⟩:=hO2;have q:RQ J1 V2 (OS J1):=q0;clear q0;rw[aLJ ly j80 j82]at q;have hb2:=zE hb1 hn3.1;simp only[Nat.reduceAdd]at hb2;refine (nO hb2 ?_ (nO hb2 ?_ (nO hb2 ?_ (lG opQ hb2 ?_))))
     .intro hA;simp +decide only[DD,aA hβ,aA hb1]at hA ⊢;try simp only[zA,fn_sub,zJ,zI]at *
      omega
     .intro hA;simp +decide only[DD,aA hβ,aA hb1]at hA ⊢;try simp only[zA,fn_sub,zJ,zI]at *
      omega
     .intro hA;simp +decide only[DD,aA hβ,aA hb1]at hA ⊢;try simp only[zA,fn_sub,zJ,zI]at *
      omega
     .intro δ2 J2 hl2 hA hr2 hid2 hI;simp +decide only[DD,aA hβ,aA hb1,aL hb2]at hA hI;obtain⟨c0,c1,c2,c3,c4,c5,c6,c7,c8,c9,c10⟩:=hA;obtain⟨k89,k82,k85,_,k17,k4,k3,k78,k45,k77,k9,k10,k7,k6,_,k39,k8,k76,k75,_,k11,k19,_,k18,_,k36,k87,k86,k84,k15,k14,k81,k80,_,_,_,k73⟩:=hI;try simp only[zA,fn_sub,zJ,zI]at *
      have kd:Kd V1 J2:=⟨ly.sy.pu.p.n.of k73 hl2,k3,k4,k6,k7,Bool.eq_iff_iff.2 k11,k17.trans (i17.symm.trans ut.s.l17.symm),k18.trans (i18.symm.trans ut.s.i18.symm),k19,k9,k10,k75⟩
      have mi:MI V2 J2:=⟨k76,k8,k77,k78,k45,k39⟩
      have sv:steps.getD n 0=2:=by rw[<-sa];assumption
      have adv:Adv cs (steps.getD n 0) (sts cs steps n) V1 J2:=by rw[sv];exact mR (.inr rfl) q3 q.m mi
      have oo:=abU ch q3 q;have hout:if true=true then OutIt J2 (encs (stp cs (steps.getD n 0) (sts cs steps n)).w)/\(stp cs (steps.getD n 0) (sts cs steps n)).w≠[] else (stp cs (steps.getD n 0) (sts cs steps n)).w=[]:=xQ (by rw[sv,ag8 ch.hv];exact⟨oo.cong k82 k80 k81,mJ⟩)
      have mk:Mks cs steps n J2:=kP ly k89 k14 k15 k77 k45 k78;exact⟨⟨k84,k85,k86,k87,k73⟩,xO ly sz ch kd (by omega) (by omega) (by omega) adv k36 k86 k85 hout mk.1 mk.2⟩
   .intro J1 hl1 hA hr1 hid1 hI;simp +decide only[DD,aA hβ]at hA hI;obtain⟨b0,b1,b2,b3,b4,b5,b6,b7,b8⟩:=hA;obtain⟨j82,_,j3,j78,j45,j77,_,_,_,_,j39,j8,j76,j75,_,_,_,_,_,j81,j80,_,_,j73⟩:=hI;try simp only[zA,fn_sub,zJ,zI]at *
    have hb0:bk V1 0≠0:=by rw[<-xC];unfold bb;assumption
    obtain⟨v,ch,hpv⟩:=t9 t sz (by omega) (by omega) hb0;have sa:=wI ly (by omega);have hn2:Ln J1:=ly.sy.pu.p.n.of j73 hl1;have q3:Q3 (sts cs steps n) V1 J1:=⟨j3,j75,j76,j8,by rw[j77];exact ly.i77,by rw[j45];exact ly.i45,by rw[j78];exact ly.i78,by rw[j39];exact ly.i39⟩
    have kr:=qF t (nF ly) sz ch (by omega) (by omega) q3 hn2;have hL1:(GZs R0 cs steps n true true V).CL 25 J1:=⟨kr,fun _=>ax7 t ly j80 j81 j82⟩
    refine⟨hL1,(aC ?_ aN)⟩
    .intro V2 hq2 hO2;obtain⟨hn3,q0⟩:=hO2;have q:RlS J1 V2 (OS J1):=q0;clear q0;rw[aLJ ly j80 j82]at q;have hb2:=zE hb1 hn3.1;simp only[Nat.reduceAdd]at hb2;refine (nO hb2 ?_ (nO hb2 ?_ (nO hb2 ?_ (lG opQ hb2 ?_))))
     .intro hA;simp +decide only[DD,aA hβ,aA hb1]at hA ⊢;try simp only[zA,fn_sub,zJ,zI]at *
      omega
     .intro hA;simp +decide only[DD,aA hβ,aA hb1]at hA ⊢;try simp only[zA,fn_sub,zJ,zI]at *
      omega
     .intro hA;simp +decide only[DD,aA hβ,aA hb1]at hA ⊢;try simp only[zA,fn_sub,zJ,zI]at *
      omega
     .intro δ2 J2 hl2 hA hr2 hid2 hI;simp +decide only[DD,aA hβ,aA hb1,aL hb2]at hA hI;obtain⟨c0,c1,c2,c3,c4,c5,c6,c7,c8,c9,c10,c11⟩:=hA;obtain⟨k89,k82,k85,_,k17,k4,k3,k78,k45,k77,k9,k10,k7,k6,_,k39,k8,k76,k75,_,k11,k19,_,k18,_,k36,k87,k86,k84,k15,k14,k81,k80,_,_,_,k73⟩:=hI;try simp only[zA,fn_sub,zJ,zI]at *
      have kd:Kd V1 J2:=⟨ly.sy.pu.p.n.of k73 hl2,k3,k4,k6,k7,Bool.eq_iff_iff.2 k11,k17.trans (i17.symm.trans ut.s.l17.symm),k18.trans (i18.symm.trans ut.s.i18.symm),k19,k9,k10,k75⟩
      have mi:MI V2 J2:=⟨k76,k8,k77,k78,k45,k39⟩
      have sv:steps.getD n 0=3:=by rw[<-sa];assumption
      rcases q with q|q
      .have ad:=lA (.inr rfl) ch q3 q.1 mi;have aw:(stp cs (steps.getD n 0) (sts cs steps n)).w=(sts cs steps n).w++[10]:=by rw[sv];exact ad.2.trans (if_pos rfl)
       have adv:Adv cs (steps.getD n 0) (sts cs steps n) V1 J2:=by rw[sv];exact ad.1
       have hout:if true=true then OutIt J2 (encs (stp cs (steps.getD n 0) (sts cs steps n)).w)/\(stp cs (steps.getD n 0) (sts cs steps n)).w≠[] else (stp cs (steps.getD n 0) (sts cs steps n)).w=[]:=xQ (by rw[aw,<-ab7];exact⟨q.2.cong k82 k80 k81,mJ⟩)
       have mk:Mks cs steps n J2:=kP ly k89 k14 k15 k77 k45 k78;exact⟨⟨k84,k85,k86,k87,k73⟩,xO ly sz ch kd (by omega) (by omega) (by omega) adv k36 k86 k85 hout mk.1 mk.2⟩
      .have ad:=bR (.inr rfl) ch q3 q.1 mi;have adv:Adv cs (steps.getD n 0) (sts cs steps n) V1 J2:=by rw[sv];exact ad.1
       have hout:if true=true then OutIt J2 (encs (stp cs (steps.getD n 0) (sts cs steps n)).w)/\(stp cs (steps.getD n 0) (sts cs steps n)).w≠[] else (stp cs (steps.getD n 0) (sts cs steps n)).w=[]:=xQ (by rw[sv,ad.2];exact⟨q.2.cong k82 k80 k81,(zP ly.out).2⟩)
       have mk:Mks cs steps n J2:=kP ly k89 k14 k15 k77 k45 k78;exact⟨⟨k84,k85,k86,k87,k73⟩,xO ly sz ch kd (by omega) (by omega) (by omega) adv k36 k86 k85 hout mk.1 mk.2⟩
   .intro hA;simp +decide only[DD,aA hβ]at hA ⊢;try simp only[zA,fn_sub,zJ,zI]at *
    omega
   .intro hA;simp +decide only[DD,aA hβ]at hA ⊢;try simp only[zA,fn_sub,zJ,zI]at *
    omega
   .intro hA;simp +decide only[DD,aA hβ]at hA ⊢;try simp only[zA,fn_sub,zJ,zI]at *
    omega
   .intro δ1 J1 hl1 hA hr1 hid1 hI;simp +decide only[DD,aA hβ,aL hb1]at hA hI;obtain⟨b0,b1,b2,b3,b4,b5,b6,b7,b8,b9,b10,b11⟩:=hA;obtain⟨j89,j82,j85,_,j17,j4,j3,j78,j45,j77,j9,j10,j7,j6,_,j39,j8,j76,j75,_,j11,j19,_,j18,_,j36,j87,j86,j84,j15,j14,j81,j80,_,_,_,j73⟩:=hI;try simp only[zA,fn_sub,zJ,zI]at *
    have hb0:bk V1 0≠0:=by rw[<-xC];unfold bb;assumption
    obtain⟨v,ch,hpv⟩:=t9 t sz (by omega) (by omega) hb0;have sa:=wI ly (by omega);have kd:Kd V1 J1:=⟨ly.sy.pu.p.n.of j73 hl1,j3,j4,j6,j7,Bool.eq_iff_iff.2 j11,j17.trans (i17.symm.trans ut.s.l17.symm),j18.trans (i18.symm.trans ut.s.i18.symm),j19,j9,j10,j75⟩
    have se:stp cs (steps.getD n 0) (sts cs steps n)=sts cs steps n:=ae7 (by rw[<-sa];refine⟨?_,?_,?_,?_⟩<;>assumption);have adv:Adv cs (steps.getD n 0) (sts cs steps n) V1 J1:=fG se (by rw[j77];exact ly.i77) (by rw[j45];exact ly.i45) (by rw[j78];exact ly.i78) (by rw[j39];exact ly.i39) j76 j8;have hout:if true=true then OutIt J1 (encs (stp cs (steps.getD n 0) (sts cs steps n)).w)/\(stp cs (steps.getD n 0) (sts cs steps n)).w≠[] else (stp cs (steps.getD n 0) (sts cs steps n)).w=[]:=xQ (by rw[se];exact⟨(zP ly.out).1.cong j82 j80 j81,(zP ly.out).2⟩)
    have mk:Mks cs steps n J1:=kP ly j89 j14 j15 j77 j45 j78;exact⟨⟨j84,j85,j86,j87,j73⟩,xO ly sz ch kd (by omega) (by omega) (by omega) adv j36 j86 j85 hout mk.1 mk.2⟩
  .intro V1 hq1 hO1;obtain⟨hn1,ue⟩:=hO1;have hb1:=zE hβ hn1.1;simp only[Nat.reduceAdd]at hb1;refine (lG [] hb1 ?_)
   .intro δ1 J1 hl1 hA hr1 hid1 hI;simp +decide only[DD,aA hβ,aL hb1]at hA hI;exact (acY t ly.sy ea ue).elim
 .intro J0 hl0 hA hr0 hid0 hI;simp only[DD]at hA hI;obtain⟨i89,i82,i85,i87,i86,i84,_,i14,_,i81,i80,_,_,i73⟩:=hI;try simp only[zA,fn_sub,zJ,zI]at *
  exact⟨⟨i84,i85,i86,i87,i73⟩,ly.lt,ly.le,.inl (by omega),xQ ⟨(zP ly.out).1.cong i82 i80 i81,(zP ly.out).2⟩,xQ ⟨by rw[i14];exact (zP ly.mks).1,by rw[i89];exact (zP ly.mks).2.1⟩⟩
theorem atQ{R0:List UInt8}{cs steps:List Int}{n:Nat}{o m:Bool}{V:Ren}:∀ f s,ctZ o f=some s->yT Tryd.prog (GZs R0 cs steps n o m V) f s:=by
 intro f s hs;unfold ctZ at hs;split at hs
 .rename_i hf;subst hf;cases hs;exact aT5 (fun _ h=>h) (fun _ _ _ _ a b=>⟨a,b⟩) (fun _ _ _ _ a b=>⟨a,b⟩)
 split at hs
 .rename_i hf;subst hf;cases hs;exact auX (fun _ h=>h) (fun _ _ _ a b=>⟨a,b⟩)
 split at hs
 .rename_i hf;subst hf;cases hs;exact awO (fun _ h=>h) (fun _ _ _ a b=>⟨a,b⟩)
 split at hs
 .rename_i hf;subst hf;cases hs;cases o with
  |false=>exact auA (fun _ h=>h.1) (fun _ _ _ a b=>⟨a,b⟩)
  |true=>exact alM (fun _ h=>⟨h.1,h.2 rfl⟩) (fun _ _ _ a b=>⟨a,b⟩)
 split at hs
 .rename_i hf;subst hf;cases hs;cases o with
  |false=>exact am1 (fun _ h=>h.1) (fun _ _ _ a b=>⟨a,b⟩) (fun _ _ _ a b=>⟨a,b⟩)
  |true=>exact aq4 (fun _ h=>⟨h.1,h.2 rfl⟩) (fun _ _ _ a b=>⟨a,b⟩)
 .cases hs
theorem aeP{w0:W0}{Q:Exit->Act->World->Prop}{R0:List UInt8}{cs steps:List Int}{n:Nat}{o m:Bool}{V:Ren}{a:Act}{w:World}(ly:LY R0 cs steps n o m V)(hh:(au9 o m).Holds (GZs R0 cs steps n o m V) V)(hH:HR w0 V (tZ o m).heap w)(hF:FS V (ntmps 13) (tZ o m).frame a)
    (h0:∀ o' V1 a' w',SmZ V V1->LY R0 cs steps (n+1) o' true V1->HR w0 V1 (tZ o' true).heap w'->FS V1 (ntmps 13) (tZ o' true).frame a'->wpL Tryd.prog qP Q a' w')
    (h2:∀ V1 a' w',Ln V1->SmZ V V1->LE cs steps n o m V1->HR w0 V1 (tZx o m).heap w'->FS V1 (ntmps 13) (tZx o m).frame a'->Q (.exit 0) a' w'):wpL Tryd.prog qP Q a w:=by
 have pn:=ly.sy.pu.p.n
 refine zR (gC (E:=EZ o m) (G:=GZs R0 cs steps n o m V) zQ zS follows hh pn.2 hH (Facts.nil _) hF ?_ (fun r s c h=>by rcases h with h|h<;>cases h) (fun j i V1 V2 h=>h.elim) (fun r s h=>by rcases h with h|h<;>cases h) atQ)
 intro j e tp V1 a' w' hft q1 q2 q3
 have hl:V1.length=tp.m:=by rw[q1.len];exact zK _ _
 rcases hft with hft|hft
 .cases e with
  |normal=>cases hft;exact h0 o V1 a' w' q3.1 q3.2 q1 q2
  |ret=>cases hft;exact q3.2.elim
  |exit id =>
   match id,hft with
   |0,hft=>cases hft;exact h2 V1 a' w' (pn.of q3.1.h73 hl) q3.1 q3.2 q1 q2
 .cases e with
  |normal =>
   cases o with
   |false=>cases hft;exact h0 true V1 a' w' q3.1 q3.2 q1 q2
   |true=>cases hft
  |ret=>cases hft
  |exit id=>cases hft
theorem ajE{w0:W0}{Q:Exit->Act->World->Prop}{R0:List UInt8}{cs steps:List Int}(t:TXT R0 cs)(hs:steps.length<=4096):∀(k n:Nat)(o:Bool)(V:Ren)(a:Act)(w:World),
    (∀ n o V1 a' w',0<n->Ln V1->SmZ V V1->LE cs steps n o true V1->HR w0 V1 (tZx o true).heap w'->FS V1 (ntmps 13) (tZx o true).frame a'->Q (.exit 0) a' w')->steps.length-n<=k->0<n->LY R0 cs steps n o true V->HR w0 V (tZ o true).heap w->FS V (ntmps 13) (tZ o true).frame a->wpL Tryd.prog qP Q a w:=by
 intro k
 induction k with
 |zero =>
  intro n o V a w h2 hk hp ly hH hF
  refine aeP ly ?_ hH hF (fun o' V1 a' w' _ ly' q1 q2=>?_) (fun V1 a' w' hn sm le q1 q2=>h2 n o V1 a' w' hp hn sm le q1 q2)
  .cases o with
   |false=>rw[iL];exact aaF t hs ly
   |true=>rw[fP];exact W8 t hs ly
  .exfalso;have:=ly'.le;omega
 |succ k ih =>
  intro n o V a w h2 hk hp ly hH hF
  refine aeP ly ?_ hH hF (fun o' V1 a' w' sm ly' q1 q2=>ih (n+1) o' V1 a' w' (fun n o V2 a2 w2 hp2 hn2 sm2=>h2 n o V2 a2 w2 hp2 hn2 (sm.trans sm2)) (by omega) (Nat.succ_pos _) ly' q1 q2) (fun V1 a' w' hn sm le q1 q2=>h2 n o V1 a' w' hp hn sm le q1 q2)
  cases o with
  |false=>rw[iL];exact aaF t hs ly
  |true=>rw[fP];exact W8 t hs ly
theorem adT{w0:W0}{Q:Exit->Act->World->Prop}{R0:List UInt8}{cs steps:List Int}{V:Ren}{a:Act}{w:World}(t:TXT R0 cs)(hs:steps.length<=4096)(ly:LY R0 cs steps 0 false false V)(hH:HR w0 V (tZ false false).heap w)(hF:FS V (ntmps 13) (tZ false false).frame a)
    (h1:∀ V1 a' w',Ln V1->SmZ V V1->LE cs steps 0 false false V1->HR w0 V1 (tZx false false).heap w'->FS V1 (ntmps 13) (tZx false false).frame a'->Q (.exit 0) a' w')
    (h2:∀ n o V1 a' w',0<n->Ln V1->SmZ V V1->LE cs steps n o true V1->HR w0 V1 (tZx o true).heap w'->FS V1 (ntmps 13) (tZx o true).frame a'->Q (.exit 0) a' w'):wpL Tryd.prog qP Q a w:=by
 refine aeP ly ?_ hH hF (fun o' V1 a' w' sm ly' q1 q2=>ajE t hs _ 1 o' V1 a' w' (fun n o V2 a2 w2 hp2 hn2 sm2=>h2 n o V2 a2 w2 hp2 hn2 (sm.trans sm2)) (Nat.le_refl _) (Nat.succ_pos _) ly' q1 q2) h1
 rw[ac8];exact akY t hs ly
def zD(V:Ren):List Int:=(gN V 85).take (gI V 86).toNat
structure P13(cs:List Int)(V:Ren):Prop where
 pt:PT V
 tx:TXT (T0 V) cs
 i86:0<=gI V 86/\gI V 86<=4096
 n85:gI V 86<=(gN V 85).length
theorem P13.len{cs:List Int}{V:Ren}(p:P13 cs V):((zD V).length:Int)=gI V 86:=by
 have:=p.i86;have:=p.n85;unfold zD;rw[List.length_take];omega
theorem Q9{cs:List Int}{V γ:Ren}(p:P13 cs V)(dy:DY (T0 V) [] γ)(e10:gI γ 10=0)(e77:gI γ 77=0)(e45:gI γ 45=0)(e78:gI γ 78=0)(e39:gI γ 39=0)(e36:gI γ 36=0)(e86:gI γ 86=gI V 86)(e85:gN γ 85=gN V 85):LY (T0 V) cs (zD V) 0 false false γ:=by
 have hl:=p.len;refine⟨⟨dy.pu,?_⟩,e77,e45,e78,⟨by omega,by rw[e39];exact Int.natCast_nonneg _⟩,e36,by omega,?_,fun i hi=>absurd hi (Nat.not_lt_zero i),Nat.zero_le _,vV rfl,vV rfl⟩
 .rcases dy.st with⟨h1,_,h2,h3,h4⟩|⟨h1,R1,us,z,h2,h3,h4,h5,h6,h7⟩
  .exact .inl ⟨h1,rfl,h2,h3,h4⟩
  .omega
 .rw[e85,show (zD V).length=(gI V 86).toNat from by omega];rfl
def G13(cs:List Int)(A:Bool)(V:Ren):Goal where
 J:=fun j γ=>Ln γ/\SmZ V γ/\∃ n,LE cs (zD V) n (if A then false else Nat.beq j 1) (!A) γ
 L:=fun _ γ=>SmZ V γ/\LY (T0 V) cs (zD V) 0 false false γ
 O:=fun _ i γ J1=>Ln J1/\SmZ V J1/\∃ n,LE cs (zD V) n (if A then false else Nat.beq i 1) (!A) J1
 W:=fun _ c=>c=.loop qP
 CL:=fun _ γ=>Ln γ
 CO:=fun _ _ γ J1=>Ln J1/\avD γ J1
theorem aiJ{cs:List Int}{V:Ren}(p:P13 cs V):gY.Holds (G13 cs true V) V:=by
 unfold gY;have hβ:=p.pt.n.1;refine (cG [] hβ ?_)
 .intro δ0 hδ0 J0 hl0 hA hr0 hid0 hI;simp only[DD,aL hβ,Nat.reduceLT,Nat.reduceLeDiff,Nat.reduceSub]at hI;obtain⟨_,_,_,_,_,i73⟩:=hI;have hL0:(G13 cs true V).CL 14 J0:=p.pt.n.of i73 hl0;refine⟨hL0,(aC ?_ aN)⟩
  .intro V1 hq1 hO1;obtain⟨hn1,z⟩:=hO1;have hb1:=zE hδ0 hn1.1;simp only[Nat.reduceAdd]at hb1;refine (nO hb1 ?_ (pO [] hb1 rfl ?_))
   .intro hA;clear hA;simp only[DD,aL hβ,aA hδ0,Nat.reduceLT,Nat.reduceLeDiff,Nat.reduceSub];have:=p.i86;omega
   .intro J1 hl1 hA hr1 hid1 hI;simp only[DD,aL hβ,aA hδ0,Nat.reduceLT,Nat.reduceLeDiff,Nat.reduceSub]at hA hI;obtain⟨j85,_,j17,j4,j3,_,_,_,_,_,_,_,_,_,_,_,_,_,_,_,_,_,_,_,_,_,_,_,_,j78,j45,j77,j9,j10,j7,j6,_,j39,j8,j76,j75,_,j11,j19,_,j18,_,_,_,_,_,_,_,_,_,_,_,_,_,j36,j87,j86,j84,_,_,j73⟩:=hI;have hn2:Ln J1:=p.pt.n.of j73 hl1;have dy:DY (T0 V) [] J1:=aaE p.pt hn2 (j3.trans z.1.1) (j4.trans z.1.2) j6 j7 j8 j9 j10 j11 j17 j18 j19 j75 j76 j77 j78;have ly:=Q9 p dy j10 j77 j45 j78 j39 j36 j86 j85;have hL1:(G13 cs true V).L 5 J1:=⟨⟨j84,j85,j86,j87,j73⟩,ly⟩
    refine⟨hL1,(oC ?_ oN)⟩
    .intro V2 hq2 hO2;obtain⟨hn2,sm,n,le⟩:=hO2;have hb2:=hn2.1;have hg2:=hn2.2;refine (lO [] hb2 ?_)
     .intro J2 hl2 hA hr2 hid2 hI;simp only[DD]at hI;obtain⟨k85,k87,k86,k84,_,k73⟩:=hI;exact⟨Ln.of ⟨hb2,hg2⟩ k73 hl2,sm.trans ⟨k84,k85,k86,k87,k73⟩,n,le.lt,le.le,le.fin,le.out,le.mks⟩
theorem ahV{cs:List Int}{V:Ren}(p:P13 cs V):iH.Holds (G13 cs false V) V:=by
 unfold iH;have hβ:=p.pt.n.1;refine (cG [] hβ ?_)
 .intro δ0 hδ0 J0 hl0 hA hr0 hid0 hI;simp only[DD,aL hβ,Nat.reduceLT,Nat.reduceLeDiff,Nat.reduceSub]at hI;obtain⟨_,_,_,_,_,i73⟩:=hI;have hL0:(G13 cs false V).CL 14 J0:=p.pt.n.of i73 hl0;refine⟨hL0,(aC ?_ aN)⟩
  .intro V1 hq1 hO1;obtain⟨hn1,z⟩:=hO1;have hb1:=zE hδ0 hn1.1;simp only[Nat.reduceAdd]at hb1;refine (nO hb1 ?_ (pO [] hb1 rfl ?_))
   .intro hA;clear hA;simp only[DD,aL hβ,aA hδ0,Nat.reduceLT,Nat.reduceLeDiff,Nat.reduceSub];have:=p.i86;omega
   .intro J1 hl1 hA hr1 hid1 hI;simp only[DD,aL hβ,aA hδ0,Nat.reduceLT,Nat.reduceLeDiff,Nat.reduceSub]at hA hI;obtain⟨j85,_,j17,j4,j3,_,_,_,_,_,_,_,_,_,_,_,_,_,_,_,_,_,_,_,_,_,_,_,_,j78,j45,j77,j9,j10,j7,j6,_,j39,j8,j76,j75,_,j11,j19,_,j18,_,_,_,_,_,_,_,_,_,_,_,_,_,j36,j87,j86,j84,_,_,j73⟩:=hI;have hn2:Ln J1:=p.pt.n.of j73 hl1;have dy:DY (T0 V) [] J1:=aaE p.pt hn2 (j3.trans z.1.1) (j4.trans z.1.2) j6 j7 j8 j9 j10 j11 j17 j18 j19 j75 j76 j77 j78;have ly:=Q9 p dy j10 j77 j45 j78 j39 j36 j86 j85;have hL1:(G13 cs false V).L 5 J1:=⟨⟨j84,j85,j86,j87,j73⟩,ly⟩
    refine⟨hL1,(oC ?_ (oC ?_ oN))⟩
    .intro V2 hq2 hO2;obtain⟨hn2,sm,n,le⟩:=hO2;have hb2:=hn2.1;have hg2:=hn2.2;refine (lO [] hb2 ?_)
     .intro J2 hl2 hA hr2 hid2 hI;simp only[DD]at hI;obtain⟨k89,k85,k87,k86,k84,_,_,k14,_,k73⟩:=hI;exact⟨Ln.of ⟨hb2,hg2⟩ k73 hl2,sm.trans ⟨k84,k85,k86,k87,k73⟩,n,le.lt,le.le,le.fin,le.out,xQ ⟨by rw[k14];exact (zP le.mks).1,by rw[k89];exact (zP le.mks).2⟩⟩
    .intro V2 hq2 hO2;obtain⟨hn2,sm,n,le⟩:=hO2;have hb2:=hn2.1;have hg2:=hn2.2;refine (lO [] hb2 ?_)
     .intro J2 hl2 hA hr2 hid2 hI;simp only[DD]at hI;obtain⟨k89,k82,k85,k87,k86,k84,_,_,k14,_,k81,k80,_,k73⟩:=hI;exact⟨Ln.of ⟨hb2,hg2⟩ k73 hl2,sm.trans ⟨k84,k85,k86,k87,k73⟩,n,le.lt,le.le,le.fin,xQ ⟨(zP le.out).1.cong k82 k80 k81,(zP le.out).2⟩,xQ ⟨by rw[k14];exact (zP le.mks).1,by rw[k89];exact (zP le.mks).2⟩⟩
end U
