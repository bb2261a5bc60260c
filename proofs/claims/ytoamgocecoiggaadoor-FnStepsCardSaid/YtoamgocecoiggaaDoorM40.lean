-- the statement of this claim: see YtoamgocecoiggaaDoorRs
import Derived.Below
import Derived.Test.YtoamgocecoiggaaDoorM39
set_option linter.unusedVariables false
set_option linter.unusedSimpArgs false
set_option maxRecDepth 100000
noncomputable section
open Go Go.SM Go.Proofs
namespace U
theorem aWN{V γ:Ren}(h:OT (T0 V) (zD V))(e1:T0 γ=T0 V)(e2:zD γ=zD V):OC true γ:=⟨fun _=>by rw[e1,e2];exact h,fun h=>by cases h⟩
theorem aXQ{V γ:Ren}(h:¬ OT (T0 V) (zD V))(e1:T0 γ=T0 V)(e2:zD γ=zD V):OC false γ:=⟨(fun h=>by cases h),fun _=>by rw[e1,e2];exact h⟩
theorem kB{O:List UInt8}{γ:Ren}(h:OutIt γ O):gI γ 80<=(gL γ 82).length:=by
 have a:=congrArg List.length h.out;have b:=h.n;rw[List.length_take]at a;omega
theorem atY{V:Ren}(p:P4 V)(oc:¬ OT (T0 V) (zD V)):bJ.Holds (GS4 false V) V:=by
 unfold bJ;have hβ:=p.n.1;have p18:=p.i18;have p17:=p.l17;have p72:=p.i72;have p86:=p.i86;refine (fO (lO [] hβ ?_) (cO [] hβ ?_))
 .intro J0 hl0 hA hr0 hid0 hI;simp only[DD]at hA hI;obtain⟨_,i29,_⟩:=hI;exact i29.2 trivial
 .intro J0 hl0 hA hr0 hid0 hI;simp only[DD]at hA hI;obtain⟨a0,a1⟩:=hA;obtain⟨_,i17,i72,i18,_,i73⟩:=hI;have pk:=p.pk (p.n.of i73 hl0) i17 i18 i72 (by omega);have hL0:(GS4 false V).CL 12 J0:=pk.1;refine⟨hL0,(aC ?_ (aC ?_ aN))⟩
  .intro V1 hq1 hO1;obtain⟨hn1,z0⟩:=hO1;have z:gB V1 84=true->Lkd (T0 J0) []:=z0;clear z0;rw[pk.2]at z;have hb1:=zE hβ hn1.1;simp only[Nat.reduceAdd]at hb1;refine (fO (lO [] hb1 ?_) (cO [] hb1 ?_))
   .intro J1 hl1 hA hr1 hid1 hI;simp +decide only[DD,aA hβ]at hA hI;obtain⟨_,j29,_⟩:=hI;exact j29.2 trivial
   .intro J1 hl1 hA hr1 hid1 hI;simp +decide only[DD,aA hβ]at hA hI;obtain⟨b0,b1,b2,b3⟩:=hA;obtain⟨_,j85,j17,_,j86,_,_,j18,_,j73⟩:=hI;have lk:Lkd (T0 V) []:=z (by assumption);have p13:=N6 p (p.n.of j73 hl1) j17 j18 j85 j86 lk (by simp) (by omega);have hL1:(GS4 false V).CL 13 J1:=⟨⟨_,p13.1⟩,aXQ oc p13.2.1 p13.2.2⟩
    have stE:=p13.2.2;refine⟨hL1,(aC ?_ (aC ?_ aN))⟩
    .intro V2 hq2 hO2;obtain⟨hn2,z3⟩:=hO2;have z4:∃ cs,P13 cs J1/\LE cs (zD J1) 0 false false V2:=z3;clear z3;obtain⟨cs2,p2,le0⟩:=z4;have le:LE [] (zD J1) 0 false false V2:=by rw[tC p13.1.tx.dr p2.tx.dr];exact le0
     have hb2:=zE hb1 hn2.1;simp only[Nat.reduceAdd]at hb2;refine (lG [] hb2 ?_)
     .intro δ2 J2 hl2 hA hr2 hid2 hI;simp +decide only[DD,aA hβ,aA hb1,aL hb2]at hA hI;obtain⟨_,k29,_⟩:=hI;exact k29.2 trivial
    .intro V2 hq2 hO2;obtain⟨hn2,z3⟩:=hO2;have z4:∃ cs n,P13 cs J1/\LE cs (zD J1) n false true V2:=z3;clear z3;obtain⟨cs2,nn,p2,le0⟩:=z4;have le:LE [] (zD J1) nn false true V2:=by rw[tC p13.1.tx.dr p2.tx.dr];exact le0
     have hb2:=zE hb1 hn2.1;simp only[Nat.reduceAdd]at hb2;refine (nO hb2 ?_ (fO (nO hb2 ?_ (lG [] hb2 ?_)) (lG [] hb2 ?_)))
     .intro hA;simp +decide only[DD,aA hβ,aA hb1]at hA ⊢;have lm:=kF le;have ll:=le.le;have sl:=p.sl;rw[<-stE]at sl;omega
     .intro hA;simp +decide only[DD,aA hβ,aA hb1]at hA ⊢;have lm:=kF le;have ll:=le.le;have sl:=p.sl;rw[<-stE]at sl;omega
     .intro δ2 J2 hl2 hA hr2 hid2 hI;simp +decide only[DD,aA hβ,aA hb1,aL hb2]at hA hI;exfalso;have e0:=abE le;subst e0;have lm:=kF le;omega
     .intro δ2 J2 hl2 hA hr2 hid2 hI;simp +decide only[DD,aA hβ,aA hb1,aL hb2]at hA hI;obtain⟨_,k29,_⟩:=hI;exact k29.2 trivial
  .intro V1 hq1 hO1;obtain⟨hn1,z0⟩:=hO1;have z:∃ cs,sQ (T0 J0) cs/\cs≠[]/\Num6 cs V1/\(gB V1 84=true->Lkd (T0 J0) cs):=z0;clear z0;rw[pk.2]at z;obtain⟨cs,dt,hne,nm,lk0⟩:=z;have n31:=nm.l;have hb1:=zE hβ hn1.1;simp only[Nat.reduceAdd]at hb1;refine (fO (lO [] hb1 ?_) (cO [] hb1 ?_))
   .intro J1 hl1 hA hr1 hid1 hI;simp +decide only[DD,aA hβ]at hA hI;obtain⟨_,j29,_⟩:=hI;exact j29.2 trivial
   .intro J1 hl1 hA hr1 hid1 hI;simp +decide only[DD,aA hβ]at hA hI;obtain⟨b0,b1,b2,b3,b4⟩:=hA;obtain⟨_,j85,j17,_,j86,_,_,j18,_,j73⟩:=hI;have lk:Lkd (T0 V) cs:=lk0 (by assumption);have p13:=N6 p (p.n.of j73 hl1) j17 j18 j85 j86 lk (by omega) (by omega);have hL1:(GS4 false V).CL 13 J1:=⟨⟨_,p13.1⟩,aXQ oc p13.2.1 p13.2.2⟩
    have stE:=p13.2.2;refine⟨hL1,(aC ?_ (aC ?_ aN))⟩
    .intro V2 hq2 hO2;obtain⟨hn2,z3⟩:=hO2;have z4:∃ cs,P13 cs J1/\LE cs (zD J1) 0 false false V2:=z3;clear z3;obtain⟨cs2,p2,le0⟩:=z4;have le:LE cs (zD J1) 0 false false V2:=by rw[tC p13.1.tx.dr p2.tx.dr];exact le0
     have hb2:=zE hb1 hn2.1;simp only[Nat.reduceAdd]at hb2;refine (lG [] hb2 ?_)
     .intro δ2 J2 hl2 hA hr2 hid2 hI;simp +decide only[DD,aA hβ,aA hb1,aL hb2]at hA hI;obtain⟨_,k29,_⟩:=hI;refine k29.2 ?_;have sl:=p.sl;rw[<-stE]at sl;rcases le.fin with h|h
      .left;omega
      .right;have h:cs.length<=0:=h;omega
    .intro V2 hq2 hO2;obtain⟨hn2,z3⟩:=hO2;have z4:∃ cs n,P13 cs J1/\LE cs (zD J1) n false true V2:=z3;clear z3;obtain⟨cs2,nn,p2,le0⟩:=z4;have le:LE cs (zD J1) nn false true V2:=by rw[tC p13.1.tx.dr p2.tx.dr];exact le0
     have hb2:=zE hb1 hn2.1;simp only[Nat.reduceAdd]at hb2;refine (nO hb2 ?_ (pO [] hb2 rfl ?_))
     .intro hA;simp +decide only[DD,aA hβ,aA hb1]at hA ⊢;have lm:=kF le;have ll:=le.le;have sl:=p.sl;rw[<-stE]at sl;omega
     .intro J2 hl2 hA hr2 hid2 hI;simp +decide only[DD,aA hβ,aA hb1]at hA hI;obtain⟨_,k89,k33,k85,k36,k78,k45,k77,_,k14,_,k32,k31,_,_,_,_,k73⟩:=hI;have hn3:Ln J2:=p.n.of k73 hl2;have nm2:Num6 cs J2:=nm.of' k33 k31 k32;have le2:LE cs (zD V) nn false true V2:=by rw[<-stE];exact le
      have sl:=p.sl;have hst:(gN J2 85).take (zD V).length=zD V:=by rw[k85,show (zD V).length=(gI V 86).toNat from by omega];rfl
      have lq:LQ cs (zD V) (encs (sts cs (zD V) nn).w) nn 0 false false J2:=W7 le2 hn3 nm2 k14 k89 (by omega) hst k36 k77 k45 k78 (by omega) (by omega) (fun h=>by cases h);have pq:PQ cs (zD V) nn false:=⟨le2.rn,fun _=>yU le2.out,(fun h=>by cases h),(jK dt).1,by omega,by omega⟩
      have hL2:(GS4 false V).L 10 J2:=⟨cs,nn,pq,lq⟩
      refine⟨hL2,(oC ?_ oN)⟩
      .intro V3 hq3 hO3;obtain⟨hn4,cs3,n3,pq3,x0⟩:=hO3;have hb3:=hn4.1;have x0:LX cs3 (zD V) (encs (sts cs3 (zD V) n3).w) n3 false false V3:=x0;refine (lO [] hb3 ?_)
       .intro J3 hl3 hA hr3 hid3 hI;simp only[DD]at hI;obtain⟨_,l29,_⟩:=hI;exact l29.2 (arR pq3 x0)
theorem aqK{V:Ren}(p:P4 V)(oc:OT (T0 V) (zD V)):B9.Holds (GS4 true V) V:=by
 unfold B9;have hβ:=p.n.1;have p18:=p.i18;have p17:=p.l17;have p72:=p.i72;have p86:=p.i86;refine (fO (lO [] hβ ?_) (cO [] hβ ?_))
 .intro J0 hl0 hA hr0 hid0 hI;simp only[DD]at hA hI;obtain⟨_,i29,_⟩:=hI;exact i29.2 trivial
 .intro J0 hl0 hA hr0 hid0 hI;simp only[DD]at hA hI;obtain⟨a0,a1⟩:=hA;obtain⟨_,i17,i72,i18,_,i73⟩:=hI;have pk:=p.pk (p.n.of i73 hl0) i17 i18 i72 (by omega);have hL0:(GS4 true V).CL 12 J0:=pk.1;refine⟨hL0,(aC ?_ (aC ?_ aN))⟩
  .intro V1 hq1 hO1;obtain⟨hn1,z0⟩:=hO1;have z:gB V1 84=true->Lkd (T0 J0) []:=z0;clear z0;rw[pk.2]at z;have hb1:=zE hβ hn1.1;simp only[Nat.reduceAdd]at hb1;refine (fO (lO [] hb1 ?_) (cO [] hb1 ?_))
   .intro J1 hl1 hA hr1 hid1 hI;simp +decide only[DD,aA hβ]at hA hI;obtain⟨_,j29,_⟩:=hI;exact j29.2 trivial
   .intro J1 hl1 hA hr1 hid1 hI;simp +decide only[DD,aA hβ]at hA hI;obtain⟨b0,b1,b2,b3⟩:=hA;obtain⟨_,j85,j17,_,j86,_,_,j18,_,j73⟩:=hI;have lk:Lkd (T0 V) []:=z (by assumption);have p13:=N6 p (p.n.of j73 hl1) j17 j18 j85 j86 lk (by simp) (by omega);have hL1:(GS4 true V).CL 13 J1:=⟨⟨_,p13.1⟩,aWN oc p13.2.1 p13.2.2⟩
    have stE:=p13.2.2;refine⟨hL1,(aC ?_ (aC ?_ aN))⟩
    .intro V2 hq2 hO2;obtain⟨hn2,z3⟩:=hO2;have z4:∃ cs,P13 cs J1/\LE cs (zD J1) 0 false false V2:=z3;clear z3;obtain⟨cs2,p2,le0⟩:=z4;have le:LE [] (zD J1) 0 false false V2:=by rw[tC p13.1.tx.dr p2.tx.dr];exact le0
     have hb2:=zE hb1 hn2.1;simp only[Nat.reduceAdd]at hb2;refine (lG [] hb2 ?_)
     .intro δ2 J2 hl2 hA hr2 hid2 hI;simp +decide only[DD,aA hβ,aA hb1,aL hb2]at hA hI;obtain⟨_,k29,_⟩:=hI;exact k29.2 trivial
    .intro V2 hq2 hO2;obtain⟨hn2,z3⟩:=hO2;have z4:∃ cs n,P13 cs J1/\LE cs (zD J1) n true true V2:=z3;clear z3;obtain⟨cs2,nn,p2,le0⟩:=z4;have le:LE [] (zD J1) nn true true V2:=by rw[tC p13.1.tx.dr p2.tx.dr];exact le0
     have hb2:=zE hb1 hn2.1;simp only[Nat.reduceAdd]at hb2;refine (nO hb2 ?_ (fO (nO hb2 ?_ (lG [] hb2 ?_)) (nO hb2 ?_ (lG [] hb2 ?_))))
     .intro hA;simp +decide only[DD,aA hβ,aA hb1]at hA ⊢;have lm:=kF le;have ll:=le.le;have sl:=p.sl;rw[<-stE]at sl;have oi2:=kB (zP le.out).1;omega
     .intro hA;simp +decide only[DD,aA hβ,aA hb1]at hA ⊢;have lm:=kF le;have ll:=le.le;have sl:=p.sl;rw[<-stE]at sl;have oi2:=kB (zP le.out).1;omega
     .intro δ2 J2 hl2 hA hr2 hid2 hI;simp +decide only[DD,aA hβ,aA hb1,aL hb2]at hA hI;exfalso;have e0:=abE le;subst e0;exact (zP le.out).2 rfl
     .intro hA;simp +decide only[DD,aA hβ,aA hb1]at hA ⊢;have lm:=kF le;have ll:=le.le;have sl:=p.sl;rw[<-stE]at sl;have oi2:=kB (zP le.out).1;omega
     .intro δ2 J2 hl2 hA hr2 hid2 hI;simp +decide only[DD,aA hβ,aA hb1,aL hb2]at hA hI;exfalso;have e0:=abE le;subst e0;exact (zP le.out).2 rfl
  .intro V1 hq1 hO1;obtain⟨hn1,z0⟩:=hO1;have z:∃ cs,sQ (T0 J0) cs/\cs≠[]/\Num6 cs V1/\(gB V1 84=true->Lkd (T0 J0) cs):=z0;clear z0;rw[pk.2]at z;obtain⟨cs,dt,hne,nm,lk0⟩:=z;have n31:=nm.l;have hb1:=zE hβ hn1.1;simp only[Nat.reduceAdd]at hb1;refine (fO (lO [] hb1 ?_) (cO [] hb1 ?_))
   .intro J1 hl1 hA hr1 hid1 hI;simp +decide only[DD,aA hβ]at hA hI;obtain⟨_,j29,_⟩:=hI;exact j29.2 trivial
   .intro J1 hl1 hA hr1 hid1 hI;simp +decide only[DD,aA hβ]at hA hI;obtain⟨b0,b1,b2,b3,b4⟩:=hA;obtain⟨_,j85,j17,_,j86,_,_,j18,_,j73⟩:=hI;have lk:Lkd (T0 V) cs:=lk0 (by assumption);have p13:=N6 p (p.n.of j73 hl1) j17 j18 j85 j86 lk (by omega) (by omega);have hL1:(GS4 true V).CL 13 J1:=⟨⟨_,p13.1⟩,aWN oc p13.2.1 p13.2.2⟩
    have stE:=p13.2.2;refine⟨hL1,(aC ?_ (aC ?_ aN))⟩
    .intro V2 hq2 hO2;obtain⟨hn2,z3⟩:=hO2;have z4:∃ cs,P13 cs J1/\LE cs (zD J1) 0 false false V2:=z3;clear z3;obtain⟨cs2,p2,le0⟩:=z4;have le:LE cs (zD J1) 0 false false V2:=by rw[tC p13.1.tx.dr p2.tx.dr];exact le0
     have hb2:=zE hb1 hn2.1;simp only[Nat.reduceAdd]at hb2;refine (lG [] hb2 ?_)
     .intro δ2 J2 hl2 hA hr2 hid2 hI;simp +decide only[DD,aA hβ,aA hb1,aL hb2]at hA hI;obtain⟨_,k29,_⟩:=hI;refine k29.2 ?_;have sl:=p.sl;rw[<-stE]at sl;rcases le.fin with h|h
      .left;omega
      .right;have h:cs.length<=0:=h;omega
    .intro V2 hq2 hO2;obtain⟨hn2,z3⟩:=hO2;have z4:∃ cs n,P13 cs J1/\LE cs (zD J1) n true true V2:=z3;clear z3;obtain⟨cs2,nn,p2,le0⟩:=z4;have le:LE cs (zD J1) nn true true V2:=by rw[tC p13.1.tx.dr p2.tx.dr];exact le0
     have hb2:=zE hb1 hn2.1;simp only[Nat.reduceAdd]at hb2;refine (nO hb2 ?_ (pO [] hb2 rfl ?_))
     .intro hA;simp +decide only[DD,aA hβ,aA hb1]at hA ⊢;have lm:=kF le;have ll:=le.le;have sl:=p.sl;rw[<-stE]at sl;have oi2:=kB (zP le.out).1;omega
     .intro J2 hl2 hA hr2 hid2 hI;simp +decide only[DD,aA hβ,aA hb1]at hA hI;obtain⟨k82,_,k89,k33,k85,k36,k78,k45,k77,_,k14,_,k81,k80,_,k32,k31,_,_,_,_,k73⟩:=hI;have hn3:Ln J2:=p.n.of k73 hl2;have nm2:Num6 cs J2:=nm.of' k33 k31 k32;have le2:LE cs (zD V) nn true true V2:=by rw[<-stE];exact le
      have sl:=p.sl;have hst:(gN J2 85).take (zD V).length=zD V:=by rw[k85,show (zD V).length=(gI V 86).toNat from by omega];rfl
      have lq:LQ cs (zD V) (encs (sts cs (zD V) nn).w) nn 0 true false J2:=W7 le2 hn3 nm2 k14 k89 (by omega) hst k36 k77 k45 k78 (by omega) (by omega) (fun _=>⟨k82,k80,k81⟩);have pq:PQ cs (zD V) nn true:=⟨le2.rn,(fun h=>by cases h),fun _=>(zP le2.out).2,(jK dt).1,by omega,by omega⟩
      have hL2:(GS4 true V).L 10 J2:=⟨cs,nn,pq,lq⟩
      refine⟨hL2,(oC ?_ (oC ?_ oN))⟩
      .intro V3 hq3 hO3;obtain⟨hn4,cs3,n3,pq3,x0⟩:=hO3;have hb3:=hn4.1;have x0:LX cs3 (zD V) (encs (sts cs3 (zD V) n3).w) n3 true false V3:=x0;refine (nO hb3 ?_ (lO [] hb3 ?_))
       .intro hA;clear hA;simp only[DD];have oi:=x0.out rfl;have oi2:=kB oi;omega
       .intro J3 hl3 hA hr3 hid3 hI;simp only[DD]at hA hI;exact (pq3.ht rfl (yU x0.wn)).elim
      .intro V3 hq3 hO3;obtain⟨hn4,cs3,n3,pq3,x0⟩:=hO3;have hb3:=hn4.1;have x0:LX cs3 (zD V) (encs (sts cs3 (zD V) n3).w) n3 true true V3:=x0;refine (cO [] hb3 ?_)
       .intro J3 hl3 hA hr3 hid3 hI;simp only[DD]at hI;obtain⟨_,l33,_,l31,_,l73⟩:=hI;have wp:=aTC pq3 (zP x0.wn).1 (hn4.of l73 hl3) l33 l31;have hL3:(GS4 true V).CL 11 J3:=wp.1;refine⟨hL3,(aC ?_ (aC ?_ aN))⟩
        .intro V4 hq4 hO4;obtain⟨hn5,z5⟩:=hO4;have z6:NL J3=[]:=z5;clear z5;rw[wp.2]at z6;have hb4:=zE hb3 hn5.1;simp only[Nat.reduceAdd]at hb4;refine (nO hb4 ?_ (lO [] hb4 ?_))
         .intro hA;clear hA;simp +decide only[DD,aA hb3];have oi:=x0.out rfl;have oi2:=kB oi;omega
         .intro J4 hl4 hA hr4 hid4 hI;simp +decide only[DD,aA hb3]at hA hI;exact ((zP x0.wn).2 z6).elim
        .intro V4 hq4 hO4;obtain⟨hn5,z5⟩:=hO4;have hz:OutE (encs (NL J3)) V4/\NL J3≠[]:=z5;clear z5;rw[wp.2]at hz;have hb4:=zE hb3 hn5.1;simp only[Nat.reduceAdd]at hb4;refine (nO hb4 ?_ (nO hb4 ?_ (lO [] hb4 ?_)))
         .intro hA;clear hA;simp +decide only[DD,aA hb3];have oi:=x0.out rfl;have oi2:=kB oi;have oc:=hz.1.c;have od:=hz.1.d;omega
         .intro hA;simp +decide only[DD,aA hb3]at hA ⊢;have oi:=x0.out rfl;have oi2:=kB oi;have oc:=hz.1.c;have od:=hz.1.d;omega
         .intro J4 hl4 hA hr4 hid4 hI;simp +decide only[DD,aA hb3]at hA hI;obtain⟨e0,e1⟩:=hA;obtain⟨_,m29,_⟩:=hI;refine m29.2 ⟨?_,arR pq3 x0⟩;have e1:=(x0.out rfl).out;have e2:(gL V4 82).take (gI V4 80).toNat=encs (sts cs3 (zD V) n3).w:=hz.1.b;show List.take _ _=List.take _ _;rw[e1,e2]
theorem aQF{G:Goal}(hCL:∀ V,G.CL 13 V->(∃ cs,P13 cs V)/\OC true V)(h0:∀ cs V V1,G.CL 13 V->P13 cs V->Ln V1->LE cs (zD V) 0 false false V1->G.CO 13 0 V V1)(h1:∀ cs V V1 n,G.CL 13 V->P13 cs V->Ln V1->LE cs (zD V) n true true V1->G.CO 13 1 V V1):yT Tryd.prog G 13 dK:=by
 intro w0 V args w hH hF hcl;obtain⟨hp,oc⟩:=hCL V hcl;refine ((apS (G:={ G with CL:=fun _ b=>b=V,CO:=fun _ i b b1=>match i with|0=>G.CO 13 0 b b1|1=>False|_=>G.CO 13 1 b b1 }) (fun b h=>by subst h;exact hp) (fun cs b b1 hb p a c d=>by subst hb;exact h0 cs b b1 hcl p a d) (fun cs b b1 n hb p a c d=>by subst hb;exact aT0 (oc.1 rfl) p.tx d) (fun cs b b1 n hb p a c d=>by subst hb;exact h1 cs b b1 n hcl p a d)) w0 V args w hH hF rfl).mono ?_;rintro e w' ⟨i,v,tp,sm,V2,u,g1,g2,g3,g4,g5,g6⟩;match i,g1,g5 with
 |0,g1,g5=>cases g1;exact⟨0,_,_,_,V2,u,rfl,g2,g3,g4,g5,g6⟩
 |1,g1,g5=>exact g5.elim
 |2,g1,g5=>cases g1;exact⟨1,_,_,_,V2,u,rfl,g2,g3,g4,g5,g6⟩
theorem aN9{G:Goal}(hCL:∀ V,G.CL 13 V->(∃ cs,P13 cs V)/\OC false V)(h0:∀ cs V V1,G.CL 13 V->P13 cs V->Ln V1->LE cs (zD V) 0 false false V1->G.CO 13 0 V V1)(h1:∀ cs V V1 n,G.CL 13 V->P13 cs V->Ln V1->LE cs (zD V) n false true V1->G.CO 13 1 V V1):yT Tryd.prog G 13 dC:=by
 intro w0 V args w hH hF hcl;obtain⟨hp,oc⟩:=hCL V hcl;refine ((apS (G:={ G with CL:=fun _ b=>b=V,CO:=fun _ i b b1=>match i with|0=>G.CO 13 0 b b1|1=>G.CO 13 1 b b1|_=>False }) (fun b h=>by subst h;exact hp) (fun cs b b1 hb p a c d=>by subst hb;exact h0 cs b b1 hcl p a d) (fun cs b b1 n hb p a c d=>by subst hb;exact h1 cs b b1 n hcl p a d) (fun cs b b1 n hb p a c d=>by subst hb;exact aP0 (oc.2 rfl) p.tx d)) w0 V args w hH hF rfl).mono ?_;rintro e w' ⟨i,v,tp,sm,V2,u,g1,g2,g3,g4,g5,g6⟩;match i,g1,g5 with
 |0,g1,g5=>cases g1;exact⟨0,_,_,_,V2,u,rfl,g2,g3,g4,g5,g6⟩
 |1,g1,g5=>cases g1;exact⟨1,_,_,_,V2,u,rfl,g2,g3,g4,g5,g6⟩
 |2,g1,g5=>exact g5.elim
def awV:CSpec:={ j:=4,n:=2,tin:=t4a,outs:=[(sB (x 29),t4o,[])] }
theorem anK{o:Bool}{V:Ren}:∀ f s,ct4 o f=some s->yT Tryd.prog (GS4 o V) f s:=by
 intro f s hs;unfold ct4 at hs;split at hs
 .rename_i hf;subst hf;cases hs;exact ayZ (fun _ h=>h) (fun _ _ _ a _ b=>⟨a,b⟩) (fun _ _ _ a _ b=>⟨a,b⟩)
 split at hs
 .rename_i hf;subst hf;cases hs;cases o with
  |true=>exact aQF (fun _ h=>h) (fun cs _ _ _ p a d=>⟨a,cs,p,d⟩) (fun cs _ _ n _ p a d=>⟨a,cs,n,p,d⟩)
  |false=>exact aN9 (fun _ h=>h) (fun cs _ _ _ p a d=>⟨a,cs,p,d⟩) (fun cs _ _ n _ p a d=>⟨a,cs,n,p,d⟩)
 split at hs
 .rename_i hf;subst hf;cases hs;exact aXD (fun _ h=>h) (fun _ _ _ a _ b=>⟨a,b⟩) (fun _ _ _ a _ b c=>⟨a,b,c⟩)
 .cases hs
theorem aPS{o:Bool}{V:Ren}{w0:W0}{E:Env}(hE:E.P=Tryd.prog)(hn:E.n=ntmps 4):∀(r:Nat)(s:LSpec)(c:Code),lt4 o r=some s->(GS4 o V).W s.j c->tW E w0 (GS4 o V) s c:=by
 intro r s c hs hw;unfold lt4 at hs;split at hs
 .cases hs;have hc:c=aeZ:=hw;subst hc;intro Q b a w hH hF hl hQ;obtain⟨cs,n,pq,lq⟩:=hl;rw[hn]at hF;rw[hE];refine xU (aiX pq.hf ?_ _ 0 false b a w (Nat.le_refl _) lq hH hF);intro w' V1 a' wd' x q1 q2;have hn1:=x.ln;cases o with
  |false =>
   cases w' with
   |false=>exact hQ 0 (.exit 0) (t4X false false) [] rfl V1 a' wd' q1 (by rw[hn];exact q2) ⟨hn1,cs,n,pq,x⟩
   |true=>exact ((zP x.wn).2 (pq.hf rfl)).elim
  |true =>
   cases w' with
   |false=>exact hQ 0 (.exit 0) (t4X true false) [] rfl V1 a' wd' q1 (by rw[hn];exact q2) ⟨hn1,cs,n,pq,x⟩
   |true=>exact hQ 1 (.exit 0) (t4X true true) [] rfl V1 a' wd' q1 (by rw[hn];exact q2) ⟨hn1,cs,n,pq,x⟩
 .cases hs
theorem aCK{o:Bool}{G:Goal}(hCL:∀ V,G.CL 4 V->P4 V/\(atS o).Holds (GS4 o V) V)(hCO:∀ V V1,G.CL 4 V->gB V1 29=true->G.CO 4 0 V V1):yT Tryd.prog G 4 awV:=by
 refine zU (E:=E4 o) (Gt:=GS4 o) (fn:=wK 4) (c:=body 4) (s:=awV) zQ vG follows (by cases o<;>kernel_rfl) (by cases o<;>kernel_rfl) (by cases o<;>kernel_rfl) (by cases o<;>kernel_rfl) (by cases o<;>kernel_rfl) (by cases o<;>kernel_rfl) ?_ ?_ ?_ ?_ (fun V j i V1 V2 h=>h.1.2) ?_ (fun V=>anK)
 .intro e j tp h;have h:=h.resolve_right fun h=>by cases h
  cases e with
  |normal=>cases h;exact⟨(fun id h=>by cases h),sB (x 29),by kernel_rfl,_,rfl⟩
  |ret=>cases h;exact⟨(fun id h=>by cases h),sB (x 29),by kernel_rfl,_,rfl⟩
  |exit id=>cases h
 .intro V hcl hlen hr;have p:=hCL V hcl;exact⟨p.1.n.2,[],4000,Facts.nil _,p.2⟩
 .intro V j v tp sm V1 hcl hout hlen _ hJ;match j,hout with
  |0,hout =>
   cases hout;exact⟨hCO V V1 hcl hJ,fun x hx=>by cases hx⟩
 .intro V w0 r s c hs hw;rcases hs with hs|hs
  .exact aPS rfl rfl r s c hs hw
  .cases hs
 .intro V r s hs i e tp B hi V1 V2 _;refine yO ?_;rcases hs with hs|hs
  .have hs:lt4 o r=some s:=hs;unfold lt4 at hs;split at hs
   .cases hs;cases o with
    |false =>
     match i,hi with
     |0,hi=>cases hi;rfl
    |true =>
     match i,hi with
     |0,hi=>cases hi;rfl
     |1,hi=>cases hi;rfl
   .cases hs
  .cases hs
theorem aW3{G:Goal}(hCL:∀ V,G.CL 4 V->P4 V)(hCO:∀ V V1,G.CL 4 V->gB V1 29=true->G.CO 4 0 V V1):yT Tryd.prog G 4 awV:=by
 intro w0 V args w hH hF hcl;have p:=hCL V hcl;by_cases h:OT (T0 V) (zD V)
 .exact (aCK (o:=true) (G:={ G with CL:=fun _ b=>b=V,CO:=fun j i b b1=>G.CO j i b b1 }) (fun b hb=>by subst hb;exact⟨p,by rw[ab8];exact aqK p h⟩) (fun b b1 hb=>by subst hb;exact hCO b b1 hcl)) w0 V args w hH hF rfl
 .exact (aCK (o:=false) (G:={ G with CL:=fun _ b=>b=V,CO:=fun j i b b1=>G.CO j i b b1 }) (fun b hb=>by subst hb;exact⟨p,by rw[adO];exact atY p h⟩) (fun b b1 hb=>by subst hb;exact hCO b b1 hcl)) w0 V args w hH hF rfl
end U
open Go Go.SM Go.Proofs Go.RowKit
namespace U
def EofOk(w:World):Prop:=∃ be oe C fr e,C[0]?=some (.iface 89 (.pointer (some ⟨be,oe,none⟩)))/\w.heap[0]?=some (.cells C e fr)
def hmF(b off top n cap c0 be oe:Nat)(bs:List UInt8):Nat->Hm:=fun i =>
 if i=16 then { b:=b,s:=off,top:=top } else if i=17 then { b:=0,s:=0,top:=0,v:=.string ⟨bs.toArray⟩ } else if i=18 then { b:=0,s:=0,top:=0,v:=.int .i64 n }
 else if i=72 then { b:=0,s:=0,top:=0,v:=.int .i64 cap } else if i=73 then { b:=0,s:=0,top:=c0 } else if i=74 then { b:=be,s:=oe,top:=0 } else { b:=0,s:=0,top:=0 }
def yG(f:Nat->Hm):Ren:=(List.range 90).map f
theorem yF(f:Nat->Hm){i:Nat}(h:i<90):(yG f)[i]?=some (f i):=by
 unfold yG;rw[List.getElem?_map,List.getElem?_range h];rfl
theorem wE(f:Nat->Hm):(yG f).length=90:=by simp[yG]
end U
open Go Go.SM Go.Proofs Go.RowKit
namespace U
abbrev agT:SgT:=[bm 0,bm 73]
def bP:Tre:=(.fork (lf 0 90 92 (rgs axC.n an8) (bm 74::(2,.new 90)::(1,.new 91)::agT) [])
 (lf 0 90 92 (rgs axC.n an8) (bm 74::(2,.new 91)::(1,.new 90)::agT) []))
theorem aeC:akG=bP:=by kernel_rfl
def L8:Tre:=(.call 40 90 90 (rgs aa0.n aa0.tin) (SgT.enc (bm 74::agT)) (List.map TB.enc []) (.cons (rgs 0 an8++rgV (.bool true)) (lf 0 90 180 (rgs aNK.n aw3) (bm 74::bj 2 92::bj 1 91::agT) [])
 .nil))
theorem ab6:anM=L8:=by kernel_rfl
abbrev aFZ:SgT:=[bj 0 90,bm 73]
def L6:Tre:=(.call 28 90 91 (rgs aaV.n aaV.tin) (SgT.enc (bm 74::aFZ)) (List.map TB.enc []) (.cons (rgs 0 aw3++rgV (.tuple #[])) (lf 0 90 181 (rgs aNQ.n U7) (bm 74::bj 2 93::bj 1 92::aFZ) [])
 .nil))
theorem adE:amN=L6:=by kernel_rfl
def mM(V γ:Ren):Prop:=γ[0]?=V[0]?/\γ[73]?=V[73]?/\γ[74]?=V[74]?
def GZc(J:Ren->Ren->Prop)(K:Ren->Ren->Prop)(V:Ren):Goal where
 J:=fun _ γ=>Ln γ/\J V γ
 L:=fun _ _=>False
 O:=fun _ _ _ _=>False
 W:=fun _ _=>False
 CL:=fun _ γ=>Ln γ
 CO:=fun _ _ γ J1=>Ln J1/\K γ J1
def Sm2(V γ:Ren):Prop:=γ[73]?=V[73]?/\γ[74]?=V[74]?
theorem aZA:lF Tryd.prog puG okZ:=rC (by kernel_rfl)
theorem agO:xH Tryd.prog { g:=g0,A:=[],pu:=puG } as2:=wY zQ follows aZA (tJ _ _) 30
theorem an7{V:Ren}(hn:Ln V):bP.Holds (GZc mM (fun _ _=>True) V) V:=by
 unfold bP;have hβ:=hn.1;refine (fO (lG [] hβ ?_) (lG [] hβ ?_))
 .intro δ0 J0 hl0 hA hr0 hid0 hI;simp +decide only[DD,aL hβ]at hI;obtain⟨i74,i0,i73⟩:=hI;exact⟨hn.of i73 hl0,i0,i73,i74⟩
 .intro δ0 J0 hl0 hA hr0 hid0 hI;simp +decide only[DD,aL hβ]at hI;obtain⟨i74,i0,i73⟩:=hI;exact⟨hn.of i73 hl0,i0,i73,i74⟩
theorem akF{V:Ren}(hn:Ln V):L8.Holds (GZc mM mM V) V:=by
 unfold L8;have hβ:=hn.1;refine (cO [] hβ ?_)
 .intro J0 hl0 hA hr0 hid0 hI;simp only[DD]at hI;obtain⟨_,_,i73⟩:=hI;have hL0:(GZc mM mM V).CL 40 J0:=hn.of i73 hl0;refine⟨hL0,(aC ?_ aN)⟩
  .intro V1 hq1 hO1;obtain⟨hn1,z⟩:=hO1;have hb1:=zE hβ hn1.1;simp only[Nat.reduceAdd]at hb1;refine (lO [] hb1 ?_)
   .intro J1 hl1 hA hr1 hid1 hI;simp +decide only[DD,aA hβ]at hI;obtain⟨j74,_,_,j0,j73⟩:=hI;exact⟨hn.of j73 hl1,j0,j73,j74⟩
theorem anV{V:Ren}(hn:Ln V):L6.Holds (GZc Sm2 mM V) V:=by
 unfold L6;have hβ:=hn.1;refine (cG [] hβ ?_)
 .intro δ0 hδ0 J0 hl0 hA hr0 hid0 hI;simp +decide only[DD,aL hβ]at hI;obtain⟨_,_,i73⟩:=hI;have hL0:(GZc Sm2 mM V).CL 28 J0:=hn.of i73 hl0;refine⟨hL0,(aC ?_ aN)⟩
  .intro V1 hq1 hO1;obtain⟨hn1,z⟩:=hO1;have hb1:=zE hδ0 hn1.1;simp only[Nat.reduceAdd]at hb1;refine (lO [] hb1 ?_)
   .intro J1 hl1 hA hr1 hid1 hI;simp +decide only[DD,aL hβ,aA hδ0]at hI;obtain⟨j74,_,_,_,j73⟩:=hI;exact⟨hn.of j73 hl1,j73,j74⟩
theorem auS{G:Goal}(hCL:∀ V,G.CL 40 V->Ln V)(hCO:∀ V V1,G.CL 40 V->Ln V1->mM V V1->G.CO 40 0 V V1):yT Tryd.prog G 40 aa0:=by
 refine zU (E:=axC) (Gt:=GZc mM (fun _ _=>True)) (fn:=wK 40) (c:=body 40) (s:=aa0) zQ zS follows (by kernel_rfl) (by kernel_rfl) (by kernel_rfl) (by kernel_rfl) (by kernel_rfl) (by kernel_rfl) ?_ ?_ ?_ (fun V w0 r s c h=>by rcases h with h|h<;>cases h) (fun V j i V1 V2 h=>h.elim) (fun V r s h=>by rcases h with h|h<;>cases h) (fun V=>t8)
 .intro e j tp h;have h:=h.resolve_right fun h=>by cases h
  cases e with
  |normal=>cases h;exact⟨(fun id h=>by cases h),.bool true,by kernel_rfl,_,rfl⟩
  |ret=>cases h;exact⟨(fun id h=>by cases h),.bool true,by kernel_rfl,_,rfl⟩
  |exit id=>cases h
 .intro V hcl hlen hr;have p:=hCL V hcl;refine⟨p.2,[],2000,Facts.nil _,?_⟩;show (akG).Holds _ V;rw[aeC];exact an7 p
 .intro V j v tp sm V1 hcl hout hlen _ hJ;match j,hout with
  |0,hout =>
   cases hout;refine⟨hCO V V1 hcl hJ.1 hJ.2,fun x hx=>?_⟩;have hx:x∈[(0,0),(73,0),(74,0)]:=hx;obtain⟨q0,q1,q2⟩:=hJ.2;simp only[List.mem_cons,List.not_mem_nil,or_false]at hx;rcases hx with rfl|rfl|rfl
   .exact q0
   .exact q1
   .exact q2
theorem av8{G:Goal}(hCL:∀ V,G.CL 28 V->Ln V)(hCO:∀ V V1,G.CL 28 V->Ln V1->mM V V1->G.CO 28 0 V V1):yT Tryd.prog G 28 aaV:=by
 refine zU (E:=aNK) (Gt:=GZc mM mM) (fn:=wK 28) (c:=body 28) (s:=aaV) zQ zS follows (by kernel_rfl) (by kernel_rfl) (by kernel_rfl) (by kernel_rfl) (by kernel_rfl) (by kernel_rfl) ?_ ?_ ?_ (fun V w0 r s c h=>by rcases h with h|h<;>cases h) (fun V j i V1 V2 h=>h.elim) (fun V r s h=>by rcases h with h|h<;>cases h) (fun V=>wX (auS (fun _ h=>h) (fun _ _ _ a b=>⟨a,b⟩)))
 .intro e j tp h;have h:=h.resolve_right fun h=>by cases h
  cases e with
  |normal=>cases h;exact⟨(fun id h=>by cases h),.tuple #[],by kernel_rfl,_,rfl⟩
  |ret=>cases h;exact⟨(fun id h=>by cases h),.tuple #[],by kernel_rfl,_,rfl⟩
  |exit id=>cases h
 .intro V hcl hlen hr;have p:=hCL V hcl;refine⟨p.2,[],2000,Facts.nil _,?_⟩;show (anM).Holds _ V;rw[ab6];exact akF p
 .intro V j v tp sm V1 hcl hout hlen _ hJ;match j,hout with
  |0,hout =>
   cases hout;refine⟨hCO V V1 hcl hJ.1 hJ.2,fun x hx=>?_⟩;have hx:x∈[(0,0),(73,0),(74,0)]:=hx;obtain⟨q0,q1,q2⟩:=hJ.2;simp only[List.mem_cons,List.not_mem_nil,or_false]at hx;rcases hx with rfl|rfl|rfl
   .exact q0
   .exact q1
   .exact q2
theorem afK{G:Goal}(hCL:∀ V,G.CL 14 V->Ln V)(hCO:∀ V V1,G.CL 14 V->Ln V1->Sm2 V V1->G.CO 14 0 V V1):yT Tryd.prog G 14 lE:=by
 refine zU (E:=aNQ) (Gt:=GZc Sm2 mM) (fn:=wK 14) (c:=body 14) (s:=lE) zQ zS follows (by kernel_rfl) (by kernel_rfl) (by kernel_rfl) (by kernel_rfl) (by kernel_rfl) (by kernel_rfl) ?_ ?_ ?_ (fun V w0 r s c h=>by rcases h with h|h<;>cases h) (fun V j i V1 V2 h=>h.elim) (fun V r s h=>by rcases h with h|h<;>cases h) (fun V=>wX (av8 (fun _ h=>h) (fun _ _ _ a b=>⟨a,b⟩)))
 .intro e j tp h;have h:=h.resolve_right fun h=>by cases h
  cases e with
  |normal=>cases h;exact⟨(fun id h=>by cases h),pt 0,by kernel_rfl,_,rfl⟩
  |ret=>cases h;exact⟨(fun id h=>by cases h),pt 0,by kernel_rfl,_,rfl⟩
  |exit id=>cases h
 .intro V hcl hlen hr;have p:=hCL V hcl;refine⟨p.2,[],2000,Facts.nil _,?_⟩;show (amN).Holds _ V;rw[adE];exact anV p
 .intro V j v tp sm V1 hcl hout hlen _ hJ;match j,hout with
  |0,hout =>
   cases hout;refine⟨hCO V V1 hcl hJ.1 hJ.2,fun x hx=>?_⟩;have hx:x∈[(73,0),(74,0)]:=hx;obtain⟨q1,q2⟩:=hJ.2;simp only[List.mem_cons,List.not_mem_nil,or_false]at hx;rcases hx with rfl|rfl
   .exact q1
   .exact q2
structure PS(V:Ren):Prop where
 n:Ln V
 i86:0<=gI V 86
 n85:gI V 86<=(gN V 85).length
def GKn(J:Ren->Ren->Prop)(C:Nat->Ren->Prop)(V:Ren):Goal where
 J:=fun _ γ=>Ln γ/\J V γ
 L:=fun _ _=>False
 O:=fun _ _ _ _=>False
 W:=fun _ _=>False
 CL:=fun j γ=>C j γ
 CO:=fun _ _ _ J1=>Ln J1
def C12(j:Nat)(γ:Ren):Prop:=if j=12 then PK γ else Ln γ
structure PK0(V:Ren):Prop where
 n:Ln V
 i18:0<=gI V 18
 i72:gI V 18<=gI V 72
 l17:gI V 18<=(gL V 17).length
theorem aiH{V:Ren}(p:Ln V):jP.Holds (GKn (fun _ _=>True) (fun _ γ=>Ln γ) V) V:=by
 unfold jP;have hβ:=p.1;refine (cG [] hβ ?_)
 .intro δ0 hδ0 J0 hl0 hA hr0 hid0 hI;simp +decide only[DD,aL hβ]at hI;obtain⟨_,_,_,_,_,i73⟩:=hI;have hL0:(GKn (fun _ _=>True) (fun _ γ=>Ln γ) V).CL 14 J0:=p.of i73 hl0;refine⟨hL0,(aC ?_ aN)⟩
  .intro V1 hq1 hO1;have hn1:Ln V1:=hO1;have hb1:=zE hδ0 hn1.1;simp only[Nat.reduceAdd]at hb1;refine (lO [] hb1 ?_)
   .intro J1 hl1 hA hr1 hid1 hI;simp +decide only[DD,aL hβ,aA hδ0]at hI;obtain⟨_,j73⟩:=hI;exact⟨p.of j73 hl1,trivial⟩
theorem aqV{V:Ren}(p:(PK0 V)):cK.Holds (GKn (fun _ γ=>gB γ 29=true) C12 V) V:=by
 unfold cK;have hβ:=p.n.1;refine (fO (lO [] hβ ?_) (cO [] hβ ?_))
 .intro J0 hl0 hA hr0 hid0 hI;simp only[DD]at hA hI;obtain⟨_,i29,i73⟩:=hI;exact⟨p.n.of i73 hl0,i29.2 trivial⟩
 .intro J0 hl0 hA hr0 hid0 hI;simp only[DD]at hA hI;obtain⟨_,i17,i72,i18,_,i73⟩:=hI;have hL0:(GKn (fun _ γ=>gB γ 29=true) C12 V).CL 12 J0:=(show C12 12 J0 from ⟨p.n.of i73 hl0,by have:=p.i18;omega,by rw[i18,i72];exact p.i72,by rw[i18,i17];exact p.l17⟩)
  refine⟨hL0,(aC ?_ (aC ?_ aN))⟩
  .intro V1 hq1 hO1;have hn1:Ln V1:=hO1;have hb1:=zE hβ hn1.1;simp only[Nat.reduceAdd]at hb1;refine (fO (lO [] hb1 ?_) (cO [] hb1 ?_))
   .intro J1 hl1 hA hr1 hid1 hI;simp +decide only[DD,aA hβ]at hA hI;obtain⟨_,j29,j73⟩:=hI;exact⟨p.n.of j73 hl1,j29.2 trivial⟩
   .intro J1 hl1 hA hr1 hid1 hI;simp +decide only[DD,aA hβ]at hA hI;obtain⟨_,_,_,_,_,j73⟩:=hI;have hL1:(GKn (fun _ γ=>gB γ 29=true) C12 V).CL 13 J1:=(show C12 13 J1 from p.n.of j73 hl1)
    refine⟨hL1,(aC ?_ aN)⟩
    .intro V2 hq2 hO2;have hn2:Ln V2:=hO2;have hb2:=zE hb1 hn2.1;simp only[Nat.reduceAdd]at hb2;refine (lG [] hb2 ?_)
     .intro δ2 J2 hl2 hA hr2 hid2 hI;simp +decide only[DD,aA hβ,aA hb1,aL hb2]at hA hI;obtain⟨_,k29,k73⟩:=hI;exact⟨p.n.of k73 hl2,k29.2 trivial⟩
  .intro V1 hq1 hO1;have hn1:Ln V1:=hO1;have hb1:=zE hβ hn1.1;simp only[Nat.reduceAdd]at hb1;refine (fO (lO [] hb1 ?_) (cO [] hb1 ?_))
   .intro J1 hl1 hA hr1 hid1 hI;simp +decide only[DD,aA hβ]at hA hI;obtain⟨_,j29,j73⟩:=hI;exact⟨p.n.of j73 hl1,j29.2 trivial⟩
   .intro J1 hl1 hA hr1 hid1 hI;simp +decide only[DD,aA hβ]at hA hI;obtain⟨_,_,_,_,_,j73⟩:=hI;have hL1:(GKn (fun _ γ=>gB γ 29=true) C12 V).CL 13 J1:=(show C12 13 J1 from p.n.of j73 hl1)
    refine⟨hL1,(aC ?_ aN)⟩
    .intro V2 hq2 hO2;have hn2:Ln V2:=hO2;have hb2:=zE hb1 hn2.1;simp only[Nat.reduceAdd]at hb2;refine (lG [] hb2 ?_)
     .intro δ2 J2 hl2 hA hr2 hid2 hI;simp +decide only[DD,aA hβ,aA hb1,aL hb2]at hA hI;obtain⟨_,k29,k73⟩:=hI;exact⟨p.n.of k73 hl2,k29.2 trivial⟩
theorem aiY{V:Ren}(p:PS V):fR.Holds (GKn (fun _ _=>True) (fun _ γ=>Ln γ) V) V:=by
 unfold fR;have hβ:=p.n.1;have p86:=p.i86;have p85:=p.n85;refine (cG [] hβ ?_)
 .intro δ0 hδ0 J0 hl0 hA hr0 hid0 hI;simp +decide only[DD,aL hβ]at hI;obtain⟨_,i73⟩:=hI;have hL0:(GKn (fun _ _=>True) (fun _ γ=>Ln γ) V).CL 14 J0:=p.n.of i73 hl0;refine⟨hL0,(aC ?_ aN)⟩
  .intro V1 hq1 hO1;have hn1:Ln V1:=hO1;have hb1:=zE hδ0 hn1.1;simp only[Nat.reduceAdd]at hb1;refine (fO (nO hb1 ?_ (lO [] hb1 ?_)) (lO [] hb1 ?_))
   .intro hA;simp +decide only[DD,aL hβ,aA hδ0]at hA ⊢;omega
   .intro J1 hl1 hA hr1 hid1 hI;simp +decide only[DD,aL hβ,aA hδ0]at hA hI;obtain⟨_,j73⟩:=hI;exact⟨p.n.of j73 hl1,trivial⟩
   .intro J1 hl1 hA hr1 hid1 hI;simp +decide only[DD,aL hβ,aA hδ0]at hA hI;obtain⟨_,j73⟩:=hI;exact⟨p.n.of j73 hl1,trivial⟩
theorem akL{V:Ren}(p:PS V):cV.Holds (GKn (fun _ γ=>gB γ 29=true) (fun _ γ=>PS γ) V) V:=by
 unfold cV;have hβ:=p.n.1;have p86:=p.i86;have p85:=p.n85;refine (fO (lO [] hβ ?_) (fO (lO [] hβ ?_) (cO [] hβ ?_)))
 .intro J0 hl0 hA hr0 hid0 hI;simp only[DD]at hA hI;obtain⟨_,i29,i73⟩:=hI;exact⟨p.n.of i73 hl0,i29.2 trivial⟩
 .intro J0 hl0 hA hr0 hid0 hI;simp only[DD]at hA hI;obtain⟨_,i29,i73⟩:=hI;exact⟨p.n.of i73 hl0,i29.2 trivial⟩
 .intro J0 hl0 hA hr0 hid0 hI;simp only[DD]at hA hI;obtain⟨_,i85,_,i86,_,i73⟩:=hI;have hL0:(GKn (fun _ γ=>gB γ 29=true) (fun _ γ=>PS γ) V).CL 13 J0:=⟨p.n.of i73 hl0,by rw[i86];exact p.i86,by rw[i86,i85];exact p.n85⟩
  refine⟨hL0,(aC ?_ aN)⟩
  .intro V1 hq1 hO1;have hn1:Ln V1:=hO1;have hb1:=zE hβ hn1.1;simp only[Nat.reduceAdd]at hb1;refine (lG [] hb1 ?_)
   .intro δ1 J1 hl1 hA hr1 hid1 hI;simp +decide only[DD,aA hβ,aL hb1]at hA hI;obtain⟨_,j29,j73⟩:=hI;exact⟨p.n.of j73 hl1,j29.2 trivial⟩
theorem ahS{V:Ren}(p:Ln V):gX.Holds (GKn (fun _ _=>True) (fun _ γ=>Ln γ) V) V:=by
 unfold gX;have hβ:=p.1;refine (cG [] hβ ?_)
 .intro δ0 hδ0 J0 hl0 hA hr0 hid0 hI;simp +decide only[DD,aL hβ]at hI;obtain⟨_,i73⟩:=hI;have hL0:(GKn (fun _ _=>True) (fun _ γ=>Ln γ) V).CL 14 J0:=p.of i73 hl0;refine⟨hL0,(aC ?_ aN)⟩
  .intro V1 hq1 hO1;have hn1:Ln V1:=hO1;have hb1:=zE hδ0 hn1.1;simp only[Nat.reduceAdd]at hb1;refine (lO [] hb1 ?_)
   .intro J1 hl1 hA hr1 hid1 hI;simp +decide only[DD,aL hβ,aA hδ0]at hI;obtain⟨_,j73⟩:=hI;exact⟨p.of j73 hl1,trivial⟩
theorem ao8{V:Ren}(p:Ln V):bG.Holds (GKn (fun _ γ=>gB γ 29=true) (fun _ γ=>Ln γ) V) V:=by
 unfold bG;have hβ:=p.1;refine (cO [] hβ ?_)
 .intro J0 hl0 hA hr0 hid0 hI;simp only[DD]at hI;obtain⟨_,i73⟩:=hI;have hL0:(GKn (fun _ γ=>gB γ 29=true) (fun _ γ=>Ln γ) V).CL 13 J0:=p.of i73 hl0;refine⟨hL0,(aC ?_ aN)⟩
  .intro V1 hq1 hO1;have hn1:Ln V1:=hO1;have hb1:=zE hβ hn1.1;simp only[Nat.reduceAdd]at hb1;refine (lG [] hb1 ?_)
   .intro δ1 J1 hl1 hA hr1 hid1 hI;simp +decide only[DD,aA hβ,aL hb1]at hI;obtain⟨_,j29,j73⟩:=hI;exact⟨p.of j73 hl1,j29.2 trivial⟩
theorem aVU:lF Tryd.prog puG aTK:=rC (by kernel_rfl)
theorem X9:xH Tryd.prog { g:=g0,A:=[],pu:=puG } acZ:=wY zQ follows aVU (tJ _ _) 30
def aP2:CSpec:={ j:=4,n:=2,tin:=t4n,outs:=[(sB (x 29),t4o,[])] }
def aPT:CSpec:={ j:=4,n:=2,tin:=aaL,outs:=[(sB (x 29),t4o,[])] }
def aNU:CSpec:={ j:=4,n:=2,tin:=Y0,outs:=[(sB (x 29),t4o,[])] }
theorem avZ{G:Goal}(hCL:∀ V,G.CL 13 V->Ln V)(hCO:∀ V V1,G.CL 13 V->Ln V1->(fun _ _=>True) V V1->G.CO 13 0 V V1):yT Tryd.prog G 13 iG:=by
 refine zU (E:=aQJ) (Gt:=GKn (fun _ _=>True) (fun _ γ=>Ln γ)) (fn:=wK 13) (c:=body 13) (s:=iG) zQ zS follows (by kernel_rfl) (by kernel_rfl) (by kernel_rfl) (by kernel_rfl) (by kernel_rfl) (by kernel_rfl) ?_ ?_ ?_ (fun V w0 r s c h=>by rcases h with h|h<;>cases h) (fun V j i V1 V2 h=>h.elim) (fun V r s h=>by rcases h with h|h<;>cases h) (fun V=>wX (ak1 (fun _ h=>h) (fun _ _ _ a _=>a)))
 .intro e j tp h;have h:=h.resolve_right fun h=>by cases h
  cases e with
  |normal=>cases h;exact⟨(fun id h=>by cases h),mG,by kernel_rfl,_,rfl⟩
  |ret=>cases h;exact⟨(fun id h=>by cases h),mG,by kernel_rfl,_,rfl⟩
  |exit id=>cases h
 .intro V hcl hlen hr;have p:=hCL V hcl;refine⟨p.2,[],2000,Facts.nil _,?_⟩;show (akT).Holds _ V;rw[P9];exact aiH p
 .intro V j v tp sm V1 hcl hout hlen _ hJ;match j,hout with
  |0,hout =>
   cases hout;exact⟨hCO V V1 hcl hJ.1 hJ.2,fun x hx=>by cases hx⟩
theorem aiP{V:Ren}:∀ f s,aP8 f=some s->yT Tryd.prog (GKn (fun _ γ=>gB γ 29=true) C12 V) f s:=by
 intro f s hs;unfold aP8 at hs;split at hs
 .rename_i hf;subst hf;cases hs;exact ayZ (fun _ h=>(show C12 12 _ from h)) (fun _ _ _ a _ _=>a) (fun _ _ _ a _ _=>a)
 split at hs
 .rename_i hf;subst hf;cases hs;exact avZ (fun _ h=>(show C12 13 _ from h)) (fun _ _ _ a _=>a)
 .cases hs
theorem aPA{G:Goal}(hCL:∀ V,G.CL 4 V->PK0 V)(hCO:∀ V V1,G.CL 4 V->Ln V1->(fun _ γ=>gB γ 29=true) V V1->G.CO 4 0 V V1):yT Tryd.prog G 4 aP2:=by
 refine zU (E:=E4n) (Gt:=GKn (fun _ γ=>gB γ 29=true) C12) (fn:=wK 4) (c:=body 4) (s:=aP2) zQ vG follows (by kernel_rfl) (by kernel_rfl) (by kernel_rfl) (by kernel_rfl) (by kernel_rfl) (by kernel_rfl) ?_ ?_ ?_ (fun V w0 r s c h=>by rcases h with h|h<;>cases h) (fun V j i V1 V2 h=>h.elim) (fun V r s h=>by rcases h with h|h<;>cases h) (fun V=>aiP)
 .intro e j tp h;have h:=h.resolve_right fun h=>by cases h
  cases e with
  |normal=>cases h;exact⟨(fun id h=>by cases h),sB (x 29),by kernel_rfl,_,rfl⟩
  |ret=>cases h;exact⟨(fun id h=>by cases h),sB (x 29),by kernel_rfl,_,rfl⟩
  |exit id=>cases h
 .intro V hcl hlen hr;have p:=hCL V hcl;refine⟨p.n.2,[],4000,Facts.nil _,?_⟩;show (amT).Holds _ V;rw[acE];exact aqV p
 .intro V j v tp sm V1 hcl hout hlen _ hJ;match j,hout with
  |0,hout =>
   cases hout;exact⟨hCO V V1 hcl hJ.1 hJ.2,fun x hx=>by cases hx⟩
theorem axI{G:Goal}(hCL:∀ V,G.CL 13 V->PS V)(hCO:∀ V V1,G.CL 13 V->Ln V1->(fun _ _=>True) V V1->G.CO 13 0 V V1):yT Tryd.prog G 13 S7:=by
 refine zU (E:=awT) (Gt:=GKn (fun _ _=>True) (fun _ γ=>Ln γ)) (fn:=wK 13) (c:=body 13) (s:=S7) zQ agO follows (by kernel_rfl) (by kernel_rfl) (by kernel_rfl) (by kernel_rfl) (by kernel_rfl) (by kernel_rfl) ?_ ?_ ?_ (fun V w0 r s c h=>by rcases h with h|h<;>cases h) (fun V j i V1 V2 h=>h.elim) (fun V r s h=>by rcases h with h|h<;>cases h) (fun V=>wX (afK (fun _ h=>h) (fun _ _ _ a _=>a)))
 .intro e j tp h;have h:=h.resolve_right fun h=>by cases h
  cases e with
  |normal=>cases h;exact⟨(fun id h=>by cases h),mG,by kernel_rfl,_,rfl⟩
  |ret=>cases h;exact⟨(fun id h=>by cases h),mG,by kernel_rfl,_,rfl⟩
  |exit id=>cases h
 .intro V hcl hlen hr;have p:=hCL V hcl;refine⟨p.n.2,[],4000,Facts.nil _,?_⟩;show (atE).Holds _ V;rw[aaW];exact aiY p
 .intro V j v tp sm V1 hcl hout hlen _ hJ;match j,hout with
  |0,hout =>
   cases hout;exact⟨hCO V V1 hcl hJ.1 hJ.2,fun x hx=>by cases hx⟩
theorem aNY{G:Goal}(hCL:∀ V,G.CL 4 V->PS V)(hCO:∀ V V1,G.CL 4 V->Ln V1->(fun _ γ=>gB γ 29=true) V V1->G.CO 4 0 V V1):yT Tryd.prog G 4 aPT:=by
 refine zU (E:=E4z) (Gt:=GKn (fun _ γ=>gB γ 29=true) (fun _ γ=>PS γ)) (fn:=wK 4) (c:=body 4) (s:=aPT) zQ X9 follows (by kernel_rfl) (by kernel_rfl) (by kernel_rfl) (by kernel_rfl) (by kernel_rfl) (by kernel_rfl) ?_ ?_ ?_ (fun V w0 r s c h=>by rcases h with h|h<;>cases h) (fun V j i V1 V2 h=>h.elim) (fun V r s h=>by rcases h with h|h<;>cases h) (fun V=>wX (axI (fun _ h=>h) (fun _ _ _ a _=>a)))
 .intro e j tp h;have h:=h.resolve_right fun h=>by cases h
  cases e with
  |normal=>cases h;exact⟨(fun id h=>by cases h),sB (x 29),by kernel_rfl,_,rfl⟩
  |ret=>cases h;exact⟨(fun id h=>by cases h),sB (x 29),by kernel_rfl,_,rfl⟩
  |exit id=>cases h
 .intro V hcl hlen hr;have p:=hCL V hcl;refine⟨p.n.2,[],4000,Facts.nil _,?_⟩;show (arE).Holds _ V;rw[abT];exact akL p
 .intro V j v tp sm V1 hcl hout hlen _ hJ;match j,hout with
  |0,hout =>
   cases hout;exact⟨hCO V V1 hcl hJ.1 hJ.2,fun x hx=>by cases hx⟩
theorem awD{G:Goal}(hCL:∀ V,G.CL 13 V->Ln V)(hCO:∀ V V1,G.CL 13 V->Ln V1->(fun _ _=>True) V V1->G.CO 13 0 V V1):yT Tryd.prog G 13 Q5:=by
 refine zU (E:=aPC) (Gt:=GKn (fun _ _=>True) (fun _ γ=>Ln γ)) (fn:=wK 13) (c:=body 13) (s:=Q5) zQ agO follows (by kernel_rfl) (by kernel_rfl) (by kernel_rfl) (by kernel_rfl) (by kernel_rfl) (by kernel_rfl) ?_ ?_ ?_ (fun V w0 r s c h=>by rcases h with h|h<;>cases h) (fun V j i V1 V2 h=>h.elim) (fun V r s h=>by rcases h with h|h<;>cases h) (fun V=>wX (afK (fun _ h=>h) (fun _ _ _ a _=>a)))
 .intro e j tp h;have h:=h.resolve_right fun h=>by cases h
  cases e with
  |normal=>cases h;exact⟨(fun id h=>by cases h),mG,by kernel_rfl,_,rfl⟩
  |ret=>cases h;exact⟨(fun id h=>by cases h),mG,by kernel_rfl,_,rfl⟩
  |exit id=>cases h
 .intro V hcl hlen hr;have p:=hCL V hcl;refine⟨p.2,[],4000,Facts.nil _,?_⟩;show (aoT).Holds _ V;rw[Q8];exact ahS p
 .intro V j v tp sm V1 hcl hout hlen _ hJ;match j,hout with
  |0,hout =>
   cases hout;exact⟨hCO V V1 hcl hJ.1 hJ.2,fun x hx=>by cases hx⟩
theorem aPI{G:Goal}(hCL:∀ V,G.CL 4 V->Ln V)(hCO:∀ V V1,G.CL 4 V->Ln V1->(fun _ γ=>gB γ 29=true) V V1->G.CO 4 0 V V1):yT Tryd.prog G 4 aNU:=by
 refine zU (E:=E4w) (Gt:=GKn (fun _ γ=>gB γ 29=true) (fun _ γ=>Ln γ)) (fn:=wK 4) (c:=body 4) (s:=aNU) zQ X9 follows (by kernel_rfl) (by kernel_rfl) (by kernel_rfl) (by kernel_rfl) (by kernel_rfl) (by kernel_rfl) ?_ ?_ ?_ (fun V w0 r s c h=>by rcases h with h|h<;>cases h) (fun V j i V1 V2 h=>h.elim) (fun V r s h=>by rcases h with h|h<;>cases h) (fun V=>wX (awD (fun _ h=>h) (fun _ _ _ a _=>a)))
 .intro e j tp h;have h:=h.resolve_right fun h=>by cases h
  cases e with
  |normal=>cases h;exact⟨(fun id h=>by cases h),sB (x 29),by kernel_rfl,_,rfl⟩
  |ret=>cases h;exact⟨(fun id h=>by cases h),sB (x 29),by kernel_rfl,_,rfl⟩
  |exit id=>cases h
 .intro V hcl hlen hr;have p:=hCL V hcl;refine⟨p.2,[],4000,Facts.nil _,?_⟩;show (apB).Holds _ V;rw[aeY];exact ao8 p
 .intro V j v tp sm V1 hcl hout hlen _ hJ;match j,hout with
  |0,hout =>
   cases hout;exact⟨hCO V V1 hcl hJ.1 hJ.2,fun x hx=>by cases hx⟩
end U
