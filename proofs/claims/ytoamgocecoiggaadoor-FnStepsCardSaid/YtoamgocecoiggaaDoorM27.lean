-- the statement of this claim: see YtoamgocecoiggaaDoorRs
import Derived.Test.YtoamgocecoiggaaDoorM26
set_option linter.unusedVariables false
set_option linter.unusedSimpArgs false
set_option maxRecDepth 100000
noncomputable section
open Go Go.SM Go.Proofs
namespace U
abbrev aO5:List TB:=[(.lt (v 23) (v 21))]
abbrev aNL:=.lt (v 20+v 23) (lb 17)::aO5
abbrev aN5:=.lt (v 23+1) (v 21)::aNL
abbrev P1:=.lt (v 20+(v 23+1)) (lb 17)::aN5
abbrev aU0:List TB:=[(nl (v 23) (v 21))]
abbrev aPE:SgT:=[im 22,im 21,im 20,bm 16,bm 73]
abbrev au0:SgT:=(85,.btm (.var 85))::aPE
abbrev aSG:SgT:=bm 74::lm 17::(23,.itm (v 23+2))::(32,.itm (ln 91+1))::ik 31 1::(30,.new 92)::au0
def bY:Tre:=(.fork (nd 90 aO5 ((.lt (v 20+v 23) (lb 17)))
 (nd 90 aNL ((.lt (v 23+1) (v 21)))
 (nd 90 aN5 ((.lt (v 20+(v 23+1)) (lb 17)))
 (.fork (nd 93 ((.not (.var 85))::P1) ((nl 1125899906842624 (v 23+2)))
 (lf 0 90 93 (rgs (E7 t7N).n t7S) ((33,.ntm (.app (.one (.op .or (.op .shl (sb 17 (v 20+(v 23+1))) 8) (sb 17 (v 20+v 23)))) (.var 91)))::aSG) ((nl 1125899906842624 (v 23+2))::(.not (.var 85))::P1)))
 (nd 93 ((.var 85)::P1) ((nl 1125899906842624 (v 23+2)))
 (lf 0 90 93 (rgs (E7 t7N).n t7S) ((33,.ntm (.app (.one (.op .or (.op .shl (sb 17 (v 20+v 23)) 8) (sb 17 (v 20+(v 23+1))))) (.var 91)))::aSG) ((nl 1125899906842624 (v 23+2))::(.var 85)::P1)))))))
 (lf 1 90 90 (rgs (E7 t7N).n t7N) (bm 74::lm 17::im 23::au0) aU0))
theorem ac3:ajP t7N []=bY:=by kernel_rfl
abbrev aWC:=nl (ln 33) (v 32)::.not (.var 85)::P1
abbrev aTT:=nl 4398046511104 (.lenN (.sub (.var 33) 0 (v 31))+1)::aWC
abbrev aT3:=nl (ln 33) (v 32)::.var 85::P1
abbrev aUP:=nl 4398046511104 (.lenN (.sub (.var 33) 0 (v 31))+1)::aT3
abbrev aXU:SgT:=bm 74::lm 17::(23,.itm (v 23+2))::(32,.itm (.lenN (.sub (.var 33) 0 (v 31))+1+ln 91))::(31,.itm (.lenN (.sub (.var 33) 0 (v 31))+1))::(30,.new 92)::au0
def E9:Tre:=(.fork (nd 90 aO5 ((.lt (v 20+v 23) (lb 17)))
 (nd 90 aNL ((.lt (v 23+1) (v 21)))
 (nd 90 aN5 ((.lt (v 20+(v 23+1)) (lb 17)))
 (.fork (nd 90 ((.not (.var 85))::P1) ((nl (ln 33) (v 32)))
 (nd 90 aWC ((nl 4398046511104 (.lenN (.sub (.var 33) 0 (v 31))+1)))
 (nd 93 aTT ((nl 1125899906842624 (v 23+2)))
 (lf 0 90 93 (rgs (E7 t7S).n t7S) ((33,.ntm (.app (.app (.sub (.var 33) 0 (v 31)) (.one (.op .or (.op .shl (sb 17 (v 20+(v 23+1))) 8) (sb 17 (v 20+v 23))))) (.var 91)))::aXU) ((nl 1125899906842624 (v 23+2))::aTT)))))
 (nd 90 ((.var 85)::P1) ((nl (ln 33) (v 32)))
 (nd 90 aT3 ((nl 4398046511104 (.lenN (.sub (.var 33) 0 (v 31))+1)))
 (nd 93 aUP ((nl 1125899906842624 (v 23+2)))
 (lf 0 90 93 (rgs (E7 t7S).n t7S) ((33,.ntm (.app (.app (.sub (.var 33) 0 (v 31)) (.one (.op .or (.op .shl (sb 17 (v 20+v 23)) 8) (sb 17 (v 20+(v 23+1)))))) (.var 91)))::aXU) ((nl 1125899906842624 (v 23+2))::aUP)))))))))
 (lf 1 90 90 (rgs (E7 t7S).n t7S) (nm 33::bm 74::lm 17::im 23::im 32::im 31::bm 30::au0) aU0))
theorem gJ:ajP t7S []=E9:=by kernel_rfl
abbrev aPZ:List TB:=[(.lt (v 23) (v 31))]
abbrev aAJ:=.lt (v 23) (ln 33)::aPZ
abbrev azB:=nl (sn 33 (v 23)) 56320::.lt (sn 33 (v 23)) 57344::aAJ
abbrev aHR:=.not (.and (nl (sn 33 (v 23)) 56320) (.lt (sn 33 (v 23)) 57344))::aAJ
abbrev atF:=nl (sn 33 (v 23)) 55296::.lt (sn 33 (v 23)) 56320::aHR
abbrev aM2:=.or (nl (v 23+1) (v 31)) (.lt (v 23+1) (ln 33))::atF
abbrev ax1:=.or (.or (nl (v 23+1) (v 31)) (.lt (sn 33 (v 23+1)) 56320)) (nl (sn 33 (v 23+1)) 57344)::aM2
abbrev apT:=.lt (v 23+1) (v 31)::nl (sn 33 (v 23+1)) 56320::.lt (sn 33 (v 23+1)) 57344::aM2
abbrev ahK:=.lt (v 23+1) (ln 33)::apT
abbrev agD:=.not (.and (nl (sn 33 (v 23)) 55296) (.lt (sn 33 (v 23)) 56320))::aHR
abbrev aEQ:List TB:=[(nl (v 23) (v 31))]
abbrev au3:SgT:=bm 74::lm 17::aPE
abbrev avL:SgT:=im 32::im 31::bm 30::aPE
abbrev aUD:SgT:=(36,.itm (ln 91+1))::ik 35 1::(34,.new 92)::avL
def iI:Tre:=(.fork (nd 90 aPZ ((.lt (v 23) (ln 33)))
 (.fork (lf 2 90 90 (rgs (E7c kM).n t7f) au3 azB)
 (.fork (nd 90 atF ((.or (nl (v 23+1) (v 31)) (.lt (v 23+1) (ln 33))))
 (.fork (lf 2 90 90 (rgs (E7c kM).n t7f) au3 ax1)
 (nd 90 apT ((.lt (v 23+1) (ln 33)))
 (nd 93 ahK ((nl 1125899906842624 (v 23+2)))
 (lf 0 90 93 (rgs (E7c kM).n u6) ((37,.ntm (.app (.one (.op .shl (sn 33 (v 23)+N 55296) 10+65536+sn 33 (v 23+1)+N 56320)) (.var 91)))::nm 33::bm 74::lm 17::(23,.itm (v 23+2))::aUD) ((nl 1125899906842624 (v 23+2))::ahK))))))
 (nd 93 agD ((nl 1125899906842624 (v 23+1)))
 (lf 0 90 93 (rgs (E7c kM).n u6) ((37,.ntm (.app (.one (sn 33 (v 23))) (.var 91)))::nm 33::bm 74::lm 17::(23,.itm (v 23+1))::aUD) ((nl 1125899906842624 (v 23+1))::agD))))))
 (lf 1 90 90 (rgs (E7c kM).n kM) (nm 33::bm 74::lm 17::im 23::avL) aEQ))
theorem O9:aa6 kM []=iI:=by kernel_rfl
abbrev aDE:=nl (ln 37) (v 36)::ahK
abbrev ax4:=nl 4398046511104 (.lenN (.sub (.var 37) 0 (v 35))+1)::aDE
abbrev aFE:=nl (ln 37) (v 36)::agD
abbrev aK6:=nl 4398046511104 (.lenN (.sub (.var 37) 0 (v 35))+1)::aFE
abbrev aQ3:SgT:=(36,.itm (.lenN (.sub (.var 37) 0 (v 35))+1+ln 91))::(35,.itm (.lenN (.sub (.var 37) 0 (v 35))+1))::(34,.new 92)::avL
def g8:Tre:=(.fork (nd 90 aPZ ((.lt (v 23) (ln 33)))
 (.fork (lf 2 90 90 (rgs (E7c u6).n t7f) au3 azB)
 (.fork (nd 90 atF ((.or (nl (v 23+1) (v 31)) (.lt (v 23+1) (ln 33))))
 (.fork (lf 2 90 90 (rgs (E7c u6).n t7f) au3 ax1)
 (nd 90 apT ((.lt (v 23+1) (ln 33)))
 (nd 90 ahK ((nl (ln 37) (v 36)))
 (nd 90 aDE ((nl 4398046511104 (.lenN (.sub (.var 37) 0 (v 35))+1)))
 (nd 93 ax4 ((nl 1125899906842624 (v 23+2)))
 (lf 0 90 93 (rgs (E7c u6).n u6) ((37,.ntm (.app (.app (.sub (.var 37) 0 (v 35)) (.one (.op .shl (sn 33 (v 23)+N 55296) 10+65536+sn 33 (v 23+1)+N 56320))) (.var 91)))::nm 33::bm 74::lm 17::(23,.itm (v 23+2))::aQ3) ((nl 1125899906842624 (v 23+2))::ax4))))))))
 (nd 90 agD ((nl (ln 37) (v 36)))
 (nd 90 aFE ((nl 4398046511104 (.lenN (.sub (.var 37) 0 (v 35))+1)))
 (nd 93 aK6 ((nl 1125899906842624 (v 23+1)))
 (lf 0 90 93 (rgs (E7c u6).n u6) ((37,.ntm (.app (.app (.sub (.var 37) 0 (v 35)) (.one (sn 33 (v 23)))) (.var 91)))::nm 33::bm 74::lm 17::(23,.itm (v 23+1))::aQ3) ((nl 1125899906842624 (v 23+1))::aK6))))))))
 (lf 1 90 90 (rgs (E7c u6).n u6) (nm 37::nm 33::bm 74::lm 17::im 23::im 36::im 35::bm 34::avL) aEQ))
theorem lT:aa6 u6 []=g8:=by kernel_rfl
theorem aoI{V:Ren}(pp:P7 V):bY.Holds (Gd7 (fun _=>[]) (fun _ _=>True) V) V:=by
 unfold bY;have p:=pp.p;have e21:=pp.e21;have e23:=pp.e23;have hβ:=p.n.1;have p20:=p.i20;have p21:=p.i21;have pl:=p.le;have p23:=p.i23;refine (fO (nO hβ ?_ (nO hβ ?_ (nO hβ ?_ (fO (nO hβ ?_ (lG [] hβ ?_)) (nO hβ ?_ (lG [] hβ ?_)))))) (lO [] hβ ?_));iterate 4 (focus (intro hA;simp only[DD]at hA ⊢;omega))
 .intro δ0 J0 hl0 hA hr0 hid0 hI;simp +decide only[DD,aL hβ]at hA hI;obtain⟨a0,a1,a2,a3,a4,a5⟩:=hA;obtain⟨i33,_,i17,i23,i32,i31,i85,i22,i21,i20,i16,i73⟩:=hI;simp only[ub0,ubk]at *;exact axF (O:=[]) ⟨⟨i73,i16,i17,i20,i21,i22⟩,Bool.eq_iff_iff.2 i85⟩ (by omega) (aBE a1) i23 i33 (by rw[i31];rfl) (by rw[i31,i32,i33];constructor<;>(try simp)<;>(try omega))
 .intro hA;simp only[DD]at hA ⊢;omega
 .intro δ0 J0 hl0 hA hr0 hid0 hI;simp +decide only[DD,aL hβ]at hA hI;obtain⟨a0,a1,a2,a3,a4,a5⟩:=hA;obtain⟨i33,_,i17,i23,i32,i31,i85,i22,i21,i20,i16,i73⟩:=hI;simp only[ub0,ubk]at *;exact axF (O:=[]) ⟨⟨i73,i16,i17,i20,i21,i22⟩,Bool.eq_iff_iff.2 i85⟩ (by omega) (aMP a1) i23 i33 (by rw[i31];rfl) (by rw[i31,i32,i33];constructor<;>(try simp)<;>(try omega))
 .intro J0 hl0 hA hr0 hid0 hI;simp only[DD]at hA hI;obtain⟨_,i17,_,i85,i22,i21,i20,i16,i73⟩:=hI;exact⟨⟨⟨i73,i16,i17,i20,i21,i22⟩,Bool.eq_iff_iff.2 i85⟩,by omega,trivial⟩
theorem Z9{V:Ren}(pp:P7 V)(q:K6 V):E9.Holds (Gd7 O6 (fun a b=>dX a b) V) V:=by
 unfold E9;have p:=pp.p;have e21:=pp.e21;have e23:=pp.e23;have hβ:=p.n.1;have p20:=p.i20;have p21:=p.i21;have pl:=p.le;have p23:=p.i23;have qa:=q.a;have qb:=q.b;have qc:=q.c;have ol:(O6 V).length=(gI V 31).toNat:=by unfold O6;simp;omega
 have ol2:(List.drop (Int.toNat 0) (List.take (gI V 31).toNat (gN V 33))).length<=(gI V 31).toNat:=by simp;omega
 refine (fO (nO hβ ?_ (nO hβ ?_ (nO hβ ?_ (fO (nO hβ ?_ (nO hβ ?_ (nO hβ ?_ (lG [] hβ ?_)))) (nO hβ ?_ (nO hβ ?_ (nO hβ ?_ (lG [] hβ ?_)))))))) (lO [] hβ ?_));iterate 6 (focus (intro hA;simp only[DD]at hA ⊢;omega))
 .intro δ0 J0 hl0 hA hr0 hid0 hI;simp +decide only[DD,aL hβ]at hA hI;obtain⟨a0,a1,a2,a3,a4,a5,a6,a7⟩:=hA;obtain⟨i33,_,i17,i23,i32,i31,i85,i22,i21,i20,i16,i73⟩:=hI;simp only[ub0,ubk]at *;exact axF (O:=O6 V) ⟨⟨i73,i16,i17,i20,i21,i22⟩,Bool.eq_iff_iff.2 i85⟩ (by omega) (aBE a3) i23 (i33.trans (List.append_assoc _ _ _)) (by rw[i31];unfold O6;simp;try omega) (by rw[i31,i32,i33];constructor<;>(try simp)<;>(try omega))
 iterate 3 (focus (intro hA;simp only[DD]at hA ⊢;omega))
 .intro δ0 J0 hl0 hA hr0 hid0 hI;simp +decide only[DD,aL hβ]at hA hI;obtain⟨a0,a1,a2,a3,a4,a5,a6,a7⟩:=hA;obtain⟨i33,_,i17,i23,i32,i31,i85,i22,i21,i20,i16,i73⟩:=hI;simp only[ub0,ubk]at *;exact axF (O:=O6 V) ⟨⟨i73,i16,i17,i20,i21,i22⟩,Bool.eq_iff_iff.2 i85⟩ (by omega) (aMP a3) i23 (i33.trans (List.append_assoc _ _ _)) (by rw[i31];unfold O6;simp;try omega) (by rw[i31,i32,i33];constructor<;>(try simp)<;>(try omega))
 .intro J0 hl0 hA hr0 hid0 hI;simp only[DD]at hA hI;obtain⟨i33,_,i17,_,i32,i31,i30,i85,i22,i21,i20,i16,i73⟩:=hI;exact⟨⟨⟨i73,i16,i17,i20,i21,i22⟩,Bool.eq_iff_iff.2 i85⟩,by omega,i30,i33,i31,i32⟩
theorem ai9{V:Ren}(p:PE V):iI.Holds (Gd8 (fun _=>[]) (fun _ _=>True) V) V:=by
 unfold iI;have hβ:=p.n.1;have p23:=p.i23;have p31:=p.i31;have pl:=p.len;refine (fO (nO hβ ?_ (fO (lO [] hβ ?_) (fO (nO hβ ?_ (fO (lO [] hβ ?_) (nO hβ ?_ (nO hβ ?_ (lG [] hβ ?_))))) (nO hβ ?_ (lG [] hβ ?_))))) (lO [] hβ ?_))
 .intro hA;simp only[DD]at hA ⊢;omega
 .intro J0 hl0 hA hr0 hid0 hI;simp only[DD]at hA hI;obtain⟨a0,a1,a2,a3⟩:=hA;obtain⟨_,i17,i22,i21,i20,i16,i73⟩:=hI;exact⟨⟨i73,i16,i17,i20,i21,i22⟩,by omega,alN p (by omega) a1 a0⟩
 .intro hA;simp only[DD]at hA ⊢;omega
 .intro J0 hl0 hA hr0 hid0 hI;simp only[DD]at hA hI;obtain⟨a0,a1,a2,a3,a4,a5,a6⟩:=hA;obtain⟨_,i17,i22,i21,i20,i16,i73⟩:=hI;exact⟨⟨i73,i16,i17,i20,i21,i22⟩,by omega,eM p (by omega) a3 a2 a0⟩
 iterate 2 (focus (intro hA;simp only[DD]at hA ⊢;omega))
 .intro δ0 J0 hl0 hA hr0 hid0 hI;simp +decide only[DD,aL hβ]at hA hI;obtain⟨a0,a1,a2,a3,a4,a5,a6,a7,a8,a9,a10⟩:=hA;obtain⟨i37,i33,_,i17,i23,i36,i35,_,i31,i30,i22,i21,i20,i16,i73⟩:=hI;have hd:=af7 p (by omega) a7 a6 a4 a3;rw[<-aCW]at hd;exact awR (O:=[]) ⟨⟨i73,i16,i17,i20,i21,i22⟩,i73,i30,i33,i31⟩ (by omega) hd (by omega) i23 (by omega) i37 (by rw[i35];rfl) (by rw[i35,i36,i37];constructor<;>(try simp)<;>(try omega))
 .intro hA;simp only[DD]at hA ⊢;omega
 .intro δ0 J0 hl0 hA hr0 hid0 hI;simp +decide only[DD,aL hβ]at hA hI;obtain⟨a0,a1,a2,a3,a4⟩:=hA;obtain⟨i37,i33,_,i17,i23,i36,i35,_,i31,i30,i22,i21,i20,i16,i73⟩:=hI;have hd:=aj9 p (by omega) a2 a1;exact awR (O:=[]) ⟨⟨i73,i16,i17,i20,i21,i22⟩,i73,i30,i33,i31⟩ (by omega) hd (by omega) i23 (by omega) i37 (by rw[i35];rfl) (by rw[i35,i36,i37];constructor<;>(try simp)<;>(try omega))
 .intro J0 hl0 hA hr0 hid0 hI;simp only[DD]at hA hI;obtain⟨i33,_,i17,_,_,i31,i30,i22,i21,i20,i16,i73⟩:=hI;exact⟨⟨⟨i73,i16,i17,i20,i21,i22⟩,i73,i30,i33,i31⟩,by omega,trivial⟩
theorem dD{V:Ren}(p:PE V)(q:K8 V):g8.Holds (Gd8 O8 (fun a b=>alZ a b) V) V:=by
 unfold g8;have hβ:=p.n.1;have p23:=p.i23;have p31:=p.i31;have pl:=p.len;have qa:=q.a;have qb:=q.b;have qc:=q.c;have ol:(O8 V).length=(gI V 35).toNat:=by unfold O8;simp;omega
 have ol2:(List.drop (Int.toNat 0) (List.take (gI V 35).toNat (gN V 37))).length<=(gI V 35).toNat:=by simp;omega
 refine (fO (nO hβ ?_ (fO (lO [] hβ ?_) (fO (nO hβ ?_ (fO (lO [] hβ ?_) (nO hβ ?_ (nO hβ ?_ (nO hβ ?_ (nO hβ ?_ (lG [] hβ ?_))))))) (nO hβ ?_ (nO hβ ?_ (nO hβ ?_ (lG [] hβ ?_))))))) (lO [] hβ ?_))
 .intro hA;simp only[DD]at hA ⊢;omega
 .intro J0 hl0 hA hr0 hid0 hI;simp only[DD]at hA hI;obtain⟨a0,a1,a2,a3⟩:=hA;obtain⟨_,i17,i22,i21,i20,i16,i73⟩:=hI;exact⟨⟨i73,i16,i17,i20,i21,i22⟩,by omega,alN p (by omega) a1 a0⟩
 .intro hA;simp only[DD]at hA ⊢;omega
 .intro J0 hl0 hA hr0 hid0 hI;simp only[DD]at hA hI;obtain⟨a0,a1,a2,a3,a4,a5,a6⟩:=hA;obtain⟨_,i17,i22,i21,i20,i16,i73⟩:=hI;exact⟨⟨i73,i16,i17,i20,i21,i22⟩,by omega,eM p (by omega) a3 a2 a0⟩
 iterate 4 (focus (intro hA;simp only[DD]at hA ⊢;omega))
 .intro δ0 J0 hl0 hA hr0 hid0 hI;simp +decide only[DD,aL hβ]at hA hI;obtain⟨a0,a1,a2,a3,a4,a5,a6,a7,a8,a9,a10,a11,a12⟩:=hA;obtain⟨i37,i33,_,i17,i23,i36,i35,_,i31,i30,i22,i21,i20,i16,i73⟩:=hI;have hd:=af7 p (by omega) a9 a8 a6 a5;rw[<-aCW]at hd;exact awR (O:=O8 V) ⟨⟨i73,i16,i17,i20,i21,i22⟩,i73,i30,i33,i31⟩ (by omega) hd (by omega) i23 (by omega) (i37.trans (List.append_assoc _ _ _)) (by rw[i35];unfold O8;simp;try omega) (by rw[i35,i36,i37];constructor<;>(try simp)<;>(try omega))
 iterate 3 (focus (intro hA;simp only[DD]at hA ⊢;omega))
 .intro δ0 J0 hl0 hA hr0 hid0 hI;simp +decide only[DD,aL hβ]at hA hI;obtain⟨a0,a1,a2,a3,a4,a5,a6⟩:=hA;obtain⟨i37,i33,_,i17,i23,i36,i35,_,i31,i30,i22,i21,i20,i16,i73⟩:=hI;have hd:=aj9 p (by omega) a4 a3;exact awR (O:=O8 V) ⟨⟨i73,i16,i17,i20,i21,i22⟩,i73,i30,i33,i31⟩ (by omega) hd (by omega) i23 (by omega) (i37.trans (List.append_assoc _ _ _)) (by rw[i35];unfold O8;simp;try omega) (by rw[i35,i36,i37];constructor<;>(try simp)<;>(try omega))
 .intro J0 hl0 hA hr0 hid0 hI;simp only[DD]at hA hI;obtain⟨i37,i33,_,i17,_,i36,i35,i34,_,i31,i30,i22,i21,i20,i16,i73⟩:=hI;exact⟨⟨⟨i73,i16,i17,i20,i21,i22⟩,i73,i30,i33,i31⟩,by omega,i34,i37,i35,i36⟩
theorem afZ{b:Bool}{R:List UInt8}{v k:Int}(hR:R.length%2=0)(h:du (uA b R)=some (v,k)):d1 (eb b) R=.ok v (2*k)/\1<=k/\2*k<=R.length/\uA b (R.drop (2*k).toNat)=(uA b R).drop k.toNat:=by
 match R,hR,h with
 |[],_,h=>cases h
 |[x],hR,_=>simp at hR
 |x::y::r,hR,h =>
  have hu:=pT b x y;simp only[List.length_cons]at hR;rw[apX];simp only[uA]at h ⊢;rw[pQ]at h;split at h
  .cases h
  rename_i n1;split at h
  .rename_i n2;match r,hR,h with
   |[],_,h=>cases h
   |[z],hR,h=>cases h
   |z::w::r,hR,h =>
    have hv:=pT b z w;simp only[uA]at h;split at h
    .rename_i n3;simp only[Option.some.injEq,Prod.mk.injEq]at h;obtain⟨h1,h2⟩:=h;subst h2;subst h1;refine⟨?_,by omega,by simp only[List.length_cons];omega,rfl⟩;exact atN hu hv n2 (by simp only[List.length_cons];omega) n3
    .cases h
  .rename_i n2;simp only[Option.some.injEq,Prod.mk.injEq]at h;obtain⟨h1,h2⟩:=h;subst h2;subst h1;refine⟨?_,by omega,by simp only[List.length_cons];omega,rfl⟩;exact axA hu (by omega) (by unfold uT at n1;unfold aaX at n2;omega)
theorem agQ{b:Bool}{R:List UInt8}(hR:R.length%2=0)(hne:R≠[])(h:du (uA b R)=none):Nok (d1 (eb b) R):=by
 match R,hR,h with
 |[],_,_=>exact (hne rfl).elim
 |[x],hR,_=>simp at hR
 |x::y::r,hR,h =>
  have hu:=pT b x y;simp only[List.length_cons]at hR;rw[apX];simp only[uA]at h;rw[pQ]at h;split at h
  .rename_i n1;exact auZ hu n1
  split at h
  .rename_i n1 n2;match r,hR,h with
   |[],_,_=>exact fC hu (pT b _ _) n2 (.inl (by simp))
   |[z],hR,h=>simp at hR
   |z::w::r,hR,h =>
    simp only[uA]at h;split at h
    .cases h
    .rename_i n3;exact fC hu (pT b _ _) n2 (.inr (by unfold uT at n3;simp only[List.getD_cons_zero,List.getD_cons_succ];omega))
  .cases h
theorem ahR{V γ:Ren}(pp:P7 V)(hn:γ.length=90)(s:SmF V γ)(hl:gI V 23<gI V 21)(h:gI γ 23=gI V 23+2):P7 γ:=by
 have e1:=pp.e21;have e2:=pp.e23;have:=pp.p.i23;have s5:=s.1.2.2.2.2.1;exact⟨bN pp.p hn s.1 (by omega) (by omega) h,by omega,by omega⟩
theorem aBZ{V:Ren}(p:P6 V){k:Int}(h0:0<=k)(hk:gI V 23+k<gI V 21):(((R6 V).getD k.toNat 0).toNat:Int)=ub V k:=by
 have:=p.i20;have:=p.i21;have:=p.le;have:=p.i23;unfold ub R6;simp only[List.getD_eq_getElem?_getD];rw[List.getElem?_drop,List.getElem?_take,if_pos (by omega),show (gI V 20+gI V 23).toNat+k.toNat=(gI V 20+(gI V 23+k)).toNat from by omega]
theorem agC{V:Ren}(pp:P7 V)(hl:gI V 23<gI V 21){b:Bool}(hb:gB V 85=b):uA b (R6 V)=ub2 V::uA b ((R6 V).drop 2):=by
 have e1:=pp.e21;have e2:=pp.e23;have:=pp.p.i23;have hlen:=mO pp.p;have u0:=aBZ pp.p (k:=0) (by omega) (by omega);have u1:=aBZ pp.p (k:=1) (by omega) (by omega);unfold ub2;rw[<-u0,<-u1,hb];generalize R6 V=R at hlen ⊢;match R,hlen with
 |[],hlen=>simp at hlen;omega
 |[x],hlen=>simp at hlen;omega
 |x::y::r,_=>rfl
theorem ae6{w0:W0}{Q:Exit->Act->World->Prop}(b:Bool):∀(m:Nat)(O:List Int)(V:Ren)(a:Act)(w:World),(gI V 21-gI V 23).toNat<=m->P7 V->gB V 85=b->Num6 O V->gI V 31<=gI V 23->HR w0 V t7S.heap w->FS V (ntmps 7) t7S.frame a ->
    (∀ V1 a' w',Ln V1->SmF V V1->Num6 (O++uA b (R6 V)) V1->HR w0 V1 t7S.heap w'->FS V1 (ntmps 7) t7S.frame a'->Q (.exit 0) a' w')->wpL Tryd.prog ahJ Q a w:=by
 intro m
 induction m with
 |zero =>
  intro O V a w hm pp hb o h4 hH hF h1
  have p:=pp.p
  have h5:=o.l
  refine zR (yC (E:=E7 t7S) (G:=Gd7 O6 (fun a b=>dX a b) V) zQ zS follows (by show (ajP t7S []).Holds _ _;rw[gJ];exact Z9 pp ⟨⟨by omega,o.c⟩,o.d,h4⟩) p.n.2 hH (Facts.nil _) hF ?_ (fun r s c h=>by rcases h with h|h<;>cases h) (fun j i V1 V2 h=>h.elim) (fun r s h=>by rcases h with h|h<;>cases h) (fun f s h=>by cases h))
  intro j e tp V1 a' w' hft q1 q2 q3
  have hl:V1.length=tp.m:=by rw[q1.len];exact zK _ _
  cases e with
  |normal=>cases hft;obtain⟨_,h,_⟩:=q3;omega
  |ret=>cases hft
  |exit id =>
   match id,hft with
   |0,hft =>
    cases hft
    obtain⟨s,h,e1,e2,e3,e4⟩:=q3
    exact h1 V1 a' w' (p.n.of s.1.1 hl) s (by rw[mD p h];show Num6 (O++[]) _;rw[List.append_nil];exact⟨by unfold O6;rw[e2,e3];exact o.b,by rw[e3];exact o.l,by rw[e3,e4];exact o.c,by rw[e4,e2];exact o.d⟩) q1 q2
 |succ m ih =>
  intro O V a w hm pp hb o h4 hH hF h1
  have p:=pp.p
  have h5:=o.l
  refine zR (yC (E:=E7 t7S) (G:=Gd7 O6 (fun a b=>dX a b) V) zQ zS follows (by show (ajP t7S []).Holds _ _;rw[gJ];exact Z9 pp ⟨⟨by omega,o.c⟩,o.d,h4⟩) p.n.2 hH (Facts.nil _) hF ?_ (fun r s c h=>by rcases h with h|h<;>cases h) (fun j i V1 V2 h=>h.elim) (fun r s h=>by rcases h with h|h<;>cases h) (fun f s h=>by cases h))
  intro j e tp V1 a' w' hft q1 q2 q3
  have hl:V1.length=tp.m:=by rw[q1.len];exact zK _ _
  cases e with
  |normal =>
   cases hft
   obtain⟨s,h,h23,e1,e2,e3,e4⟩:=q3
   rw[o.b]at e1 e2
   have s5:=s.1.2.2.2.2.1
   have hr:=jB p s.1 (by omega) h23
   rw[List.length_append]at e2
   simp only[List.length_singleton]at e2
   refine ih (O++[ub2 V]) V1 a' w' (by omega) (ahR pp hl s h h23) (s.2.trans hb) ⟨e1,by rw[e2,List.length_append];rfl,e3,e4⟩ (by omega) q1 q2 ?_
   intro V2 a2 w2 hn2 s2 o2 r1 r2
   refine h1 V2 a2 w2 hn2 (s.trans s2) ?_ r1 r2
   rw[agC pp h hb]
   have:R6 V1=(R6 V).drop 2:=hr
   rw[<-this]
   simpa using o2
  |ret=>cases hft
  |exit id =>
   match id,hft with
   |0,hft =>
    cases hft
    obtain⟨s,h,e1,e2,e3,e4⟩:=q3
    exact h1 V1 a' w' (p.n.of s.1.1 hl) s (by rw[mD p h];show Num6 (O++[]) _;rw[List.append_nil];exact⟨by unfold O6;rw[e2,e3];exact o.b,by rw[e3];exact o.l,by rw[e3,e4];exact o.c,by rw[e4,e2];exact o.d⟩) q1 q2
theorem acR{w0:W0}{Q:Exit->Act->World->Prop}(b:Bool)(V:Ren)(a:Act)(w:World)(pp:P7 V)(hb:gB V 85=b)(hH:HR w0 V t7N.heap w)(hF:FS V (ntmps 7) t7N.frame a)
    (h0:∀ V1 a' w',Ln V1->SmF V V1->R6 V=[]->HR w0 V1 t7N.heap w'->FS V1 (ntmps 7) t7N.frame a'->Q (.exit 0) a' w')
    (h1:∀ V1 a' w',Ln V1->SmF V V1->R6 V≠[]->Num6 (uA b (R6 V)) V1->HR w0 V1 t7S.heap w'->FS V1 (ntmps 7) t7S.frame a'->Q (.exit 0) a' w'):wpL Tryd.prog ahJ Q a w:=by
 have p:=pp.p
 refine zR (yC (E:=E7 t7N) (G:=Gd7 (fun _=>[]) (fun _ _=>True) V) zQ zS follows (by show (ajP t7N []).Holds _ _;rw[ac3];exact aoI pp) p.n.2 hH (Facts.nil _) hF ?_ (fun r s c h=>by rcases h with h|h<;>cases h) (fun j i V1 V2 h=>h.elim) (fun r s h=>by rcases h with h|h<;>cases h) (fun f s h=>by cases h))
 intro j e tp V1 a' w' hft q1 q2 q3
 have hl:V1.length=tp.m:=by rw[q1.len];exact zK _ _
 cases e with
 |normal =>
  cases hft
  obtain⟨s,h,h23,e1,e2,e3,e4⟩:=q3
  have hr:=jB p s.1 (by omega) h23
  have:=p.i23
  rw[List.nil_append]at e1 e2
  refine ae6 b _ [ub2 V] V1 a' w' (Nat.le_refl _) (ahR pp hl s h h23) (s.2.trans hb) ⟨e1,e2,e3,e4⟩ (by rw[e2];simp;omega) q1 q2 ?_
  intro V2 a2 w2 hn2 s2 o2 r1 r2
  refine h1 V2 a2 w2 hn2 (s.trans s2) (agN p h) ?_ r1 r2
  rw[agC pp h hb]
  have:R6 V1=(R6 V).drop 2:=hr
  rw[<-this]
  simpa using o2
 |ret=>cases hft
 |exit id =>
  match id,hft with
  |0,hft =>
   cases hft
   obtain⟨s,h,_⟩:=q3
   exact h0 V1 a' w' (p.n.of s.1.1 hl) s (mD p h) q1 q2
structure Num8(O:List Int)(γ:Ren):Prop where
 b:O8 γ=O
 l:gI γ 35=(O.length:Int)
 c:gI γ 35<=gI γ 36
 d:gI γ 36<=(gN γ 37).length
theorem jY{V γ:Ren}{k:Int}(p:PE V)(hn:γ.length=90)(s:SmE V γ)(hk:1<=k)(h:gI γ 23=gI V 23+k)(h2:gI γ 23<=gI V 31):PE γ:=by
 obtain⟨s1,s2,s3,s4⟩:=s;have:=p.i23;exact⟨p.n.of s1 hn,by omega,by rw[s4];exact p.i31,by rw[s3,s4];exact p.len,by rw[s3,s4];exact p.el⟩
theorem fD{V γ:Ren}{k:Int}(p:PE V)(s:SmE V γ)(hk:1<=k)(h:gI γ 23=gI V 23+k):zZ γ=(zZ V).drop k.toNat:=by
 obtain⟨s1,s2,s3,s4⟩:=s;have:=p.i23;unfold zZ;rw[s3,s4,h,List.drop_drop];congr 1;omega
theorem aeA{w0:W0}{Q:Exit->Act->World->Prop}(b:Bool):∀(m:Nat)(O:List Int)(R:List UInt8)(V:Ren)(a:Act)(w:World),(gI V 31-gI V 23).toNat<=m->PE V->R.length%2=0->zZ V=uA b R->Num8 O V->gI V 35<=gI V 23->HR w0 V u6.heap w->FS V (ntmps 7) u6.frame a ->
    (∀ V1 a' w' cs,Ln V1->SmG V V1->DC (eb b) R cs []->Num8 (O++cs) V1->HR w0 V1 u6.heap w'->FS V1 (ntmps 7) u6.frame a'->Q (.exit 2) a' w') ->
    (∀ V1 a' w',Ln V1->SmD V V1->oU (eb b) R->HR w0 V1 t7f.heap w'->FS V1 (ntmps 7) t7f.frame a'->Q .ret a' w')->wpL Tryd.prog N2 Q a w:=by
 intro m
 induction m with
 |zero =>
  intro O R V a w hm p hR hu o h4 hH hF h1 h2
  have h5:=o.l
  refine zR (yC (E:=E7c u6) (G:=Gd8 O8 (fun a b=>alZ a b) V) zQ zS follows (by show (aa6 u6 []).Holds _ _;rw[lT];exact dD p ⟨⟨by omega,o.c⟩,o.d,h4⟩) p.n.2 hH (Facts.nil _) hF ?_ (fun r s c h=>by rcases h with h|h<;>cases h) (fun j i V1 V2 h=>h.elim) (fun r s h=>by rcases h with h|h<;>cases h) (fun f s h=>by cases h))
  intro j e tp V1 a' w' hft q1 q2 q3
  have hl:V1.length=tp.m:=by rw[q1.len];exact zK _ _
  cases e with
  |normal=>cases hft;obtain⟨_,h,_⟩:=q3;omega
  |ret=>cases hft;obtain⟨_,h,_⟩:=q3;omega
  |exit id =>
   match id,hft with
   |2,hft =>
    cases hft
    obtain⟨s,h,e1,e2,e3,e4⟩:=q3
    have hR0:R=[]:=by
     rw[wO h p]at hu;match R,hR,hu with
     |[],_,_=>rfl
     |[x],hR,_=>simp at hR
     |x::y::r,_,hu=>simp[uA]at hu
    subst hR0
    exact h1 V1 a' w' [] (p.n.of s.1.1 hl) s (.nil _) (by rw[List.append_nil];exact⟨by unfold O8;rw[e2,e3];exact o.b,by rw[e3];exact o.l,by rw[e3,e4];exact o.c,by rw[e4,e2];exact o.d⟩) q1 q2
 |succ m ih =>
  intro O R V a w hm p hR hu o h4 hH hF h1 h2
  have h5:=o.l
  refine zR (yC (E:=E7c u6) (G:=Gd8 O8 (fun a b=>alZ a b) V) zQ zS follows (by show (aa6 u6 []).Holds _ _;rw[lT];exact dD p ⟨⟨by omega,o.c⟩,o.d,h4⟩) p.n.2 hH (Facts.nil _) hF ?_ (fun r s c h=>by rcases h with h|h<;>cases h) (fun j i V1 V2 h=>h.elim) (fun r s h=>by rcases h with h|h<;>cases h) (fun f s h=>by cases h))
  intro j e tp V1 a' w' hft q1 q2 q3
  have hl:V1.length=tp.m:=by rw[q1.len];exact zK _ _
  have hne:gI V 23<gI V 31->R≠[]:=by
   intro h e;rw[uD p h,e]at hu;cases hu
  cases e with
  |normal =>
   cases hft
   obtain⟨s,h,v,k,hd,hk,h23,h23b,e1,e2,e3,e4⟩:=q3
   rw[o.b]at e1 e2
   have s4:=s.2.2.2.2
   rw[hu]at hd
   obtain⟨d1',d2,d3,d4⟩:=afZ hR hd
   rw[List.length_append]at e2
   simp only[List.length_singleton]at e2
   refine ih (O++[v]) (R.drop (2*k).toNat) V1 a' w' (by omega) (jY p hl s.2 hk h23 h23b) (by rw[List.length_drop];omega) (by rw[fD p s.2 hk h23,hu,d4]) ⟨e1,by rw[e2,List.length_append];rfl,e3,e4⟩ (by omega) q1 q2 ?_ ?_
   .intro V2 a2 w2 cs hn2 s2 dc o2 r1 r2
    exact h1 V2 a2 w2 (v::cs) hn2 (s.trans s2) (.cons d1' (by omega) d3 dc) (by simpa using o2) r1 r2
   .intro V2 a2 w2 hn2 s2 bc r1 r2
    exact h2 V2 a2 w2 hn2 (s.1.trans s2) (.cons d1' (by omega) d3 bc) r1 r2
  |ret =>
   cases hft
   obtain⟨s,h,hd⟩:=q3
   rw[hu]at hd
   exact h2 V1 a' w' (p.n.of s.1 hl) s ⟨[],R,.nil _,hne h,agQ hR (hne h) hd⟩ q1 q2
  |exit id =>
   match id,hft with
   |2,hft =>
    cases hft
    obtain⟨s,h,e1,e2,e3,e4⟩:=q3
    have hR0:R=[]:=by
     rw[wO h p]at hu;match R,hR,hu with
     |[],_,_=>rfl
     |[x],hR,_=>simp at hR
     |x::y::r,_,hu=>simp[uA]at hu
    subst hR0
    exact h1 V1 a' w' [] (p.n.of s.1.1 hl) s (.nil _) (by rw[List.append_nil];exact⟨by unfold O8;rw[e2,e3];exact o.b,by rw[e3];exact o.l,by rw[e3,e4];exact o.c,by rw[e4,e2];exact o.d⟩) q1 q2
theorem abL{w0:W0}{Q:Exit->Act->World->Prop}(b:Bool)(R:List UInt8)(V:Ren)(a:Act)(w:World)(p:PE V)(hR:R.length%2=0)(hne:R≠[])(hu:zZ V=uA b R)(hH:HR w0 V kM.heap w)(hF:FS V (ntmps 7) kM.frame a)
    (h1:∀ V1 a' w' cs,Ln V1->SmG V V1->DC (eb b) R cs []->cs≠[]->Num8 cs V1->HR w0 V1 u6.heap w'->FS V1 (ntmps 7) u6.frame a'->Q (.exit 2) a' w')
    (h2:∀ V1 a' w',Ln V1->SmD V V1->oU (eb b) R->HR w0 V1 t7f.heap w'->FS V1 (ntmps 7) t7f.frame a'->Q .ret a' w'):wpL Tryd.prog N2 Q a w:=by
 refine zR (yC (E:=E7c kM) (G:=Gd8 (fun _=>[]) (fun _ _=>True) V) zQ zS follows (by show (aa6 kM []).Holds _ _;rw[O9];exact ai9 p) p.n.2 hH (Facts.nil _) hF ?_ (fun r s c h=>by rcases h with h|h<;>cases h) (fun j i V1 V2 h=>h.elim) (fun r s h=>by rcases h with h|h<;>cases h) (fun f s h=>by cases h))
 intro j e tp V1 a' w' hft q1 q2 q3
 have hl:V1.length=tp.m:=by rw[q1.len];exact zK _ _
 cases e with
 |normal =>
  cases hft
  obtain⟨s,h,v,k,hd,hk,h23,h23b,e1,e2,e3,e4⟩:=q3
  rw[List.nil_append]at e1 e2
  have s4:=s.2.2.2.2
  have:=p.i23
  rw[hu]at hd
  obtain⟨d1',d2,d3,d4⟩:=afZ hR hd
  refine aeA b _ [v] (R.drop (2*k).toNat) V1 a' w' (Nat.le_refl _) (jY p hl s.2 hk h23 h23b) (by rw[List.length_drop];omega) (by rw[fD p s.2 hk h23,hu,d4]) ⟨e1,e2,e3,e4⟩ (by rw[e2];simp;omega) q1 q2 ?_ ?_
  .intro V2 a2 w2 cs hn2 s2 dc o2 r1 r2
   exact h1 V2 a2 w2 (v::cs) hn2 (s.trans s2) (.cons d1' (by omega) d3 dc) (by simp) (by simpa using o2) r1 r2
  .intro V2 a2 w2 hn2 s2 bc r1 r2
   exact h2 V2 a2 w2 hn2 (s.1.trans s2) (.cons d1' (by omega) d3 bc) r1 r2
 |ret =>
  cases hft
  obtain⟨s,h,hd⟩:=q3
  rw[hu]at hd
  exact h2 V1 a' w' (p.n.of s.1 hl) s ⟨[],R,.nil _,hne,agQ hR hne hd⟩ q1 q2
 |exit id =>
  match id,hft with
  |2,hft =>
   cases hft
   obtain⟨s,h,_⟩:=q3
   rw[wO h p]at hu
   match R,hR,hne,hu with
   |[],_,hne,_=>exact (hne rfl).elim
   |[x],hR,_,_=>simp at hR
   |x::y::r,_,_,hu=>simp[uA]at hu
def t7:Tpl:={ m:=90,F:=[(0,nV),(1,sB (x 85))],H:=[(16,vM),(73,xB)],G:=[73] }
def t7a:Tpl:={ m:=90,F:=[(0,nV),(4,.slice none 0 0),(5,sB (x 84))],H:=[(16,vM),(73,xB)],G:=[73] }
def t7b:Tpl:={ m:=90,F:=[(0,nV),(4,wF),(5,.bool true)],H:=[(16,vM),(73,xB),(30,kJ)],G:=[73] }
def sp7:CSpec:={ j:=7,n:=2,tin:=t7,outs:=[(.tuple #[.slice none 0 0,sB (x 84)],t7a,sm6),(.tuple #[wF,.bool true],t7b,sm6)] }
def aR3:LSpec:={ j:=5,tin:=t7N,outs:=[(.exit 0,t7N,[]),(.exit 0,t7S,[])] }
def aW7:LSpec:={ j:=13,tin:=kM,outs:=[(.exit 2,u6,[]),(.ret,t7f,[])] }
def lt7:Nat->Option LSpec:=fun n=>if n=5 then some aR3 else if n=13 then some aW7 else none
def EF7:Env:=EG 7 (fun _=>none) (fun _=>false) (fun _=>none) lt7 (rG t7a 0) (rG t7b 1)
def aFP:Tre:=tre EF7 2000 (body 7) [] [] t7.frame t7.heap
abbrev acV:Code:=.loop ahJ
abbrev bF:Code:=.loop N2
def GF7(V:Ren):Goal where
 J:=fun j γ=>Ln γ/\SmD V γ/\Z6 (eb (gB V 85)) V γ j
 L:=fun j γ=>match j with
  |5=>P7 γ/\SmF V γ/\gI γ 23=0
  |13=>PE γ/\SmD V γ/\zZ γ=uA (gB V 85) (A6 V)/\(A6 V).length%2=0/\A6 V≠[]
  |_=>False
 O:=fun j i γ J1=>Ln J1/\match j with
  |5=>SmF γ J1/\(match i with
   |0=>R6 γ=[]
   |1=>R6 γ≠[]/\Num6 (uA (gB γ 85) (R6 γ)) J1
   |_=>False)
  |13=>SmD γ J1/\(match i with
   |0=>∃ cs,DC (eb (gB V 85)) (A6 V) cs []/\cs≠[]/\Num8 cs J1
   |1=>oU (eb (gB V 85)) (A6 V)
   |_=>False)
  |_=>False
 W:=fun j c=>(j=5/\c=acV)\/(j=13/\c=bF)
theorem aj1{V:Ren}(p:PA V):((A6 V).length:Int)=gI V 21:=by
 have:=p.i20;have:=p.i21;have:=p.le;unfold A6;rw[List.length_drop,List.length_take];omega
theorem ahN{a:Int}(h:0<=a):IOp.fn .rem a 2=a%2:=Int.tmod_eq_emod_of_nonneg h
theorem aN2{V γ J0 V1 J1:Ren}(p:PA V)(hev:gI V 21%2=0)(sF:SmF V J0)(h23:gI J0 23=0)(s1:SmF J0 V1)(hz:R6 J0≠[]/\Num6 (uA (gB J0 85) (R6 J0)) V1)(s2:SmD V1 J1)(hn:Ln J1)
    (j33:gN J1 33=gN V1 33) (j31:gI J1 31=gI V1 31) (j23:gI J1 23=0):(GF7 V).L 13 J1:=by
 obtain⟨hne,o1,o2,o3,o4⟩:=hz
 have hA:=aj0 sF.1 h23
 have hlen:=aj1 p
 have p21:=p.i21
 have hb:gB J0 85=gB V 85:=sF.2
 rw[hA,hb]at o1 o2
 rw[hA]at hne
 have hul:=aaQ (b:=gB V 85) (A6 V)
 have hrest:zZ J1=uA (gB V 85) (A6 V):=by
  unfold zZ;rw[j33,j31,j23];exact o1
 refine⟨⟨hn,by omega,by omega,by rw[j31,j33];omega,fun k h0 hk=>?_⟩,(sF.1.trans s1.1).trans s2,hrest,by omega,hne⟩
 have hm:(gN J1 33).getD k.toNat 0∈uA (gB V 85) (A6 V):=by
  rw[<-o1];unfold O6;have hk':k.toNat<((gN V1 33).take (gI V1 31).toNat).length:=by rw[List.length_take];omega
  have:(gN J1 33).getD k.toNat 0=((gN V1 33).take (gI V1 31).toNat)[k.toNat]:=by
   rw[List.getElem_take,List.getD_eq_getElem?_getD,j33,List.getElem?_eq_getElem (by rw[List.length_take]at hk';omega)];rfl
  rw[this];exact List.getElem_mem hk'
 have:=aaT hm
 omega
abbrev apI:SgT:=[im 22,im 21,im 20,bm 16,bm 73]
abbrev aU6:SgT:=bm 74::lm 17::(84,.btm (.lit false))::apI
def adS:Tre:=(.fork (lf 0 90 90 (rgs EF7.n t7a) aU6 [(.eq (.op .rem (v 21) 2) 1)])
 (.loop 5 90 90 (rgs EF7.n aR3.tin) acV (SgT.enc (bm 74::lm 17::ik 23 0::(85,.btm (.var 85))::apI)) (List.map TB.enc [(nq (.op .rem (v 21) 2) 1)]) (.cons (rgs EF7.n t7N) (lf 0 90 90 (rgs EF7.n t7a) (bm 74::lm 17::(84,.btm (.lit true))::apI) [])
 (.cons (rgs EF7.n t7S) (.loop 13 90 90 (rgs EF7.n aW7.tin) bF (SgT.enc (nm 33::bm 74::lm 17::ik 23 0::im 32::im 31::bm 30::apI)) (List.map TB.enc []) (.cons (rgs EF7.n u6) (lf 1 90 90 (rgs EF7.n t7b) (nj 33 37::bm 74::lm 17::ij 32 36::ij 31 35::bj 30 34::apI) [])
 (.cons (rgs EF7.n t7f) (lf 0 90 90 (rgs EF7.n t7a) aU6 [])
 .nil)))
 .nil))))
theorem aiW:aFP=adS:=by kernel_rfl
theorem awF{V:Ren}(p:PA V):adS.Holds (GF7 V) V:=by
 unfold adS;have hβ:=p.n.1;have p20:=p.i20;have p21:=p.i21;refine (fO (lO [] hβ ?_) (N1 [] hβ (by kernel_rfl) (by kernel_rfl) (by kernel_rfl) (by kernel_rfl) (.inl ⟨rfl,rfl⟩) ?_))
 .intro J0 hl0 hA hr0 hid0 hI;simp only[DD]at hA hI;have a0:=hA;obtain⟨_,i17,i84,i22,i21,i20,i16,i73⟩:=hI;rw[ahN p21.1]at a0;exact⟨p.n.of i73 hl0,⟨i73,i16,i17,i20,i21,i22⟩,.inr ⟨Bool.eq_false_iff.2 fun h=>Bool.noConfusion (i84.1 h),awY _ _ _ (Nat.le_refl _) (by have:=aj1 p;omega)⟩⟩
 .intro J0 hl0 hA hr0 hid0 hI;simp only[DD]at hA hI;have a0:=hA;obtain⟨_,i17,i23,i85,i22,i21,i20,i16,i73⟩:=hI;have hn1:Ln J0:=p.n.of i73 hl0;have s0:SmF V J0:=⟨⟨i73,i16,i17,i20,i21,i22⟩,Bool.eq_iff_iff.2 i85⟩
  rw[ahN p21.1]at a0;have hL0:(GF7 V).L 5 J0:=⟨⟨⟨hn1,by omega,by omega,by rw[i17,i20,i21];exact p.le,by omega⟩,by omega,by omega⟩,s0,i23⟩
  refine⟨hL0,(oC ?_ (oC ?_ oN))⟩
  .intro V1 hq1 hO1;obtain⟨hn2,s1,hz⟩:=hO1;have hb1:=hn2.1;refine (lO [] hb1 ?_)
   .intro J1 hl1 hA hr1 hid1 hI;simp only[DD]at hI;obtain⟨_,j17,j84,j22,j21,j20,j16,j73⟩:=hI;have s2:SmD V1 J1:=⟨j73,j16,j17,j20,j21,j22⟩
    exact⟨hn2.of j73 hl1,(s0.1.trans s1.1).trans s2,.inl ⟨j84.2 trivial,by rw[<-aj0 s0.1 i23];exact hz⟩⟩
  .intro V1 hq1 hO1;obtain⟨hn2,s1,hz⟩:=hO1;have hb1:=hn2.1;refine (N1 [] hb1 (by kernel_rfl) (by kernel_rfl) (by kernel_rfl) (by kernel_rfl) (.inr ⟨rfl,rfl⟩) ?_)
   .intro J1 hl1 hA hr1 hid1 hI;simp only[DD]at hI;obtain⟨j33,_,j17,j23,_,j31,_,j22,j21,j20,j16,j73⟩:=hI;have hn3:=hn2.of j73 hl1;have s2:SmD V1 J1:=⟨j73,j16,j17,j20,j21,j22⟩
    have hL1:(GF7 V).L 13 J1:=aN2 (γ:=V) p (by omega) s0 i23 s1 hz s2 hn3 j33 j31 j23;refine⟨hL1,(oC ?_ (oC ?_ oN))⟩
    .intro V2 hq2 hO2;obtain⟨hn4,s3,hy⟩:=hO2;have hb2:=hn4.1;refine (lO [] hb2 ?_)
     .intro J2 hl2 hA hr2 hid2 hI;simp only[DD]at hI;obtain⟨k33,_,k17,k32,k31,_,k22,k21,k20,k16,k73⟩:=hI;have s4:SmD V2 J2:=⟨k73,k16,k17,k20,k21,k22⟩
      obtain⟨cs,y1,y2,y3,y4,y5,y6⟩:=hy;exact⟨hn4.of k73 hl2,(((s0.1.trans s1.1).trans s2).trans s3).trans s4,cs,y1,y2,by unfold O6;unfold O8 at y3;rw[k31,k33];exact y3,by rw[k31];exact y4,by rw[k31,k32];exact y5,by rw[k32,k33];exact y6⟩
    .intro V2 hq2 hO2;obtain⟨hn4,s3,hy⟩:=hO2;have hb2:=hn4.1;refine (lO [] hb2 ?_)
     .intro J2 hl2 hA hr2 hid2 hI;simp only[DD]at hI;obtain⟨_,k17,k84,k22,k21,k20,k16,k73⟩:=hI;have s4:SmD V2 J2:=⟨k73,k16,k17,k20,k21,k22⟩
      exact⟨hn4.of k73 hl2,(((s0.1.trans s1.1).trans s2).trans s3).trans s4,.inr ⟨Bool.eq_false_iff.2 fun h=>Bool.noConfusion (k84.1 h),hy⟩⟩
theorem aZ2{G:Goal}(hCL:∀ V,G.CL 7 V->PA V)(h0:∀ V V1 i,G.CL 7 V->Ln V1->SmD V V1->Z6 (eb (gB V 85)) V V1 i->G.CO 7 i V V1):yT Tryd.prog G 7 sp7:=by
 refine zU (E:=EF7) (Gt:=GF7) (fn:=wK 7) (c:=body 7) (s:=sp7) zQ zS follows (by kernel_rfl) (by kernel_rfl) (by kernel_rfl) (by kernel_rfl) (by kernel_rfl) (by kernel_rfl) ?_ ?_ ?_ ?_ (fun V j i V1 V2 h=>h.1.2) ?_ (fun V f s h=>by cases h)
 .intro e j tp h;rcases h with h|h
  .cases e with
   |normal=>cases h;exact⟨(fun id h=>by cases h),.tuple #[.slice none 0 0,sB (x 84)],by kernel_rfl,_,rfl⟩
   |ret=>cases h;exact⟨(fun id h=>by cases h),.tuple #[.slice none 0 0,sB (x 84)],by kernel_rfl,_,rfl⟩
   |exit id=>cases h
  .cases e with
   |normal=>cases h;exact⟨(fun id h=>by cases h),.tuple #[wF,.bool true],by kernel_rfl,_,rfl⟩
   |ret=>cases h;exact⟨(fun id h=>by cases h),.tuple #[wF,.bool true],by kernel_rfl,_,rfl⟩
   |exit id=>cases h
 .intro V hcl hlen hr;have p:=hCL V hcl;refine⟨p.n.2,[],2000,Facts.nil _,?_⟩;show (aFP).Holds _ V;rw[aiW];exact awF p
 .intro V j v tp sm V1 hcl hout hlen _ hJ;obtain⟨hn,s,z⟩:=hJ;match j,hout with
  |0,hout =>
   cases hout;exact⟨h0 V V1 0 hcl hn s z,K0 s⟩
  |1,hout =>
   cases hout;exact⟨h0 V V1 1 hcl hn s z,K0 s⟩
 .intro V w0 r s c hs hw;rcases hs with hs|hs
  .have hs:lt7 r=some s:=hs;unfold lt7 at hs;split at hs
   .cases hs;have hc:c=acV:=by rcases hw with⟨_,h⟩|⟨h,_⟩;exact h;exact absurd h (by decide)
    subst hc;intro Q b a w hH hF hl hQ;refine xU (acR (gB b 85) b a w hl.1 rfl hH hF ?_ ?_)
    .intro V1 a' w' hn1 s1 hr q1 q2;exact hQ 0 (.exit 0) t7N [] rfl V1 a' w' q1 q2 ⟨hn1,s1,hr⟩
    .intro V1 a' w' hn1 s1 hne ho q1 q2;exact hQ 1 (.exit 0) t7S [] rfl V1 a' w' q1 q2 ⟨hn1,s1,hne,ho⟩
   split at hs
   .cases hs;have hc:c=bF:=by rcases hw with⟨h,_⟩|⟨_,h⟩;exact absurd h (by decide);exact h
    subst hc;intro Q b a w hH hF hl hQ;obtain⟨l1,l2,l3,l4,l5⟩:=hl;refine xU (abL (gB V 85) (A6 V) b a w l1 l4 l5 l3 hH hF ?_ ?_)
    .intro V1 a' w' cs hn1 s1 dc hne ho q1 q2;exact hQ 0 (.exit 2) u6 [] rfl V1 a' w' q1 q2 ⟨hn1,s1.1,cs,dc,hne,ho⟩
    .intro V1 a' w' hn1 s1 hr q1 q2;exact hQ 1 .ret t7f [] rfl V1 a' w' q1 q2 ⟨hn1,s1,hr⟩
   .cases hs
  .cases hs
 .intro V r s hs i e tp B hi V1 V2 _;refine yO ?_;rcases hs with hs|hs
  .have hs:lt7 r=some s:=hs;unfold lt7 at hs;split at hs
   .cases hs;match i,hi with
    |0,hi=>cases hi;rfl
    |1,hi=>cases hi;rfl
   split at hs
   .cases hs;match i,hi with
    |0,hi=>cases hi;rfl
    |1,hi=>cases hi;rfl
   .cases hs
  .cases hs
def aWP:FuncId->Bool:=fun f=>Nat.ble 3 f&&(Nat.ble f 50 && !([3,4,5,6,7,9,12,13,17,21,22,31,42,48,49].contains f))
def abS:yN:=rD Tryd.prog g0 puG aWP o6 1000 8
def EGF(f:Nat)(ct:FuncId->Option CSpec)(rc:Nat->Bool)(bt lt:Nat->Option LSpec)(ft ft2:AExit->Option (Nat × Tpl)):Env:={ EG f ct rc bt lt ft ft2 with call:=abS,orc:=oY Tryd.prog puG g0 abS (ntmps f) }
def nR:Value:=sL 16 (Z 0) (x 18) (x 72)
def t5:Tpl:={ m:=90,F:=[(0,nR)],H:=[(16,vM),(73,xB)],G:=[73] }
def t5o:Tpl:={ m:=90,F:=[(0,nR),(2,I 87 1 3),(3,I 88 0 3)],H:=[(16,vM),(73,xB)],G:=[73] }
def sm5:List (Nat × Nat):=[(16,0),(17,2),(18,1),(72,1),(73,0)]
def sp5:CSpec:={ j:=5,n:=1,tin:=t5,outs:=[(.tuple #[I 87 1 3,I 88 0 3],t5o,sm5)] }
def EF5:Env:=EGF 5 (fun _=>none) (fun _=>false) (fun _=>none) (fun _=>none) (rG t5o 0) (fun _=>none)
def aKC:Tre:=tre EF5 2000 (body 5) [] [] t5.frame t5.heap
def t3:Tpl:={ m:=90,F:=[(0,nR)],H:=[(16,vM),(73,xB)],G:=[73] }
def MkW(T:List UInt8)(e w:Int):Prop:=0<=w/\w<=T.length/\Mk 0 T e (T.drop w.toNat)
theorem amS{T:List UInt8}{n:Nat}{b:List UInt8}{e:Int}(hb:T.take n=b)(hl:b.length=n)(h:(b=[255,254]/\e=2)\/(b=[254,255]/\e=3)\/(b=[239,187,191]/\e=1)):MkW T e n:=by
 have hlen:n<=T.length:=by rw[<-hb,List.length_take]at hl;omega
 refine⟨by omega,by omega,.inr ⟨rfl,b,?_,?_⟩⟩
 .rw[<-hb];exact (List.take_append_drop n T).symm
 .rcases h with h|h|h
  .exact .inl h
  .exact .inr (.inl h)
  .exact .inr (.inr (.inl h))
theorem iP{T p:List UInt8}(h:p <+: T):p.length<=T.length/\∀ k,k<p.length->T.getD k 0=p.getD k 0:=by
 obtain⟨r,rfl⟩:=h;refine⟨by simp,fun k hk=>?_⟩;rw[List.getD_eq_getElem?_getD,List.getD_eq_getElem?_getD,List.getElem?_append_left hk]
theorem avH{T:List UInt8}(h1:¬ (2<=T.length/\T.getD 0 0=255/\T.getD 1 0=254))(h2:¬ (2<=T.length/\T.getD 0 0=254/\T.getD 1 0=255))(h3:¬ (3<=T.length/\T.getD 0 0=239/\T.getD 1 0=187/\T.getD 2 0=191)):MkW T 1 0:=by
 refine⟨by omega,by omega,.inr ⟨rfl,[],rfl,.inr (.inr (.inr ⟨rfl,rfl,fun h=>h1 ?_,fun h=>h2 ?_,fun h=>h3 ?_⟩))⟩⟩
 .obtain⟨a,b⟩:=iP h;exact⟨a,b 0 (by decide),b 1 (by decide)⟩
 .obtain⟨a,b⟩:=iP h;exact⟨a,b 0 (by decide),b 1 (by decide)⟩
 .obtain⟨a,b⟩:=iP h;exact⟨a,b 0 (by decide),b 1 (by decide),b 2 (by decide)⟩
theorem take2{T:List UInt8}{a b:UInt8}(h:2<=T.length)(h0:T.getD 0 0=a)(h1:T.getD 1 0=b):T.take 2=[a,b]:=by
 match T,h with
 |x::y::r,_=>simp at h0 h1;subst h0;subst h1;rfl
theorem take3{T:List UInt8}{a b c:UInt8}(h:3<=T.length)(h0:T.getD 0 0=a)(h1:T.getD 1 0=b)(h2:T.getD 2 0=c):T.take 3=[a,b,c]:=by
 match T,h with
 |x::y::z::r,_=>simp at h0 h1 h2;subst h0;subst h1;subst h2;rfl
structure PB(V:Ren):Prop where
 n:Ln V
 i18:0<=gI V 18/\gI V 18<=2147483647
 l17:gI V 18<=(gL V 17).length
theorem PT.pb{V:Ren}(p:PT V):PB V:=⟨p.n,⟨p.i18.1,by have:=p.i18;omega⟩,p.l17⟩
theorem PB.len{V:Ren}(p:PB V):((T0 V).length:Int)=gI V 18:=by
 have:=p.i18;have:=p.l17;unfold T0;rw[List.length_take];omega
theorem agG{V:Ren}(p:PB V){k:Nat}(h:(k:Int)<gI V 18):(T0 V).getD k 0=(gL V 17).getD k 0:=by
 have:=p.i18;have:=p.l17;unfold T0;simp only[List.getD_eq_getElem?_getD];rw[List.getElem?_take,if_pos (by omega)]
theorem aW5{b:UInt8}{n:Nat}(h:((b.toNat:Nat):Int)=n)(hn:n<256):b=UInt8.ofNat n:=by
 apply UInt8.toNat_inj.1;rw[UInt8.toNat_ofNat',Nat.mod_eq_of_lt hn];omega
def Prs(v:Int):Prop:=Prn v/\v≠65279
abbrev tb(V:Ren)(k:Int):Int:=(((gL V 17).getD (Int.toNat k) 0).toNat:Int)
theorem jM{V:Ren}(p:PB V){k n:Nat}(hk:(k:Int)<gI V 18)(hn:n<256)(h:tb V k=n):(T0 V).getD k 0=UInt8.ofNat n:=by
 rw[agG p hk];exact aW5 h hn
theorem iW{V:Ren}(p:PB V){k n:Nat}(hk:(k:Int)<gI V 18)(hn:n<256)(h:(T0 V).getD k 0=UInt8.ofNat n):tb V k=n:=by
 rw[agG p hk]at h;show ((((gL V 17).getD k 0).toNat:Nat):Int)=n;rw[h,UInt8.toNat_ofNat',Nat.mod_eq_of_lt hn]
theorem aY4{V:Ren}(p:PB V)(h:¬ gI V 18<2)(h0:tb V 0=255)(h1:tb V 1=254):MkW (T0 V) 2 2:=by
 have hl:=PB.len p;exact amS (n:=2) (take2 (by omega) (jM p (k:=0) (n:=255) (by omega) (by decide) h0) (jM p (k:=1) (n:=254) (by omega) (by decide) h1)) rfl (.inl ⟨rfl,rfl⟩)
theorem a0B{V:Ren}(p:PB V)(h:¬ gI V 18<2)(h0:tb V 0=254)(h1:tb V 1=255):MkW (T0 V) 3 2:=by
 have hl:=PB.len p;exact amS (n:=2) (take2 (by omega) (jM p (k:=0) (n:=254) (by omega) (by decide) h0) (jM p (k:=1) (n:=255) (by omega) (by decide) h1)) rfl (.inr (.inl ⟨rfl,rfl⟩))
theorem aY2{V:Ren}(p:PB V)(h:¬ gI V 18<3)(h0:tb V 0=239)(h1:tb V 1=187)(h2:tb V 2=191):MkW (T0 V) 1 3:=by
 have hl:=PB.len p;exact amS (n:=3) (take3 (by omega) (jM p (k:=0) (n:=239) (by omega) (by decide) h0) (jM p (k:=1) (n:=187) (by omega) (by decide) h1) (jM p (k:=2) (n:=191) (by omega) (by decide) h2)) rfl (.inr (.inr ⟨rfl,rfl⟩))
theorem aZU{V:Ren}(p:PB V)(h1:¬ ((¬ gI V 18<2/\tb V 0=255)/\tb V 1=254))(h2:¬ ((¬ gI V 18<2/\tb V 0=254)/\tb V 1=255))(h3:¬ (((¬ gI V 18<3/\tb V 0=239)/\tb V 1=187)/\tb V 2=191)):MkW (T0 V) 1 0:=by
 have hl:=PB.len p;refine avH ?_ ?_ ?_
 .rintro⟨a,b,c⟩;exact h1 ⟨⟨by omega,iW p (k:=0) (n:=255) (by omega) (by decide) b⟩,iW p (k:=1) (n:=254) (by omega) (by decide) c⟩
 .rintro⟨a,b,c⟩;exact h2 ⟨⟨by omega,iW p (k:=0) (n:=254) (by omega) (by decide) b⟩,iW p (k:=1) (n:=255) (by omega) (by decide) c⟩
 .rintro⟨a,b,c,d⟩;exact h3 ⟨⟨⟨by omega,iW p (k:=0) (n:=239) (by omega) (by decide) b⟩,iW p (k:=1) (n:=187) (by omega) (by decide) c⟩,iW p (k:=2) (n:=191) (by omega) (by decide) d⟩
def SmT(V γ:Ren):Prop:=γ[73]?=V[73]?/\γ[16]?=V[16]?/\gL γ 17=gL V 17/\gI γ 18=gI V 18/\gI γ 72=gI V 72
def GF5(V:Ren):Goal where
 J:=fun _ γ=>Ln γ/\SmT V γ/\MkW (T0 V) (gI γ 87) (gI γ 88)
 L:=fun _ _=>False
 O:=fun _ _ _ _=>False
 W:=fun _ _=>False
end U
