-- the statement of this claim: see YtoamgocecoiggaaDoorRs
import Derived.Test.YtoamgocecoiggaaDoorM38
set_option linter.unusedVariables false
set_option linter.unusedSimpArgs false
set_option maxRecDepth 100000
noncomputable section
open Go Go.SM Go.Proofs
namespace U
set_option maxHeartbeats 4000000
theorem asD{cs steps:List Int}{ow:List UInt8}{n i:Nat}{V:Ren}(q:LQ cs steps ow n i true false V):aI.Holds (G4L cs steps ow n i true false V) V:=by
 unfold aI;have hβ:=q.ln.1;have q36:=q.i36;have q14:=q.i14;have q86:=q.i86;have q77:=q.i77;have q45:=q.i45;have q78:=q.i78;obtain⟨qa,qb,qc,qd⟩:=q.le;have c31:=q.ch.l;have c32:=q.ch.c;have c33:=q.ch.d;have h89:3*n<=(gN V 89).length:=by have:=congrArg List.length q.n89;rw[List.length_take,qC]at this;omega
 have h85:steps.length<=(gN V 85).length:=by have:=congrArg List.length q.n85;rw[List.length_take]at this;omega
 have sb:=eH (cs:=cs) (steps:=steps) i (fun j hj=>q.lt j (by omega));have sb1:=sb.a;have sb2:=sb.lc;have sb3:=sb.w;refine (fO (nO hβ ?_ (fO (lG [] hβ ?_) (nO hβ ?_ (nO hβ ?_ (nO hβ ?_ (fO (fO (fO (lG [] hβ ?_) (nO hβ ?_ (nO hβ ?_ (nO hβ ?_ (lG [] hβ ?_))))) (fO (lG [] hβ ?_) (nO hβ ?_ (nO hβ ?_ (nO hβ ?_ (lG [] hβ ?_)))))) (fO (fO (lG [] hβ ?_) (nO hβ ?_ (lG [] hβ ?_))) (fO (fO (fO (lG [] hβ ?_) (nO hβ ?_ (nO hβ ?_ (nO hβ ?_ (lG [] hβ ?_))))) (fO (lG [] hβ ?_) (nO hβ ?_ (nO hβ ?_ (nO hβ ?_ (lG [] hβ ?_)))))) (fO (fO (lG [] hβ ?_) (nO hβ ?_ (nO hβ ?_ (nO hβ ?_ (lG [] hβ ?_))))) (fO (lG [] hβ ?_) (nO hβ ?_ (nO hβ ?_ (nO hβ ?_ (lG [] hβ ?_)))))))))))))) (lO [] hβ ?_))
 .intro hA;simp only[DD]at hA ⊢;first|omega|(obtain⟨f1,f2,f3,f4,f5,f6,f7,f8,f9,f10⟩:=zN q (by omega);unfold zM at f8;omega)
 .intro δ0 J0 hl0 hA hr0 hid0 hI;simp +decide only[DD,aL hβ]at hA hI;exfalso;obtain⟨f1,f2,f3,f4,f5,f6,f7,f8,f9,f10⟩:=zN q (by omega);unfold zM at f8;omega
 .intro hA;simp only[DD]at hA ⊢;first|omega|(obtain⟨f1,f2,f3,f4,f5,f6,f7,f8,f9,f10⟩:=zN q (by omega);unfold zM at f8;omega)
 .intro hA;simp only[DD]at hA ⊢;first|omega|(obtain⟨f1,f2,f3,f4,f5,f6,f7,f8,f9,f10⟩:=zN q (by omega);unfold zM at f8;omega)
 .intro hA;simp only[DD]at hA ⊢;first|omega|(obtain⟨f1,f2,f3,f4,f5,f6,f7,f8,f9,f10⟩:=zN q (by omega);unfold zM at f8;omega)
 .intro δ0 J0 hl0 hA hr0 hid0 hI;simp +decide only[DD,aL hβ]at hA hI;exfalso;obtain⟨f1,f2,f3,f4,f5,f6,f7,f8,f9,f10⟩:=zN q (by omega);unfold zM at f8;omega
 .intro hA;simp only[DD]at hA ⊢;first|omega|(obtain⟨f1,f2,f3,f4,f5,f6,f7,f8,f9,f10⟩:=zN q (by omega);unfold zM at f8;omega)
 .intro hA;simp only[DD]at hA ⊢;first|omega|(obtain⟨f1,f2,f3,f4,f5,f6,f7,f8,f9,f10⟩:=zN q (by omega);unfold zM at f8;omega)
 .intro hA;simp only[DD]at hA ⊢;first|omega|(obtain⟨f1,f2,f3,f4,f5,f6,f7,f8,f9,f10⟩:=zN q (by omega);unfold zM at f8;omega)
 .intro δ0 J0 hl0 hA hr0 hid0 hI;simp +decide only[DD,aL hβ]at hA hI;obtain⟨i37,i82,_,i89,i33,i85,i36,_,_,_,i38,i35,_,i14,_,i81,i80,_,i32,i31,_,_,i86,_,i73⟩:=hI;obtain⟨f1,f2,f3,f4,f5,f6,f7,f8,f9,f10⟩:=zN q (by omega);have f8':=f8;unfold zM at f8';have kq:Kq true V J0:=⟨i73,i33,i31,i32,i14,i89,i86,i85,fun _=>⟨i82,i80,i81⟩⟩
  have ew:(sts cs steps (i+1)).w=(sts cs steps i).w++[cs.getD (sts cs steps i).a 0]:=gG (by omega);have wn:WN (sts cs steps (i+1)).w J0:=by rw[ew,yU q.wn];exact ad6 (by rw[<-f2];exact i37) i35 i38
  exact xP q (by omega) hl0 kq i36 (by omega) (by omega) (by omega) (xQ ⟨wn,by rw[ew];simp⟩)
 .intro δ0 J0 hl0 hA hr0 hid0 hI;simp +decide only[DD,aL hβ]at hA hI;exfalso;obtain⟨f1,f2,f3,f4,f5,f6,f7,f8,f9,f10⟩:=zN q (by omega);unfold zM at f8;omega
 .intro hA;simp only[DD]at hA ⊢;first|omega|(obtain⟨f1,f2,f3,f4,f5,f6,f7,f8,f9,f10⟩:=zN q (by omega);unfold zM at f8;omega)
 .intro hA;simp only[DD]at hA ⊢;first|omega|(obtain⟨f1,f2,f3,f4,f5,f6,f7,f8,f9,f10⟩:=zN q (by omega);unfold zM at f8;omega)
 .intro hA;simp only[DD]at hA ⊢;first|omega|(obtain⟨f1,f2,f3,f4,f5,f6,f7,f8,f9,f10⟩:=zN q (by omega);unfold zM at f8;omega)
 .intro δ0 J0 hl0 hA hr0 hid0 hI;simp +decide only[DD,aL hβ]at hA hI;obtain⟨i82,_,i89,i33,i85,i36,_,_,_,_,i14,_,i81,i80,_,i32,i31,_,_,i86,_,i73⟩:=hI;obtain⟨f1,f2,f3,f4,f5,f6,f7,f8,f9,f10⟩:=zN q (by omega);have f8':=f8;unfold zM at f8';have kq:Kq true V J0:=⟨i73,i33,i31,i32,i14,i89,i86,i85,fun _=>⟨i82,i80,i81⟩⟩
  have ew:(sts cs steps (i+1)).w=(sts cs steps i).w:=vT (by omega) (by omega);exact xP q (by omega) hl0 kq i36 (by omega) (by omega) (by omega) (vV (by rw[ew];exact yU q.wn))
 .intro δ0 J0 hl0 hA hr0 hid0 hI;simp +decide only[DD,aL hβ]at hA hI;exfalso;obtain⟨f1,f2,f3,f4,f5,f6,f7,f8,f9,f10⟩:=zN q (by omega);unfold zM at f8;omega
 .intro hA;simp only[DD]at hA ⊢;first|omega|(obtain⟨f1,f2,f3,f4,f5,f6,f7,f8,f9,f10⟩:=zN q (by omega);unfold zM at f8;omega)
 .intro δ0 J0 hl0 hA hr0 hid0 hI;simp +decide only[DD,aL hβ]at hA hI;obtain⟨i82,_,i89,i33,i85,i36,_,_,_,_,i14,_,i81,i80,_,i32,i31,_,_,i86,_,i73⟩:=hI;obtain⟨f1,f2,f3,f4,f5,f6,f7,f8,f9,f10⟩:=zN q (by omega);have f8':=f8;unfold zM at f8';have kq:Kq true V J0:=⟨i73,i33,i31,i32,i14,i89,i86,i85,fun _=>⟨i82,i80,i81⟩⟩
  have ew:(sts cs steps (i+1)).w=(sts cs steps i).w:=vT (by omega) (by omega);exact xP q (by omega) hl0 kq i36 (by omega) (by omega) (by omega) (vV (by rw[ew];exact yU q.wn))
 .intro δ0 J0 hl0 hA hr0 hid0 hI;simp +decide only[DD,aL hβ]at hA hI;exfalso;obtain⟨f1,f2,f3,f4,f5,f6,f7,f8,f9,f10⟩:=zN q (by omega);unfold zM at f8;omega
 .intro hA;simp only[DD]at hA ⊢;first|omega|(obtain⟨f1,f2,f3,f4,f5,f6,f7,f8,f9,f10⟩:=zN q (by omega);unfold zM at f8;omega)
 .intro hA;simp only[DD]at hA ⊢;first|omega|(obtain⟨f1,f2,f3,f4,f5,f6,f7,f8,f9,f10⟩:=zN q (by omega);unfold zM at f8;omega)
 .intro hA;simp only[DD]at hA ⊢;first|omega|(obtain⟨f1,f2,f3,f4,f5,f6,f7,f8,f9,f10⟩:=zN q (by omega);unfold zM at f8;omega)
 .intro δ0 J0 hl0 hA hr0 hid0 hI;simp +decide only[DD,aL hβ]at hA hI;obtain⟨i37,i82,_,i89,i33,i85,i36,_,_,_,i38,i35,_,i14,_,i81,i80,_,i32,i31,_,_,i86,_,i73⟩:=hI;obtain⟨f1,f2,f3,f4,f5,f6,f7,f8,f9,f10⟩:=zN q (by omega);have f8':=f8;unfold zM at f8';have kq:Kq true V J0:=⟨i73,i33,i31,i32,i14,i89,i86,i85,fun _=>⟨i82,i80,i81⟩⟩
  have ew:(sts cs steps (i+1)).w=(sts cs steps i).w++[10]:=pH (by omega) (by omega);have wn:WN (sts cs steps (i+1)).w J0:=by rw[ew,yU q.wn];exact ad6 i37 i35 i38
  exact xP q (by omega) hl0 kq i36 (by omega) (by omega) (by omega) (xQ ⟨wn,by rw[ew];simp⟩)
 .intro δ0 J0 hl0 hA hr0 hid0 hI;simp +decide only[DD,aL hβ]at hA hI;exfalso;obtain⟨f1,f2,f3,f4,f5,f6,f7,f8,f9,f10⟩:=zN q (by omega);unfold zM at f8;omega
 .intro hA;simp only[DD]at hA ⊢;first|omega|(obtain⟨f1,f2,f3,f4,f5,f6,f7,f8,f9,f10⟩:=zN q (by omega);unfold zM at f8;omega)
 .intro hA;simp only[DD]at hA ⊢;first|omega|(obtain⟨f1,f2,f3,f4,f5,f6,f7,f8,f9,f10⟩:=zN q (by omega);unfold zM at f8;omega)
 .intro hA;simp only[DD]at hA ⊢;first|omega|(obtain⟨f1,f2,f3,f4,f5,f6,f7,f8,f9,f10⟩:=zN q (by omega);unfold zM at f8;omega)
 .intro δ0 J0 hl0 hA hr0 hid0 hI;simp +decide only[DD,aL hβ]at hA hI;obtain⟨i37,i82,_,i89,i33,i85,i36,_,_,_,i38,i35,_,i14,_,i81,i80,_,i32,i31,_,_,i86,_,i73⟩:=hI;obtain⟨f1,f2,f3,f4,f5,f6,f7,f8,f9,f10⟩:=zN q (by omega);have f8':=f8;unfold zM at f8';have kq:Kq true V J0:=⟨i73,i33,i31,i32,i14,i89,i86,i85,fun _=>⟨i82,i80,i81⟩⟩
  have ew:(sts cs steps (i+1)).w=(sts cs steps i).w++[10]:=pH (by omega) (by omega);have wn:WN (sts cs steps (i+1)).w J0:=by rw[ew,yU q.wn];exact ad6 i37 i35 i38
  exact xP q (by omega) hl0 kq i36 (by omega) (by omega) (by omega) (xQ ⟨wn,by rw[ew];simp⟩)
 .intro δ0 J0 hl0 hA hr0 hid0 hI;simp +decide only[DD,aL hβ]at hA hI;exfalso;obtain⟨f1,f2,f3,f4,f5,f6,f7,f8,f9,f10⟩:=zN q (by omega);unfold zM at f8;omega
 .intro hA;simp only[DD]at hA ⊢;first|omega|(obtain⟨f1,f2,f3,f4,f5,f6,f7,f8,f9,f10⟩:=zN q (by omega);unfold zM at f8;omega)
 .intro hA;simp only[DD]at hA ⊢;first|omega|(obtain⟨f1,f2,f3,f4,f5,f6,f7,f8,f9,f10⟩:=zN q (by omega);unfold zM at f8;omega)
 .intro hA;simp only[DD]at hA ⊢;first|omega|(obtain⟨f1,f2,f3,f4,f5,f6,f7,f8,f9,f10⟩:=zN q (by omega);unfold zM at f8;omega)
 .intro δ0 J0 hl0 hA hr0 hid0 hI;simp +decide only[DD,aL hβ]at hA hI;obtain⟨i82,_,i89,i33,i85,i36,_,_,_,_,i14,_,i81,i80,_,i32,i31,_,_,i86,_,i73⟩:=hI;obtain⟨f1,f2,f3,f4,f5,f6,f7,f8,f9,f10⟩:=zN q (by omega);have f8':=f8;unfold zM at f8';have kq:Kq true V J0:=⟨i73,i33,i31,i32,i14,i89,i86,i85,fun _=>⟨i82,i80,i81⟩⟩
  have ew:(sts cs steps (i+1)).w=(sts cs steps i).w:=vT (by omega) (by omega);exact xP q (by omega) hl0 kq i36 (by omega) (by omega) (by omega) (vV (by rw[ew];exact yU q.wn))
 .intro δ0 J0 hl0 hA hr0 hid0 hI;simp +decide only[DD,aL hβ]at hA hI;exfalso;obtain⟨f1,f2,f3,f4,f5,f6,f7,f8,f9,f10⟩:=zN q (by omega);unfold zM at f8;omega
 .intro hA;simp only[DD]at hA ⊢;first|omega|(obtain⟨f1,f2,f3,f4,f5,f6,f7,f8,f9,f10⟩:=zN q (by omega);unfold zM at f8;omega)
 .intro hA;simp only[DD]at hA ⊢;first|omega|(obtain⟨f1,f2,f3,f4,f5,f6,f7,f8,f9,f10⟩:=zN q (by omega);unfold zM at f8;omega)
 .intro hA;simp only[DD]at hA ⊢;first|omega|(obtain⟨f1,f2,f3,f4,f5,f6,f7,f8,f9,f10⟩:=zN q (by omega);unfold zM at f8;omega)
 .intro δ0 J0 hl0 hA hr0 hid0 hI;simp +decide only[DD,aL hβ]at hA hI;obtain⟨i82,_,i89,i33,i85,i36,_,_,_,_,i14,_,i81,i80,_,i32,i31,_,_,i86,_,i73⟩:=hI;obtain⟨f1,f2,f3,f4,f5,f6,f7,f8,f9,f10⟩:=zN q (by omega);have f8':=f8;unfold zM at f8';have kq:Kq true V J0:=⟨i73,i33,i31,i32,i14,i89,i86,i85,fun _=>⟨i82,i80,i81⟩⟩
  have ew:(sts cs steps (i+1)).w=(sts cs steps i).w:=vT (by omega) (by omega);exact xP q (by omega) hl0 kq i36 (by omega) (by omega) (by omega) (vV (by rw[ew];exact yU q.wn))
 .intro J0 hl0 hA hr0 hid0 hI;simp only[DD]at hA hI;obtain⟨i82,_,i89,i33,i85,_,_,i77,_,i14,_,i81,i80,_,i32,i31,_,_,i86,_,i73⟩:=hI;have kq:Kq true V J0:=⟨i73,i33,i31,i32,i14,i89,i86,i85,fun _=>⟨i82,i80,i81⟩⟩
  have e:n=i:=by omega
  exact⟨q.ln.of i73 hl0,q.ch.kq kq,by rw[i14];exact q.i14,by rw[i86];exact q.i86,by rw[i77,e];exact q.i77,q.lt,by rw[e];exact q.wn,fun ho=>(q.out ho).cong i82 i80 i81⟩
set_option maxHeartbeats 4000000
theorem ajX{cs steps:List Int}{ow:List UInt8}{n i:Nat}{V:Ren}(q:LQ cs steps ow n i true true V):D7.Holds (G4L cs steps ow n i true true V) V:=by
 unfold D7;have hβ:=q.ln.1;have q36:=q.i36;have q14:=q.i14;have q86:=q.i86;have q77:=q.i77;have q45:=q.i45;have q78:=q.i78;obtain⟨qa,qb,qc,qd⟩:=q.le;have c31:=q.ch.l;have c32:=q.ch.c;have c33:=q.ch.d;have h89:3*n<=(gN V 89).length:=by have:=congrArg List.length q.n89;rw[List.length_take,qC]at this;omega
 have h85:steps.length<=(gN V 85).length:=by have:=congrArg List.length q.n85;rw[List.length_take]at this;omega
 have sb:=eH (cs:=cs) (steps:=steps) i (fun j hj=>q.lt j (by omega));have sb1:=sb.a;have sb2:=sb.lc;have sb3:=sb.w;obtain⟨⟨w1,w2,w3,w4⟩,w5⟩:=zP q.wn;have w6:(List.drop (Int.toNat 0) (List.take (gI V 35).toNat (gN V 37))).length=(sts cs steps i).w.length:=by rw[show (gI V 35).toNat=(sts cs steps i).w.length from by omega,w1];rfl
 refine (fO (nO hβ ?_ (fO (lG [] hβ ?_) (nO hβ ?_ (nO hβ ?_ (nO hβ ?_ (fO (fO (nO hβ ?_ (nO hβ ?_ (fO (lG [] hβ ?_) (nO hβ ?_ (nO hβ ?_ (nO hβ ?_ (lG [] hβ ?_))))))) (fO (lG [] hβ ?_) (nO hβ ?_ (nO hβ ?_ (nO hβ ?_ (lG [] hβ ?_)))))) (fO (fO (lG [] hβ ?_) (nO hβ ?_ (lG [] hβ ?_))) (fO (nO hβ ?_ (nO hβ ?_ (fO (fO (lG [] hβ ?_) (nO hβ ?_ (nO hβ ?_ (nO hβ ?_ (lG [] hβ ?_))))) (fO (lG [] hβ ?_) (nO hβ ?_ (nO hβ ?_ (nO hβ ?_ (lG [] hβ ?_)))))))) (fO (fO (lG [] hβ ?_) (nO hβ ?_ (nO hβ ?_ (nO hβ ?_ (lG [] hβ ?_))))) (fO (lG [] hβ ?_) (nO hβ ?_ (nO hβ ?_ (nO hβ ?_ (lG [] hβ ?_)))))))))))))) (lO [] hβ ?_))
 .intro hA;simp only[DD]at hA ⊢;first|omega|(obtain⟨f1,f2,f3,f4,f5,f6,f7,f8,f9,f10⟩:=zN q (by omega);unfold zM at f8;omega)
 .intro δ0 J0 hl0 hA hr0 hid0 hI;simp +decide only[DD,aL hβ]at hA hI;exfalso;obtain⟨f1,f2,f3,f4,f5,f6,f7,f8,f9,f10⟩:=zN q (by omega);unfold zM at f8;omega
 .intro hA;simp only[DD]at hA ⊢;first|omega|(obtain⟨f1,f2,f3,f4,f5,f6,f7,f8,f9,f10⟩:=zN q (by omega);unfold zM at f8;omega)
 .intro hA;simp only[DD]at hA ⊢;first|omega|(obtain⟨f1,f2,f3,f4,f5,f6,f7,f8,f9,f10⟩:=zN q (by omega);unfold zM at f8;omega)
 .intro hA;simp only[DD]at hA ⊢;first|omega|(obtain⟨f1,f2,f3,f4,f5,f6,f7,f8,f9,f10⟩:=zN q (by omega);unfold zM at f8;omega)
 .intro hA;simp only[DD]at hA ⊢;first|omega|(obtain⟨f1,f2,f3,f4,f5,f6,f7,f8,f9,f10⟩:=zN q (by omega);unfold zM at f8;omega)
 .intro hA;simp only[DD]at hA ⊢;first|omega|(obtain⟨f1,f2,f3,f4,f5,f6,f7,f8,f9,f10⟩:=zN q (by omega);unfold zM at f8;omega)
 .intro δ0 J0 hl0 hA hr0 hid0 hI;simp +decide only[DD,aL hβ]at hA hI;exfalso;obtain⟨f1,f2,f3,f4,f5,f6,f7,f8,f9,f10⟩:=zN q (by omega);unfold zM at f8;omega
 .intro hA;simp only[DD]at hA ⊢;first|omega|(obtain⟨f1,f2,f3,f4,f5,f6,f7,f8,f9,f10⟩:=zN q (by omega);unfold zM at f8;omega)
 .intro hA;simp only[DD]at hA ⊢;first|omega|(obtain⟨f1,f2,f3,f4,f5,f6,f7,f8,f9,f10⟩:=zN q (by omega);unfold zM at f8;omega)
 .intro hA;simp only[DD]at hA ⊢;first|omega|(obtain⟨f1,f2,f3,f4,f5,f6,f7,f8,f9,f10⟩:=zN q (by omega);unfold zM at f8;omega)
 .intro δ0 J0 hl0 hA hr0 hid0 hI;simp +decide only[DD,aL hβ]at hA hI;obtain⟨i37,i82,_,i89,i33,i85,i36,_,_,_,i38,i35,_,i14,_,i81,i80,_,i32,i31,_,_,i86,_,i73⟩:=hI;obtain⟨f1,f2,f3,f4,f5,f6,f7,f8,f9,f10⟩:=zN q (by omega);have f8':=f8;unfold zM at f8';have kq:Kq true V J0:=⟨i73,i33,i31,i32,i14,i89,i86,i85,fun _=>⟨i82,i80,i81⟩⟩
  have ew:(sts cs steps (i+1)).w=(sts cs steps i).w++[cs.getD (sts cs steps i).a 0]:=gG (by omega);have wn:WN (sts cs steps (i+1)).w J0:=by rw[ew];exact abR (zP q.wn).1 (by rw[<-f2];exact i37) i35 i38
  exact xP q (by omega) hl0 kq i36 (by omega) (by omega) (by omega) (xQ ⟨wn,by rw[ew];simp⟩)
 .intro δ0 J0 hl0 hA hr0 hid0 hI;simp +decide only[DD,aL hβ]at hA hI;exfalso;obtain⟨f1,f2,f3,f4,f5,f6,f7,f8,f9,f10⟩:=zN q (by omega);unfold zM at f8;omega
 .intro hA;simp only[DD]at hA ⊢;first|omega|(obtain⟨f1,f2,f3,f4,f5,f6,f7,f8,f9,f10⟩:=zN q (by omega);unfold zM at f8;omega)
 .intro hA;simp only[DD]at hA ⊢;first|omega|(obtain⟨f1,f2,f3,f4,f5,f6,f7,f8,f9,f10⟩:=zN q (by omega);unfold zM at f8;omega)
 .intro hA;simp only[DD]at hA ⊢;first|omega|(obtain⟨f1,f2,f3,f4,f5,f6,f7,f8,f9,f10⟩:=zN q (by omega);unfold zM at f8;omega)
 .intro δ0 J0 hl0 hA hr0 hid0 hI;simp +decide only[DD,aL hβ]at hA hI;obtain⟨i37,i82,_,i89,i33,i85,i36,_,_,_,i38,i35,_,_,i14,_,i81,i80,_,i32,i31,_,_,i86,_,i73⟩:=hI;obtain⟨f1,f2,f3,f4,f5,f6,f7,f8,f9,f10⟩:=zN q (by omega);have f8':=f8;unfold zM at f8';have kq:Kq true V J0:=⟨i73,i33,i31,i32,i14,i89,i86,i85,fun _=>⟨i82,i80,i81⟩⟩
  have ew:(sts cs steps (i+1)).w=(sts cs steps i).w:=vT (by omega) (by omega);exact xP q (by omega) hl0 kq i36 (by omega) (by omega) (by omega) (xQ ⟨nT (zP q.wn).1 ew i37 i35 i38,by rw[ew];exact (zP q.wn).2⟩)
 .intro δ0 J0 hl0 hA hr0 hid0 hI;simp +decide only[DD,aL hβ]at hA hI;exfalso;obtain⟨f1,f2,f3,f4,f5,f6,f7,f8,f9,f10⟩:=zN q (by omega);unfold zM at f8;omega
 .intro hA;simp only[DD]at hA ⊢;first|omega|(obtain⟨f1,f2,f3,f4,f5,f6,f7,f8,f9,f10⟩:=zN q (by omega);unfold zM at f8;omega)
 .intro δ0 J0 hl0 hA hr0 hid0 hI;simp +decide only[DD,aL hβ]at hA hI;obtain⟨i37,i82,_,i89,i33,i85,i36,_,_,_,i38,i35,_,_,i14,_,i81,i80,_,i32,i31,_,_,i86,_,i73⟩:=hI;obtain⟨f1,f2,f3,f4,f5,f6,f7,f8,f9,f10⟩:=zN q (by omega);have f8':=f8;unfold zM at f8';have kq:Kq true V J0:=⟨i73,i33,i31,i32,i14,i89,i86,i85,fun _=>⟨i82,i80,i81⟩⟩
  have ew:(sts cs steps (i+1)).w=(sts cs steps i).w:=vT (by omega) (by omega);exact xP q (by omega) hl0 kq i36 (by omega) (by omega) (by omega) (xQ ⟨nT (zP q.wn).1 ew i37 i35 i38,by rw[ew];exact (zP q.wn).2⟩)
 .intro hA;simp only[DD]at hA ⊢;first|omega|(obtain⟨f1,f2,f3,f4,f5,f6,f7,f8,f9,f10⟩:=zN q (by omega);unfold zM at f8;omega)
 .intro hA;simp only[DD]at hA ⊢;first|omega|(obtain⟨f1,f2,f3,f4,f5,f6,f7,f8,f9,f10⟩:=zN q (by omega);unfold zM at f8;omega)
 .intro δ0 J0 hl0 hA hr0 hid0 hI;simp +decide only[DD,aL hβ]at hA hI;exfalso;obtain⟨f1,f2,f3,f4,f5,f6,f7,f8,f9,f10⟩:=zN q (by omega);unfold zM at f8;omega
 .intro hA;simp only[DD]at hA ⊢;first|omega|(obtain⟨f1,f2,f3,f4,f5,f6,f7,f8,f9,f10⟩:=zN q (by omega);unfold zM at f8;omega)
 .intro hA;simp only[DD]at hA ⊢;first|omega|(obtain⟨f1,f2,f3,f4,f5,f6,f7,f8,f9,f10⟩:=zN q (by omega);unfold zM at f8;omega)
 .intro hA;simp only[DD]at hA ⊢;first|omega|(obtain⟨f1,f2,f3,f4,f5,f6,f7,f8,f9,f10⟩:=zN q (by omega);unfold zM at f8;omega)
 .intro δ0 J0 hl0 hA hr0 hid0 hI;simp +decide only[DD,aL hβ]at hA hI;obtain⟨i37,i82,_,i89,i33,i85,i36,_,_,_,i38,i35,_,i14,_,i81,i80,_,i32,i31,_,_,i86,_,i73⟩:=hI;obtain⟨f1,f2,f3,f4,f5,f6,f7,f8,f9,f10⟩:=zN q (by omega);have f8':=f8;unfold zM at f8';have kq:Kq true V J0:=⟨i73,i33,i31,i32,i14,i89,i86,i85,fun _=>⟨i82,i80,i81⟩⟩
  have ew:(sts cs steps (i+1)).w=(sts cs steps i).w++[10]:=pH (by omega) (by omega);have wn:WN (sts cs steps (i+1)).w J0:=by rw[ew];exact abR (zP q.wn).1 i37 i35 i38
  exact xP q (by omega) hl0 kq i36 (by omega) (by omega) (by omega) (xQ ⟨wn,by rw[ew];simp⟩)
 .intro δ0 J0 hl0 hA hr0 hid0 hI;simp +decide only[DD,aL hβ]at hA hI;exfalso;obtain⟨f1,f2,f3,f4,f5,f6,f7,f8,f9,f10⟩:=zN q (by omega);unfold zM at f8;omega
 .intro hA;simp only[DD]at hA ⊢;first|omega|(obtain⟨f1,f2,f3,f4,f5,f6,f7,f8,f9,f10⟩:=zN q (by omega);unfold zM at f8;omega)
 .intro hA;simp only[DD]at hA ⊢;first|omega|(obtain⟨f1,f2,f3,f4,f5,f6,f7,f8,f9,f10⟩:=zN q (by omega);unfold zM at f8;omega)
 .intro hA;simp only[DD]at hA ⊢;first|omega|(obtain⟨f1,f2,f3,f4,f5,f6,f7,f8,f9,f10⟩:=zN q (by omega);unfold zM at f8;omega)
 .intro δ0 J0 hl0 hA hr0 hid0 hI;simp +decide only[DD,aL hβ]at hA hI;obtain⟨i37,i82,_,i89,i33,i85,i36,_,_,_,i38,i35,_,i14,_,i81,i80,_,i32,i31,_,_,i86,_,i73⟩:=hI;obtain⟨f1,f2,f3,f4,f5,f6,f7,f8,f9,f10⟩:=zN q (by omega);have f8':=f8;unfold zM at f8';have kq:Kq true V J0:=⟨i73,i33,i31,i32,i14,i89,i86,i85,fun _=>⟨i82,i80,i81⟩⟩
  have ew:(sts cs steps (i+1)).w=(sts cs steps i).w++[10]:=pH (by omega) (by omega);have wn:WN (sts cs steps (i+1)).w J0:=by rw[ew];exact abR (zP q.wn).1 i37 i35 i38
  exact xP q (by omega) hl0 kq i36 (by omega) (by omega) (by omega) (xQ ⟨wn,by rw[ew];simp⟩)
 .intro δ0 J0 hl0 hA hr0 hid0 hI;simp +decide only[DD,aL hβ]at hA hI;exfalso;obtain⟨f1,f2,f3,f4,f5,f6,f7,f8,f9,f10⟩:=zN q (by omega);unfold zM at f8;omega
 .intro hA;simp only[DD]at hA ⊢;first|omega|(obtain⟨f1,f2,f3,f4,f5,f6,f7,f8,f9,f10⟩:=zN q (by omega);unfold zM at f8;omega)
 .intro hA;simp only[DD]at hA ⊢;first|omega|(obtain⟨f1,f2,f3,f4,f5,f6,f7,f8,f9,f10⟩:=zN q (by omega);unfold zM at f8;omega)
 .intro hA;simp only[DD]at hA ⊢;first|omega|(obtain⟨f1,f2,f3,f4,f5,f6,f7,f8,f9,f10⟩:=zN q (by omega);unfold zM at f8;omega)
 .intro δ0 J0 hl0 hA hr0 hid0 hI;simp +decide only[DD,aL hβ]at hA hI;obtain⟨i37,i82,_,i89,i33,i85,i36,_,_,_,i38,i35,_,_,i14,_,i81,i80,_,i32,i31,_,_,i86,_,i73⟩:=hI;obtain⟨f1,f2,f3,f4,f5,f6,f7,f8,f9,f10⟩:=zN q (by omega);have f8':=f8;unfold zM at f8';have kq:Kq true V J0:=⟨i73,i33,i31,i32,i14,i89,i86,i85,fun _=>⟨i82,i80,i81⟩⟩
  have ew:(sts cs steps (i+1)).w=(sts cs steps i).w:=vT (by omega) (by omega);exact xP q (by omega) hl0 kq i36 (by omega) (by omega) (by omega) (xQ ⟨nT (zP q.wn).1 ew i37 i35 i38,by rw[ew];exact (zP q.wn).2⟩)
 .intro δ0 J0 hl0 hA hr0 hid0 hI;simp +decide only[DD,aL hβ]at hA hI;exfalso;obtain⟨f1,f2,f3,f4,f5,f6,f7,f8,f9,f10⟩:=zN q (by omega);unfold zM at f8;omega
 .intro hA;simp only[DD]at hA ⊢;first|omega|(obtain⟨f1,f2,f3,f4,f5,f6,f7,f8,f9,f10⟩:=zN q (by omega);unfold zM at f8;omega)
 .intro hA;simp only[DD]at hA ⊢;first|omega|(obtain⟨f1,f2,f3,f4,f5,f6,f7,f8,f9,f10⟩:=zN q (by omega);unfold zM at f8;omega)
 .intro hA;simp only[DD]at hA ⊢;first|omega|(obtain⟨f1,f2,f3,f4,f5,f6,f7,f8,f9,f10⟩:=zN q (by omega);unfold zM at f8;omega)
 .intro δ0 J0 hl0 hA hr0 hid0 hI;simp +decide only[DD,aL hβ]at hA hI;obtain⟨i37,i82,_,i89,i33,i85,i36,_,_,_,i38,i35,_,_,i14,_,i81,i80,_,i32,i31,_,_,i86,_,i73⟩:=hI;obtain⟨f1,f2,f3,f4,f5,f6,f7,f8,f9,f10⟩:=zN q (by omega);have f8':=f8;unfold zM at f8';have kq:Kq true V J0:=⟨i73,i33,i31,i32,i14,i89,i86,i85,fun _=>⟨i82,i80,i81⟩⟩
  have ew:(sts cs steps (i+1)).w=(sts cs steps i).w:=vT (by omega) (by omega);exact xP q (by omega) hl0 kq i36 (by omega) (by omega) (by omega) (xQ ⟨nT (zP q.wn).1 ew i37 i35 i38,by rw[ew];exact (zP q.wn).2⟩)
 .intro J0 hl0 hA hr0 hid0 hI;simp only[DD]at hA hI;obtain⟨i37,i82,_,i89,i33,i85,_,_,i77,i38,i35,_,_,i14,_,i81,i80,_,i32,i31,_,_,i86,_,i73⟩:=hI;have kq:Kq true V J0:=⟨i73,i33,i31,i32,i14,i89,i86,i85,fun _=>⟨i82,i80,i81⟩⟩
  have e:n=i:=by omega
  exact⟨q.ln.of i73 hl0,q.ch.kq kq,by rw[i14];exact q.i14,by rw[i86];exact q.i86,by rw[i77,e];exact q.i77,q.lt,by rw[e];exact xQ ⟨nT (zP q.wn).1 rfl i37 i35 i38,(zP q.wn).2⟩,fun ho=>(q.out ho).cong i82 i80 i81⟩
theorem asU{w0:W0}{Q:Exit->Act->World->Prop}{cs steps:List Int}{ow:List UInt8}{n i:Nat}{o w:Bool}{V:Ren}{a:Act}{wd:World}(q:LQ cs steps ow n i o w V)(hh:(aaJ o w []).Holds (G4L cs steps ow n i o w V) V)(hH:HR w0 V (t4L o w).heap wd)(hF:FS V (ntmps 4) (t4L o w).frame a)
    (h0:∀ w' V1 a' wd',LQ cs steps ow n (i+1) o w' V1->HR w0 V1 (t4L o w').heap wd'->FS V1 (ntmps 4) (t4L o w').frame a'->wpL Tryd.prog dH Q a' wd')
    (h1:∀ V1 a' wd',LX cs steps ow n o w V1->HR w0 V1 (t4X o w).heap wd'->FS V1 (ntmps 4) (t4X o w).frame a'->Q (.exit 0) a' wd'):wpL Tryd.prog dH Q a wd:=by
 refine zR (gC (E:=E4L o w) (G:=G4L cs steps ow n i o w V) zQ vG follows hh q.ln.2 hH (Facts.nil _) hF ?_ (fun r s c h=>by rcases h with h|h<;>cases h) (fun j i V1 V2 h=>h.elim) (fun r s h=>by rcases h with h|h<;>cases h) (fun f s h=>by cases h))
 intro j e tp V1 a' w' hft q1 q2 q3
 rcases hft with hft|hft
 .cases e with
  |normal=>cases hft;exact h0 w V1 a' w' q3 q1 q2
  |ret=>cases hft;exact q3.elim
  |exit id =>
   match id,hft with
   |0,hft=>cases hft;exact h1 V1 a' w' q3 q1 q2
 .cases e with
  |normal =>
   cases w with
   |false=>cases hft;exact h0 true V1 a' w' q3 q1 q2
   |true=>cases hft
  |ret=>cases hft
  |exit id=>cases hft
theorem aHM{cs steps:List Int}{ow:List UInt8}{n i:Nat}{o w:Bool}{V:Ren}(ho:o=false->(sts cs steps n).w=[])(q:LQ cs steps ow n i o w V):(aaJ o w []).Holds (G4L cs steps ow n i o w V) V:=by
 cases o with
 |false =>
  cases w with
  |false=>rw[ad5];exact aqJ q (ho rfl)
  |true=>exact ((zP q.wn).2 (kW q.le.1 (ho rfl))).elim
 |true =>
  cases w with
  |false=>rw[adK];exact asD q
  |true=>rw[ac9];exact ajX q
theorem aiX{w0:W0}{Q:Exit->Act->World->Prop}{cs steps:List Int}{ow:List UInt8}{n:Nat}{o:Bool}(ho:o=false->(sts cs steps n).w=[])
    (h1:∀ w V1 a' wd',LX cs steps ow n o w V1->HR w0 V1 (t4X o w).heap wd'->FS V1 (ntmps 4) (t4X o w).frame a'->Q (.exit 0) a' wd'):∀ (k i:Nat) (w:Bool) (V:Ren) (a:Act) (wd:World),n-i<=k->LQ cs steps ow n i o w V->HR w0 V (t4L o w).heap wd->FS V (ntmps 4) (t4L o w).frame a->wpL Tryd.prog dH Q a wd:=by
 intro k
 induction k with
 |zero =>
  intro i w V a wd hk q hH hF
  refine asU q (aHM ho q) hH hF (fun w' V1 a' w1 q' _ _=>?_) (fun V1 a' w1 x q1 q2=>h1 w V1 a' w1 x q1 q2)
  exfalso;have:=q'.le;omega
 |succ k ih =>
  intro i w V a wd hk q hH hF
  exact asU q (aHM ho q) hH hF (fun w' V1 a' w1 q' q1 q2=>ih (i+1) w' V1 a' w1 (by omega) q' q1 q2) (fun V1 a' w1 x q1 q2=>h1 w V1 a' w1 x q1 q2)
theorem aSY{R:List UInt8}{v w:Int}(h:d1 1 R=.ok v w):w<=4:=by
 unfold d1 dcd at h;rw[if_pos rfl]at h;unfold yE at h;repeat' split at h
 all_goals first
  |cases h;done
  |(cases h;decide)
theorem awG{R:List UInt8}{cs:List Int}{R':List UInt8}(h:DR 1 R cs R'):R.length<=4*cs.length+R'.length:=by
 induction h with
 |nil R=>simp
 |cons h1 h2 h3 h4 _ ih =>
  have:=aSY h1;rw[List.length_drop]at ih;simp only[List.length_cons];omega
theorem axG{T:List UInt8}{cs:List Int}(h:Lkd T cs)(hc:cs.length<=4096):TXT T cs/\T.length<=16384:=by
 obtain⟨a,b,c⟩:=h;have:=awG a;exact⟨⟨a,b,fun v hv=>⟨(c v hv).1,(c v hv).2.1,(c v hv).2.2.1⟩,hc⟩,by simp at this;omega⟩
theorem tC{e:Int}{R:List UInt8}{cs ds:List Int}(h:DR e R cs [])(g:DR e R ds []):cs=ds:=by
 obtain⟨rs,e1,e2⟩:=h.pre g;rw[e1,e2.nil_inv.1,List.append_nil]
structure RN(cs steps:List Int)(n:Nat):Prop where
 lt:∀ j,j<n->(sts cs steps j).a<cs.length
 le:n<=steps.length
 fin:n=steps.length\/cs.length<=(sts cs steps n).a
theorem auP{cs steps:List Int}{n m:Nat}(h:RN cs steps n)(g:RN cs steps m):n=m:=by
 rcases Nat.lt_trichotomy n m with hh|hh|hh
 .exfalso;have h1:=g.lt n hh;have h2:=g.le;have h3:=h.fin;omega
 .exact hh
 .exfalso;have h1:=h.lt m hh;have h2:=h.le;have h3:=g.fin;omega
theorem LE.rn{cs steps:List Int}{n:Nat}{o m:Bool}{γ:Ren}(le:LE cs steps n o m γ):RN cs steps n:=⟨le.lt,le.le,le.fin⟩
def OT(T:List UInt8)(steps:List Int):Prop:=∃ cs n,TXT T cs/\RN cs steps n/\(sts cs steps n).w≠[]
theorem aT0{T:List UInt8}{cs steps:List Int}{n:Nat}{m:Bool}{γ:Ren}(h:OT T steps)(t:TXT T cs)(le:LE cs steps n false m γ):False:=by
 obtain⟨cs',n',t',r,hw⟩:=h;have e:=tC t.dr t'.dr;subst e;have e:=auP le.rn r;subst e;exact hw (yU le.out)
theorem aP0{T:List UInt8}{cs steps:List Int}{n:Nat}{m:Bool}{γ:Ren}(h:¬ OT T steps)(t:TXT T cs)(le:LE cs steps n true m γ):False :=
 h ⟨cs,n,t,le.rn,(zP le.out).2⟩
theorem aL6{cs steps:List Int}:∀ n,(∀ j,j<n->(sts cs steps j).a<cs.length)->∀ c∈(sts cs steps n).w,c∈cs\/c=10
 |0,_,c,hc=>by cases hc
 |n+1,h,c,hc=>by
  have ih:=aL6 n (fun j hj=>h j (by omega)) c;have al:=h n (by omega);have hc:c∈(stp cs (steps.getD n 0) (sts cs steps n)).w:=hc;by_cases h2:steps.getD n 0=2
  .rw[gG h2]at hc;rcases List.mem_append.1 hc with hc|hc
   .exact ih hc
   .rw[List.mem_singleton]at hc;left;rw[hc,List.getD_eq_getElem?_getD,List.getElem?_eq_getElem al];exact List.getElem_mem al
  .by_cases h3:steps.getD n 0=3/\(cs.getD (sts cs steps n).a 0=10\/cs.getD (sts cs steps n).a 0=13)
   .rw[pH h3.1 h3.2]at hc;rcases List.mem_append.1 hc with hc|hc
    .exact ih hc
    .exact .inr (by simpa using hc)
   .rw[vT h2 (by omega)]at hc;exact ih hc
structure P4(V:Ren):Prop where
 n:Ln V
 i18:0<=gI V 18
 i72:gI V 18<=gI V 72
 l17:gI V 18<=(gL V 17).length
 i86:0<=gI V 86
 n85:gI V 86<=(gN V 85).length
theorem P4.sl{V:Ren}(p:P4 V):((zD V).length:Int)=gI V 86:=by
 have:=p.i86;have:=p.n85;unfold zD;rw[List.length_take];omega
theorem P4.pk{V γ:Ren}(p:P4 V)(hn:Ln γ)(h17:gL γ 17=gL V 17)(h18:gI γ 18=gI V 18)(h72:gI γ 72=gI V 72)(h:¬ 2147483647<gI V 18):PK γ/\T0 γ=T0 V:=by
 have:=p.i18;exact⟨⟨hn,by omega,by rw[h18,h72];exact p.i72,by rw[h18,h17];exact p.l17⟩,by unfold T0;rw[h17,h18]⟩
theorem N6{V γ:Ren}{cs:List Int}(p:P4 V)(hn:Ln γ)(h17:gL γ 17=gL V 17)(h18:gI γ 18=gI V 18)(h85:gN γ 85=gN V 85)(h86:gI γ 86=gI V 86)(lk:Lkd (T0 V) cs)(hc:cs.length<=4096)(hs:¬ 4096<gI V 86):P13 cs γ/\T0 γ=T0 V/\zD γ=zD V:=by
 obtain⟨t1,t2⟩:=axG lk hc;have eT:T0 γ=T0 V:=by unfold T0;rw[h17,h18]
 have p18:=p.i18;have p17:=p.l17;have p86:=p.i86;have hT:((T0 V).length:Int)=gI V 18:=by unfold T0;rw[List.length_take];omega
 exact⟨⟨⟨hn,by omega,by rw[h18,h17];exact p17⟩,by rw[eT];exact t1,by omega,by rw[h86,h85];exact p.n85⟩,eT,by unfold zD;rw[h85,h86]⟩
structure PQ(cs steps:List Int)(n:Nat)(o:Bool):Prop where
 rn:RN cs steps n
 hf:o=false->(sts cs steps n).w=[]
 ht:o=true->(sts cs steps n).w≠[]
 rng:∀ c∈cs,0<=c/\c<=1114111
 sl:steps.length<=4096
 cl:cs.length<=4096
def OC(o:Bool)(γ:Ren):Prop:=(o=true->OT (T0 γ) (zD γ))/\(o=false->¬ OT (T0 γ) (zD γ))
def GS4(o:Bool)(V:Ren):Goal where
 J:=fun _ γ=>gB γ 29=true
 L:=fun _ γ=>∃ cs n,PQ cs (zD V) n o/\LQ cs (zD V) (encs (sts cs (zD V) n).w) n 0 o false γ
 O:=fun _ i γ J1=>Ln J1/\∃ cs n,PQ cs (zD V) n o/\LX cs (zD V) (encs (sts cs (zD V) n).w) n o (Nat.beq i 1) J1
 W:=fun _ c=>c=.loop dH
 CL:=fun j γ=>match j with
  |12=>PK γ
  |13=>(∃ cs,P13 cs γ)/\OC o γ
  |11=>PL γ
  |_=>False
 CO:=fun j i γ J1=>Ln J1/\match j with
  |12=>(match i with
   |0=>gB J1 84=true->Lkd (T0 γ) []
   |_=>∃ cs,sQ (T0 γ) cs/\cs≠[]/\Num6 cs J1/\(gB J1 84=true->Lkd (T0 γ) cs))
  |13=>(match i with
   |0=>∃ cs,P13 cs γ/\LE cs (zD γ) 0 false false J1
   |_=>∃ cs n,P13 cs γ/\LE cs (zD γ) n o true J1)
  |11=>(match i with
   |0=>NL γ=[]
   |1=>OutE (encs (NL γ)) J1/\NL γ≠[]
   |_=>False)
  |_=>False
theorem kF{cs steps:List Int}{n:Nat}{o:Bool}{γ:Ren}(le:LE cs steps n o true γ):gI γ 14=n/\3*n<=(gN γ 89).length:=by
 obtain⟨a,b⟩:=zP le.mks;refine⟨a,?_⟩;have:=congrArg List.length b;rw[List.length_take,qC]at this;omega
theorem W7{cs steps:List Int}{n:Nat}{o:Bool}{a γ:Ren}(le:LE cs steps n o true a)(hn:Ln γ)(nm:Num6 cs γ)(e14:gI γ 14=gI a 14)(e89:gN γ 89=gN a 89)(e86:gI γ 86=steps.length)(e85:(gN γ 85).take steps.length=steps)(e36:gI γ 36=0)(e77:gI γ 77=0)(e45:gI γ 45=0)(e78:gI γ 78=0)
    (hs:steps.length<=4096) (hc:cs.length<=4096) (hout:o=true->gL γ 82=gL a 82/\gI γ 80=gI a 80/\gI γ 81=gI a 81):LQ cs steps (encs (sts cs steps n).w) n 0 o false γ:=by
 obtain⟨m1,m2⟩:=zP le.mks
 refine⟨hn,nm,e36,by rw[e14];exact m1,by rw[e89];exact m2,e86,e85,e77,e45,e78,⟨Nat.zero_le _,le.le,hs,hc⟩,le.lt,vV rfl,fun ho=>?_⟩
 subst ho
 obtain⟨h1,h2,h3⟩:=hout rfl
 exact ((zP le.out).1).cong h1 h2 h3
theorem abE{steps:List Int}{n:Nat}{o m:Bool}{γ:Ren}(le:LE [] steps n o m γ):n=0:=by
 rcases Nat.eq_zero_or_pos n with h|h
 .exact h
 .have:=le.lt 0 h;simp at this
theorem aTC{cs steps:List Int}{n:Nat}{o:Bool}{V γ:Ren}(pq:PQ cs steps n o)(w:WN (sts cs steps n).w V)(hn:Ln γ)(e33:gN γ 33=gN V 37)(e31:gI γ 31=gI V 35):PL γ/\NL γ=(sts cs steps n).w:=by
 obtain⟨w1,w2,w3,w4⟩:=w;have b:=eH n pq.rn.lt;have b1:=b.w;have b2:=b.a;have cl:=pq.cl;have eN:NL γ=(sts cs steps n).w:=by
  unfold NL;rw[e33,e31,show (gI V 35).toNat=(sts cs steps n).w.length from by omega,w1]
 refine⟨⟨hn,by omega,by rw[e31,e33];omega,fun k h0 hk=>?_⟩,eN⟩;have hk':k.toNat<(NL γ).length:=by rw[eN];omega
 have hm:(gN γ 33).getD k.toNat 0∈(sts cs steps n).w:=by
  rw[<-eN];unfold NL at hk' ⊢;have e2:(gN γ 33).getD k.toNat 0=((gN γ 33).take (gI γ 31).toNat)[k.toNat]:=by
   rw[List.getElem_take,List.getD_eq_getElem?_getD,List.getElem?_eq_getElem (by rw[List.length_take]at hk';omega)];rfl
  rw[e2];exact List.getElem_mem hk'
 rcases aL6 n pq.rn.lt _ hm with h|h
 .exact pq.rng _ h
 .rw[h];decide
theorem arR{cs steps:List Int}{ow:List UInt8}{n:Nat}{o w:Bool}{V:Ren}(pq:PQ cs steps n o)(x:LX cs steps ow n o w V):gI V 14=gI V 86\/¬ gI V 77<gI V 31:=by
 have a:=x.i14;have b:=x.i86;have c:=x.i77;have d:=x.ch.l;rcases pq.rn.fin with h|h
 .left;omega
 .right;omega
abbrev aeZ:Code:=.loop dH
abbrev aY0:List TB:=[(.or (.lt 2147483647 (v 18)) (.lt 2147483647 (v 86)))]
abbrev amI:List TB:=[(nl 2147483647 (v 18)),(nl 2147483647 (v 86))]
abbrev aTL:=.or (.not (.var 174)) (.lt 4096 (v 86))::amI
abbrev Y9:=nl 4096 (v 86)::amI
abbrev aXH:=nl 8192 (v 194)::.var 174::Y9
abbrev aP5:=.lt 0 (v 194)::aXH
abbrev aS7:=.lt 2 (ln 269)::aP5
abbrev aOX:=nl 0 (v 194)::aXH
abbrev aRZ:=.or (.or (.not (.var 174)) (.lt 4096 (v 121))) (.lt 4096 (v 86))::amI
abbrev ab2:=.var 174::nl 4096 (v 121)::Y9
abbrev axY:=nl 8192 (v 194)::ab2
abbrev M6:SgT:=[bm 74,(29,.btm (.lit true)),bm 73]
abbrev aXL:SgT:=[im 72,im 18,bm 16,bm 73]
abbrev aXT:SgT:=bm 74::lm 17::aXL
abbrev au1:SgT:=bm 74::nm 85::lm 17::im 87::im 86::bm 84::aXL
abbrev aV3:SgT:=[bm 74,(29,.btm (.lit false)),bm 73]
abbrev aR2:SgT:=[bm 74,(29,.btm (.or (.eq 0 (v 86)) (nl 0 (v 121)))),bm 73]
abbrev aTV:SgT:=[ij 32 122,ij 31 121,bj 30 120,im 87,im 86,bm 84,bm 73]
def bJ:Tre:=(.fork (lf 0 90 90 (rgs (E4 false).n t4o) M6 aY0)
 (.call 12 90 90 (rgs fX.n fX.tin) (SgT.enc aXT) (List.map TB.enc amI) (.cons (rgs 0 T9++rgV (.tuple #[.slice none 0 0,sB (x 84)])) (.fork (lf 0 90 180 (rgs (E4 false).n t4o) M6 aTL)
 (.call 13 90 180 (rgs dC.n dC.tin) (SgT.enc au1) (List.map TB.enc ((.var 174)::Y9)) (.cons (rgs 0 (uI false false)++rgV (.tuple #[.slice none 0 0,.slice none 0 0,fv (Z 0)])) (lf 0 90 271 (rgs (E4 false).n t4o) M6 ((.var 174)::Y9))
 (.cons (rgs 0 (uI false true)++rgV (.tuple #[.slice none 0 0,rZ,fv (Z 0)])) (nd 271 ((.var 174)::Y9) ((nl 8192 (v 194)))
 (.fork (nd 271 aP5 ((.lt 2 (ln 269)))
 (lf 0 90 272 (rgs (E4 false).n t4o) aV3 aS7))
 (lf 0 90 271 (rgs (E4 false).n t4o) M6 aOX)))
 .nil))))
 (.cons (rgs 0 aeS++rgV (.tuple #[wF,sB (x 84)])) (.fork (lf 0 90 180 (rgs (E4 false).n t4o) M6 aRZ)
 (.call 13 90 180 (rgs dC.n dC.tin) (SgT.enc au1) (List.map TB.enc ab2) (.cons (rgs 0 (uI false false)++rgV (.tuple #[.slice none 0 0,.slice none 0 0,fv (Z 0)])) (lf 0 90 271 (rgs (E4 false).n t4o) aR2 ab2)
 (.cons (rgs 0 (uI false true)++rgV (.tuple #[.slice none 0 0,rZ,fv (Z 0)])) (nd 271 ab2 ((nl 8192 (v 194)))
 (.loop 10 90 271 (rgs (E4 false).n (aP1 false).tin) aeZ (SgT.enc (bm 74::nj 89 269::nj 33 123::nm 85::ik 36 0::ik 78 0::ik 45 0::ik 77 0::ij 15 195::ij 14 194::bj 88 268::aTV)) (List.map TB.enc axY) (.cons (rgs (E4 false).n (t4X false false)) (lf 0 90 90 (rgs (E4 false).n t4o) [bm 74,(29,.btm (.or (.eq (v 14) (v 86)) (nl (v 77) (v 31)))),bm 73] [])
 .nil)))
 .nil))))
 .nil))))
theorem adO:atS false=bJ:=by kernel_rfl
abbrev afC:List TB:=[(nl (lb 82) (v 80))]
abbrev aTM:SgT:=[bm 74,(29,.btm (.and (.eqL (.sub (.var 82) 0 (v 80)) (.lit [])) (.or (.eq (v 14) (v 86)) (nl (v 77) (v 31))))),bm 73]
def B9:Tre:=(.fork (lf 0 90 90 (rgs (E4 true).n t4o) M6 aY0)
 (.call 12 90 90 (rgs fX.n fX.tin) (SgT.enc aXT) (List.map TB.enc amI) (.cons (rgs 0 T9++rgV (.tuple #[.slice none 0 0,sB (x 84)])) (.fork (lf 0 90 180 (rgs (E4 true).n t4o) M6 aTL)
 (.call 13 90 180 (rgs dK.n dK.tin) (SgT.enc au1) (List.map TB.enc ((.var 174)::Y9)) (.cons (rgs 0 (uI false false)++rgV (.tuple #[.slice none 0 0,.slice none 0 0,fv (Z 0)])) (lf 0 90 271 (rgs (E4 true).n t4o) M6 ((.var 174)::Y9))
 (.cons (rgs 0 (uI true true)++rgV (.tuple #[xE,rZ,fv (Z 0)])) (nd 271 ((.var 174)::Y9) ((nl 8192 (v 194)))
 (.fork (nd 271 aP5 ((.lt 2 (ln 269)))
 (lf 0 90 272 (rgs (E4 true).n t4o) aV3 aS7))
 (nd 271 aOX ((nl (lb 262) (v 260)))
 (lf 0 90 271 (rgs (E4 true).n t4o) [bm 74,(29,.btm (.eqL (.sub (.var 262) 0 (v 260)) (.lit []))),bm 73] ((nl (lb 262) (v 260))::aOX)))))
 .nil))))
 (.cons (rgs 0 aeS++rgV (.tuple #[wF,sB (x 84)])) (.fork (lf 0 90 180 (rgs (E4 true).n t4o) M6 aRZ)
 (.call 13 90 180 (rgs dK.n dK.tin) (SgT.enc au1) (List.map TB.enc ab2) (.cons (rgs 0 (uI false false)++rgV (.tuple #[.slice none 0 0,.slice none 0 0,fv (Z 0)])) (lf 0 90 271 (rgs (E4 true).n t4o) aR2 ab2)
 (.cons (rgs 0 (uI true true)++rgV (.tuple #[xE,rZ,fv (Z 0)])) (nd 271 ab2 ((nl 8192 (v 194)))
 (.loop 10 90 271 (rgs (E4 true).n (aP1 true).tin) aeZ (SgT.enc (lj 82 262::bm 74::nj 89 269::nj 33 123::nm 85::ik 36 0::ik 78 0::ik 45 0::ik 77 0::ij 15 195::ij 14 194::bj 88 268::ij 81 261::ij 80 260::bj 79 259::aTV)) (List.map TB.enc axY) (.cons (rgs (E4 true).n (t4X true false)) (nd 90 [] ((nl (lb 82) (v 80)))
 (lf 0 90 90 (rgs (E4 true).n t4o) aTM afC))
 (.cons (rgs (E4 true).n (t4X true true)) (.call 11 90 90 (rgs asF.n asF.tin) (SgT.enc [bm 74,nj 33 37,ij 32 38,ij 31 35,bj 30 34,bm 73]) (List.map TB.enc []) (.cons (rgs 0 alK++rgV (.slice none 0 0)) (nd 180 [] ((nl (lb 82) (v 80)))
 (lf 0 90 180 (rgs (E4 true).n t4o) aTM afC))
 (.cons (rgs 0 ak3++rgV (xE)) (nd 180 [] ((nl (lb 82) (v 80)))
 (nd 180 afC ((nl (lb 172) (v 170)))
 (lf 0 90 180 (rgs (E4 true).n t4o) [bm 74,(29,.btm (.and (.eqL (.sub (.var 82) 0 (v 80)) (.sub (.var 172) 0 (v 170))) (.or (.eq (v 14) (v 86)) (nl (v 77) (v 31))))),bm 73] ((nl (lb 172) (v 170))::afC))))
 .nil)))
 .nil))))
 .nil))))
 .nil))))
theorem ab8:atS true=B9:=by kernel_rfl
end U
