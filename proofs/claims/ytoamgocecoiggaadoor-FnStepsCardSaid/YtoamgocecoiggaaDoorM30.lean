-- the statement of this claim: see YtoamgocecoiggaaDoorRs
import Derived.Test.YtoamgocecoiggaaDoorM29
set_option linter.unusedVariables false
set_option linter.unusedSimpArgs false
set_option maxRecDepth 100000
noncomputable section
open Go Go.SM Go.Proofs
namespace U
set_option maxHeartbeats 0
theorem KS.kp{V:Ren}(p:KS V):KP V:=by
 have e:=xC V;exact⟨p.n,p.buf,by rw[e];exact p.w,by rw[e];exact p.le,p.un,by have:=p.ix;omega,by have:=p.co;omega⟩
theorem KS.rk{V:Ren}(p:KS V):RK V:=by
 have:=p.i75;have:=p.i76;have:=p.w;have:=p.le;have:=p.un;have:=p.i8;have:=p.ix;have:=p.co;exact⟨by omega,by omega,by omega,by omega,by omega⟩
structure RQ(V γ:Ren)(O:List UInt8):Prop where
 m:wL V γ
 out:(gL γ 82).take (gI γ 80).toNat=O++((gL V 3).take (gI V 76+wd (bb V)).toNat).drop (gI V 76).toNat
 n:gI γ 80=O.length+wd (bb V)
 cl:gI γ 81<=(gL γ 82).length
def GR(O:Ren->List UInt8)(V:Ren):Goal where
 J:=fun _ γ=>RQ V γ (O V)
 L:=fun _ _=>False
 O:=fun _ _ _ _=>False
 W:=fun _ _=>False
theorem alT{V:Ren}(ps:KS V)(hw:wd (bb V)=1):bD.Holds (GR ON V) V:=by
 unfold bD;have p:=ps.kp;have r:=ps.rk;have hβ:=p.n.1;obtain⟨x75,x76,x8,x77,x78⟩:=r;have r:RK V:=⟨x75,x76,x8,x77,x78⟩
 have y1:=p.buf;have y2:=p.le;have y3:=p.un;have y4:=ps.ix;have y5:=ps.co;have y6:=ps.ln;have y7:=ps.nl;have ebb:wd (bk V 0)=1:=by rw[<-xC];exact hw
 rw[hw]at y2;refine (nO hβ ?_ (nO hβ ?_ (fO (nO hβ ?_ (nO hβ ?_ (nO hβ ?_ (nO hβ ?_ (lG opS hβ ?_))))) (nO hβ ?_ (nO hβ ?_ (nO hβ ?_ (nO hβ ?_ (lG opS hβ ?_))))))))
 .intro hA;simp only[DD]at hA ⊢;try simp only[LL]
  omega
 .intro hA;simp only[DD]at hA ⊢;try simp only[LL]
  omega
 .intro hA;simp only[DD]at hA ⊢;try simp only[LL]
  omega
 .intro hA;simp only[DD]at hA ⊢;try simp only[LL]
  omega
 .intro hA;simp only[DD]at hA ⊢;try simp only[LL]
  omega
 .intro hA;simp only[DD]at hA ⊢;try simp only[LL]
  omega
 .intro δ0 J0 hl0 hA hr0 hid0 hI;simp +decide only[DD,aL hβ]at hA hI;obtain⟨i82,i74,i3,_,_,_,_,_,_,i75,i1,i81,i80,i0,i73⟩:=hI;have m:wL V J0:=⟨⟨i0,i1,i73,i74,i3,i75,hid0⟩,by omega,by omega,by omega,by omega,by omega,by omega⟩
  have c1:=mY p r hw;exact⟨m,by rw[i82,i80,hw,c1];rfl,by rw[i80,hw];rfl,by rw[i81,i82];simp⟩
 .intro hA;simp only[DD]at hA ⊢;try simp only[LL]
  omega
 .intro hA;simp only[DD]at hA ⊢;try simp only[LL]
  omega
 .intro hA;simp only[DD]at hA ⊢;try simp only[LL]
  omega
 .intro hA;simp only[DD]at hA ⊢;try simp only[LL]
  omega
 .intro δ0 J0 hl0 hA hr0 hid0 hI;simp +decide only[DD,aL hβ]at hA hI;obtain⟨i82,i74,i3,_,_,_,_,_,_,i75,i1,i81,i80,i0,i73⟩:=hI;have m:wL V J0:=⟨⟨i0,i1,i73,i74,i3,i75,hid0⟩,by omega,by omega,by omega,by omega,by omega,by omega⟩
  have c1:=mY p r hw;exact⟨m,by rw[i82,i80,hw,c1];rfl,by rw[i80,hw];rfl,by rw[i81,i82];simp⟩
theorem ap4{V:Ren}(ps:KS V)(hw:wd (bb V)=2):I0.Holds (GR ON V) V:=by
 unfold I0;have p:=ps.kp;have r:=ps.rk;have hβ:=p.n.1;obtain⟨x75,x76,x8,x77,x78⟩:=r;have r:RK V:=⟨x75,x76,x8,x77,x78⟩
 have y1:=p.buf;have y2:=p.le;have y3:=p.un;have y4:=ps.ix;have y5:=ps.co;have y6:=ps.ln;have y7:=ps.nl;have ebb:wd (bk V 0)=2:=by rw[<-xC];exact hw
 rw[hw]at y2;refine (nO hβ ?_ (nO hβ ?_ (fO (nO hβ ?_ (nO hβ ?_ (nO hβ ?_ (nO hβ ?_ (nO hβ ?_ (nO hβ ?_ (nO hβ ?_ (nO hβ ?_ (nO hβ ?_ (lG opS hβ ?_)))))))))) (nO hβ ?_ (nO hβ ?_ (nO hβ ?_ (nO hβ ?_ (nO hβ ?_ (nO hβ ?_ (nO hβ ?_ (nO hβ ?_ (nO hβ ?_ (lG opS hβ ?_)))))))))))))
 .intro hA;simp only[DD]at hA ⊢;try simp only[LL]
  omega
 .intro hA;simp only[DD]at hA ⊢;try simp only[LL]
  omega
 .intro hA;simp only[DD]at hA ⊢;try simp only[LL]
  omega
 .intro hA;simp only[DD]at hA ⊢;try simp only[LL]
  omega
 .intro hA;simp only[DD]at hA ⊢;try simp only[LL]
  omega
 .intro hA;simp only[DD]at hA ⊢;try simp only[LL]
  omega
 .intro hA;simp only[DD]at hA ⊢;try simp only[LL]
  omega
 .intro hA;simp only[DD]at hA ⊢;try simp only[LL]
  omega
 .intro hA;simp only[DD]at hA ⊢;try simp only[LL]
  omega
 .intro hA;simp only[DD]at hA ⊢;try simp only[LL]
  omega
 .intro hA;simp only[DD]at hA ⊢;try simp only[LL]
  omega
 .intro δ0 J0 hl0 hA hr0 hid0 hI;simp +decide only[DD,aL hβ]at hA hI;obtain⟨i82,i74,i3,_,_,_,_,_,_,i75,i1,i81,i80,i0,i73⟩:=hI;have m:wL V J0:=⟨⟨i0,i1,i73,i74,i3,i75,hid0⟩,by omega,by omega,by omega,by omega,by omega,by omega⟩
  have cl:=xA p r;rw[hw]at cl;refine⟨m,?_,by rw[i80,cl,hw];simp[ON],by rw[i81,i82,List.length_append];omega⟩;rw[i82,i80,hw,Int.toNat_natCast,List.take_append_of_le_length (Nat.le_refl _),List.take_length];rfl
 .intro hA;simp only[DD]at hA ⊢;try simp only[LL]
  omega
 .intro hA;simp only[DD]at hA ⊢;try simp only[LL]
  omega
 .intro hA;simp only[DD]at hA ⊢;try simp only[LL]
  omega
 .intro hA;simp only[DD]at hA ⊢;try simp only[LL]
  omega
 .intro hA;simp only[DD]at hA ⊢;try simp only[LL]
  omega
 .intro hA;simp only[DD]at hA ⊢;try simp only[LL]
  omega
 .intro hA;simp only[DD]at hA ⊢;try simp only[LL]
  omega
 .intro hA;simp only[DD]at hA ⊢;try simp only[LL]
  omega
 .intro hA;simp only[DD]at hA ⊢;try simp only[LL]
  omega
 .intro δ0 J0 hl0 hA hr0 hid0 hI;simp +decide only[DD,aL hβ]at hA hI;obtain⟨i82,i74,i3,_,_,_,_,_,_,i75,i1,i81,i80,i0,i73⟩:=hI;have m:wL V J0:=⟨⟨i0,i1,i73,i74,i3,i75,hid0⟩,by omega,by omega,by omega,by omega,by omega,by omega⟩
  have cl:=xA p r;rw[hw]at cl;refine⟨m,?_,by rw[i80,cl,hw];simp[ON],by rw[i81,i82,List.length_append];omega⟩;rw[i82,i80,hw,Int.toNat_natCast,List.take_append_of_le_length (Nat.le_refl _),List.take_length];rfl
theorem apY{V:Ren}(ps:KS V)(hw:wd (bb V)=3):C9.Holds (GR ON V) V:=by
 unfold C9;have p:=ps.kp;have r:=ps.rk;have hβ:=p.n.1;obtain⟨x75,x76,x8,x77,x78⟩:=r;have r:RK V:=⟨x75,x76,x8,x77,x78⟩
 have y1:=p.buf;have y2:=p.le;have y3:=p.un;have y4:=ps.ix;have y5:=ps.co;have y6:=ps.ln;have y7:=ps.nl;have ebb:wd (bk V 0)=3:=by rw[<-xC];exact hw
 rw[hw]at y2;refine (nO hβ ?_ (nO hβ ?_ (fO (nO hβ ?_ (nO hβ ?_ (nO hβ ?_ (nO hβ ?_ (nO hβ ?_ (nO hβ ?_ (nO hβ ?_ (nO hβ ?_ (nO hβ ?_ (lG opS hβ ?_)))))))))) (nO hβ ?_ (nO hβ ?_ (nO hβ ?_ (nO hβ ?_ (nO hβ ?_ (nO hβ ?_ (nO hβ ?_ (nO hβ ?_ (nO hβ ?_ (lG opS hβ ?_)))))))))))))
 .intro hA;simp only[DD]at hA ⊢;try simp only[LL]
  omega
 .intro hA;simp only[DD]at hA ⊢;try simp only[LL]
  omega
 .intro hA;simp only[DD]at hA ⊢;try simp only[LL]
  omega
 .intro hA;simp only[DD]at hA ⊢;try simp only[LL]
  omega
 .intro hA;simp only[DD]at hA ⊢;try simp only[LL]
  omega
 .intro hA;simp only[DD]at hA ⊢;try simp only[LL]
  omega
 .intro hA;simp only[DD]at hA ⊢;try simp only[LL]
  omega
 .intro hA;simp only[DD]at hA ⊢;try simp only[LL]
  omega
 .intro hA;simp only[DD]at hA ⊢;try simp only[LL]
  omega
 .intro hA;simp only[DD]at hA ⊢;try simp only[LL]
  omega
 .intro hA;simp only[DD]at hA ⊢;try simp only[LL]
  omega
 .intro δ0 J0 hl0 hA hr0 hid0 hI;simp +decide only[DD,aL hβ]at hA hI;obtain⟨i82,i74,i3,_,_,_,_,_,_,i75,i1,i81,i80,i0,i73⟩:=hI;have m:wL V J0:=⟨⟨i0,i1,i73,i74,i3,i75,hid0⟩,by omega,by omega,by omega,by omega,by omega,by omega⟩
  have cl:=xA p r;rw[hw]at cl;refine⟨m,?_,by rw[i80,cl,hw];simp[ON],by rw[i81,i82,List.length_append];omega⟩;rw[i82,i80,hw,Int.toNat_natCast,List.take_append_of_le_length (Nat.le_refl _),List.take_length];rfl
 .intro hA;simp only[DD]at hA ⊢;try simp only[LL]
  omega
 .intro hA;simp only[DD]at hA ⊢;try simp only[LL]
  omega
 .intro hA;simp only[DD]at hA ⊢;try simp only[LL]
  omega
 .intro hA;simp only[DD]at hA ⊢;try simp only[LL]
  omega
 .intro hA;simp only[DD]at hA ⊢;try simp only[LL]
  omega
 .intro hA;simp only[DD]at hA ⊢;try simp only[LL]
  omega
 .intro hA;simp only[DD]at hA ⊢;try simp only[LL]
  omega
 .intro hA;simp only[DD]at hA ⊢;try simp only[LL]
  omega
 .intro hA;simp only[DD]at hA ⊢;try simp only[LL]
  omega
 .intro δ0 J0 hl0 hA hr0 hid0 hI;simp +decide only[DD,aL hβ]at hA hI;obtain⟨i82,i74,i3,_,_,_,_,_,_,i75,i1,i81,i80,i0,i73⟩:=hI;have m:wL V J0:=⟨⟨i0,i1,i73,i74,i3,i75,hid0⟩,by omega,by omega,by omega,by omega,by omega,by omega⟩
  have cl:=xA p r;rw[hw]at cl;refine⟨m,?_,by rw[i80,cl,hw];simp[ON],by rw[i81,i82,List.length_append];omega⟩;rw[i82,i80,hw,Int.toNat_natCast,List.take_append_of_le_length (Nat.le_refl _),List.take_length];rfl
theorem amX{V:Ren}(ps:KS V)(hw:wd (bb V)=4):aB.Holds (GR ON V) V:=by
 unfold aB;have p:=ps.kp;have r:=ps.rk;have hβ:=p.n.1;obtain⟨x75,x76,x8,x77,x78⟩:=r;have r:RK V:=⟨x75,x76,x8,x77,x78⟩
 have y1:=p.buf;have y2:=p.le;have y3:=p.un;have y4:=ps.ix;have y5:=ps.co;have y6:=ps.ln;have y7:=ps.nl;have ebb:wd (bk V 0)=4:=by rw[<-xC];exact hw
 rw[hw]at y2;refine (nO hβ ?_ (nO hβ ?_ (fO (nO hβ ?_ (nO hβ ?_ (nO hβ ?_ (nO hβ ?_ (nO hβ ?_ (nO hβ ?_ (nO hβ ?_ (nO hβ ?_ (nO hβ ?_ (lG opS hβ ?_)))))))))) (nO hβ ?_ (nO hβ ?_ (nO hβ ?_ (nO hβ ?_ (nO hβ ?_ (nO hβ ?_ (nO hβ ?_ (nO hβ ?_ (nO hβ ?_ (lG opS hβ ?_)))))))))))))
 .intro hA;simp only[DD]at hA ⊢;try simp only[LL]
  omega
 .intro hA;simp only[DD]at hA ⊢;try simp only[LL]
  omega
 .intro hA;simp only[DD]at hA ⊢;try simp only[LL]
  omega
 .intro hA;simp only[DD]at hA ⊢;try simp only[LL]
  omega
 .intro hA;simp only[DD]at hA ⊢;try simp only[LL]
  omega
 .intro hA;simp only[DD]at hA ⊢;try simp only[LL]
  omega
 .intro hA;simp only[DD]at hA ⊢;try simp only[LL]
  omega
 .intro hA;simp only[DD]at hA ⊢;try simp only[LL]
  omega
 .intro hA;simp only[DD]at hA ⊢;try simp only[LL]
  omega
 .intro hA;simp only[DD]at hA ⊢;try simp only[LL]
  omega
 .intro hA;simp only[DD]at hA ⊢;try simp only[LL]
  omega
 .intro δ0 J0 hl0 hA hr0 hid0 hI;simp +decide only[DD,aL hβ]at hA hI;obtain⟨i82,i74,i3,_,_,_,_,_,_,i75,i1,i81,i80,i0,i73⟩:=hI;have m:wL V J0:=⟨⟨i0,i1,i73,i74,i3,i75,hid0⟩,by omega,by omega,by omega,by omega,by omega,by omega⟩
  have cl:=xA p r;rw[hw]at cl;refine⟨m,?_,by rw[i80,cl,hw];simp[ON],by rw[i81,i82,List.length_append];omega⟩;rw[i82,i80,hw,Int.toNat_natCast,List.take_append_of_le_length (Nat.le_refl _),List.take_length];rfl
 .intro hA;simp only[DD]at hA ⊢;try simp only[LL]
  omega
 .intro hA;simp only[DD]at hA ⊢;try simp only[LL]
  omega
 .intro hA;simp only[DD]at hA ⊢;try simp only[LL]
  omega
 .intro hA;simp only[DD]at hA ⊢;try simp only[LL]
  omega
 .intro hA;simp only[DD]at hA ⊢;try simp only[LL]
  omega
 .intro hA;simp only[DD]at hA ⊢;try simp only[LL]
  omega
 .intro hA;simp only[DD]at hA ⊢;try simp only[LL]
  omega
 .intro hA;simp only[DD]at hA ⊢;try simp only[LL]
  omega
 .intro hA;simp only[DD]at hA ⊢;try simp only[LL]
  omega
 .intro δ0 J0 hl0 hA hr0 hid0 hI;simp +decide only[DD,aL hβ]at hA hI;obtain⟨i82,i74,i3,_,_,_,_,_,_,i75,i1,i81,i80,i0,i73⟩:=hI;have m:wL V J0:=⟨⟨i0,i1,i73,i74,i3,i75,hid0⟩,by omega,by omega,by omega,by omega,by omega,by omega⟩
  have cl:=xA p r;rw[hw]at cl;refine⟨m,?_,by rw[i80,cl,hw];simp[ON],by rw[i81,i82,List.length_append];omega⟩;rw[i82,i80,hw,Int.toNat_natCast,List.take_append_of_le_length (Nat.le_refl _),List.take_length];rfl
theorem aqP{V:Ren}(ps:KS V)(o:KO V)(o81:gI V 80<=gI V 81)(hw:wd (bb V)=1):aO.Holds (GR OS V) V:=by
 unfold aO;have p:=ps.kp;have r:=ps.rk;have hβ:=p.n.1;obtain⟨x75,x76,x8,x77,x78⟩:=r;have r:RK V:=⟨x75,x76,x8,x77,x78⟩
 have y1:=p.buf;have y2:=p.le;have y3:=p.un;have y4:=ps.ix;have y5:=ps.co;have y6:=ps.ln;have y7:=ps.nl;have ebb:wd (bk V 0)=1:=by rw[<-xC];exact hw
 rw[hw]at y2;have o1:=o.n0;have o2:=o.nb;have o3:=o.cl;refine (nO hβ ?_ (nO hβ ?_ (fO (fO (nO hβ ?_ (nO hβ ?_ (nO hβ ?_ (nO hβ ?_ (nO hβ ?_ (nO hβ ?_ (nO hβ ?_ (nO hβ ?_ (nO hβ ?_ (lO opS hβ ?_)))))))))) (nO hβ ?_ (nO hβ ?_ (nO hβ ?_ (nO hβ ?_ (nO hβ ?_ (nO hβ ?_ (nO hβ ?_ (nO hβ ?_ (nO hβ ?_ (nO hβ ?_ (lG opS hβ ?_)))))))))))) (fO (nO hβ ?_ (nO hβ ?_ (nO hβ ?_ (nO hβ ?_ (nO hβ ?_ (nO hβ ?_ (nO hβ ?_ (nO hβ ?_ (nO hβ ?_ (lO opS hβ ?_)))))))))) (nO hβ ?_ (nO hβ ?_ (nO hβ ?_ (nO hβ ?_ (nO hβ ?_ (nO hβ ?_ (nO hβ ?_ (nO hβ ?_ (nO hβ ?_ (nO hβ ?_ (lG opS hβ ?_)))))))))))))))
 .intro hA;simp only[DD]at hA ⊢;try simp only[LL]
  omega
 .intro hA;simp only[DD]at hA ⊢;try simp only[LL]
  omega
 .intro hA;simp only[DD]at hA ⊢;try simp only[LL]
  omega
 .intro hA;simp only[DD]at hA ⊢;try simp only[LL]
  omega
 .intro hA;simp only[DD]at hA ⊢;try simp only[LL]
  omega
 .intro hA;simp only[DD]at hA ⊢;try simp only[LL]
  omega
 .intro hA;simp only[DD]at hA ⊢;try simp only[LL]
  omega
 .intro hA;simp only[DD]at hA ⊢;try simp only[LL]
  omega
 .intro hA;simp only[DD]at hA ⊢;try simp only[LL]
  omega
 .intro hA;simp only[DD]at hA ⊢;try simp only[LL]
  omega
 .intro hA;simp only[DD]at hA ⊢;try simp only[LL]
  omega
 .intro J0 hl0 hA hr0 hid0 hI;simp only[DD]at hA hI;obtain⟨i82,i74,i3,_,_,_,_,_,_,i75,i1,i81,i80,_,i0,i73⟩:=hI;have m:wL V J0:=⟨⟨i0,i1,i73,i74,i3,i75,hid0⟩,by omega,by omega,by omega,by omega,by omega,by omega⟩
  have c1:=mY p r hw;refine⟨m,?_,by rw[i80,hw];unfold OS;rw[List.length_take];omega,by rw[i81,i82];simp;omega⟩;rw[i82,i80,hw,c1];exact aa5 (by omega) (by omega)
 .intro hA;simp only[DD]at hA ⊢;try simp only[LL]
  omega
 .intro hA;simp only[DD]at hA ⊢;try simp only[LL]
  omega
 .intro hA;simp only[DD]at hA ⊢;try simp only[LL]
  omega
 .intro hA;simp only[DD]at hA ⊢;try simp only[LL]
  omega
 .intro hA;simp only[DD]at hA ⊢;try simp only[LL]
  omega
 .intro hA;simp only[DD]at hA ⊢;try simp only[LL]
  omega
 .intro hA;simp only[DD]at hA ⊢;try simp only[LL]
  omega
 .intro hA;simp only[DD]at hA ⊢;try simp only[LL]
  omega
 .intro hA;simp only[DD]at hA ⊢;try simp only[LL]
  omega
 .intro hA;simp only[DD]at hA ⊢;try simp only[LL]
  omega
 .intro δ0 J0 hl0 hA hr0 hid0 hI;simp +decide only[DD,aL hβ]at hA hI;obtain⟨i82,i74,i3,_,_,_,_,_,_,i75,i1,i81,i80,i0,i73⟩:=hI;have m:wL V J0:=⟨⟨i0,i1,i73,i74,i3,i75,hid0⟩,by omega,by omega,by omega,by omega,by omega,by omega⟩
  have c1:=mY p r hw;have cl:=xA p r;rw[hw]at cl;have ol:((OS V).length:Int)=gI V 80:=by unfold OS;rw[List.length_take];omega
  simp only[Int.toNat_zero,List.drop_zero]at i80 i81 i82;refine⟨m,?_,by rw[i80,hw];unfold OS at *;omega,by rw[i81,i82,List.length_append,List.length_append];unfold OS at *;omega⟩;rw[i82,i80,hw,<-Int.natCast_add,Int.toNat_natCast,<-List.length_append,List.take_append_of_le_length (Nat.le_refl _),List.take_length];rfl
 .intro hA;simp only[DD]at hA ⊢;try simp only[LL]
  omega
 .intro hA;simp only[DD]at hA ⊢;try simp only[LL]
  omega
 .intro hA;simp only[DD]at hA ⊢;try simp only[LL]
  omega
 .intro hA;simp only[DD]at hA ⊢;try simp only[LL]
  omega
 .intro hA;simp only[DD]at hA ⊢;try simp only[LL]
  omega
 .intro hA;simp only[DD]at hA ⊢;try simp only[LL]
  omega
 .intro hA;simp only[DD]at hA ⊢;try simp only[LL]
  omega
 .intro hA;simp only[DD]at hA ⊢;try simp only[LL]
  omega
 .intro hA;simp only[DD]at hA ⊢;try simp only[LL]
  omega
 .intro J0 hl0 hA hr0 hid0 hI;simp only[DD]at hA hI;obtain⟨i82,i74,i3,_,_,_,_,_,_,i75,i1,i81,i80,_,i0,i73⟩:=hI;have m:wL V J0:=⟨⟨i0,i1,i73,i74,i3,i75,hid0⟩,by omega,by omega,by omega,by omega,by omega,by omega⟩
  have c1:=mY p r hw;refine⟨m,?_,by rw[i80,hw];unfold OS;rw[List.length_take];omega,by rw[i81,i82];simp;omega⟩;rw[i82,i80,hw,c1];exact aa5 (by omega) (by omega)
 .intro hA;simp only[DD]at hA ⊢;try simp only[LL]
  omega
 .intro hA;simp only[DD]at hA ⊢;try simp only[LL]
  omega
 .intro hA;simp only[DD]at hA ⊢;try simp only[LL]
  omega
 .intro hA;simp only[DD]at hA ⊢;try simp only[LL]
  omega
 .intro hA;simp only[DD]at hA ⊢;try simp only[LL]
  omega
 .intro hA;simp only[DD]at hA ⊢;try simp only[LL]
  omega
 .intro hA;simp only[DD]at hA ⊢;try simp only[LL]
  omega
 .intro hA;simp only[DD]at hA ⊢;try simp only[LL]
  omega
 .intro hA;simp only[DD]at hA ⊢;try simp only[LL]
  omega
 .intro hA;simp only[DD]at hA ⊢;try simp only[LL]
  omega
 .intro δ0 J0 hl0 hA hr0 hid0 hI;simp +decide only[DD,aL hβ]at hA hI;obtain⟨i82,i74,i3,_,_,_,_,_,_,i75,i1,i81,i80,i0,i73⟩:=hI;have m:wL V J0:=⟨⟨i0,i1,i73,i74,i3,i75,hid0⟩,by omega,by omega,by omega,by omega,by omega,by omega⟩
  have c1:=mY p r hw;have cl:=xA p r;rw[hw]at cl;have ol:((OS V).length:Int)=gI V 80:=by unfold OS;rw[List.length_take];omega
  simp only[Int.toNat_zero,List.drop_zero]at i80 i81 i82;refine⟨m,?_,by rw[i80,hw];unfold OS at *;omega,by rw[i81,i82,List.length_append,List.length_append];unfold OS at *;omega⟩;rw[i82,i80,hw,<-Int.natCast_add,Int.toNat_natCast,<-List.length_append,List.take_append_of_le_length (Nat.le_refl _),List.take_length];rfl
theorem arF{V:Ren}(ps:KS V)(o:KO V)(o81:gI V 80<=gI V 81)(hw:wd (bb V)=2):cY.Holds (GR OS V) V:=by
 unfold cY;have p:=ps.kp;have r:=ps.rk;have hβ:=p.n.1;obtain⟨x75,x76,x8,x77,x78⟩:=r;have r:RK V:=⟨x75,x76,x8,x77,x78⟩
 have y1:=p.buf;have y2:=p.le;have y3:=p.un;have y4:=ps.ix;have y5:=ps.co;have y6:=ps.ln;have y7:=ps.nl;have ebb:wd (bk V 0)=2:=by rw[<-xC];exact hw
 rw[hw]at y2;have o1:=o.n0;have o2:=o.nb;have o3:=o.cl;refine (nO hβ ?_ (nO hβ ?_ (fO (nO hβ ?_ (nO hβ ?_ (nO hβ ?_ (nO hβ ?_ (nO hβ ?_ (nO hβ ?_ (nO hβ ?_ (nO hβ ?_ (nO hβ ?_ (nO hβ ?_ (lG opS hβ ?_))))))))))) (nO hβ ?_ (nO hβ ?_ (nO hβ ?_ (nO hβ ?_ (nO hβ ?_ (nO hβ ?_ (nO hβ ?_ (nO hβ ?_ (nO hβ ?_ (nO hβ ?_ (lG opS hβ ?_))))))))))))))
 .intro hA;simp only[DD]at hA ⊢;try simp only[LL]
  omega
 .intro hA;simp only[DD]at hA ⊢;try simp only[LL]
  omega
 .intro hA;simp only[DD]at hA ⊢;try simp only[LL]
  omega
 .intro hA;simp only[DD]at hA ⊢;try simp only[LL]
  omega
 .intro hA;simp only[DD]at hA ⊢;try simp only[LL]
  omega
 .intro hA;simp only[DD]at hA ⊢;try simp only[LL]
  omega
 .intro hA;simp only[DD]at hA ⊢;try simp only[LL]
  omega
 .intro hA;simp only[DD]at hA ⊢;try simp only[LL]
  omega
 .intro hA;simp only[DD]at hA ⊢;try simp only[LL]
  omega
 .intro hA;simp only[DD]at hA ⊢;try simp only[LL]
  omega
 .intro hA;simp only[DD]at hA ⊢;try simp only[LL]
  omega
 .intro hA;simp only[DD]at hA ⊢;try simp only[LL]
  omega
 .intro δ0 J0 hl0 hA hr0 hid0 hI;simp +decide only[DD,aL hβ]at hA hI;obtain⟨i82,i74,i3,_,_,_,_,_,_,i75,i1,i81,i80,i0,i73⟩:=hI;have m:wL V J0:=⟨⟨i0,i1,i73,i74,i3,i75,hid0⟩,by omega,by omega,by omega,by omega,by omega,by omega⟩
  have cl:=xA p r;rw[hw]at cl;have ol:((OS V).length:Int)=gI V 80:=by unfold OS;rw[List.length_take];omega
  simp only[Int.toNat_zero,List.drop_zero]at i80 i81 i82;refine⟨m,?_,by rw[i80,hw];unfold OS at *;omega,by rw[i81,i82,List.length_append,List.length_append];unfold OS at *;omega⟩;rw[i82,i80,hw,<-Int.natCast_add,Int.toNat_natCast,<-List.length_append,List.take_append_of_le_length (Nat.le_refl _),List.take_length];rfl
 .intro hA;simp only[DD]at hA ⊢;try simp only[LL]
  omega
 .intro hA;simp only[DD]at hA ⊢;try simp only[LL]
  omega
 .intro hA;simp only[DD]at hA ⊢;try simp only[LL]
  omega
 .intro hA;simp only[DD]at hA ⊢;try simp only[LL]
  omega
 .intro hA;simp only[DD]at hA ⊢;try simp only[LL]
  omega
 .intro hA;simp only[DD]at hA ⊢;try simp only[LL]
  omega
 .intro hA;simp only[DD]at hA ⊢;try simp only[LL]
  omega
 .intro hA;simp only[DD]at hA ⊢;try simp only[LL]
  omega
 .intro hA;simp only[DD]at hA ⊢;try simp only[LL]
  omega
 .intro hA;simp only[DD]at hA ⊢;try simp only[LL]
  omega
 .intro δ0 J0 hl0 hA hr0 hid0 hI;simp +decide only[DD,aL hβ]at hA hI;obtain⟨i82,i74,i3,_,_,_,_,_,_,i75,i1,i81,i80,i0,i73⟩:=hI;have m:wL V J0:=⟨⟨i0,i1,i73,i74,i3,i75,hid0⟩,by omega,by omega,by omega,by omega,by omega,by omega⟩
  have cl:=xA p r;rw[hw]at cl;have ol:((OS V).length:Int)=gI V 80:=by unfold OS;rw[List.length_take];omega
  simp only[Int.toNat_zero,List.drop_zero]at i80 i81 i82;refine⟨m,?_,by rw[i80,hw];unfold OS at *;omega,by rw[i81,i82,List.length_append,List.length_append];unfold OS at *;omega⟩;rw[i82,i80,hw,<-Int.natCast_add,Int.toNat_natCast,<-List.length_append,List.take_append_of_le_length (Nat.le_refl _),List.take_length];rfl
theorem akC{V:Ren}(ps:KS V)(o:KO V)(o81:gI V 80<=gI V 81)(hw:wd (bb V)=3):A0.Holds (GR OS V) V:=by
 unfold A0;have p:=ps.kp;have r:=ps.rk;have hβ:=p.n.1;obtain⟨x75,x76,x8,x77,x78⟩:=r;have r:RK V:=⟨x75,x76,x8,x77,x78⟩
 have y1:=p.buf;have y2:=p.le;have y3:=p.un;have y4:=ps.ix;have y5:=ps.co;have y6:=ps.ln;have y7:=ps.nl;have ebb:wd (bk V 0)=3:=by rw[<-xC];exact hw
 rw[hw]at y2;have o1:=o.n0;have o2:=o.nb;have o3:=o.cl;refine (nO hβ ?_ (nO hβ ?_ (fO (nO hβ ?_ (nO hβ ?_ (nO hβ ?_ (nO hβ ?_ (nO hβ ?_ (nO hβ ?_ (nO hβ ?_ (nO hβ ?_ (nO hβ ?_ (nO hβ ?_ (lG opS hβ ?_))))))))))) (nO hβ ?_ (nO hβ ?_ (nO hβ ?_ (nO hβ ?_ (nO hβ ?_ (nO hβ ?_ (nO hβ ?_ (nO hβ ?_ (nO hβ ?_ (nO hβ ?_ (lG opS hβ ?_))))))))))))))
 .intro hA;simp only[DD]at hA ⊢;try simp only[LL]
  omega
 .intro hA;simp only[DD]at hA ⊢;try simp only[LL]
  omega
 .intro hA;simp only[DD]at hA ⊢;try simp only[LL]
  omega
 .intro hA;simp only[DD]at hA ⊢;try simp only[LL]
  omega
 .intro hA;simp only[DD]at hA ⊢;try simp only[LL]
  omega
 .intro hA;simp only[DD]at hA ⊢;try simp only[LL]
  omega
 .intro hA;simp only[DD]at hA ⊢;try simp only[LL]
  omega
 .intro hA;simp only[DD]at hA ⊢;try simp only[LL]
  omega
 .intro hA;simp only[DD]at hA ⊢;try simp only[LL]
  omega
 .intro hA;simp only[DD]at hA ⊢;try simp only[LL]
  omega
 .intro hA;simp only[DD]at hA ⊢;try simp only[LL]
  omega
 .intro hA;simp only[DD]at hA ⊢;try simp only[LL]
  omega
 .intro δ0 J0 hl0 hA hr0 hid0 hI;simp +decide only[DD,aL hβ]at hA hI;obtain⟨i82,i74,i3,_,_,_,_,_,_,i75,i1,i81,i80,i0,i73⟩:=hI;have m:wL V J0:=⟨⟨i0,i1,i73,i74,i3,i75,hid0⟩,by omega,by omega,by omega,by omega,by omega,by omega⟩
  have cl:=xA p r;rw[hw]at cl;have ol:((OS V).length:Int)=gI V 80:=by unfold OS;rw[List.length_take];omega
  simp only[Int.toNat_zero,List.drop_zero]at i80 i81 i82;refine⟨m,?_,by rw[i80,hw];unfold OS at *;omega,by rw[i81,i82,List.length_append,List.length_append];unfold OS at *;omega⟩;rw[i82,i80,hw,<-Int.natCast_add,Int.toNat_natCast,<-List.length_append,List.take_append_of_le_length (Nat.le_refl _),List.take_length];rfl
 .intro hA;simp only[DD]at hA ⊢;try simp only[LL]
  omega
 .intro hA;simp only[DD]at hA ⊢;try simp only[LL]
  omega
 .intro hA;simp only[DD]at hA ⊢;try simp only[LL]
  omega
 .intro hA;simp only[DD]at hA ⊢;try simp only[LL]
  omega
 .intro hA;simp only[DD]at hA ⊢;try simp only[LL]
  omega
 .intro hA;simp only[DD]at hA ⊢;try simp only[LL]
  omega
 .intro hA;simp only[DD]at hA ⊢;try simp only[LL]
  omega
 .intro hA;simp only[DD]at hA ⊢;try simp only[LL]
  omega
 .intro hA;simp only[DD]at hA ⊢;try simp only[LL]
  omega
 .intro hA;simp only[DD]at hA ⊢;try simp only[LL]
  omega
 .intro δ0 J0 hl0 hA hr0 hid0 hI;simp +decide only[DD,aL hβ]at hA hI;obtain⟨i82,i74,i3,_,_,_,_,_,_,i75,i1,i81,i80,i0,i73⟩:=hI;have m:wL V J0:=⟨⟨i0,i1,i73,i74,i3,i75,hid0⟩,by omega,by omega,by omega,by omega,by omega,by omega⟩
  have cl:=xA p r;rw[hw]at cl;have ol:((OS V).length:Int)=gI V 80:=by unfold OS;rw[List.length_take];omega
  simp only[Int.toNat_zero,List.drop_zero]at i80 i81 i82;refine⟨m,?_,by rw[i80,hw];unfold OS at *;omega,by rw[i81,i82,List.length_append,List.length_append];unfold OS at *;omega⟩;rw[i82,i80,hw,<-Int.natCast_add,Int.toNat_natCast,<-List.length_append,List.take_append_of_le_length (Nat.le_refl _),List.take_length];rfl
theorem ar4{V:Ren}(ps:KS V)(o:KO V)(o81:gI V 80<=gI V 81)(hw:wd (bb V)=4):N8.Holds (GR OS V) V:=by
 unfold N8;have p:=ps.kp;have r:=ps.rk;have hβ:=p.n.1;obtain⟨x75,x76,x8,x77,x78⟩:=r;have r:RK V:=⟨x75,x76,x8,x77,x78⟩
 have y1:=p.buf;have y2:=p.le;have y3:=p.un;have y4:=ps.ix;have y5:=ps.co;have y6:=ps.ln;have y7:=ps.nl;have ebb:wd (bk V 0)=4:=by rw[<-xC];exact hw
 rw[hw]at y2;have o1:=o.n0;have o2:=o.nb;have o3:=o.cl;refine (nO hβ ?_ (nO hβ ?_ (fO (nO hβ ?_ (nO hβ ?_ (nO hβ ?_ (nO hβ ?_ (nO hβ ?_ (nO hβ ?_ (nO hβ ?_ (nO hβ ?_ (nO hβ ?_ (nO hβ ?_ (lG opS hβ ?_))))))))))) (nO hβ ?_ (nO hβ ?_ (nO hβ ?_ (nO hβ ?_ (nO hβ ?_ (nO hβ ?_ (nO hβ ?_ (nO hβ ?_ (nO hβ ?_ (nO hβ ?_ (lG opS hβ ?_))))))))))))))
 .intro hA;simp only[DD]at hA ⊢;try simp only[LL]
  omega
 .intro hA;simp only[DD]at hA ⊢;try simp only[LL]
  omega
 .intro hA;simp only[DD]at hA ⊢;try simp only[LL]
  omega
 .intro hA;simp only[DD]at hA ⊢;try simp only[LL]
  omega
 .intro hA;simp only[DD]at hA ⊢;try simp only[LL]
  omega
 .intro hA;simp only[DD]at hA ⊢;try simp only[LL]
  omega
 .intro hA;simp only[DD]at hA ⊢;try simp only[LL]
  omega
 .intro hA;simp only[DD]at hA ⊢;try simp only[LL]
  omega
 .intro hA;simp only[DD]at hA ⊢;try simp only[LL]
  omega
 .intro hA;simp only[DD]at hA ⊢;try simp only[LL]
  omega
 .intro hA;simp only[DD]at hA ⊢;try simp only[LL]
  omega
 .intro hA;simp only[DD]at hA ⊢;try simp only[LL]
  omega
 .intro δ0 J0 hl0 hA hr0 hid0 hI;simp +decide only[DD,aL hβ]at hA hI;obtain⟨i82,i74,i3,_,_,_,_,_,_,i75,i1,i81,i80,i0,i73⟩:=hI;have m:wL V J0:=⟨⟨i0,i1,i73,i74,i3,i75,hid0⟩,by omega,by omega,by omega,by omega,by omega,by omega⟩
  have cl:=xA p r;rw[hw]at cl;have ol:((OS V).length:Int)=gI V 80:=by unfold OS;rw[List.length_take];omega
  simp only[Int.toNat_zero,List.drop_zero]at i80 i81 i82;refine⟨m,?_,by rw[i80,hw];unfold OS at *;omega,by rw[i81,i82,List.length_append,List.length_append];unfold OS at *;omega⟩;rw[i82,i80,hw,<-Int.natCast_add,Int.toNat_natCast,<-List.length_append,List.take_append_of_le_length (Nat.le_refl _),List.take_length];rfl
 .intro hA;simp only[DD]at hA ⊢;try simp only[LL]
  omega
 .intro hA;simp only[DD]at hA ⊢;try simp only[LL]
  omega
 .intro hA;simp only[DD]at hA ⊢;try simp only[LL]
  omega
 .intro hA;simp only[DD]at hA ⊢;try simp only[LL]
  omega
 .intro hA;simp only[DD]at hA ⊢;try simp only[LL]
  omega
 .intro hA;simp only[DD]at hA ⊢;try simp only[LL]
  omega
 .intro hA;simp only[DD]at hA ⊢;try simp only[LL]
  omega
 .intro hA;simp only[DD]at hA ⊢;try simp only[LL]
  omega
 .intro hA;simp only[DD]at hA ⊢;try simp only[LL]
  omega
 .intro hA;simp only[DD]at hA ⊢;try simp only[LL]
  omega
 .intro δ0 J0 hl0 hA hr0 hid0 hI;simp +decide only[DD,aL hβ]at hA hI;obtain⟨i82,i74,i3,_,_,_,_,_,_,i75,i1,i81,i80,i0,i73⟩:=hI;have m:wL V J0:=⟨⟨i0,i1,i73,i74,i3,i75,hid0⟩,by omega,by omega,by omega,by omega,by omega,by omega⟩
  have cl:=xA p r;rw[hw]at cl;have ol:((OS V).length:Int)=gI V 80:=by unfold OS;rw[List.length_take];omega
  simp only[Int.toNat_zero,List.drop_zero]at i80 i81 i82;refine⟨m,?_,by rw[i80,hw];unfold OS at *;omega,by rw[i81,i82,List.length_append,List.length_append];unfold OS at *;omega⟩;rw[i82,i80,hw,<-Int.natCast_add,Int.toNat_natCast,<-List.length_append,List.take_append_of_le_length (Nat.le_refl _),List.take_length];rfl
def EL:Env:=EG 38 (fun _=>none) (fun _=>false) (fun _=>none) (fun _=>none) (qS 4) (ah6 4)
def ELS:Env:=EG 38 (fun _=>none) (fun _=>false) (fun _=>none) (fun _=>none) (qS 4) (fun _=>none)
def aJI:Tre:=tre ELS 2000 (body 38) [] [.bool true] tSS.frame tSS.heap
abbrev aO8:List TB:=[(.lt (v 76) (v 75)),(.lit true)]
abbrev aXC:=.lt (v 76) (lb 3)::aO8
abbrev aNM:=.eq (sb 3 (v 76)) 13::aXC
abbrev aOJ:=.lt (v 76+1) (v 75)::aNM
abbrev aSE:=.lt (v 76+1) (lb 3)::aOJ
abbrev auT:=.eq (sb 3 (v 76+1)) 10::aSE
abbrev aRG:=nl 1536 (v 76+2)::auT
abbrev aQ1:=nl (v 8+N 2) 0::aRG
abbrev aUS:=nl 8000000 (v 39+1)::aQ1
abbrev aX9:=nl 4194303 (v 77+2)::aUS
abbrev agH:=nq (sb 3 (v 76+1)) 10::aSE
abbrev aLN:=nl 1536 (v 76+1)::agH
abbrev aHG:=nl (v 8+N 1) 0::aLN
abbrev aJL:=nl 8000000 (v 39+1)::aHG
abbrev aCT:=nl 4194303 (v 77+1)::aJL
abbrev aHI:=nq (sb 3 (v 76)) 13::aXC
abbrev afL:=.eq (sb 3 (v 76)) 10::aHI
abbrev aDP:=nl 1536 (v 76+1)::afL
abbrev aG6:=nl (v 8+N 1) 0::aDP
abbrev aLC:=nl 8000000 (v 39+1)::aG6
abbrev aJA:=nl 4194303 (v 77+1)::aLC
abbrev ayC:=nq (sb 3 (v 76)) 10::aHI
abbrev as8:=.eq (sb 3 (v 76)) 194::ayC
abbrev at7:=.lt (v 76+1) (v 75)::as8
abbrev aAQ:=.lt (v 76+1) (lb 3)::at7
abbrev af9:=.eq (sb 3 (v 76+1)) 133::aAQ
abbrev ayT:=nl 1536 (v 76+2)::af9
abbrev aM6:=nl (v 8+N 1) 0::ayT
abbrev aG4:=nl 8000000 (v 39+1)::aM6
abbrev aIX:=nl 4194303 (v 77+1)::aG4
abbrev aB4:=nq (sb 3 (v 76+1)) 133::aAQ
abbrev aDV:=nq (sb 3 (v 76)) 194::ayC
abbrev alH:=.eq (sb 3 (v 76)) 226::aDV
abbrev aqA:=.lt (v 76+1) (v 75)::alH
abbrev aAH:=.lt (v 76+1) (lb 3)::aqA
abbrev al8:=.eq (sb 3 (v 76+1)) 128::aAH
abbrev arU:=.lt (v 76+2) (v 75)::al8
abbrev aBK:=.lt (v 76+2) (lb 3)::arU
abbrev am0:=.eq (sb 3 (v 76+2)) 168::aBK
abbrev apM:=nl (v 76) 0::am0
abbrev ajS:=nl (v 76+3) (v 76)::apM
abbrev amH:=nl 1536 (v 76+3)::ajS
abbrev arA:=nl 1125899906842624 (v 76+3)::amH
abbrev afM:=nl (lb 3) (.ite (.eq 1536 (v 76)) 0 (v 76)+(v 76+3-v 76))::arA
abbrev az6:=.lt 0 (.len (.sub (.var 3) (.ite (.eq 1536 (v 76)) 0 (v 76)) (.ite (.eq 1536 (v 76)) 0 (v 76)+(v 76+3-v 76))))::afM
abbrev aEX:=nl 70368744177664 (.len (.sub (.var 3) (.ite (.eq 1536 (v 76)) 0 (v 76)) (.ite (.eq 1536 (v 76)) 0 (v 76)+(v 76+3-v 76))))::az6
abbrev aFX:=nl (v 8+N 1) 0::aEX
abbrev aA2:=nl 8000000 (v 39+1)::aFX
abbrev aFC:=nl 4194303 (v 77+1)::aA2
abbrev ayA:=nq (sb 3 (v 76+2)) 168::aBK
abbrev aoG:=.eq (sb 3 (v 76+2)) 169::ayA
abbrev aqB:=nl (v 76) 0::aoG
abbrev aq9:=nl (v 76+3) (v 76)::aqB
abbrev aoU:=nl 1536 (v 76+3)::aq9
abbrev ak4:=nl 1125899906842624 (v 76+3)::aoU
abbrev ag9:=nl (lb 3) (.ite (.eq 1536 (v 76)) 0 (v 76)+(v 76+3-v 76))::ak4
abbrev aKH:=.lt 0 (.len (.sub (.var 3) (.ite (.eq 1536 (v 76)) 0 (v 76)) (.ite (.eq 1536 (v 76)) 0 (v 76)+(v 76+3-v 76))))::ag9
abbrev aKP:=nl 70368744177664 (.len (.sub (.var 3) (.ite (.eq 1536 (v 76)) 0 (v 76)) (.ite (.eq 1536 (v 76)) 0 (v 76)+(v 76+3-v 76))))::aKH
abbrev azG:=nl (v 8+N 1) 0::aKP
abbrev aJ0:=nl 8000000 (v 39+1)::azG
abbrev aGB:=nl 4194303 (v 77+1)::aJ0
abbrev aD9:=nq (sb 3 (v 76+2)) 169::ayA
abbrev aFU:=nq (sb 3 (v 76+1)) 128::aAH
abbrev aDY:=nq (sb 3 (v 76)) 226::aDV
abbrev ahY:SgT:=[bm 0,bm 73]
abbrev aQ2:SgT:=im 75::bm 1::(ids (dn 35 16)++((81,.itm (lb 91+1))::ik 80 1::(79,.new 92)::ahY))
abbrev aYL:SgT:=(76,.itm (v 76+2))::aQ2
abbrev aXB:SgT:=(82,.ltm (.app (.one 10) (.var 91)))::bm 74::lm 3::(ids (dn 71 6++dn 64 18)++(ik 78 0::(45,.itm (v 45+1))::(77,.itm (v 77+1))::(ids (dn 43 4)++((39,.itm (v 39+1))::(8,.itm (v 8+N 1))::(76,.itm (v 76+1))::aQ2))))
abbrev awA:SgT:=bm 74::lm 3::(ids (dn 71 6++dn 64 18)++(im 78::im 45::im 77::(ids (dn 43 4)++(im 39::im 8::im 76::im 75::bm 1::(ids (dn 35 16)++ahY)))))
abbrev aX5:SgT:=(82,.ltm (.app (.sub (.var 3) (.ite (.eq 1536 (v 76)) 0 (v 76)) (.ite (.eq 1536 (v 76)) 0 (v 76)+(v 76+3-v 76))) (.var 90)))::bm 74::lm 3::(ids (dn 71 6++dn 64 18)++(ik 78 0::(45,.itm (v 45+1))::(77,.itm (v 77+1))::(ids (dn 43 4)++((39,.itm (v 39+1))::(8,.itm (v 8+N 1))::(76,.itm (v 76+3))::im 75::bm 1::(ids (dn 35 16)++((81,.itm (.len (.sub (.var 3) (.ite (.eq 1536 (v 76)) 0 (v 76)) (.ite (.eq 1536 (v 76)) 0 (v 76)+(v 76+3-v 76)))+lb 90))::(80,.itm (.len (.sub (.var 3) (.ite (.eq 1536 (v 76)) 0 (v 76)) (.ite (.eq 1536 (v 76)) 0 (v 76)+(v 76+3-v 76)))))::(79,.new 91)::ahY))))))
def fJ:Tre:=(nd 90 [(.lit true)] ((.lt (v 76) (v 75)))
 (nd 90 aO8 ((.lt (v 76) (lb 3)))
 (.fork (nd 90 aNM ((.lt (v 76+1) (v 75)))
 (nd 90 aOJ ((.lt (v 76+1) (lb 3)))
 (.fork (nd 93 auT ((nl 1536 (v 76+2)))
 (nd 93 aRG ((nl (v 8+N 2) 0))
 (nd 93 aQ1 ((nl 8000000 (v 39+1)))
 (nd 93 aUS ((nl 4194303 (v 77+2)))
 (nd 93 aX9 ((nl 4194303 (v 45+1)))
 (lf 0 90 93 (rgs EL.n (tSo 4)) ((82,.ltm (.app (.one 10) (.var 91)))::bm 74::lm 3::(ids (dn 71 6++dn 64 18)++(ik 78 0::(45,.itm (v 45+1))::(77,.itm (v 77+2))::(ids (dn 43 4)++((39,.itm (v 39+1))::(8,.itm (v 8+N 2))::aYL))))) ((nl 4194303 (v 45+1))::aX9)))))))
 (nd 93 agH ((nl 1536 (v 76+1)))
 (nd 93 aLN ((nl (v 8+N 1) 0))
 (nd 93 aHG ((nl 8000000 (v 39+1)))
 (nd 93 aJL ((nl 4194303 (v 77+1)))
 (nd 93 aCT ((nl 4194303 (v 45+1)))
 (lf 0 90 93 (rgs EL.n (tSo 4)) aXB ((nl 4194303 (v 45+1))::aCT))))))))))
 (.fork (nd 93 afL ((nl 1536 (v 76+1)))
 (nd 93 aDP ((nl (v 8+N 1) 0))
 (nd 93 aG6 ((nl 8000000 (v 39+1)))
 (nd 93 aLC ((nl 4194303 (v 77+1)))
 (nd 93 aJA ((nl 4194303 (v 45+1)))
 (lf 0 90 93 (rgs EL.n (tSo 4)) aXB ((nl 4194303 (v 45+1))::aJA)))))))
 (.fork (nd 90 as8 ((.lt (v 76+1) (v 75)))
 (nd 90 at7 ((.lt (v 76+1) (lb 3)))
 (.fork (nd 93 af9 ((nl 1536 (v 76+2)))
 (nd 93 ayT ((nl (v 8+N 1) 0))
 (nd 93 aM6 ((nl 8000000 (v 39+1)))
 (nd 93 aG4 ((nl 4194303 (v 77+1)))
 (nd 93 aIX ((nl 4194303 (v 45+1)))
 (lf 0 90 93 (rgs EL.n (tSo 4)) ((82,.ltm (.app (.one 10) (.var 91)))::bm 74::lm 3::(ids (dn 71 6++dn 64 18)++(ik 78 0::(45,.itm (v 45+1))::(77,.itm (v 77+1))::(ids (dn 43 4)++((39,.itm (v 39+1))::(8,.itm (v 8+N 1))::aYL))))) ((nl 4194303 (v 45+1))::aIX)))))))
 (lf 1 90 90 (rgs EL.n (tSn 4)) awA aB4))))
 (.fork (nd 90 alH ((.lt (v 76+1) (v 75)))
 (nd 90 aqA ((.lt (v 76+1) (lb 3)))
 (.fork (nd 90 al8 ((.lt (v 76+2) (v 75)))
 (nd 90 arU ((.lt (v 76+2) (lb 3)))
 (.fork (nd 90 am0 ((nl (v 76) 0))
 (nd 90 apM ((nl (v 76+3) (v 76)))
 (nd 90 ajS ((nl 1536 (v 76+3)))
 (nd 90 amH ((nl 1125899906842624 (v 76+3)))
 (nd 90 arA ((nl (lb 3) (.ite (.eq 1536 (v 76)) 0 (v 76)+(v 76+3-v 76))))
 (nd 90 afM ((.lt 0 (.len (.sub (.var 3) (.ite (.eq 1536 (v 76)) 0 (v 76)) (.ite (.eq 1536 (v 76)) 0 (v 76)+(v 76+3-v 76))))))
 (nd 90 az6 ((nl 70368744177664 (.len (.sub (.var 3) (.ite (.eq 1536 (v 76)) 0 (v 76)) (.ite (.eq 1536 (v 76)) 0 (v 76)+(v 76+3-v 76))))))
 (nd 92 aEX ((nl (v 8+N 1) 0))
 (nd 92 aFX ((nl 8000000 (v 39+1)))
 (nd 92 aA2 ((nl 4194303 (v 77+1)))
 (nd 92 aFC ((nl 4194303 (v 45+1)))
 (lf 0 90 92 (rgs EL.n (tSo 4)) aX5 ((nl 4194303 (v 45+1))::aFC)))))))))))))
 (.fork (nd 90 aoG ((nl (v 76) 0))
 (nd 90 aqB ((nl (v 76+3) (v 76)))
 (nd 90 aq9 ((nl 1536 (v 76+3)))
 (nd 90 aoU ((nl 1125899906842624 (v 76+3)))
 (nd 90 ak4 ((nl (lb 3) (.ite (.eq 1536 (v 76)) 0 (v 76)+(v 76+3-v 76))))
 (nd 90 ag9 ((.lt 0 (.len (.sub (.var 3) (.ite (.eq 1536 (v 76)) 0 (v 76)) (.ite (.eq 1536 (v 76)) 0 (v 76)+(v 76+3-v 76))))))
 (nd 90 aKH ((nl 70368744177664 (.len (.sub (.var 3) (.ite (.eq 1536 (v 76)) 0 (v 76)) (.ite (.eq 1536 (v 76)) 0 (v 76)+(v 76+3-v 76))))))
 (nd 92 aKP ((nl (v 8+N 1) 0))
 (nd 92 azG ((nl 8000000 (v 39+1)))
 (nd 92 aJ0 ((nl 4194303 (v 77+1)))
 (nd 92 aGB ((nl 4194303 (v 45+1)))
 (lf 0 90 92 (rgs EL.n (tSo 4)) aX5 ((nl 4194303 (v 45+1))::aGB)))))))))))))
 (lf 1 90 90 (rgs EL.n (tSn 4)) awA aD9)))))
 (lf 1 90 90 (rgs EL.n (tSn 4)) awA aFU))))
 (lf 1 90 90 (rgs EL.n (tSn 4)) awA aDY)))))))
theorem abC:aL9 tSN 4=fJ:=by kernel_rfl
abbrev aEH:=nl (lb 82) (v 81)::auT
abbrev ayO:=nl 70368744177664 (.len (.sub (.var 82) 0 (v 80))+1)::aEH
abbrev aF3:=nl 1536 (v 76+2)::ayO
abbrev aGC:=nl (v 8+N 2) 0::aF3
abbrev aFI:=nl 8000000 (v 39+1)::aGC
abbrev aHS:=nl 4194303 (v 77+2)::aFI
abbrev ayJ:=nl (lb 82) (v 81)::agH
abbrev aAW:=nl 70368744177664 (.len (.sub (.var 82) 0 (v 80))+1)::ayJ
abbrev aGF:=nl 1536 (v 76+1)::aAW
abbrev aE7:=nl (v 8+N 1) 0::aGF
abbrev aH3:=nl 8000000 (v 39+1)::aE7
abbrev aGX:=nl 4194303 (v 77+1)::aH3
abbrev aJX:=nl (lb 82) (v 81)::afL
abbrev aF7:=nl 70368744177664 (.len (.sub (.var 82) 0 (v 80))+1)::aJX
abbrev aH0:=nl 1536 (v 76+1)::aF7
abbrev aCP:=nl (v 8+N 1) 0::aH0
abbrev aGE:=nl 8000000 (v 39+1)::aCP
abbrev ayQ:=nl 4194303 (v 77+1)::aGE
abbrev ay2:=nl (lb 82) (v 81)::af9
abbrev aLD:=nl 70368744177664 (.len (.sub (.var 82) 0 (v 80))+1)::ay2
abbrev aIA:=nl 1536 (v 76+2)::aLD
abbrev aLS:=nl (v 8+N 1) 0::aIA
abbrev ayN:=nl 8000000 (v 39+1)::aLS
abbrev aNC:=nl 4194303 (v 77+1)::ayN
abbrev aBM:=nl (lb 82) (v 81)::afM
abbrev axK:=nl 70368744177664 (.len (.sub (.var 82) 0 (v 80))+.len (.sub (.var 3) (.ite (.eq 1536 (v 76)) 0 (v 76)) (.ite (.eq 1536 (v 76)) 0 (v 76)+(v 76+3-v 76))))::aBM
abbrev aAF:=nl (v 8+N 1) 0::axK
abbrev aJD:=nl 8000000 (v 39+1)::aAF
abbrev aLO:=nl 4194303 (v 77+1)::aJD
abbrev azN:=nl (lb 82) (v 81)::ag9
abbrev aJ1:=nl 70368744177664 (.len (.sub (.var 82) 0 (v 80))+.len (.sub (.var 3) (.ite (.eq 1536 (v 76)) 0 (v 76)) (.ite (.eq 1536 (v 76)) 0 (v 76)+(v 76+3-v 76))))::azN
abbrev ay1:=nl (v 8+N 1) 0::aJ1
abbrev aBA:=nl 8000000 (v 39+1)::ay1
abbrev aBG:=nl 4194303 (v 77+1)::aBA
abbrev aYN:SgT:=im 75::bm 1::(ids (dn 35 16)++((81,.itm (.len (.sub (.var 82) 0 (v 80))+1+lb 91))::(80,.itm (.len (.sub (.var 82) 0 (v 80))+1))::(79,.new 92)::ahY))
abbrev aT9:SgT:=(76,.itm (v 76+2))::aYN
abbrev aWK:SgT:=(82,.ltm (.app (.app (.sub (.var 82) 0 (v 80)) (.one 10)) (.var 91)))::bm 74::lm 3::(ids (dn 71 6++dn 64 18)++(ik 78 0::(45,.itm (v 45+1))::(77,.itm (v 77+1))::(ids (dn 43 4)++((39,.itm (v 39+1))::(8,.itm (v 8+N 1))::(76,.itm (v 76+1))::aYN))))
abbrev axH:SgT:=lm 82::bm 74::lm 3::(ids (dn 71 6++dn 64 18)++(im 78::im 45::im 77::(ids (dn 43 4)++(im 39::im 8::im 76::im 75::bm 1::(ids (dn 35 16)++(im 81::im 80::bm 79::ahY))))))
abbrev aLI:SgT:=(82,.ltm (.app (.app (.sub (.var 82) 0 (v 80)) (.sub (.var 3) (.ite (.eq 1536 (v 76)) 0 (v 76)) (.ite (.eq 1536 (v 76)) 0 (v 76)+(v 76+3-v 76)))) (.var 90)))::bm 74::lm 3::(ids (dn 71 6++dn 64 18)++(ik 78 0::(45,.itm (v 45+1))::(77,.itm (v 77+1))::(ids (dn 43 4)++((39,.itm (v 39+1))::(8,.itm (v 8+N 1))::(76,.itm (v 76+3))::im 75::bm 1::(ids (dn 35 16)++((81,.itm (.len (.sub (.var 82) 0 (v 80))+.len (.sub (.var 3) (.ite (.eq 1536 (v 76)) 0 (v 76)) (.ite (.eq 1536 (v 76)) 0 (v 76)+(v 76+3-v 76)))+lb 90))::(80,.itm (.len (.sub (.var 82) 0 (v 80))+.len (.sub (.var 3) (.ite (.eq 1536 (v 76)) 0 (v 76)) (.ite (.eq 1536 (v 76)) 0 (v 76)+(v 76+3-v 76)))))::(79,.new 91)::ahY))))))
def fE:Tre:=(nd 90 [(.lit true)] ((.lt (v 76) (v 75)))
 (nd 90 aO8 ((.lt (v 76) (lb 3)))
 (.fork (nd 90 aNM ((.lt (v 76+1) (v 75)))
 (nd 90 aOJ ((.lt (v 76+1) (lb 3)))
 (.fork (nd 90 auT ((nl (lb 82) (v 81)))
 (nd 90 aEH ((nl 70368744177664 (.len (.sub (.var 82) 0 (v 80))+1)))
 (nd 93 ayO ((nl 1536 (v 76+2)))
 (nd 93 aF3 ((nl (v 8+N 2) 0))
 (nd 93 aGC ((nl 8000000 (v 39+1)))
 (nd 93 aFI ((nl 4194303 (v 77+2)))
 (nd 93 aHS ((nl 4194303 (v 45+1)))
 (lf 0 90 93 (rgs EL.n (tSo 4)) ((82,.ltm (.app (.app (.sub (.var 82) 0 (v 80)) (.one 10)) (.var 91)))::bm 74::lm 3::(ids (dn 71 6++dn 64 18)++(ik 78 0::(45,.itm (v 45+1))::(77,.itm (v 77+2))::(ids (dn 43 4)++((39,.itm (v 39+1))::(8,.itm (v 8+N 2))::aT9))))) ((nl 4194303 (v 45+1))::aHS)))))))))
 (nd 90 agH ((nl (lb 82) (v 81)))
 (nd 90 ayJ ((nl 70368744177664 (.len (.sub (.var 82) 0 (v 80))+1)))
 (nd 93 aAW ((nl 1536 (v 76+1)))
 (nd 93 aGF ((nl (v 8+N 1) 0))
 (nd 93 aE7 ((nl 8000000 (v 39+1)))
 (nd 93 aH3 ((nl 4194303 (v 77+1)))
 (nd 93 aGX ((nl 4194303 (v 45+1)))
 (lf 0 90 93 (rgs EL.n (tSo 4)) aWK ((nl 4194303 (v 45+1))::aGX))))))))))))
 (.fork (nd 90 afL ((nl (lb 82) (v 81)))
 (nd 90 aJX ((nl 70368744177664 (.len (.sub (.var 82) 0 (v 80))+1)))
 (nd 93 aF7 ((nl 1536 (v 76+1)))
 (nd 93 aH0 ((nl (v 8+N 1) 0))
 (nd 93 aCP ((nl 8000000 (v 39+1)))
 (nd 93 aGE ((nl 4194303 (v 77+1)))
 (nd 93 ayQ ((nl 4194303 (v 45+1)))
 (lf 0 90 93 (rgs EL.n (tSo 4)) aWK ((nl 4194303 (v 45+1))::ayQ)))))))))
 (.fork (nd 90 as8 ((.lt (v 76+1) (v 75)))
 (nd 90 at7 ((.lt (v 76+1) (lb 3)))
 (.fork (nd 90 af9 ((nl (lb 82) (v 81)))
 (nd 90 ay2 ((nl 70368744177664 (.len (.sub (.var 82) 0 (v 80))+1)))
 (nd 93 aLD ((nl 1536 (v 76+2)))
 (nd 93 aIA ((nl (v 8+N 1) 0))
 (nd 93 aLS ((nl 8000000 (v 39+1)))
 (nd 93 ayN ((nl 4194303 (v 77+1)))
 (nd 93 aNC ((nl 4194303 (v 45+1)))
 (lf 0 90 93 (rgs EL.n (tSo 4)) ((82,.ltm (.app (.app (.sub (.var 82) 0 (v 80)) (.one 10)) (.var 91)))::bm 74::lm 3::(ids (dn 71 6++dn 64 18)++(ik 78 0::(45,.itm (v 45+1))::(77,.itm (v 77+1))::(ids (dn 43 4)++((39,.itm (v 39+1))::(8,.itm (v 8+N 1))::aT9))))) ((nl 4194303 (v 45+1))::aNC)))))))))
 (lf 0 90 90 (rgs EL.n (tSo 4)) axH aB4))))
 (.fork (nd 90 alH ((.lt (v 76+1) (v 75)))
 (nd 90 aqA ((.lt (v 76+1) (lb 3)))
 (.fork (nd 90 al8 ((.lt (v 76+2) (v 75)))
 (nd 90 arU ((.lt (v 76+2) (lb 3)))
 (.fork (nd 90 am0 ((nl (v 76) 0))
 (nd 90 apM ((nl (v 76+3) (v 76)))
 (nd 90 ajS ((nl 1536 (v 76+3)))
 (nd 90 amH ((nl 1125899906842624 (v 76+3)))
 (nd 90 arA ((nl (lb 3) (.ite (.eq 1536 (v 76)) 0 (v 76)+(v 76+3-v 76))))
 (nd 90 afM ((nl (lb 82) (v 81)))
 (nd 90 aBM ((nl 70368744177664 (.len (.sub (.var 82) 0 (v 80))+.len (.sub (.var 3) (.ite (.eq 1536 (v 76)) 0 (v 76)) (.ite (.eq 1536 (v 76)) 0 (v 76)+(v 76+3-v 76))))))
 (nd 92 axK ((nl (v 8+N 1) 0))
 (nd 92 aAF ((nl 8000000 (v 39+1)))
 (nd 92 aJD ((nl 4194303 (v 77+1)))
 (nd 92 aLO ((nl 4194303 (v 45+1)))
 (lf 0 90 92 (rgs EL.n (tSo 4)) aLI ((nl 4194303 (v 45+1))::aLO)))))))))))))
 (.fork (nd 90 aoG ((nl (v 76) 0))
 (nd 90 aqB ((nl (v 76+3) (v 76)))
 (nd 90 aq9 ((nl 1536 (v 76+3)))
 (nd 90 aoU ((nl 1125899906842624 (v 76+3)))
 (nd 90 ak4 ((nl (lb 3) (.ite (.eq 1536 (v 76)) 0 (v 76)+(v 76+3-v 76))))
 (nd 90 ag9 ((nl (lb 82) (v 81)))
 (nd 90 azN ((nl 70368744177664 (.len (.sub (.var 82) 0 (v 80))+.len (.sub (.var 3) (.ite (.eq 1536 (v 76)) 0 (v 76)) (.ite (.eq 1536 (v 76)) 0 (v 76)+(v 76+3-v 76))))))
 (nd 92 aJ1 ((nl (v 8+N 1) 0))
 (nd 92 ay1 ((nl 8000000 (v 39+1)))
 (nd 92 aBA ((nl 4194303 (v 77+1)))
 (nd 92 aBG ((nl 4194303 (v 45+1)))
 (lf 0 90 92 (rgs EL.n (tSo 4)) aLI ((nl 4194303 (v 45+1))::aBG)))))))))))))
 (lf 0 90 90 (rgs EL.n (tSo 4)) axH aD9)))))
 (lf 0 90 90 (rgs EL.n (tSo 4)) axH aFU))))
 (lf 0 90 90 (rgs EL.n (tSo 4)) axH aDY)))))))
theorem aaK:aJI=fE:=by kernel_rfl
end U
