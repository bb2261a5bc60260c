-- the statement of this claim: see YtoamgocecoiggaaDoorRs
import Derived.Test.YtoamgocecoiggaaDoorM30
set_option linter.unusedVariables false
set_option linter.unusedSimpArgs false
set_option maxRecDepth 100000
noncomputable section
open Go Go.SM Go.Proofs
namespace U
set_option maxHeartbeats 0
structure KR(V:Ren):Prop where
 p:KS V
 nel:¬ Nel V
 lsp:¬ Lsp V
def nQ(V γ:Ren):Prop:=(bk V 0=13/\bk V 1=10/\Mv V γ 2 2 1 0)\/(bk V 0=13/\bk V 1≠10/\Mv V γ 1 1 1 0)\/(bk V 0=10/\Mv V γ 1 1 1 0)
def pU(V γ:Ren):Prop:=bk V 0≠13/\bk V 0≠10/\Mv V γ 0 0 0 (gI V 78)
structure OutIt(γ:Ren)(O:List UInt8):Prop where
 out:(gL γ 82).take (gI γ 80).toNat=O
 n:gI γ 80=O.length
 cl:gI γ 81<=(gL γ 82).length
def RlN(V γ:Ren):Prop:=nQ V γ/\OutIt γ [10]
def RlS(V γ:Ren)(O:List UInt8):Prop:=(nQ V γ/\OutIt γ (O++[10]))\/(pU V γ/\OutIt γ O)
def GLN(V:Ren):Goal where
 J:=fun j γ=>match j with|0=>RlN V γ|_=>pU V γ
 L:=fun _ _=>False
 O:=fun _ _ _ _=>False
 W:=fun _ _=>False
def GLS(V:Ren):Goal where
 J:=fun _ γ=>RlS V γ (OS V)
 L:=fun _ _=>False
 O:=fun _ _ _ _=>False
 W:=fun _ _=>False
theorem aiS{V:Ren}(pr:KR V):fJ.Holds (GLN V) V:=by
 unfold fJ;have p:=pr.p;have hβ:=p.n.1;have p1:=p.buf;have p2:=p.i75;have p3:=p.i76;have p4:=p.w;have p5:=p.le;have p6:=p.un;have p7:=p.i8;have p8:=p.ix;have p9:=p.co;have q1:=p.ln;have q2:=p.nl;refine (nO hβ ?_ (nO hβ ?_ (fO (nO hβ ?_ (nO hβ ?_ (fO (nO hβ ?_ (nO hβ ?_ (nO hβ ?_ (nO hβ ?_ (nO hβ ?_ (lG opS hβ ?_)))))) (nO hβ ?_ (nO hβ ?_ (nO hβ ?_ (nO hβ ?_ (nO hβ ?_ (lG opS hβ ?_))))))))) (fO (nO hβ ?_ (nO hβ ?_ (nO hβ ?_ (nO hβ ?_ (nO hβ ?_ (lG opS hβ ?_)))))) (fO (nO hβ ?_ (nO hβ ?_ (fO (nO hβ ?_ (nO hβ ?_ (nO hβ ?_ (nO hβ ?_ (nO hβ ?_ (lG opS hβ ?_)))))) (lO opS hβ ?_)))) (fO (nO hβ ?_ (nO hβ ?_ (fO (nO hβ ?_ (nO hβ ?_ (fO (nO hβ ?_ (nO hβ ?_ (nO hβ ?_ (nO hβ ?_ (nO hβ ?_ (nO hβ ?_ (nO hβ ?_ (nO hβ ?_ (nO hβ ?_ (nO hβ ?_ (nO hβ ?_ (lG opS hβ ?_)))))))))))) (fO (nO hβ ?_ (nO hβ ?_ (nO hβ ?_ (nO hβ ?_ (nO hβ ?_ (nO hβ ?_ (nO hβ ?_ (nO hβ ?_ (nO hβ ?_ (nO hβ ?_ (nO hβ ?_ (lG opS hβ ?_)))))))))))) (lO opS hβ ?_))))) (lO opS hβ ?_)))) (lO opS hβ ?_)))))))
 .intro hA;clear hA;simp only[DD];try simp only[bk0,bkk]at *
  try simp only[LL]
  omega
 .intro hA;simp only[DD]at hA ⊢;try simp only[bk0,bkk]at *
  try simp only[LL]
  omega
 .intro hA;simp only[DD]at hA ⊢;obtain⟨a0,a1,a2⟩:=hA;try simp only[bk0,bkk]at *
  have hw:wd (bk V 0)=1:=by rw[a0];exact yI
  have la:=p.la a0;try simp only[LL]
  omega
 .intro hA;simp only[DD]at hA ⊢;obtain⟨a0,a1,a2,a3⟩:=hA;try simp only[bk0,bkk]at *
  have hw:wd (bk V 0)=1:=by rw[a1];exact yI
  have la:=p.la a1;try simp only[LL]
  omega
 .intro hA;simp only[DD]at hA ⊢;obtain⟨a0,a1,a2,a3,a4,a5⟩:=hA;try simp only[bk0,bkk]at *
  have hw:wd (bk V 0)=1:=by rw[a3];exact yI
  have la:=p.la a3;have u2:=p.u2 a3 a0;try simp only[LL]
  omega
 .intro hA;simp only[DD]at hA ⊢;obtain⟨a0,a1,a2,a3,a4,a5,a6⟩:=hA;try simp only[bk0,bkk]at *
  have hw:wd (bk V 0)=1:=by rw[a4];exact yI
  have la:=p.la a4;have u2:=p.u2 a4 a1;try simp only[LL]
  omega
 .intro hA;simp only[DD]at hA ⊢;obtain⟨a0,a1,a2,a3,a4,a5,a6,a7⟩:=hA;try simp only[bk0,bkk]at *
  have hw:wd (bk V 0)=1:=by rw[a5];exact yI
  have la:=p.la a5;have u2:=p.u2 a5 a2;try simp only[LL]
  omega
 .intro hA;simp only[DD]at hA ⊢;obtain⟨a0,a1,a2,a3,a4,a5,a6,a7,a8⟩:=hA;try simp only[bk0,bkk]at *
  have hw:wd (bk V 0)=1:=by rw[a6];exact yI
  have la:=p.la a6;have u2:=p.u2 a6 a3;try simp only[LL]
  omega
 .intro hA;simp only[DD]at hA ⊢;obtain⟨a0,a1,a2,a3,a4,a5,a6,a7,a8,a9⟩:=hA;try simp only[bk0,bkk]at *
  have hw:wd (bk V 0)=1:=by rw[a7];exact yI
  have la:=p.la a7;have u2:=p.u2 a7 a4;try simp only[LL]
  omega
 .intro δ0 J0 hl0 hA hr0 hid0 hI;simp +decide only[DD,aL hβ]at hA hI;obtain⟨a0,a1,a2,a3,a4,a5,a6,a7,a8,a9,a10⟩:=hA;obtain⟨i82,i74,i3,_,_,_,_,_,_,i75,i1,i81,i80,i0,i73⟩:=hI;try simp only[bk0,bkk]at *
  have hw:wd (bk V 0)=1:=by rw[a8];exact yI
  have la:=p.la a8;have u2:=p.u2 a8 a5;have m:nQ V J0:=.inl ⟨a8,a5,⟨⟨i0,i1,i73,i74,i3,i75,hid0⟩,by omega,by omega,by omega,by omega,by omega,by omega⟩⟩;exact⟨m,by rw[i82,i80];rfl,by rw[i80];rfl,by rw[i81,i82,List.length_append];simp<;>omega⟩
 .intro hA;simp only[DD]at hA ⊢;obtain⟨a0,a1,a2,a3,a4,a5⟩:=hA;try simp only[bk0,bkk]at *
  have hw:wd (bk V 0)=1:=by rw[a3];exact yI
  have la:=p.la a3;try simp only[LL]
  omega
 .intro hA;simp only[DD]at hA ⊢;obtain⟨a0,a1,a2,a3,a4,a5,a6⟩:=hA;try simp only[bk0,bkk]at *
  have hw:wd (bk V 0)=1:=by rw[a4];exact yI
  have la:=p.la a4;try simp only[LL]
  omega
 .intro hA;simp only[DD]at hA ⊢;obtain⟨a0,a1,a2,a3,a4,a5,a6,a7⟩:=hA;try simp only[bk0,bkk]at *
  have hw:wd (bk V 0)=1:=by rw[a5];exact yI
  have la:=p.la a5;try simp only[LL]
  omega
 .intro hA;simp only[DD]at hA ⊢;obtain⟨a0,a1,a2,a3,a4,a5,a6,a7,a8⟩:=hA;try simp only[bk0,bkk]at *
  have hw:wd (bk V 0)=1:=by rw[a6];exact yI
  have la:=p.la a6;try simp only[LL]
  omega
 .intro hA;simp only[DD]at hA ⊢;obtain⟨a0,a1,a2,a3,a4,a5,a6,a7,a8,a9⟩:=hA;try simp only[bk0,bkk]at *
  have hw:wd (bk V 0)=1:=by rw[a7];exact yI
  have la:=p.la a7;try simp only[LL]
  omega
 .intro δ0 J0 hl0 hA hr0 hid0 hI;simp +decide only[DD,aL hβ]at hA hI;obtain⟨a0,a1,a2,a3,a4,a5,a6,a7,a8,a9,a10⟩:=hA;obtain⟨i82,i74,i3,_,_,_,_,_,_,i75,i1,i81,i80,i0,i73⟩:=hI;try simp only[bk0,bkk]at *
  have hw:wd (bk V 0)=1:=by rw[a8];exact yI
  have la:=p.la a8;have m:nQ V J0:=.inr (.inl ⟨a8,a5,⟨⟨i0,i1,i73,i74,i3,i75,hid0⟩,by omega,by omega,by omega,by omega,by omega,by omega⟩⟩);exact⟨m,by rw[i82,i80];rfl,by rw[i80];rfl,by rw[i81,i82,List.length_append];simp<;>omega⟩
 .intro hA;simp only[DD]at hA ⊢;obtain⟨a0,a1,a2,a3⟩:=hA;try simp only[bk0,bkk]at *
  have hw:wd (bk V 0)=1:=by rw[a0];exact vI
  try simp only[LL]
  omega
 .intro hA;simp only[DD]at hA ⊢;obtain⟨a0,a1,a2,a3,a4⟩:=hA;try simp only[bk0,bkk]at *
  have hw:wd (bk V 0)=1:=by rw[a1];exact vI
  try simp only[LL]
  omega
 .intro hA;simp only[DD]at hA ⊢;obtain⟨a0,a1,a2,a3,a4,a5⟩:=hA;try simp only[bk0,bkk]at *
  have hw:wd (bk V 0)=1:=by rw[a2];exact vI
  try simp only[LL]
  omega
 .intro hA;simp only[DD]at hA ⊢;obtain⟨a0,a1,a2,a3,a4,a5,a6⟩:=hA;try simp only[bk0,bkk]at *
  have hw:wd (bk V 0)=1:=by rw[a3];exact vI
  try simp only[LL]
  omega
 .intro hA;simp only[DD]at hA ⊢;obtain⟨a0,a1,a2,a3,a4,a5,a6,a7⟩:=hA;try simp only[bk0,bkk]at *
  have hw:wd (bk V 0)=1:=by rw[a4];exact vI
  try simp only[LL]
  omega
 .intro δ0 J0 hl0 hA hr0 hid0 hI;simp +decide only[DD,aL hβ]at hA hI;obtain⟨a0,a1,a2,a3,a4,a5,a6,a7,a8⟩:=hA;obtain⟨i82,i74,i3,_,_,_,_,_,_,i75,i1,i81,i80,i0,i73⟩:=hI;try simp only[bk0,bkk]at *
  have hw:wd (bk V 0)=1:=by rw[a5];exact vI
  have m:nQ V J0:=.inr (.inr ⟨a5,⟨⟨i0,i1,i73,i74,i3,i75,hid0⟩,by omega,by omega,by omega,by omega,by omega,by omega⟩⟩);exact⟨m,by rw[i82,i80];rfl,by rw[i80];rfl,by rw[i81,i82,List.length_append];simp<;>omega⟩
 .intro hA;simp only[DD]at hA ⊢;obtain⟨a0,a1,a2,a3,a4⟩:=hA;try simp only[bk0,bkk]at *
  have hw:wd (bk V 0)=2:=by rw[a0];exact vL
  try simp only[LL]
  omega
 .intro hA;simp only[DD]at hA ⊢;obtain⟨a0,a1,a2,a3,a4,a5⟩:=hA;try simp only[bk0,bkk]at *
  have hw:wd (bk V 0)=2:=by rw[a1];exact vL
  try simp only[LL]
  omega
 .intro hA;simp only[DD]at hA ⊢;obtain⟨a0,a1,a2,a3,a4,a5,a6,a7⟩:=hA;try simp only[bk0,bkk]at *
  exact absurd ⟨a3,a0⟩ pr.nel
 .intro hA;simp only[DD]at hA ⊢;obtain⟨a0,a1,a2,a3,a4,a5,a6,a7,a8⟩:=hA;try simp only[bk0,bkk]at *
  exact absurd ⟨a4,a1⟩ pr.nel
 .intro hA;simp only[DD]at hA ⊢;obtain⟨a0,a1,a2,a3,a4,a5,a6,a7,a8,a9⟩:=hA;try simp only[bk0,bkk]at *
  exact absurd ⟨a5,a2⟩ pr.nel
 .intro hA;simp only[DD]at hA ⊢;obtain⟨a0,a1,a2,a3,a4,a5,a6,a7,a8,a9,a10⟩:=hA;try simp only[bk0,bkk]at *
  exact absurd ⟨a6,a3⟩ pr.nel
 .intro hA;simp only[DD]at hA ⊢;obtain⟨a0,a1,a2,a3,a4,a5,a6,a7,a8,a9,a10,a11⟩:=hA;try simp only[bk0,bkk]at *
  exact absurd ⟨a7,a4⟩ pr.nel
 .intro δ0 J0 hl0 hA hr0 hid0 hI;simp +decide only[DD,aL hβ]at hA hI;obtain⟨a0,a1,a2,a3,a4,a5,a6,a7,a8,a9,a10,a11,a12⟩:=hA;try simp only[bk0,bkk]at *
  exact absurd ⟨a8,a5⟩ pr.nel
 .intro J0 hl0 hA hr0 hid0 hI;simp only[DD]at hA hI;obtain⟨a0,a1,a2,a3,a4,a5,a6,a7⟩:=hA;obtain⟨i74,i3,_,_,_,_,_,_,i75,i1,i0,i73⟩:=hI;try simp only[bk0,bkk]at *
  have hw:wd (bk V 0)=2:=by rw[a3];exact vL
  exact⟨by omega,by omega,⟨⟨i0,i1,i73,i74,i3,i75,hid0⟩,by omega,by omega,by omega,by omega,by omega,by omega⟩⟩
 .intro hA;simp only[DD]at hA ⊢;obtain⟨a0,a1,a2,a3,a4,a5⟩:=hA;try simp only[bk0,bkk]at *
  have hw:wd (bk V 0)=3:=by rw[a0];exact yP
  try simp only[LL]
  omega
 .intro hA;simp only[DD]at hA ⊢;obtain⟨a0,a1,a2,a3,a4,a5,a6⟩:=hA;try simp only[bk0,bkk]at *
  have hw:wd (bk V 0)=3:=by rw[a1];exact yP
  try simp only[LL]
  omega
 .intro hA;simp only[DD]at hA ⊢;obtain⟨a0,a1,a2,a3,a4,a5,a6,a7,a8⟩:=hA;try simp only[bk0,bkk]at *
  have hw:wd (bk V 0)=3:=by rw[a3];exact yP
  try simp only[LL]
  omega
 .intro hA;simp only[DD]at hA ⊢;obtain⟨a0,a1,a2,a3,a4,a5,a6,a7,a8,a9⟩:=hA;try simp only[bk0,bkk]at *
  have hw:wd (bk V 0)=3:=by rw[a4];exact yP
  try simp only[LL]
  omega
 .intro hA;simp only[DD]at hA ⊢;obtain⟨a0,a1,a2,a3,a4,a5,a6,a7,a8,a9,a10,a11⟩:=hA;try simp only[bk0,bkk]at *
  exact absurd ⟨a6,a3,.inl a0⟩ pr.lsp
 .intro hA;simp only[DD]at hA ⊢;obtain⟨a0,a1,a2,a3,a4,a5,a6,a7,a8,a9,a10,a11,a12⟩:=hA;try simp only[bk0,bkk]at *
  exact absurd ⟨a7,a4,.inl a1⟩ pr.lsp
 .intro hA;simp only[DD]at hA ⊢;obtain⟨a0,a1,a2,a3,a4,a5,a6,a7,a8,a9,a10,a11,a12,a13⟩:=hA;try simp only[bk0,bkk]at *
  exact absurd ⟨a8,a5,.inl a2⟩ pr.lsp
 .intro hA;simp only[DD]at hA ⊢;obtain⟨a0,a1,a2,a3,a4,a5,a6,a7,a8,a9,a10,a11,a12,a13,a14⟩:=hA;try simp only[bk0,bkk]at *
  exact absurd ⟨a9,a6,.inl a3⟩ pr.lsp
 .intro hA;simp only[DD]at hA ⊢;obtain⟨a0,a1,a2,a3,a4,a5,a6,a7,a8,a9,a10,a11,a12,a13,a14,a15⟩:=hA;try simp only[bk0,bkk]at *
  exact absurd ⟨a10,a7,.inl a4⟩ pr.lsp
 .intro hA;simp only[DD]at hA ⊢;obtain⟨a0,a1,a2,a3,a4,a5,a6,a7,a8,a9,a10,a11,a12,a13,a14,a15,a16⟩:=hA;try simp only[bk0,bkk]at *
  exact absurd ⟨a11,a8,.inl a5⟩ pr.lsp
 .intro hA;simp only[DD]at hA ⊢;obtain⟨a0,a1,a2,a3,a4,a5,a6,a7,a8,a9,a10,a11,a12,a13,a14,a15,a16,a17⟩:=hA;try simp only[bk0,bkk]at *
  exact absurd ⟨a12,a9,.inl a6⟩ pr.lsp
 .intro hA;simp only[DD]at hA ⊢;obtain⟨a0,a1,a2,a3,a4,a5,a6,a7,a8,a9,a10,a11,a12,a13,a14,a15,a16,a17,a18⟩:=hA;try simp only[bk0,bkk]at *
  exact absurd ⟨a13,a10,.inl a7⟩ pr.lsp
 .intro hA;simp only[DD]at hA ⊢;obtain⟨a0,a1,a2,a3,a4,a5,a6,a7,a8,a9,a10,a11,a12,a13,a14,a15,a16,a17,a18,a19⟩:=hA;try simp only[bk0,bkk]at *
  exact absurd ⟨a14,a11,.inl a8⟩ pr.lsp
 .intro hA;simp only[DD]at hA ⊢;obtain⟨a0,a1,a2,a3,a4,a5,a6,a7,a8,a9,a10,a11,a12,a13,a14,a15,a16,a17,a18,a19,a20⟩:=hA;try simp only[bk0,bkk]at *
  exact absurd ⟨a15,a12,.inl a9⟩ pr.lsp
 .intro hA;simp only[DD]at hA ⊢;obtain⟨a0,a1,a2,a3,a4,a5,a6,a7,a8,a9,a10,a11,a12,a13,a14,a15,a16,a17,a18,a19,a20,a21⟩:=hA;try simp only[bk0,bkk]at *
  exact absurd ⟨a16,a13,.inl a10⟩ pr.lsp
 .intro δ0 J0 hl0 hA hr0 hid0 hI;simp +decide only[DD,aL hβ]at hA hI;obtain⟨a0,a1,a2,a3,a4,a5,a6,a7,a8,a9,a10,a11,a12,a13,a14,a15,a16,a17,a18,a19,a20,a21,a22⟩:=hA;try simp only[bk0,bkk]at *
  exact absurd ⟨a17,a14,.inl a11⟩ pr.lsp
 .intro hA;simp only[DD]at hA ⊢;obtain⟨a0,a1,a2,a3,a4,a5,a6,a7,a8,a9,a10,a11,a12⟩:=hA;try simp only[bk0,bkk]at *
  exact absurd ⟨a7,a4,.inr a0⟩ pr.lsp
 .intro hA;simp only[DD]at hA ⊢;obtain⟨a0,a1,a2,a3,a4,a5,a6,a7,a8,a9,a10,a11,a12,a13⟩:=hA;try simp only[bk0,bkk]at *
  exact absurd ⟨a8,a5,.inr a1⟩ pr.lsp
 .intro hA;simp only[DD]at hA ⊢;obtain⟨a0,a1,a2,a3,a4,a5,a6,a7,a8,a9,a10,a11,a12,a13,a14⟩:=hA;try simp only[bk0,bkk]at *
  exact absurd ⟨a9,a6,.inr a2⟩ pr.lsp
 .intro hA;simp only[DD]at hA ⊢;obtain⟨a0,a1,a2,a3,a4,a5,a6,a7,a8,a9,a10,a11,a12,a13,a14,a15⟩:=hA;try simp only[bk0,bkk]at *
  exact absurd ⟨a10,a7,.inr a3⟩ pr.lsp
 .intro hA;simp only[DD]at hA ⊢;obtain⟨a0,a1,a2,a3,a4,a5,a6,a7,a8,a9,a10,a11,a12,a13,a14,a15,a16⟩:=hA;try simp only[bk0,bkk]at *
  exact absurd ⟨a11,a8,.inr a4⟩ pr.lsp
 .intro hA;simp only[DD]at hA ⊢;obtain⟨a0,a1,a2,a3,a4,a5,a6,a7,a8,a9,a10,a11,a12,a13,a14,a15,a16,a17⟩:=hA;try simp only[bk0,bkk]at *
  exact absurd ⟨a12,a9,.inr a5⟩ pr.lsp
 .intro hA;simp only[DD]at hA ⊢;obtain⟨a0,a1,a2,a3,a4,a5,a6,a7,a8,a9,a10,a11,a12,a13,a14,a15,a16,a17,a18⟩:=hA;try simp only[bk0,bkk]at *
  exact absurd ⟨a13,a10,.inr a6⟩ pr.lsp
 .intro hA;simp only[DD]at hA ⊢;obtain⟨a0,a1,a2,a3,a4,a5,a6,a7,a8,a9,a10,a11,a12,a13,a14,a15,a16,a17,a18,a19⟩:=hA;try simp only[bk0,bkk]at *
  exact absurd ⟨a14,a11,.inr a7⟩ pr.lsp
 .intro hA;simp only[DD]at hA ⊢;obtain⟨a0,a1,a2,a3,a4,a5,a6,a7,a8,a9,a10,a11,a12,a13,a14,a15,a16,a17,a18,a19,a20⟩:=hA;try simp only[bk0,bkk]at *
  exact absurd ⟨a15,a12,.inr a8⟩ pr.lsp
 .intro hA;simp only[DD]at hA ⊢;obtain⟨a0,a1,a2,a3,a4,a5,a6,a7,a8,a9,a10,a11,a12,a13,a14,a15,a16,a17,a18,a19,a20,a21⟩:=hA;try simp only[bk0,bkk]at *
  exact absurd ⟨a16,a13,.inr a9⟩ pr.lsp
 .intro hA;simp only[DD]at hA ⊢;obtain⟨a0,a1,a2,a3,a4,a5,a6,a7,a8,a9,a10,a11,a12,a13,a14,a15,a16,a17,a18,a19,a20,a21,a22⟩:=hA;try simp only[bk0,bkk]at *
  exact absurd ⟨a17,a14,.inr a10⟩ pr.lsp
 .intro δ0 J0 hl0 hA hr0 hid0 hI;simp +decide only[DD,aL hβ]at hA hI;obtain⟨a0,a1,a2,a3,a4,a5,a6,a7,a8,a9,a10,a11,a12,a13,a14,a15,a16,a17,a18,a19,a20,a21,a22,a23⟩:=hA;try simp only[bk0,bkk]at *
  exact absurd ⟨a18,a15,.inr a11⟩ pr.lsp
 .intro J0 hl0 hA hr0 hid0 hI;simp only[DD]at hA hI;obtain⟨a0,a1,a2,a3,a4,a5,a6,a7,a8,a9,a10,a11,a12⟩:=hA;obtain⟨i74,i3,_,_,_,_,_,_,i75,i1,i0,i73⟩:=hI;try simp only[bk0,bkk]at *
  have hw:wd (bk V 0)=3:=by rw[a7];exact yP
  exact⟨by omega,by omega,⟨⟨i0,i1,i73,i74,i3,i75,hid0⟩,by omega,by omega,by omega,by omega,by omega,by omega⟩⟩
 .intro J0 hl0 hA hr0 hid0 hI;simp only[DD]at hA hI;obtain⟨a0,a1,a2,a3,a4,a5,a6,a7,a8⟩:=hA;obtain⟨i74,i3,_,_,_,_,_,_,i75,i1,i0,i73⟩:=hI;try simp only[bk0,bkk]at *
  have hw:wd (bk V 0)=3:=by rw[a3];exact yP
  exact⟨by omega,by omega,⟨⟨i0,i1,i73,i74,i3,i75,hid0⟩,by omega,by omega,by omega,by omega,by omega,by omega⟩⟩
 .intro J0 hl0 hA hr0 hid0 hI;simp only[DD]at hA hI;obtain⟨i74,i3,_,_,_,_,_,_,i75,i1,i0,i73⟩:=hI;try simp only[bk0,bkk]at *
  exact⟨by omega,by omega,⟨⟨i0,i1,i73,i74,i3,i75,hid0⟩,by omega,by omega,by omega,by omega,by omega,by omega⟩⟩
theorem aiA{V:Ren}(pr:KR V)(o:KO V)(o81:gI V 80<=gI V 81):fE.Holds (GLS V) V:=by
 unfold fE;have p:=pr.p;have hβ:=p.n.1;have p1:=p.buf;have p2:=p.i75;have p3:=p.i76;have p4:=p.w;have p5:=p.le;have p6:=p.un;have p7:=p.i8;have p8:=p.ix;have p9:=p.co;have q1:=p.ln;have q2:=p.nl;have o1:=o.n0;have o2:=o.nb;have o3:=o.cl;refine (nO hβ ?_ (nO hβ ?_ (fO (nO hβ ?_ (nO hβ ?_ (fO (nO hβ ?_ (nO hβ ?_ (nO hβ ?_ (nO hβ ?_ (nO hβ ?_ (nO hβ ?_ (nO hβ ?_ (lG opS hβ ?_)))))))) (nO hβ ?_ (nO hβ ?_ (nO hβ ?_ (nO hβ ?_ (nO hβ ?_ (nO hβ ?_ (nO hβ ?_ (lG opS hβ ?_))))))))))) (fO (nO hβ ?_ (nO hβ ?_ (nO hβ ?_ (nO hβ ?_ (nO hβ ?_ (nO hβ ?_ (nO hβ ?_ (lG opS hβ ?_)))))))) (fO (nO hβ ?_ (nO hβ ?_ (fO (nO hβ ?_ (nO hβ ?_ (nO hβ ?_ (nO hβ ?_ (nO hβ ?_ (nO hβ ?_ (nO hβ ?_ (lG opS hβ ?_)))))))) (lO opS hβ ?_)))) (fO (nO hβ ?_ (nO hβ ?_ (fO (nO hβ ?_ (nO hβ ?_ (fO (nO hβ ?_ (nO hβ ?_ (nO hβ ?_ (nO hβ ?_ (nO hβ ?_ (nO hβ ?_ (nO hβ ?_ (nO hβ ?_ (nO hβ ?_ (nO hβ ?_ (nO hβ ?_ (lG opS hβ ?_)))))))))))) (fO (nO hβ ?_ (nO hβ ?_ (nO hβ ?_ (nO hβ ?_ (nO hβ ?_ (nO hβ ?_ (nO hβ ?_ (nO hβ ?_ (nO hβ ?_ (nO hβ ?_ (nO hβ ?_ (lG opS hβ ?_)))))))))))) (lO opS hβ ?_))))) (lO opS hβ ?_)))) (lO opS hβ ?_)))))))
 .intro hA;clear hA;simp only[DD];try simp only[bk0,bkk]at *
  try simp only[LL]
  omega
 .intro hA;simp only[DD]at hA ⊢;try simp only[bk0,bkk]at *
  try simp only[LL]
  omega
 .intro hA;simp only[DD]at hA ⊢;obtain⟨a0,a1,a2⟩:=hA;try simp only[bk0,bkk]at *
  have hw:wd (bk V 0)=1:=by rw[a0];exact yI
  have la:=p.la a0;try simp only[LL]
  omega
 .intro hA;simp only[DD]at hA ⊢;obtain⟨a0,a1,a2,a3⟩:=hA;try simp only[bk0,bkk]at *
  have hw:wd (bk V 0)=1:=by rw[a1];exact yI
  have la:=p.la a1;try simp only[LL]
  omega
 .intro hA;simp only[DD]at hA ⊢;obtain⟨a0,a1,a2,a3,a4,a5⟩:=hA;try simp only[bk0,bkk]at *
  have hw:wd (bk V 0)=1:=by rw[a3];exact yI
  have la:=p.la a3;have u2:=p.u2 a3 a0;try simp only[LL]
  omega
 .intro hA;simp only[DD]at hA ⊢;obtain⟨a0,a1,a2,a3,a4,a5,a6⟩:=hA;try simp only[bk0,bkk]at *
  have hw:wd (bk V 0)=1:=by rw[a4];exact yI
  have la:=p.la a4;have u2:=p.u2 a4 a1;try simp only[LL]
  omega
 .intro hA;simp only[DD]at hA ⊢;obtain⟨a0,a1,a2,a3,a4,a5,a6,a7⟩:=hA;try simp only[bk0,bkk]at *
  have hw:wd (bk V 0)=1:=by rw[a5];exact yI
  have la:=p.la a5;have u2:=p.u2 a5 a2;try simp only[LL]
  omega
 .intro hA;simp only[DD]at hA ⊢;obtain⟨a0,a1,a2,a3,a4,a5,a6,a7,a8⟩:=hA;try simp only[bk0,bkk]at *
  have hw:wd (bk V 0)=1:=by rw[a6];exact yI
  have la:=p.la a6;have u2:=p.u2 a6 a3;try simp only[LL]
  omega
 .intro hA;simp only[DD]at hA ⊢;obtain⟨a0,a1,a2,a3,a4,a5,a6,a7,a8,a9⟩:=hA;try simp only[bk0,bkk]at *
  have hw:wd (bk V 0)=1:=by rw[a7];exact yI
  have la:=p.la a7;have u2:=p.u2 a7 a4;try simp only[LL]
  omega
 .intro hA;simp only[DD]at hA ⊢;obtain⟨a0,a1,a2,a3,a4,a5,a6,a7,a8,a9,a10⟩:=hA;try simp only[bk0,bkk]at *
  have hw:wd (bk V 0)=1:=by rw[a8];exact yI
  have la:=p.la a8;have u2:=p.u2 a8 a5;try simp only[LL]
  omega
 .intro hA;simp only[DD]at hA ⊢;obtain⟨a0,a1,a2,a3,a4,a5,a6,a7,a8,a9,a10,a11⟩:=hA;try simp only[bk0,bkk]at *
  have hw:wd (bk V 0)=1:=by rw[a9];exact yI
  have la:=p.la a9;have u2:=p.u2 a9 a6;try simp only[LL]
  omega
 .intro δ0 J0 hl0 hA hr0 hid0 hI;simp +decide only[DD,aL hβ]at hA hI;obtain⟨a0,a1,a2,a3,a4,a5,a6,a7,a8,a9,a10,a11,a12⟩:=hA;obtain⟨i82,i74,i3,_,_,_,_,_,_,i75,i1,i81,i80,i0,i73⟩:=hI;try simp only[bk0,bkk]at *
  have hw:wd (bk V 0)=1:=by rw[a10];exact yI
  have la:=p.la a10;have u2:=p.u2 a10 a7;have m:nQ V J0:=.inl ⟨a10,a7,⟨⟨i0,i1,i73,i74,i3,i75,hid0⟩,by omega,by omega,by omega,by omega,by omega,by omega⟩⟩;have ol:((OS V).length:Int)=gI V 80:=by unfold OS;rw[List.length_take];omega
  simp only[Int.toNat_zero,List.drop_zero]at i80 i81 i82;refine .inl ⟨m,?_,by rw[i80];unfold OS at *;simp<;>omega,by rw[i81,i82,List.length_append,List.length_append];unfold OS at *;simp<;>omega⟩
  .rw[i82,i80];have e1:((((gL V 82).take (gI V 80).toNat).length:Int)+1).toNat=((gL V 82).take (gI V 80).toNat++[10]).length:=by rw[List.length_append];simp<;>omega
   try simp only[List.length_cons,List.length_nil]at *
   first|rw[e1]|skip
   rw[List.take_append_of_le_length (by simp),List.take_of_length_le (by simp)];rfl
 .intro hA;simp only[DD]at hA ⊢;obtain⟨a0,a1,a2,a3,a4,a5⟩:=hA;try simp only[bk0,bkk]at *
  have hw:wd (bk V 0)=1:=by rw[a3];exact yI
  have la:=p.la a3;try simp only[LL]
  omega
 .intro hA;simp only[DD]at hA ⊢;obtain⟨a0,a1,a2,a3,a4,a5,a6⟩:=hA;try simp only[bk0,bkk]at *
  have hw:wd (bk V 0)=1:=by rw[a4];exact yI
  have la:=p.la a4;try simp only[LL]
  omega
 .intro hA;simp only[DD]at hA ⊢;obtain⟨a0,a1,a2,a3,a4,a5,a6,a7⟩:=hA;try simp only[bk0,bkk]at *
  have hw:wd (bk V 0)=1:=by rw[a5];exact yI
  have la:=p.la a5;try simp only[LL]
  omega
 .intro hA;simp only[DD]at hA ⊢;obtain⟨a0,a1,a2,a3,a4,a5,a6,a7,a8⟩:=hA;try simp only[bk0,bkk]at *
  have hw:wd (bk V 0)=1:=by rw[a6];exact yI
  have la:=p.la a6;try simp only[LL]
  omega
 .intro hA;simp only[DD]at hA ⊢;obtain⟨a0,a1,a2,a3,a4,a5,a6,a7,a8,a9⟩:=hA;try simp only[bk0,bkk]at *
  have hw:wd (bk V 0)=1:=by rw[a7];exact yI
  have la:=p.la a7;try simp only[LL]
  omega
 .intro hA;simp only[DD]at hA ⊢;obtain⟨a0,a1,a2,a3,a4,a5,a6,a7,a8,a9,a10⟩:=hA;try simp only[bk0,bkk]at *
  have hw:wd (bk V 0)=1:=by rw[a8];exact yI
  have la:=p.la a8;try simp only[LL]
  omega
 .intro hA;simp only[DD]at hA ⊢;obtain⟨a0,a1,a2,a3,a4,a5,a6,a7,a8,a9,a10,a11⟩:=hA;try simp only[bk0,bkk]at *
  have hw:wd (bk V 0)=1:=by rw[a9];exact yI
  have la:=p.la a9;try simp only[LL]
  omega
 .intro δ0 J0 hl0 hA hr0 hid0 hI;simp +decide only[DD,aL hβ]at hA hI;obtain⟨a0,a1,a2,a3,a4,a5,a6,a7,a8,a9,a10,a11,a12⟩:=hA;obtain⟨i82,i74,i3,_,_,_,_,_,_,i75,i1,i81,i80,i0,i73⟩:=hI;try simp only[bk0,bkk]at *
  have hw:wd (bk V 0)=1:=by rw[a10];exact yI
  have la:=p.la a10;have m:nQ V J0:=.inr (.inl ⟨a10,a7,⟨⟨i0,i1,i73,i74,i3,i75,hid0⟩,by omega,by omega,by omega,by omega,by omega,by omega⟩⟩);have ol:((OS V).length:Int)=gI V 80:=by unfold OS;rw[List.length_take];omega
  simp only[Int.toNat_zero,List.drop_zero]at i80 i81 i82;refine .inl ⟨m,?_,by rw[i80];unfold OS at *;simp<;>omega,by rw[i81,i82,List.length_append,List.length_append];unfold OS at *;simp<;>omega⟩
  .rw[i82,i80];have e1:((((gL V 82).take (gI V 80).toNat).length:Int)+1).toNat=((gL V 82).take (gI V 80).toNat++[10]).length:=by rw[List.length_append];simp<;>omega
   try simp only[List.length_cons,List.length_nil]at *
   first|rw[e1]|skip
   rw[List.take_append_of_le_length (by simp),List.take_of_length_le (by simp)];rfl
 .intro hA;simp only[DD]at hA ⊢;obtain⟨a0,a1,a2,a3⟩:=hA;try simp only[bk0,bkk]at *
  have hw:wd (bk V 0)=1:=by rw[a0];exact vI
  try simp only[LL]
  omega
 .intro hA;simp only[DD]at hA ⊢;obtain⟨a0,a1,a2,a3,a4⟩:=hA;try simp only[bk0,bkk]at *
  have hw:wd (bk V 0)=1:=by rw[a1];exact vI
  try simp only[LL]
  omega
 .intro hA;simp only[DD]at hA ⊢;obtain⟨a0,a1,a2,a3,a4,a5⟩:=hA;try simp only[bk0,bkk]at *
  have hw:wd (bk V 0)=1:=by rw[a2];exact vI
  try simp only[LL]
  omega
 .intro hA;simp only[DD]at hA ⊢;obtain⟨a0,a1,a2,a3,a4,a5,a6⟩:=hA;try simp only[bk0,bkk]at *
  have hw:wd (bk V 0)=1:=by rw[a3];exact vI
  try simp only[LL]
  omega
 .intro hA;simp only[DD]at hA ⊢;obtain⟨a0,a1,a2,a3,a4,a5,a6,a7⟩:=hA;try simp only[bk0,bkk]at *
  have hw:wd (bk V 0)=1:=by rw[a4];exact vI
  try simp only[LL]
  omega
 .intro hA;simp only[DD]at hA ⊢;obtain⟨a0,a1,a2,a3,a4,a5,a6,a7,a8⟩:=hA;try simp only[bk0,bkk]at *
  have hw:wd (bk V 0)=1:=by rw[a5];exact vI
  try simp only[LL]
  omega
 .intro hA;simp only[DD]at hA ⊢;obtain⟨a0,a1,a2,a3,a4,a5,a6,a7,a8,a9⟩:=hA;try simp only[bk0,bkk]at *
  have hw:wd (bk V 0)=1:=by rw[a6];exact vI
  try simp only[LL]
  omega
 .intro δ0 J0 hl0 hA hr0 hid0 hI;simp +decide only[DD,aL hβ]at hA hI;obtain⟨a0,a1,a2,a3,a4,a5,a6,a7,a8,a9,a10⟩:=hA;obtain⟨i82,i74,i3,_,_,_,_,_,_,i75,i1,i81,i80,i0,i73⟩:=hI;try simp only[bk0,bkk]at *
  have hw:wd (bk V 0)=1:=by rw[a7];exact vI
  have m:nQ V J0:=.inr (.inr ⟨a7,⟨⟨i0,i1,i73,i74,i3,i75,hid0⟩,by omega,by omega,by omega,by omega,by omega,by omega⟩⟩);have ol:((OS V).length:Int)=gI V 80:=by unfold OS;rw[List.length_take];omega
  simp only[Int.toNat_zero,List.drop_zero]at i80 i81 i82;refine .inl ⟨m,?_,by rw[i80];unfold OS at *;simp<;>omega,by rw[i81,i82,List.length_append,List.length_append];unfold OS at *;simp<;>omega⟩
  .rw[i82,i80];have e1:((((gL V 82).take (gI V 80).toNat).length:Int)+1).toNat=((gL V 82).take (gI V 80).toNat++[10]).length:=by rw[List.length_append];simp<;>omega
   try simp only[List.length_cons,List.length_nil]at *
   first|rw[e1]|skip
   rw[List.take_append_of_le_length (by simp),List.take_of_length_le (by simp)];rfl
 .intro hA;simp only[DD]at hA ⊢;obtain⟨a0,a1,a2,a3,a4⟩:=hA;try simp only[bk0,bkk]at *
  have hw:wd (bk V 0)=2:=by rw[a0];exact vL
  try simp only[LL]
  omega
 .intro hA;simp only[DD]at hA ⊢;obtain⟨a0,a1,a2,a3,a4,a5⟩:=hA;try simp only[bk0,bkk]at *
  have hw:wd (bk V 0)=2:=by rw[a1];exact vL
  try simp only[LL]
  omega
 .intro hA;simp only[DD]at hA ⊢;obtain⟨a0,a1,a2,a3,a4,a5,a6,a7⟩:=hA;try simp only[bk0,bkk]at *
  exact absurd ⟨a3,a0⟩ pr.nel
 .intro hA;simp only[DD]at hA ⊢;obtain⟨a0,a1,a2,a3,a4,a5,a6,a7,a8⟩:=hA;try simp only[bk0,bkk]at *
  exact absurd ⟨a4,a1⟩ pr.nel
 .intro hA;simp only[DD]at hA ⊢;obtain⟨a0,a1,a2,a3,a4,a5,a6,a7,a8,a9⟩:=hA;try simp only[bk0,bkk]at *
  exact absurd ⟨a5,a2⟩ pr.nel
 .intro hA;simp only[DD]at hA ⊢;obtain⟨a0,a1,a2,a3,a4,a5,a6,a7,a8,a9,a10⟩:=hA;try simp only[bk0,bkk]at *
  exact absurd ⟨a6,a3⟩ pr.nel
 .intro hA;simp only[DD]at hA ⊢;obtain⟨a0,a1,a2,a3,a4,a5,a6,a7,a8,a9,a10,a11⟩:=hA;try simp only[bk0,bkk]at *
  exact absurd ⟨a7,a4⟩ pr.nel
 .intro hA;simp only[DD]at hA ⊢;obtain⟨a0,a1,a2,a3,a4,a5,a6,a7,a8,a9,a10,a11,a12⟩:=hA;try simp only[bk0,bkk]at *
  exact absurd ⟨a8,a5⟩ pr.nel
 .intro hA;simp only[DD]at hA ⊢;obtain⟨a0,a1,a2,a3,a4,a5,a6,a7,a8,a9,a10,a11,a12,a13⟩:=hA;try simp only[bk0,bkk]at *
  exact absurd ⟨a9,a6⟩ pr.nel
 .intro δ0 J0 hl0 hA hr0 hid0 hI;simp +decide only[DD,aL hβ]at hA hI;obtain⟨a0,a1,a2,a3,a4,a5,a6,a7,a8,a9,a10,a11,a12,a13,a14⟩:=hA;try simp only[bk0,bkk]at *
  exact absurd ⟨a10,a7⟩ pr.nel
 .intro J0 hl0 hA hr0 hid0 hI;simp only[DD]at hA hI;obtain⟨a0,a1,a2,a3,a4,a5,a6,a7⟩:=hA;obtain⟨i82,i74,i3,_,_,_,_,_,_,i75,i1,i81,i80,_,i0,i73⟩:=hI;try simp only[bk0,bkk]at *
  have hw:wd (bk V 0)=2:=by rw[a3];exact vL
  exact .inr ⟨⟨by omega,by omega,⟨⟨i0,i1,i73,i74,i3,i75,hid0⟩,by omega,by omega,by omega,by omega,by omega,by omega⟩⟩,by rw[i80,i82];rfl,by rw[i80];unfold OS;rw[List.length_take];omega,by rw[i81,i82];exact o.cl⟩
 .intro hA;simp only[DD]at hA ⊢;obtain⟨a0,a1,a2,a3,a4,a5⟩:=hA;try simp only[bk0,bkk]at *
  have hw:wd (bk V 0)=3:=by rw[a0];exact yP
  try simp only[LL]
  omega
 .intro hA;simp only[DD]at hA ⊢;obtain⟨a0,a1,a2,a3,a4,a5,a6⟩:=hA;try simp only[bk0,bkk]at *
  have hw:wd (bk V 0)=3:=by rw[a1];exact yP
  try simp only[LL]
  omega
 .intro hA;simp only[DD]at hA ⊢;obtain⟨a0,a1,a2,a3,a4,a5,a6,a7,a8⟩:=hA;try simp only[bk0,bkk]at *
  have hw:wd (bk V 0)=3:=by rw[a3];exact yP
  try simp only[LL]
  omega
 .intro hA;simp only[DD]at hA ⊢;obtain⟨a0,a1,a2,a3,a4,a5,a6,a7,a8,a9⟩:=hA;try simp only[bk0,bkk]at *
  have hw:wd (bk V 0)=3:=by rw[a4];exact yP
  try simp only[LL]
  omega
 .intro hA;simp only[DD]at hA ⊢;obtain⟨a0,a1,a2,a3,a4,a5,a6,a7,a8,a9,a10,a11⟩:=hA;try simp only[bk0,bkk]at *
  exact absurd ⟨a6,a3,.inl a0⟩ pr.lsp
 .intro hA;simp only[DD]at hA ⊢;obtain⟨a0,a1,a2,a3,a4,a5,a6,a7,a8,a9,a10,a11,a12⟩:=hA;try simp only[bk0,bkk]at *
  exact absurd ⟨a7,a4,.inl a1⟩ pr.lsp
 .intro hA;simp only[DD]at hA ⊢;obtain⟨a0,a1,a2,a3,a4,a5,a6,a7,a8,a9,a10,a11,a12,a13⟩:=hA;try simp only[bk0,bkk]at *
  exact absurd ⟨a8,a5,.inl a2⟩ pr.lsp
 .intro hA;simp only[DD]at hA ⊢;obtain⟨a0,a1,a2,a3,a4,a5,a6,a7,a8,a9,a10,a11,a12,a13,a14⟩:=hA;try simp only[bk0,bkk]at *
  exact absurd ⟨a9,a6,.inl a3⟩ pr.lsp
 .intro hA;simp only[DD]at hA ⊢;obtain⟨a0,a1,a2,a3,a4,a5,a6,a7,a8,a9,a10,a11,a12,a13,a14,a15⟩:=hA;try simp only[bk0,bkk]at *
  exact absurd ⟨a10,a7,.inl a4⟩ pr.lsp
 .intro hA;simp only[DD]at hA ⊢;obtain⟨a0,a1,a2,a3,a4,a5,a6,a7,a8,a9,a10,a11,a12,a13,a14,a15,a16⟩:=hA;try simp only[bk0,bkk]at *
  exact absurd ⟨a11,a8,.inl a5⟩ pr.lsp
 .intro hA;simp only[DD]at hA ⊢;obtain⟨a0,a1,a2,a3,a4,a5,a6,a7,a8,a9,a10,a11,a12,a13,a14,a15,a16,a17⟩:=hA;try simp only[bk0,bkk]at *
  exact absurd ⟨a12,a9,.inl a6⟩ pr.lsp
 .intro hA;simp only[DD]at hA ⊢;obtain⟨a0,a1,a2,a3,a4,a5,a6,a7,a8,a9,a10,a11,a12,a13,a14,a15,a16,a17,a18⟩:=hA;try simp only[bk0,bkk]at *
  exact absurd ⟨a13,a10,.inl a7⟩ pr.lsp
 .intro hA;simp only[DD]at hA ⊢;obtain⟨a0,a1,a2,a3,a4,a5,a6,a7,a8,a9,a10,a11,a12,a13,a14,a15,a16,a17,a18,a19⟩:=hA;try simp only[bk0,bkk]at *
  exact absurd ⟨a14,a11,.inl a8⟩ pr.lsp
 .intro hA;simp only[DD]at hA ⊢;obtain⟨a0,a1,a2,a3,a4,a5,a6,a7,a8,a9,a10,a11,a12,a13,a14,a15,a16,a17,a18,a19,a20⟩:=hA;try simp only[bk0,bkk]at *
  exact absurd ⟨a15,a12,.inl a9⟩ pr.lsp
 .intro hA;simp only[DD]at hA ⊢;obtain⟨a0,a1,a2,a3,a4,a5,a6,a7,a8,a9,a10,a11,a12,a13,a14,a15,a16,a17,a18,a19,a20,a21⟩:=hA;try simp only[bk0,bkk]at *
  exact absurd ⟨a16,a13,.inl a10⟩ pr.lsp
 .intro δ0 J0 hl0 hA hr0 hid0 hI;simp +decide only[DD,aL hβ]at hA hI;obtain⟨a0,a1,a2,a3,a4,a5,a6,a7,a8,a9,a10,a11,a12,a13,a14,a15,a16,a17,a18,a19,a20,a21,a22⟩:=hA;try simp only[bk0,bkk]at *
  exact absurd ⟨a17,a14,.inl a11⟩ pr.lsp
 .intro hA;simp only[DD]at hA ⊢;obtain⟨a0,a1,a2,a3,a4,a5,a6,a7,a8,a9,a10,a11,a12⟩:=hA;try simp only[bk0,bkk]at *
  exact absurd ⟨a7,a4,.inr a0⟩ pr.lsp
 .intro hA;simp only[DD]at hA ⊢;obtain⟨a0,a1,a2,a3,a4,a5,a6,a7,a8,a9,a10,a11,a12,a13⟩:=hA;try simp only[bk0,bkk]at *
  exact absurd ⟨a8,a5,.inr a1⟩ pr.lsp
 .intro hA;simp only[DD]at hA ⊢;obtain⟨a0,a1,a2,a3,a4,a5,a6,a7,a8,a9,a10,a11,a12,a13,a14⟩:=hA;try simp only[bk0,bkk]at *
  exact absurd ⟨a9,a6,.inr a2⟩ pr.lsp
 .intro hA;simp only[DD]at hA ⊢;obtain⟨a0,a1,a2,a3,a4,a5,a6,a7,a8,a9,a10,a11,a12,a13,a14,a15⟩:=hA;try simp only[bk0,bkk]at *
  exact absurd ⟨a10,a7,.inr a3⟩ pr.lsp
 .intro hA;simp only[DD]at hA ⊢;obtain⟨a0,a1,a2,a3,a4,a5,a6,a7,a8,a9,a10,a11,a12,a13,a14,a15,a16⟩:=hA;try simp only[bk0,bkk]at *
  exact absurd ⟨a11,a8,.inr a4⟩ pr.lsp
 .intro hA;simp only[DD]at hA ⊢;obtain⟨a0,a1,a2,a3,a4,a5,a6,a7,a8,a9,a10,a11,a12,a13,a14,a15,a16,a17⟩:=hA;try simp only[bk0,bkk]at *
  exact absurd ⟨a12,a9,.inr a5⟩ pr.lsp
 .intro hA;simp only[DD]at hA ⊢;obtain⟨a0,a1,a2,a3,a4,a5,a6,a7,a8,a9,a10,a11,a12,a13,a14,a15,a16,a17,a18⟩:=hA;try simp only[bk0,bkk]at *
  exact absurd ⟨a13,a10,.inr a6⟩ pr.lsp
 .intro hA;simp only[DD]at hA ⊢;obtain⟨a0,a1,a2,a3,a4,a5,a6,a7,a8,a9,a10,a11,a12,a13,a14,a15,a16,a17,a18,a19⟩:=hA;try simp only[bk0,bkk]at *
  exact absurd ⟨a14,a11,.inr a7⟩ pr.lsp
 .intro hA;simp only[DD]at hA ⊢;obtain⟨a0,a1,a2,a3,a4,a5,a6,a7,a8,a9,a10,a11,a12,a13,a14,a15,a16,a17,a18,a19,a20⟩:=hA;try simp only[bk0,bkk]at *
  exact absurd ⟨a15,a12,.inr a8⟩ pr.lsp
 .intro hA;simp only[DD]at hA ⊢;obtain⟨a0,a1,a2,a3,a4,a5,a6,a7,a8,a9,a10,a11,a12,a13,a14,a15,a16,a17,a18,a19,a20,a21⟩:=hA;try simp only[bk0,bkk]at *
  exact absurd ⟨a16,a13,.inr a9⟩ pr.lsp
 .intro hA;simp only[DD]at hA ⊢;obtain⟨a0,a1,a2,a3,a4,a5,a6,a7,a8,a9,a10,a11,a12,a13,a14,a15,a16,a17,a18,a19,a20,a21,a22⟩:=hA;try simp only[bk0,bkk]at *
  exact absurd ⟨a17,a14,.inr a10⟩ pr.lsp
 .intro δ0 J0 hl0 hA hr0 hid0 hI;simp +decide only[DD,aL hβ]at hA hI;obtain⟨a0,a1,a2,a3,a4,a5,a6,a7,a8,a9,a10,a11,a12,a13,a14,a15,a16,a17,a18,a19,a20,a21,a22,a23⟩:=hA;try simp only[bk0,bkk]at *
  exact absurd ⟨a18,a15,.inr a11⟩ pr.lsp
 .intro J0 hl0 hA hr0 hid0 hI;simp only[DD]at hA hI;obtain⟨a0,a1,a2,a3,a4,a5,a6,a7,a8,a9,a10,a11,a12⟩:=hA;obtain⟨i82,i74,i3,_,_,_,_,_,_,i75,i1,i81,i80,_,i0,i73⟩:=hI;try simp only[bk0,bkk]at *
  have hw:wd (bk V 0)=3:=by rw[a7];exact yP
  exact .inr ⟨⟨by omega,by omega,⟨⟨i0,i1,i73,i74,i3,i75,hid0⟩,by omega,by omega,by omega,by omega,by omega,by omega⟩⟩,by rw[i80,i82];rfl,by rw[i80];unfold OS;rw[List.length_take];omega,by rw[i81,i82];exact o.cl⟩
 .intro J0 hl0 hA hr0 hid0 hI;simp only[DD]at hA hI;obtain⟨a0,a1,a2,a3,a4,a5,a6,a7,a8⟩:=hA;obtain⟨i82,i74,i3,_,_,_,_,_,_,i75,i1,i81,i80,_,i0,i73⟩:=hI;try simp only[bk0,bkk]at *
  have hw:wd (bk V 0)=3:=by rw[a3];exact yP
  exact .inr ⟨⟨by omega,by omega,⟨⟨i0,i1,i73,i74,i3,i75,hid0⟩,by omega,by omega,by omega,by omega,by omega,by omega⟩⟩,by rw[i80,i82];rfl,by rw[i80];unfold OS;rw[List.length_take];omega,by rw[i81,i82];exact o.cl⟩
 .intro J0 hl0 hA hr0 hid0 hI;simp only[DD]at hA hI;obtain⟨i82,i74,i3,_,_,_,_,_,_,i75,i1,i81,i80,_,i0,i73⟩:=hI;try simp only[bk0,bkk]at *
  exact .inr ⟨⟨by omega,by omega,⟨⟨i0,i1,i73,i74,i3,i75,hid0⟩,by omega,by omega,by omega,by omega,by omega,by omega⟩⟩,by rw[i80,i82];rfl,by rw[i80];unfold OS;rw[List.length_take];omega,by rw[i81,i82];exact o.cl⟩
def pC(j:Nat):CSpec:={ j:=j,n:=2,tin:=tSN,outs:=[(xE,tSo 4,smS)] }
def oJ(j:Nat):CSpec:={ j:=j,n:=2,tin:=tSS,outs:=[(xE,tSo 4,smS)] }
def pV(j:Nat):CSpec:={ j:=j,n:=2,tin:=tSN,outs:=[(xE,tSo 4,smS),(.slice none 0 0,tSn 4,smS)] }
def mN(j:Nat):CSpec:={ j:=j,n:=2,tin:=tSS,outs:=[(xE,tSo 4,smS)] }
theorem aCR{V:Ren}(h:zF V (rgs 2 tSS)):gI V 80<=gI V 81:=by
 have e:rgs 2 tSS=[.le (.lit 0) (.lit 0),.le (.lit 0) (.var 80),.le (.var 80) (.var 81)]++rgs 2 tSN:=by kernel_rfl
 rw[e]at h;simp only[List.cons_append,List.nil_append,zF,TB.P,xW,xT]at h;exact h.2.2.1
theorem gW{V γ:Ren}(h:nQ V γ):SmQ V γ:=by
 rcases h with h|h|h
 .exact h.2.2.s
 .exact h.2.2.s
 .exact h.2.s
theorem aTJ{G:Goal}(hCL:∀ V,G.CL 35 V->KS V)(hCO:∀ V V1,G.CL 35 V->Ln V1->RQ V V1 []->G.CO 35 0 V V1):yT Tryd.prog G 35 (pC 35):=by
 refine zU (E:=ERd) (Gt:=GR ON) (fn:=wK 35) (c:=body 35) (s:=pC 35) zQ zS follows (by kernel_rfl) (by kernel_rfl) (by kernel_rfl) (by kernel_rfl) (by kernel_rfl) (by kernel_rfl) ?_ ?_ ?_ (fun V w0 r s c h=>by rcases h with h|h<;>cases h) (fun V j i V1 V2 h=>h.elim) (fun V r s h=>by rcases h with h|h<;>cases h) (fun V=>t8)
 .intro e j tp h;have h:=h.resolve_right fun h=>by cases h
  cases e with
  |normal=>cases h;exact⟨(fun id h=>by cases h),xE,by kernel_rfl,_,rfl⟩
  |ret=>cases h;exact⟨(fun id h=>by cases h),xE,by kernel_rfl,_,rfl⟩
  |exit id=>cases h
 .intro V hcl hlen hr;have p:=hCL V hcl;refine⟨p.n.2,?_⟩;have y2:=p.le;have y3:=p.w;have x75:=p.i75;rw[<-xC]at y2 y3;have fin:∀ {A:List TB} {t:Tre},eU A=t->t.Holds (GR ON V) V->(A.all fun t=>t.ok 90)=true->zF V A->∃ (A:List Value) (k:Nat),Facts V A/\(tre ERd k (body 35) [] A (pC 35).tin.frame (pC 35).tin.heap).Holds (GR ON V) V:=by
   intro A t ht hh hok hA;refine⟨A.map TB.enc,2000,Facts.ofP hA fun t ht=>?_,?_⟩
   .rw[p.n.1];exact List.all_eq_true.1 hok t ht
   .unfold eU at ht;show (tre ERd 2000 (body 35) [] (A.map TB.enc) tSN.frame tSN.heap).Holds (GR ON V) V;rw[ht];exact hh
  have hlt:gI V 76<1536:=by omega
  rcases anT (w:=0) y3 with⟨hw,a1⟩|⟨hw,a1,a2⟩|⟨hw,a1,a2,a3⟩|⟨hw,a1,a2,a3,a4⟩
  .exact fin aeN (alT p hw) (by decide) ⟨hlt,a1,trivial⟩
  .exact fin aeL (ap4 p hw) (by decide) ⟨hlt,a1,a2,trivial⟩
  .exact fin acN (apY p hw) (by decide) ⟨hlt,a1,a2,a3,trivial⟩
  .exact fin ac4 (amX p hw) (by decide) ⟨hlt,a1,a2,a3,a4,trivial⟩
 .intro V j v tp sm V1 hcl hout hlen _ hJ;have p:=hCL V hcl;have q:RQ V V1 []:=hJ;match j,hout with
  |0,hout =>
   cases hout;exact⟨hCO V V1 hcl (p.n.of q.m.s.h73 hlen) q,vN q.m.s⟩
theorem aSM{G:Goal}(hCL:∀ V,G.CL 35 V->KS V/\KO V)(hCO:∀ V V1,G.CL 35 V->Ln V1->RQ V V1 (OS V)->G.CO 35 0 V V1):yT Tryd.prog G 35 (oJ 35):=by
 refine zU (E:=ERd) (Gt:=GR OS) (fn:=wK 35) (c:=body 35) (s:=oJ 35) zQ zS follows (by kernel_rfl) (by kernel_rfl) (by kernel_rfl) (by kernel_rfl) (by kernel_rfl) (by kernel_rfl) ?_ ?_ ?_ (fun V w0 r s c h=>by rcases h with h|h<;>cases h) (fun V j i V1 V2 h=>h.elim) (fun V r s h=>by rcases h with h|h<;>cases h) (fun V=>t8)
 .intro e j tp h;have h:=h.resolve_right fun h=>by cases h
  cases e with
  |normal=>cases h;exact⟨(fun id h=>by cases h),xE,by kernel_rfl,_,rfl⟩
  |ret=>cases h;exact⟨(fun id h=>by cases h),xE,by kernel_rfl,_,rfl⟩
  |exit id=>cases h
 .intro V hcl hlen hr;obtain⟨p,o⟩:=hCL V hcl;have o81:=aCR hr;refine⟨p.n.2,?_⟩;have y2:=p.le;have y3:=p.w;have x75:=p.i75;rw[<-xC]at y2 y3;have fin:∀ {A:List TB} {t:Tre},eP A=t->t.Holds (GR OS V) V->(A.all fun t=>t.ok 90)=true->zF V A->∃ (A:List Value) (k:Nat),Facts V A/\(tre ERd k (body 35) [] A (oJ 35).tin.frame (oJ 35).tin.heap).Holds (GR OS V) V:=by
   intro A t ht hh hok hA;refine⟨A.map TB.enc,2000,Facts.ofP hA fun t ht=>?_,?_⟩
   .rw[p.n.1];exact List.all_eq_true.1 hok t ht
   .unfold eP at ht;show (tre ERd 2000 (body 35) [] (A.map TB.enc) tSS.frame tSS.heap).Holds (GR OS V) V;rw[ht];exact hh
  have hlt:gI V 76<1536:=by omega
  have h80:¬ gI V 80=0:=by have:=o.n0;omega
  rcases anT (w:=0) y3 with⟨hw,a1⟩|⟨hw,a1,a2⟩|⟨hw,a1,a2,a3⟩|⟨hw,a1,a2,a3,a4⟩
  .exact fin adR (aqP p o o81 hw) (by decide) ⟨h80,hlt,a1,trivial⟩
  .exact fin ab1 (arF p o o81 hw) (by decide) ⟨h80,hlt,a1,a2,trivial⟩
  .exact fin ab4 (akC p o o81 hw) (by decide) ⟨h80,hlt,a1,a2,a3,trivial⟩
  .exact fin aeG (ar4 p o o81 hw) (by decide) ⟨h80,hlt,a1,a2,a3,a4,trivial⟩
 .intro V j v tp sm V1 hcl hout hlen _ hJ;have p:=(hCL V hcl).1;have q:RQ V V1 (OS V):=hJ;match j,hout with
  |0,hout =>
   cases hout;exact⟨hCO V V1 hcl (p.n.of q.m.s.h73 hlen) q,vN q.m.s⟩
theorem aRB{G:Goal}(hCL:∀ V,G.CL 38 V->KR V)(hCO0:∀ V V1,G.CL 38 V->Ln V1->RlN V V1->G.CO 38 0 V V1)(hCO1:∀ V V1,G.CL 38 V->Ln V1->pU V V1->G.CO 38 1 V V1):yT Tryd.prog G 38 (pV 38):=by
 refine zU (E:=EL) (Gt:=GLN) (fn:=wK 38) (c:=body 38) (s:=pV 38) zQ zS follows (by kernel_rfl) (by kernel_rfl) (by kernel_rfl) (by kernel_rfl) (by kernel_rfl) (by kernel_rfl) ?_ ?_ ?_ (fun V w0 r s c h=>by rcases h with h|h<;>cases h) (fun V j i V1 V2 h=>h.elim) (fun V r s h=>by rcases h with h|h<;>cases h) (fun V=>t8)
 .intro e j tp h;rcases h with h|h
  .cases e with
   |normal=>cases h;exact⟨(fun id h=>by cases h),xE,by kernel_rfl,_,rfl⟩
   |ret=>cases h;exact⟨(fun id h=>by cases h),xE,by kernel_rfl,_,rfl⟩
   |exit id=>cases h
  .cases e with
   |normal=>cases h;exact⟨(fun id h=>by cases h),.slice none 0 0,by kernel_rfl,_,rfl⟩
   |ret=>cases h;exact⟨(fun id h=>by cases h),.slice none 0 0,by kernel_rfl,_,rfl⟩
   |exit id=>cases h
 .intro V hcl hlen hr;have pr:=hCL V hcl;refine⟨pr.p.n.2,[.bool true],2000,jG V,?_⟩;show (aL9 tSN 4).Holds _ V;rw[abC];exact aiS pr
 .intro V j v tp sm V1 hcl hout hlen _ hJ;have p:=(hCL V hcl).p;match j,hout with
  |0,hout =>
   cases hout;have q:RlN V V1:=hJ;have s:=gW q.1;exact⟨hCO0 V V1 hcl (p.n.of s.h73 hlen) q,vN s⟩
  |1,hout =>
   cases hout;have q:pU V V1:=hJ;exact⟨hCO1 V V1 hcl (p.n.of q.2.2.s.h73 hlen) q,vN q.2.2.s⟩
theorem aQ9{G:Goal}(hCL:∀ V,G.CL 38 V->KR V/\KO V)(hCO:∀ V V1,G.CL 38 V->Ln V1->RlS V V1 (OS V)->G.CO 38 0 V V1):yT Tryd.prog G 38 (mN 38):=by
 refine zU (E:=ELS) (Gt:=GLS) (fn:=wK 38) (c:=body 38) (s:=mN 38) zQ zS follows (by kernel_rfl) (by kernel_rfl) (by kernel_rfl) (by kernel_rfl) (by kernel_rfl) (by kernel_rfl) ?_ ?_ ?_ (fun V w0 r s c h=>by rcases h with h|h<;>cases h) (fun V j i V1 V2 h=>h.elim) (fun V r s h=>by rcases h with h|h<;>cases h) (fun V=>t8)
 .intro e j tp h;have h:=h.resolve_right fun h=>by cases h
  cases e with
  |normal=>cases h;exact⟨(fun id h=>by cases h),xE,by kernel_rfl,_,rfl⟩
  |ret=>cases h;exact⟨(fun id h=>by cases h),xE,by kernel_rfl,_,rfl⟩
  |exit id=>cases h
 .intro V hcl hlen hr;obtain⟨pr,o⟩:=hCL V hcl;have o81:=aCR hr;refine⟨pr.p.n.2,[.bool true],2000,jG V,?_⟩;show (aJI).Holds _ V;rw[aaK];exact aiA pr o o81
 .intro V j v tp sm V1 hcl hout hlen _ hJ;have p:=(hCL V hcl).1.p;have q:RlS V V1 (OS V):=hJ;match j,hout with
  |0,hout =>
   cases hout;have s:SmQ V V1:=by
    rcases q with q|q
    .exact gW q.1
    .exact q.1.2.2.s
   exact⟨hCO V V1 hcl (p.n.of s.h73 hlen) q,vN s⟩
def ct1(g:Nat)(s:CSpec):FuncId->Option CSpec:=fun f=>if f=g then some s else none
def EH(f g:Nat)(s:CSpec)(r:Nat)(ft ft2:AExit->Option (Nat × Tpl)):Env:=EG f (ct1 g s) (fun n=>Nat.beq n r) (fun _=>none) (fun _=>none) ft ft2
def aAX:Tre:=tre (EH 23 36 (spS 36) 0 v9 (fun _=>none)) 2000 (body 23) [] [] tS0.frame tS0.heap
def aDT:Tre:=tre (EH 24 37 (spS 37) 0 v9 (fun _=>none)) 2000 (body 24) [] [] tS0.frame tS0.heap
def aqO:Tre:=tre (EH 20 35 (pC 35) 1 (qS 4) (fun _=>none)) 2000 (body 20) [] [] tSN.frame tSN.heap
def aoN:Tre:=tre (EH 20 35 (oJ 35) 1 (qS 4) (fun _=>none)) 2000 (body 20) [] [] tSS.frame tSS.heap
def ajO:Tre:=tre (EH 25 38 (pV 38) 1 (qS 4) (ah6 4)) 2000 (body 25) [] [] tSN.frame tSN.heap
def an5:Tre:=tre (EH 25 38 (mN 38) 1 (qS 4) (fun _=>none)) 2000 (body 25) [] [] tSS.frame tSS.heap
def a0D:List (Nat × Value):=[(19,I 39 0 8000000),(24,I 77 0 4194303),(25,I 45 0 4194303),(26,I 78 0 4194303)]++aPM 0
def kN:Blk:={ cells:=[],elem:=3,ro:=true,live:=true,seq:=some (nd1 29 (x 85)) }
def U6:Value:=sL 84 (Z 0) (x 86) (x 87)
def avM:Blk:={ cells:=[],elem:=31,ro:=false,live:=true,seq:=some (nd1 28 (x 89)) }
def rZ:Value:=sL 88 (Z 0) (x 14) (x 15)
def tZ(o m:Bool):Tpl:={ m:=90,F:=[(6,pt 83),(7,pt 0),(8,if o then xE else .slice none 0 0),(9,if m then rZ else .slice none 0 0),(14,U6),(15,I 86 0 8192),(16,I 36 0 8192)],H:=HP a0D++[(83,aq5 (.chan none)),(84,kN)]++(if o then [(79,Y8)] else [])++(if m then [(88,avM)] else []),G:=[73] }
def tZe:Tpl:={ m:=90,F:=[(6,pt 83)],H:=[(83,aq5 (Z 1))],G:=[73] }
def tZx(o m:Bool):Tpl:={ m:=90,F:=[(6,pt 83),(8,if o then xE else .slice none 0 0),(9,if m then rZ else .slice none 0 0),(14,U6)],H:=[(83,aq5 (.chan none)),(84,kN)]++(if o then [(79,Y8)] else [])++(if m then [(88,avM)] else []),G:=[73] }
def ctZ(o:Bool):FuncId->Option CSpec:=fun f=>if f=17 then some (spC 17) else if f=23 then some (spS 23) else if f=24 then some (spS 24) else if f=20 then some (if o then oJ 20 else pC 20) else if f=25 then some (if o then mN 25 else pV 25) else none
def rcZ:Nat->Bool:=fun n=>Nat.beq n 7 || (Nat.beq n 12 || (Nat.beq n 14 || (Nat.beq n 16 || Nat.beq n 18)))
def ftZ(o m:Bool):AExit->Option (Nat × Tpl):=fun e=>match e with
 | .normal=>some (0,tZ o true)
 | .ret=>some (1,tZe)
 | .exit 0=>some (2,tZx o m)
 |_=>none
def aZJ(o:Bool):AExit->Option (Nat × Tpl):=fun e=>match e with
 | .normal=>if o then none else some (3,tZ true true)
 |_=>none
def qP:Code:=(findLoop 5 100 (body 13)).getD .skip
def EZ(o m:Bool):Env:=EG 13 (ctZ o) rcZ (fun _=>none) (fun _=>none) (ftZ o m) (aZJ o)
def au9(o m:Bool):Tre:=tre (EZ o m) 2000 qP [] [] (tZ o m).frame (tZ o m).heap
def t13:Tpl:={ m:=90,F:=[(0,sL 16 (Z 0) (x 18) (x 72)),(1,U6)],H:=[(16,vM),(84,kN),(73,xB)],G:=[73] }
def uI(o m:Bool):Tpl:={ m:=90,F:=[(4,if o then xE else .slice none 0 0),(5,if m then rZ else .slice none 0 0),(6,pt 83),(14,U6)],H:=[(83,aq5 (Z 0)),(84,kN)]++(if o then [(79,Y8)] else [])++(if m then [(88,avM)] else []),G:=[73] }
def amJ(A:Bool):LSpec:={ j:=5,tin:=tZ false false,outs:=if A then [(.exit 0,tZx false false,[])] else [(.exit 0,tZx false true,[]),(.exit 0,tZx true true,[])] }
def R7(A:Bool):Nat->Option LSpec:=fun n=>if n=5 then some (amJ A) else none
def aV9:AExit->Option (Nat × Tpl):=fun e=>match e with
 | .ret=>some (0,uI false false)
 | .normal=>some (0,uI false false)
 |_=>none
def aRP:AExit->Option (Nat × Tpl):=fun e=>match e with
 | .ret=>some (0,uI false true)
 | .normal=>some (0,uI false true)
 |_=>none
def aOQ:AExit->Option (Nat × Tpl):=fun e=>match e with
 | .ret=>some (1,uI true true)
 | .normal=>some (1,uI true true)
 |_=>none
def anS:Env:=EG 13 (ctI 14 jX) (fun n=>Nat.beq n 1) (fun _=>none) (R7 true) aV9 (fun _=>none)
def ad8:Env:=EG 13 (ctI 14 jX) (fun n=>Nat.beq n 1) (fun _=>none) (R7 false) aRP aOQ
def anZ:Tre:=tre anS 2000 (body 13) [] [] t13.frame t13.heap
def aqW:Tre:=tre ad8 2000 (body 13) [] [] t13.frame t13.heap
def smT:List (Nat × Nat):=[(84,0),(85,5),(86,1),(87,1),(73,0)]
def aZS:Blk:={ cells:=[],elem:=3,ro:=false,live:=true,seq:=some (nd1 28 (x 37)) }
def aZ1:Value:=sL 34 (Z 0) (x 35) (x 38)
def F4(o w:Bool):List (Nat × Value):=[(1,U6),(5,wF),(7,if o then xE else .slice none 0 0),(8,rZ),(10,if w then aZ1 else .slice none 0 0),(11,I 77 0 4194303),(12,I 45 0 4194303),(13,I 78 0 4194303)]
def H4(o w:Bool):List (Nat × Blk):=[(84,kN),(30,kJ),(88,avM),(73,xB)]++(if o then [(79,Y8)] else [])++(if w then [(34,aZS)] else [])
def t4L(o w:Bool):Tpl:={ m:=90,F:=F4 o w++[(50,rZ),(51,I 14 0 8192),(52,I 36 0 8192)],H:=H4 o w,G:=[73] }
def t4X(o w:Bool):Tpl:={ m:=90,F:=F4 o w,H:=H4 o w,G:=[73] }
def t4f:Tpl:={ m:=90,F:=[(4,.bool false)],H:=[(73,xB)],G:=[73] }
def aZO(o w:Bool):AExit->Option (Nat × Tpl):=fun e=>match e with
 | .normal=>some (0,t4L o w)
 | .exit 0=>some (1,t4X o w)
 | .ret=>some (2,t4f)
 |_=>none
def aS0(o w:Bool):AExit->Option (Nat × Tpl):=fun e=>match e with
 | .normal=>if w then none else some (3,t4L o true)
 |_=>none
def dH:Code:=(findLoop 10 100 (body 4)).getD .skip
def E4L(o w:Bool):Env:=EGL 4 (fun _=>none) (fun _=>false) (fun _=>none) (fun _=>none) (aZO o w) (aS0 o w)
def aaJ(o w:Bool)(A:List Value):Tre:=tre (E4L o w) 4000 dH [] A (t4L o w).frame (t4L o w).heap
end U
