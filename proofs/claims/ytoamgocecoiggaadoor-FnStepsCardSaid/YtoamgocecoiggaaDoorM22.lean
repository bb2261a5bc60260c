-- the statement of this claim: see YtoamgocecoiggaaDoorRs
import Derived.Test.YtoamgocecoiggaaDoorM21
set_option linter.unusedVariables false
set_option linter.unusedSimpArgs false
set_option maxRecDepth 100000
noncomputable section
open Go Go.SM Go.Proofs
namespace U
structure Fp(V γ:Ren):Prop where
 h0:γ[0]?=V[0]?
 h1:γ[1]?=V[1]?
 h2:γ[2]?=V[2]?
 l4:gL γ 4=gL V 4
 i6:gI γ 6=gI V 6
 i7:gI γ 7=gI V 7
 i8:gI γ 8=gI V 8
 i9:gI γ 9=gI V 9
 i10:gI γ 10=gI V 10
 i12:gI γ 12=gI V 12
 b11:gB γ 11=gB V 11
 h16:γ[16]?=V[16]?
 h73:γ[73]?=V[73]?
 h74:γ[74]?=V[74]?
 l17:gL γ 17=gL V 17
 i18:gI γ 18=gI V 18
 i19:gI γ 19=gI V 19
 i72:gI γ 72=gI V 72
 op:∀ i∈opX,gV γ i=gV V i
theorem Fp.refl(a:Ren):Fp a a:=⟨rfl,rfl,rfl,rfl,rfl,rfl,rfl,rfl,rfl,rfl,rfl,rfl,rfl,rfl,rfl,rfl,rfl,rfl,fun _ _=>rfl⟩
theorem Fp.trans{a b c:Ren}(h:Fp a b)(g:Fp b c):Fp a c:=⟨g.h0.trans h.h0,g.h1.trans h.h1,g.h2.trans h.h2,g.l4.trans h.l4,g.i6.trans h.i6,g.i7.trans h.i7,g.i8.trans h.i8,g.i9.trans h.i9,g.i10.trans h.i10,g.i12.trans h.i12,g.b11.trans h.b11,g.h16.trans h.h16,g.h73.trans h.h73,g.h74.trans h.h74,g.l17.trans h.l17,g.i18.trans h.i18,g.i19.trans h.i19,g.i72.trans h.i72,fun i hi=>(g.op i hi).trans (h.op i hi)⟩
structure PP(V:Ren):Prop where
 n:Ln V
 buf:(gL V 3).length=1536
 i5:0<=gI V 5
 i12:gI V 12<=100
structure Pk(V γ:Ren)(k:Nat):Prop where
 f:Fp V γ
 buf:(gL γ 3).take (gI γ 5).toNat=(gL V 3).take (gI V 5).toNat++List.replicate k 0
 i5:gI γ 5=gI V 5+k
 len:(gL γ 3).length=(gL V 3).length
theorem Pk.trans{a b c:Ren}{k m:Nat}(h:Pk a b k)(g:Pk b c m):Pk a c (k+m):=by
 refine⟨h.f.trans g.f,?_,by have:=h.i5;have:=g.i5;omega,by rw[g.len,h.len]⟩;rw[g.buf,h.buf,List.append_assoc,List.replicate_append_replicate]
def PdE(V γ:Ren):Prop:=∃ k,Pk V γ k/\gI V 12<=gI γ 5/\(k=0\/gI γ 5=gI V 12)
def GP(V:Ren):Goal where
 J:=fun j γ=>match j with
  |0=>Pk V γ 1/\gI V 5<gI V 12
  |1=>Pk V γ 0/\gI V 12<=gI V 5
  |_=>False
 L:=fun _ _=>False
 O:=fun _ _ _ _=>False
 W:=fun _ _=>False
theorem pk0{V γ:Ren}(f:Fp V γ)(h3:gL γ 3=gL V 3)(h5:gI γ 5=gI V 5):Pk V γ 0:=⟨f,by rw[h3,h5];simp,by rw[h5];simp,by rw[h3]⟩
theorem pk1{V γ:Ren}(p:PP V)(f:Fp V γ)(h3:gL γ 3=(gL V 3).set (gI V 5).toNat 0)(h5:gI γ 5=gI V 5+1)(hl:gI V 5+1<=1536):Pk V γ 1 :=
 ⟨f,by rw[h3,h5,aa5 p.i5 (by rw[p.buf];omega)];rfl,by rw[h5];rfl,by rw[h3];simp⟩
abbrev aTQ:List TB:=[(.lt (v 5) (v 12))]
abbrev aTU:=.lt (v 5) 1536::aTQ
abbrev aW0:=.lt (v 5) (lb 3)::aTU
abbrev aTP:SgT:=[im 12,bm 0,bm 73]
def abP:Tre:=(.fork (nd 90 aTQ ((.lt (v 5) 1536))
 (nd 90 aTU ((.lt (v 5) (lb 3)))
 (nd 90 aW0 ((nl 1536 (v 5+1)))
 (lf 0 90 90 (rgs EPd.n tX0) (bm 74::lm 17::lm 4::(3,.ltm (.set (.var 3) (v 5) 0))::(ids (dn 71 6++dn 64 21)++(im 9::im 10::im 7::im 6::bm 2::(39,.idn)::im 8::bm 1::(11,.btm (.var 11))::im 19::im 72::im 18::bm 16::(ids ([32]++dn 30 11)++((5,.itm (v 5+1))::aTP))))) ((nl 1536 (v 5+1))::aW0)))))
 (lf 1 90 90 (rgs EPd.n tX0) (bm 74::lm 17::lm 4::lm 3::(ids (dn 71 6++dn 64 21)++(im 9::im 10::im 7::im 6::bm 2::(39,.idn)::im 8::bm 1::(11,.btm (.var 11))::im 19::im 72::im 18::bm 16::(ids ([32]++dn 30 11)++(im 5::aTP))))) [(nl (v 5) (v 12))]))
theorem dW:aPY=abP:=by kernel_rfl
theorem afG{V:Ren}(p:PP V):abP.Holds (GP V) V:=by
 unfold abP;have hβ:=p.n.1;have r12:=p.i12;have r5:=p.i5;have yb:=p.buf;refine (fO (nO hβ ?_ (nO hβ ?_ (nO hβ ?_ (lO opX hβ ?_)))) (lO opX hβ ?_));iterate 3 (focus (intro hA;simp only[DD]at hA ⊢;omega))
 .intro J0 hl0 hA hr0 hid0 hI;simp only[DD]at hA hI;obtain⟨i74,i17,i4,i3,i9,i10,i7,i6,i2,i8,i1,i11,i19,i72,i18,i16,i5,i12,i0,i73⟩:=hI;exact⟨pk1 p ⟨i0,i1,i2,i4,i6,i7,i8,i9,i10,i12,Bool.eq_iff_iff.2 i11,i16,i73,i74,i17,i18,i19,i72,hid0⟩ i3 i5 (by omega),by omega⟩
 .intro J0 hl0 hA hr0 hid0 hI;simp only[DD]at hA hI;obtain⟨i74,i17,i4,i3,i9,i10,i7,i6,i2,i8,i1,i11,i19,i72,i18,i16,i5,i12,i0,i73⟩:=hI;exact⟨pk0 ⟨i0,i1,i2,i4,i6,i7,i8,i9,i10,i12,Bool.eq_iff_iff.2 i11,i16,i73,i74,i17,i18,i19,i72,hid0⟩ i3 i5,by omega⟩
theorem aw2{w0:W0}{Q:Exit->Act->World->Prop}:∀(m:Nat)(V:Ren)(a:Act)(w:World),(gI V 12-gI V 5).toNat<=m->PP V->HR w0 V tX0.heap w->FS V (ntmps 42) tX0.frame a ->
    (∀ V1 a' w',Ln V1->PdE V V1->HR w0 V1 tX0.heap w'->FS V1 (ntmps 42) tX0.frame a'->Q (.exit 11) a' w')->wpL Tryd.prog pad Q a w:=by
 intro m
 induction m with
 |zero =>
  intro V a w hm p hH hF hQ
  refine zR (yC (E:=EPd) (G:=GP V) zQ qB follows (by show (aPY).Holds _ _;rw[dW];exact afG p) p.n.2 hH (Facts.nil _) hF ?_ (fun r s c h=>by rcases h with h|h<;>cases h) (fun j i V1 V2 h=>h.elim) (fun r s h=>by rcases h with h|h<;>cases h) (fun _ _ h=>by cases h))
  intro j e tp V1 a' w' hft h1 h2 h3
  cases e with
  |normal=>cases hft;exfalso;have:=h3.2;omega
  |ret=>cases hft
  |exit id =>
   match id,hft with
   |11,hft =>
    cases hft
    obtain⟨h3,h4⟩:=h3
    have:=h3.i5
    exact hQ V1 a' w' (p.n.of h3.f.h73 h1.len) ⟨0,h3,by omega,.inl rfl⟩ h1 h2
 |succ m ih =>
  intro V a w hm p hH hF hQ
  refine zR (yC (E:=EPd) (G:=GP V) zQ qB follows (by show (aPY).Holds _ _;rw[dW];exact afG p) p.n.2 hH (Facts.nil _) hF ?_ (fun r s c h=>by rcases h with h|h<;>cases h) (fun j i V1 V2 h=>h.elim) (fun r s h=>by rcases h with h|h<;>cases h) (fun _ _ h=>by cases h))
  intro j e tp V1 a' w' hft h1 h2 h3
  cases e with
  |normal =>
   cases hft
   obtain⟨h3,h4⟩:=h3
   have e5:=h3.i5;have e12:=h3.f.i12;have i5:=p.i5;have i12:=p.i12
   refine ih V1 a' w' (by omega) ⟨p.n.of h3.f.h73 h1.len,by rw[h3.len];exact p.buf,by omega,by omega⟩ h1 h2 ?_
   intro V2 a2 w2 hn ⟨k,q1,q2,q3⟩ h5 h6
   have e5':=q1.i5
   exact hQ V2 a2 w2 hn ⟨1+k,h3.trans q1,by omega,by rcases q3 with q3|q3<;>omega⟩ h5 h6
  |ret=>cases hft
  |exit id =>
   match id,hft with
   |11,hft =>
    cases hft
    obtain⟨h3,h4⟩:=h3
    have:=h3.i5
    exact hQ V1 a' w' (p.n.of h3.f.h73 h1.len) ⟨0,h3,by omega,.inl rfl⟩ h1 h2
end U
open Go Go.SM Go.Proofs
namespace Go.SM
theorem HR.recast{w0:W0}{V:Ren}{w:World}{m:Nat}{l l':List (Nat × Blk)}(hm:m<=2 ^ 20)(hk:jO m l=true)(hk':∀ p∈l',p.1<m)
    (hc:∀ i b',(i,b')∈l'->∃ b,(i,b)∈l/\b'.elem=b.elem/\b'.ro=b.ro/\b'.live=b.live/\b'.seq=b.seq/\b'.cells.length=b.cells.length/\∀ (k:Nat) (v':Value),b'.cells[k]?=some v'->∃ v,b.cells[k]?=some v/\∀ u,VR V v u->VR V v' u)
    (h:HR w0 V (vS m l) w):HR w0 V (vS m l') w:=by
 refine⟨by rw[h.len,zK,zK],by rw[zK];exact hm,?_,?_,h.below⟩
 .intro B b' hg hl
  obtain⟨b,hb,e1,e2,e3,e4,e5,e6⟩:=hc B b' (wJ hm l' B b' hk' hg)
  obtain⟨c,s,C,fr,q1,⟨el,q2,q3⟩,q4,q5,q6,q7,q8,q9⟩:=h.blk B b (wU hm hk hb) (by rw[<-e3];exact hl)
  refine⟨c,s,C,fr,q1,⟨el,q2,fun hro=>by rw[e1];exact q3 (by rw[<-e2];exact hro)⟩,q4,by rw[e5];exact q5,fun hro=>q6 (by rw[<-e2];exact hro),fun i v' hi=>?_,fun hro=>q8 (by rw[<-e2];exact hro),fun e he=>q9 e (by rw[<-e4];exact he)⟩
  obtain⟨v,hv,hvv⟩:=e6 i v' hi
  obtain⟨u,hu,hvu⟩:=q7 i v hv
  exact⟨u,hu,hvv u hvu⟩
 .intro B C b' c' hg hg' hl hl' hro hne
  obtain⟨b,hb,e1,e2,e3,_⟩:=hc B b' (wJ hm l' B b' hk' hg)
  obtain⟨c,hcc,f1,f2,f3,_⟩:=hc C c' (wJ hm l' C c' hk' hg')
  exact h.inj B C b c (wU hm hk hb) (wU hm hk hcc) (by rw[<-e3];exact hl) (by rw[<-f3];exact hl') (by rw[<-e2];exact hro) hne
end Go.SM
namespace U
theorem agU:rX ([(17,Z 0)]++aiL)=(rX ([]++aiL)).set 17 (Z 0):=by rfl
theorem aN7:(rX ([]++aiL))[17]?=some (.map (some (3*37+1))):=by rfl
theorem aOY{w0:W0}{V:Ren}{w:World}(h:HR w0 V tX.heap w)(h37:gV V 37=some (.int .i64 0)):HR w0 V tX0.heap w:=by
 refine HR.recast (m:=90) (l:=HP []) (l':=HP [(17,Z 0)]) (by decide) (by rfl) (fun p hp=>?_) ?_ h
 .have:(HP [(17,Z 0)]).all (fun p=>Nat.blt p.1 90)=true:=by rfl
  exact Nat.le_of_ble_eq_true (List.all_eq_true.1 this p hp)
 .intro i b' hb;simp only[HP,List.mem_cons,List.not_mem_nil,or_false,Prod.mk.injEq]at hb;have same:(i,b')∈HP []->∃ b,(i,b)∈HP []/\b'.elem=b.elem/\b'.ro=b.ro/\b'.live=b.live/\b'.seq=b.seq/\b'.cells.length=b.cells.length/\∀ (k:Nat) (v':Value),b'.cells[k]?=some v'->∃ v,b.cells[k]?=some v/\∀ u,VR V v u->VR V v' u :=
   fun hm=>⟨b',hm,rfl,rfl,rfl,rfl,rfl,fun k v' hv=>⟨v',hv,fun _ h=>h⟩⟩
  rcases hb with⟨rfl,rfl⟩|⟨rfl,rfl⟩|⟨rfl,rfl⟩|⟨rfl,rfl⟩|⟨rfl,rfl⟩
  .refine⟨_,List.mem_cons_self ..,rfl,rfl,rfl,rfl,by rw[agU];simp,fun k v' hv=>?_⟩;rw[show (({ cells:=rX ([(17,Z 0)]++aiL),elem:=76,ro:=false,live:=true }:Blk).cells)=(rX ([]++aiL)).set 17 (Z 0) from agU,List.getElem?_set]at hv;split at hv
   .rename_i e;subst e;refine⟨_,aN7,fun u hu=>?_⟩;have:v'=Z 0:=by
     split at hv
     .cases hv;rfl
     .cases hv
    subst this;have:=hu.opq_inv;rw[h37]at this;cases this;exact .int .i64 0
   .exact⟨v',hv,fun _ h=>h⟩
  .exact same (by simp[HP])
  .exact same (by simp[HP])
  .exact same (by simp[HP])
  .exact same (by simp[HP])
def muO(V:Ren):Nat:=(gI V 18-gI V 19).toNat+(gI V 12-gI V 8).toNat+(if gB V 13=true then 1 else 0)
theorem aS8:rgs (ntmps 42) tO=rgs (ntmps 42) tA:=by kernel_rfl
theorem avA{w0:W0}{V0:Ren}:tW EO w0 (GO V0) av7 (.loop hU):=by
 intro Q V a w hH hF hl hQ;refine xU (ajH _ V a w (Nat.le_refl _) hl hH hF ?_ ?_)
 .intro V1 a' w' h1 h2 h3;obtain⟨cs,q1,q2,q3⟩:=h1;exact hQ 0 (.exit 2) tA [] rfl V1 a' w' h2 h3 ⟨q2.n,⟨cs,q1,q2,q3⟩⟩
 .intro V1 a' w' h1 h2 h3;have:Inv V:=hl;exact hQ 1 .ret tE [] rfl V1 a' w' h2 h3 ⟨this.n.of h1.1.2 h2.len,h1⟩
theorem aRJ{V V1:Ren}{cs:List Int}(o:OB V)(h:RO V V1 cs []):OB V1:=by
 have e:=vW cs;have:=h.bl;have:=h.un;have:=o.b5;have:=o.off;have:=h.off;simp only[List.length_nil]at *;exact⟨h.p,by rw[h.len];exact o.buf,by omega,by omega⟩
theorem ajC{w0:W0}{Q:Exit->Act->World->Prop}:∀(m:Nat)(V:Ren)(a:Act)(w:World),muO V<=m->OB V->HR w0 V tO.heap w->FS V (ntmps 42) tO.frame a ->
    (∀ V1 a' w',XO V V1->HR w0 V1 tX.heap w'->FS V1 (ntmps 42) tX.frame a'->Q (.exit 0) a' w') ->
    (∀ V1 a' w',Ln V1->EO2 V V1->HR w0 V1 tE.heap w'->FS V1 (ntmps 42) tE.frame a'->Q .ret a' w')->wpL Tryd.prog aa9 Q a w:=by
 intro m
 induction m using Nat.strongRecOn with
 |ind m ih =>
  intro V a w hm o hH hF h1 h2
  have r:RA V:=xZ (by rw[<-aS8];exact yS hH hF)
  refine zR (yC (E:=EO) (G:=GO V) zQ qB follows (by show (aVO []).Holds _ _;rw[ai5];exact au8 o r) o.p.n.2 hH (Facts.nil _) hF ?_ ?_ ?_ ?_ (eL (fun _ h=>h) (fun _ _ _ _ a b=>⟨a,b⟩)))
  .intro j e tp V1 a' w' hft q1 q2 q3
   cases e with
   |normal =>
    cases hft
    obtain⟨cs,ro,hf,h13,hp,hlt⟩:=q3
    have e18:=ro.s.i18;have e12:=ro.s.i12;have un:=ro.un;have b19:=ro.b19;have p1:=ro.p.inp
    have hlt2:muO V1<m:=by
     refine Nat.lt_of_lt_of_le ?_ hm;unfold muO;rw[h13,if_neg (by decide)];simp only[List.length_nil]at un;rcases hp with hp|hp|hp
     .rw[if_pos hp];omega
     ·have : 0 < cs.length := by cases cs with
        |nil=>exact (hp rfl).elim
        |cons _ _=>simp
      split<;>omega
     .split<;>omega
    refine ih (muO V1) hlt2 V1 a' w' (Nat.le_refl _) (aRJ o ro) q1 q2 ?_ ?_
    .intro V2 a2 w2 ⟨ds,hx⟩
     refine h1 V2 a2 w2 ⟨cs++ds,?_⟩
     rcases hx with⟨x1,x2⟩|⟨x1,x2,x3⟩
     .exact .inl ⟨ro.trans x1,x2⟩
     .exact .inr ⟨ro.trans x1,x2,x3⟩
    .intro V2 a2 w2 hn ⟨x1,ds,R,x2,x3⟩
     refine h2 V2 a2 w2 hn ⟨⟨x1.1.trans ro.s.h0,x1.2.trans ro.s.h73⟩,cs++ds,R,?_,by rw[<-ro.s.i10];exact x3⟩
     exact ro.dr.append (by rw[<-ro.s.i10];exact x2)
   |ret=>cases hft;exact h2 V1 a' w' (o.p.n.of q3.1.2 q1.len) q3 q1 q2
   |exit id =>
    match id,hft with
    |0,hft=>cases hft;exact h1 V1 a' w' q3 q1 q2
  .intro r s c hs hw
   rcases hs with hs|hs
   .have hs:auE r=some s:=hs
    unfold auE at hs
    split at hs
    .cases hs
     cases (hw:c=.loop hU)
     exact avA
    .cases hs
   .cases hs
  .intro j i V1 V2 h
   match i,h with
   |0,h=>exact h.1.2
   |1,h=>exact h.1.2
  .intro r s hs i e tp B hi V1 V2 _
   refine yO ?_
   rcases hs with hs|hs
   .have hs:auE r=some s:=hs
    unfold auE at hs
    split at hs
    .cases hs
     match i,hi with
     |0,hi=>cases hi;rfl
     |1,hi=>cases hi;rfl
    .cases hs
   .cases hs
def Mk(e0:Int)(R:List UInt8)(e:Int)(R1:List UInt8):Prop:=(e0≠0/\e=e0/\R1=R)\/(e0=0/\∃ bom:List UInt8,R=bom++R1/\((bom=[255,254]/\e=2)\/(bom=[254,255]/\e=3)\/(bom=[239,187,191]/\e=1) \/
    (bom=[]/\e=1/\¬ [255,254] <+: R/\¬ [254,255] <+: R/\¬ [239,187,191] <+: R)))
def win(V:Ren):List UInt8:=((gL V 3).take (gI V 75).toNat).drop (gI V 76).toNat
structure PU(V:Ren):Prop where
 p:PR V
 buf:(gL V 3).length=1536
 le:gI V 76<=gI V 75
 b5:gI V 75-gI V 76<=4*gI V 8+20
 b6:gI V 8<=gI V 75-gI V 76
 off:gI V 9+(zH V).length<=4000000
structure RU(V:Ren):Prop extends RR V where
 i12:0<=gI V 12/\gI V 12<=100
 i75:0<=gI V 75/\gI V 75<=1536
 i76:0<=gI V 76/\gI V 76<=1536
 i8:0<=gI V 8/\gI V 8<=2000
 i10:0<=gI V 10/\gI V 10<=3
 i9:0<=gI V 9/\gI V 9<=10000000
structure Us(V γ:Ren):Prop where
 h0:γ[0]?=V[0]?
 h1:γ[1]?=V[1]?
 h2:γ[2]?=V[2]?
 h16:γ[16]?=V[16]?
 h73:γ[73]?=V[73]?
 h74:γ[74]?=V[74]?
 l17:gL γ 17=gL V 17
 i18:gI γ 18=gI V 18
 i72:gI γ 72=gI V 72
 op:∀ i∈opX,gV γ i=gV V i
theorem Us.trans{a b c:Ren}(h:Us a b)(g:Us b c):Us a c:=⟨g.h0.trans h.h0,g.h1.trans h.h1,g.h2.trans h.h2,g.h16.trans h.h16,g.h73.trans h.h73,g.h74.trans h.h74,g.l17.trans h.l17,g.i18.trans h.i18,g.i72.trans h.i72,fun i hi=>(g.op i hi).trans (h.op i hi)⟩
theorem aVS:∀ i∈opX,i∈opA:=by decide
theorem Os.us{a b:Ren}(h:Os a b):Us a b:=⟨h.h0,h.h1,h.h2,h.h16,h.h73,h.h74,h.l17,h.i18,h.i72,fun i hi=>h.op i (aVS i hi)⟩
theorem Fp.us{a b:Ren}(h:Fp a b):Us a b:=⟨h.h0,h.h1,h.h2,h.h16,h.h73,h.h74,h.l17,h.i18,h.i72,h.op⟩
structure UT(V γ:Ren):Prop where
 s:Us V γ
 p:PR γ
 buf:(gL γ 3).length=1536
 le:0<=gI γ 76/\gI γ 76<=gI γ 75/\gI γ 75<=1536
 b19:gI V 19<=gI γ 19
 cs:(gI V 12<=gI V 8/\win γ=win V/\gI γ 8=gI V 8/\gI γ 9=gI V 9/\gI γ 10=gI V 10/\zH γ=zH V/\gB γ 11=gB V 11) \/
  (gI V 8<gI V 12/\∃ (R1:List UInt8) (cs:List Int) (z:List UInt8) (k:Nat),Mk (gI V 10) (zH V) (gI γ 10) R1/\1<=gI γ 10/\DR (gI γ 10) R1 cs (zH γ)/\win γ=win V++encs cs++z++List.replicate k 0/\gI γ 8=gI V 8+cs.length+z.length /\
   gI γ 9+(zH γ).length=gI V 9+(zH V).length/\gI V 12<=gI γ 75-gI γ 76/\((z=[]/\k=0/\gI V 12<=gI γ 8)\/(z=[0]/\gB γ 11=true/\zH γ=[]/\(k=0\/((win γ).length:Int)=gI V 12))))
def UE(V γ:Ren):Prop:=Er V γ/\∃ (e:Int) (R1:List UInt8) (cs:List Int) (R:List UInt8),Mk (gI V 10) (zH V) e R1/\DR e R1 cs R/\awX e R
structure St(V γ:Ren):Prop where
 s:Us V γ
 i12:gI γ 12=gI V 12
 ob:OB γ
 v37:gV γ 37=some (.int .i64 0)
 w:(gL γ 3).take (gI γ 5).toNat=win V
 i5:gI γ 5=gI V 75-gI V 76
 i8:gI γ 8=gI V 8
 mrk:Mk (gI V 10) (zH V) (gI γ 10) (zH γ)
 e10:1<=gI γ 10
 off:gI γ 9+(zH γ).length=gI V 9+(zH V).length
 b19:gI V 19<=gI γ 19
theorem aWY:37∈opA:=by decide
theorem XO.v37{V γ:Ren}(h:XO V γ)(hv:gV V 37=some (.int .i64 0)):gV γ 37=some (.int .i64 0):=by
 obtain⟨cs,⟨h,_⟩|⟨h,_⟩⟩:=h
 .rw[h.s.op 37 aWY,hv]
 .rw[h.s.op 37 aWY,hv]
theorem XO.ln{V γ:Ren}(h:XO V γ):Ln γ:=by
 obtain⟨cs,⟨h,_⟩|⟨h,_⟩⟩:=h
 .exact h.p.n
 .exact h.p.n
theorem XO.buf{V γ:Ren}(h:XO V γ)(hb:(gL V 3).length=1536):(gL γ 3).length=1536:=by
 obtain⟨cs,⟨h,_⟩|⟨h,_⟩⟩:=h
 .rw[h.len];exact hb
 .rw[h.len];exact hb
theorem Fp.pr{a b:Ren}(f:Fp a b)(p:PR a)(hn:Ln b):PR b:=p.of hn f.l4 f.i6 f.i7 f.b11 f.l17 f.i18 f.i19
theorem Fp.rest{a b:Ren}(f:Fp a b):zH b=zH a:=rest_of f.l4 f.i6 f.i7 f.l17 f.i18 f.i19
theorem u7{V γ x m n J2:Ren}(pu:PU V)(hlt:gI V 8<gI V 12)(st:St V γ)(hx:XO γ x)(fm:Fp x m)(m3:gL m 3=gL x 3)(m5:gI m 5=gI x 5)(hmn:Ln m)(hp:PdE m n)(hnn:Ln n)(hg:Ln J2)
    (f2:Fp n J2) (g3:gL J2 3=gL n 3) (g75:gI J2 75=gI n 5) (g76:gI J2 76=0) (h5:0<=gI γ 5) (h12:gI V 12<=100) (hn5:gI n 5<=1536):UT V J2:=by
 obtain⟨k,pk,hk1,hk2⟩:=hp
 have fa:Fp x J2:=(fm.trans pk.f).trans f2
 have b6:=pu.b6
 have si5:=st.i5;have si8:=st.i8
 have e5:=pk.i5
 have e12:=fm.i12;have e12':=st.i12
 have e12'':=pk.f.i12
 have bufx:=hx.buf st.ob.buf
 have hwin:win J2=(gL x 3).take (gI x 5).toNat++List.replicate k 0:=by
  unfold win;rw[g3,g75,g76,pk.buf,m3,m5];simp
 obtain⟨cs,hx⟩:=hx
 have key:∀ z:List UInt8,RO γ x cs z->(z=[]/\gI x 12<=gI x 8)\/(z=[0]/\gB x 11=true/\zH x=[])->UT V J2:=by
  intro z ro hz;have el:=vW cs;have bl:=ro.bl;have un:=ro.un;have x12:=ro.s.i12;have f8:=fa.i8;have f10:=fa.i10;have f9:=fa.i9;have lx:0<=gI x 5:=by omega
  have hw2:((win J2).length:Int)=gI n 5:=by
   rw[hwin,List.length_append,List.length_take,List.length_replicate];have:(gI x 5).toNat<=(gL x 3).length:=by omega
   omega
  refine⟨((st.s.trans ro.s.us).trans fa.us),fa.pr ro.p hg,by rw[g3,pk.len,m3];exact bufx,by omega,by have:=ro.b19;have:=st.b19;have:=fa.i19;omega,.inr ⟨hlt,zH γ,cs,z,k,?_,?_,?_,?_,?_,?_,?_,?_⟩⟩
  .rw[f10,ro.s.i10];exact st.mrk
  .rw[f10,ro.s.i10];exact st.e10
  .rw[f10,ro.s.i10,fa.rest];exact ro.dr
  .rw[hwin,ro.buf,st.w]
  .omega
  .rw[fa.rest,f9];have:=ro.off;have:=st.off;omega
  .omega
  .rcases hz with⟨rfl,hz⟩|⟨rfl,hz1,hz2⟩
   .left;simp only[List.length_nil]at bl un;exact⟨rfl,by omega,by omega⟩
   .right;refine⟨rfl,by rw[fa.b11];exact hz1,by rw[fa.rest];exact hz2,?_⟩;rw[hw2];rcases hk2 with h|h
    .exact .inl h
    .right;omega
 rcases hx with⟨h,h1⟩|⟨h,h1⟩
 .exact key [] h (.inl ⟨rfl,h1⟩)
 .exact key [0] h (.inr ⟨rfl,h1⟩)
theorem uZ{V γ x J2:Ren}(st:St V γ)(h:EO2 γ x)(h0:J2[0]?=x[0]?)(h73:J2[73]?=x[73]?):UE V J2:=by
 obtain⟨he,cs,R,h1,h2⟩:=h;exact⟨⟨h0.trans (he.1.trans st.s.h0),h73.trans (he.2.trans st.s.h73)⟩,gI γ 10,zH γ,cs,R,st.mrk,h1,h2⟩
theorem ahO{V:Ren}(pu:PU V)(r:RU V):((win V).length:Int)=gI V 75-gI V 76:=by
 have:=r.i75;have:=r.i76;have:=pu.le;have:=pu.buf;unfold win;rw[List.length_drop,List.length_take];omega
theorem w1{V:Ren}(pu:PU V)(r:RU V):(putAt (gL V 3) 0 (win V)).take (gI V 75-gI V 76).toNat=win V/\(putAt (gL V 3) 0 (win V)).length=1536:=by
 have h:=ahO pu r;have:=r.i75;have:=r.i76;have:=pu.buf;have hle:0+(win V).length<=(gL V 3).length:=by omega
 refine⟨?_,by rw[zC hle];exact pu.buf⟩;have:=oS hle;rw[Nat.zero_add,List.take_zero,List.nil_append]at this;rw[show (gI V 75-gI V 76).toNat=(win V).length from by omega];exact this
theorem w2{V:Ren}(pu:PU V)(r:RU V)(h:gI V 76=gI V 75):win V=[]:=by
 have:=ahO pu r;exact List.eq_nil_of_length_eq_zero (by omega)
theorem w3{V:Ren}(h:gI V 76=0):win V=(gL V 3).take (gI V 75).toNat:=by unfold win;rw[h];simp
def GU(V:Ren):Goal where
 J:=fun j γ=>match j with
  |0=>UT V γ
  |1=>UE V γ
  |_=>False
 L:=fun j γ=>match j with
  |19=>OB γ/\gV γ 37=some (.int .i64 0)
  |123=>PP γ
  |_=>False
 O:=fun j i γ J1=>match j,i with
  |19,0=>Ln J1/\XO γ J1
  |19,1=>Ln J1/\EO2 γ J1
  |123,0=>Ln J1/\PdE γ J1
  |_,_=>False
 W:=fun j c=>match j with
  |19=>c=.loop aa9
  |123=>c=.loop pad
  |_=>False
 CL:=fun j γ=>PD γ
 CO:=fun j i γ J1=>Ln J1/\DE γ J1
theorem ah3{V γ:Ren}(pu:PU V)(r:RU V)(hn:Ln γ)(h10:gI V 10≠0)(us:Us V γ)(i4:gL γ 4=gL V 4)(i6:gI γ 6=gI V 6)(i7:gI γ 7=gI V 7)(i11:gB γ 11=gB V 11)(i19:gI γ 19=gI V 19)(i8:gI γ 8=gI V 8)(i9:gI γ 9=gI V 9)(i10:gI γ 10=gI V 10)(i12:gI γ 12=gI V 12)
    (v37:gV γ 37=some (.int .i64 0)) (w:(gL γ 3).take (gI γ 5).toNat=win V) (i5:gI γ 5=gI V 75-gI V 76) (len:(gL γ 3).length=1536):St V γ:=by
 have e:=rest_of i4 i6 i7 us.l17 us.i18 i19
 have b5:=pu.b5;have x10:=r.i10
 exact⟨us,i12,⟨pu.p.of hn i4 i6 i7 i11 us.l17 us.i18 i19,len,by omega,by rw[i9,e];exact pu.off⟩,v37,w,i5,i8,.inl ⟨h10,i10,e⟩,by omega,by rw[i9,e],by omega⟩
theorem aiU{V J0 V1 γ:Ren}(pu:PU V)(r:RU V)(h10:gI V 10=0)(de:DE J0 V1)(e0:zH J0=zH V)(e9:gI J0 9=gI V 9)(e19:gI J0 19=gI V 19)(e17:gL J0 17=gL V 17)(e18:gI J0 18=gI V 18)(hn:Ln γ)(us:Us V γ)(j4:gL γ 4=gL V1 4)(j6:gI γ 6=gI V1 6)(j7:gI γ 7=gI V1 7)(j11:gB γ 11=gB V1 11)(j19:gI γ 19=gI V1 19)
    (j9:gI γ 9=gI V1 9) (j10:gI γ 10=gI V1 10) (i8:gI γ 8=gI V 8) (i12:gI γ 12=gI V 12)
    (v37:gV γ 37=some (.int .i64 0)) (w:(gL γ 3).take (gI γ 5).toNat=win V) (i5:gI γ 5=gI V 75-gI V 76) (len:(gL γ 3).length=1536):St V γ:=by
 have h17:gL γ 17=gL V1 17:=by rw[us.l17,de.s.l17,e17]
 have h18:gI γ 18=gI V1 18:=by rw[us.i18,de.s.i18,e18]
 have e:=rest_of j4 j6 j7 h17 h18 j19
 have b5:=pu.b5
 obtain⟨bom,q1,q2,q3⟩:=de.e
 have b19:=de.b19
 have hl:=congrArg List.length q1
 rw[e0,List.length_append]at hl
 have off:=pu.off
 refine⟨us,i12,⟨de.p.of hn j4 j6 j7 j11 h17 h18 j19,len,by omega,by rw[j9,e];omega⟩,v37,w,i5,i8,.inr ⟨h10,bom,by rw[<-e0,q1,e],?_⟩,?_,by rw[j9,e];omega,by omega⟩
 .rw[j10,<-e0];exact q3
 .rw[j10];rcases q3 with⟨_,h⟩|⟨_,h⟩|⟨_,h⟩|⟨_,h,_⟩<;>omega
theorem lZ{V γ:Ren}(h:∃ u,VR V (.int .i64 0) u/\gV γ 37=some u):gV γ 37=some (.int .i64 0):=by
 obtain⟨u,hu,hv⟩:=h;have:=hu.eq_of_ground rfl;subst this;exact hv
theorem as7{V γ:Ren}(h:∃ u,VR V (.func (.yield 0) #[.int .i64 0,.map (some 76),.int .i64 0,.int .i64 1536] #[]) u/\gV γ 37=some u)(h0:gI V 76=0):gV γ 37=some (.int .i64 0):=by
 obtain⟨u,hu,hv⟩:=h;obtain⟨t,h1,h2,rfl,_⟩:=yK (k:=.i64) (e:=.map (some 76)) (lo:=0) (hi:=1536) hu (by simp[asI]);have:t=.var 76:=TI.inj t (.var 76) h1.symm;subst this;rw[hv,show (TI.var 76).den V=gI V 76 from rfl,h0]
theorem aG9{V δ γ:Ren}(hb:V.length=90)(h:∃ u,VR (V++δ) (.func (.yield 0) #[.int .i64 0,.map (some 76),.int .i64 0,.int .i64 1536] #[]) u/\gV γ 37=some u)(h0:gI V 76=0):gV γ 37=some (.int .i64 0) :=
 as7 h (by rw[aSA hb (by decide)];exact h0)
def lJ(i:Nat)(a b:Int):List TB:=[.le (.lit a) (.var i),.le (.var i) (.lit b)]
theorem aU9:rgs 2 tU=lJ 12 0 100++([.le (.lit 0) (.lit 0),.le (.lit 0) (.var 18),.le (.var 18) (.var 72)]++(lJ 19 0 2000000++([.le (.lit 0) (.lit 0),.le (.lit 0) (.var 75),.le (.var 75) (.lit 1536)]++(lJ 76 0 1536++(lJ 8 0 2000++([.le (.lit 0) (.lit 0),.le (.lit 0) (.var 6),.le (.var 6) (.lit 512)]++(lJ 7 0 512++(lJ 10 0 3++lJ 9 0 10000000)))))))):=by kernel_rfl
theorem ajJ{V:Ren}(h:zF V (rgs 2 tU)):RU V:=by
 rw[aU9]at h;simp only[lJ,List.cons_append,List.nil_append,zF,TB.P,xW,xT]at h;obtain⟨a1,a2,_,b1,b2,b3,b4,_,c1,c2,c3,c4,c5,c6,_,d1,d2,d3,d4,e1,e2,e3,e4,_⟩:=h;exact⟨⟨⟨b1,b2⟩,⟨b3,b4⟩,⟨d1,d2⟩,⟨d3,d4⟩⟩,⟨a1,a2⟩,⟨c1,c2⟩,⟨c3,c4⟩,⟨c5,c6⟩,⟨e1,e2⟩,⟨e3,e4⟩⟩
theorem xI:rgs (ntmps 42) tX0=rgs (ntmps 42) tA:=by kernel_rfl
abbrev qJ:Code:=.loop aa9
abbrev qH:Code:=.loop pad
abbrev aTO:List TB:=[(nl (v 8) (v 12))]
abbrev nG:SgT:=[bm 0,bm 73]
abbrev arD:SgT:=im 12::nG
abbrev aUM:SgT:=bm 1::(11,.btm (.var 11))::im 19::im 72::im 18::bm 16::(ids ([32]++dn 30 11)++arD)
abbrev aVI:SgT:=bm 74::lm 17::lm 4::lm 3::(ids (dn 71 6++dn 64 21)++(im 9::im 10::im 7::im 6::bm 2::(39,.idn)::im 8::im 76::im 75::aUM))
def acM:Tre:=(.fork (lf 0 90 90 (rgs EU.n tUo) aVI ((.var 11)::(.eq (v 7) (v 6))::aTO))
 (lf 0 90 90 (rgs EU.n tUo) aVI ((.not (.and (.var 11) (.eq (v 7) (v 6))))::aTO)))
theorem ai3:aG (uE)=acM:=by kernel_rfl
abbrev aQY:List TB:=[(.lt 0 (v 76)),(.lt (v 76) (v 75)),(.lt (v 76) 1536),(nl (v 75) (v 75-v 76))]
abbrev aQ5:=.lt (v 8) (v 12)::nq (v 10) 0::aQY
abbrev aWV:=.var 11::.eq (v 7) (v 6)::aQ5
abbrev aTE:=nl 1536 (v 75)::aWV
abbrev aV8:=nl 1125899906842624 (v 75)::aTE
abbrev aXN:=nl (lb 3) (v 75)::aV8
abbrev aSH:=nl (lb 3) (v 75-v 76)::aXN
abbrev aQ8:=nl (v 75-v 76) 0::aSH
abbrev aXS:=nl 1536 (v 75-v 76)::aQ8
abbrev sW:List TB:=[(nl (v 5) 0)]
abbrev s9:=nl 1536 (v 5)::sW
abbrev qI:=nl 1125899906842624 (v 5)::s9
abbrev aBW:=.not (.and (.var 11) (.eq (v 7) (v 6)))::aQ5
abbrev aGZ:=nl 1536 (v 75)::aBW
abbrev aJJ:=nl 1125899906842624 (v 75)::aGZ
abbrev aI2:=nl (lb 3) (v 75)::aJJ
abbrev ay6:=nl (lb 3) (v 75-v 76)::aI2
abbrev aBC:=nl (v 75-v 76) 0::ay6
abbrev aE6:=nl 1536 (v 75-v 76)::aBC
abbrev aWQ:SgT:=im 72::im 18::bm 16::(ids ([32]++dn 30 11)++((13,.btm (.lit true))::(5,.itm (v 75-v 76))::arD))
abbrev aRW:SgT:=bm 74::lm 17::lm 4::(3,.ltm (.put (.var 3) 0 (.sub (.var 3) (v 76) (v 75))))::(ids (dn 71 6++dn 64 21)++(im 9::im 10::im 7::im 6::bm 2::(39,.idn)::im 8::(37,.val (.int .i64 0))::bm 1::(11,.btm (.var 11))::im 19::aWQ))
abbrev kT:SgT:=bm 74::lm 17::lm 4::lm 3::(ids (dn 71 6++dn 64 21)++(im 9::im 10::im 7::im 6::bm 2::(39,.idn)::im 8::bm 1::(11,.btm (.var 11))::im 19::im 72::im 18::bm 16::(ids ([32]++dn 30 11)++(im 5::arD))))
abbrev kL:SgT:=bm 74::lm 17::lm 4::lm 3::(ids (dn 71 6++dn 64 21)++(im 9::im 10::im 7::im 6::bm 2::(39,.idn)::im 8::ik 76 0::ij 75 5::aUM))
def bA:Tre:=(.fork (nd 90 aWV ((nl 1536 (v 75)))
 (nd 90 aTE ((nl 1125899906842624 (v 75)))
 (nd 90 aV8 ((nl (lb 3) (v 75)))
 (nd 90 aXN ((nl (lb 3) (v 75-v 76)))
 (nd 90 aSH ((nl (v 75-v 76) 0))
 (nd 90 aQ8 ((nl 1536 (v 75-v 76)))
 (nd 90 aXS ((nl (v 10) 1))
 (.loop 19 90 90 (rgs EU.n mU.tin) qJ (SgT.enc aRW) (List.map TB.enc ((nl (v 10) 1)::aXS)) (.cons (rgs EU.n tX0) (.loop 123 90 90 (rgs EU.n sV.tin) qH (SgT.enc kT) (List.map TB.enc []) (.cons (rgs EU.n tX0) (nd 90 [] ((nl (v 5) 0))
 (nd 90 sW ((nl 1536 (v 5)))
 (nd 90 s9 ((nl 1125899906842624 (v 5)))
 (lf 0 90 90 (rgs EU.n tUo) kL qI))))
 .nil))
 (.cons (rgs EU.n tE) (lf 1 90 90 (rgs EU.n tEw) (bm 74::nG) [])
 .nil))))))))))
 (nd 90 aBW ((nl 1536 (v 75)))
 (nd 90 aGZ ((nl 1125899906842624 (v 75)))
 (nd 90 aJJ ((nl (lb 3) (v 75)))
 (nd 90 aI2 ((nl (lb 3) (v 75-v 76)))
 (nd 90 ay6 ((nl (v 75-v 76) 0))
 (nd 90 aBC ((nl 1536 (v 75-v 76)))
 (nd 90 aE6 ((nl (v 10) 1))
 (.loop 19 90 90 (rgs EU.n mU.tin) qJ (SgT.enc aRW) (List.map TB.enc ((nl (v 10) 1)::aE6)) (.cons (rgs EU.n tX0) (.loop 123 90 90 (rgs EU.n sV.tin) qH (SgT.enc kT) (List.map TB.enc []) (.cons (rgs EU.n tX0) (nd 90 [] ((nl (v 5) 0))
 (nd 90 sW ((nl 1536 (v 5)))
 (nd 90 s9 ((nl 1125899906842624 (v 5)))
 (lf 0 90 90 (rgs EU.n tUo) kL qI))))
 .nil))
 (.cons (rgs EU.n tE) (lf 1 90 90 (rgs EU.n tEw) (bm 74::nG) [])
 .nil)))))))))))
theorem ad1:aG (uL++(un++u1))=bA:=by kernel_rfl
abbrev aL0:List TB:=[(nl (v 76) (v 75)),(.eq (v 76) (v 75))]
abbrev ayM:=.lt (v 8) (v 12)::nq (v 10) 0::aL0
abbrev aL2:=.var 11::.eq (v 7) (v 6)::ayM
abbrev aJF:=.not (.and (.var 11) (.eq (v 7) (v 6)))::ayM
abbrev aUE:SgT:=im 72::im 18::bm 16::(ids ([32]++dn 30 11)++((13,.btm (.lit true))::ik 5 0::arD))
abbrev aS3:SgT:=bm 74::lm 17::lm 4::lm 3::(ids (dn 71 6++dn 64 21)++(im 9::im 10::im 7::im 6::bm 2::(39,.idn)::im 8::(37,.val (.int .i64 0))::bm 1::(11,.btm (.var 11))::im 19::aUE))
def L2:Tre:=(.fork (nd 90 aL2 ((nl (v 10) 1))
 (.loop 19 90 90 (rgs EU.n mU.tin) qJ (SgT.enc aS3) (List.map TB.enc ((nl (v 10) 1)::aL2)) (.cons (rgs EU.n tX0) (.loop 123 90 90 (rgs EU.n sV.tin) qH (SgT.enc kT) (List.map TB.enc []) (.cons (rgs EU.n tX0) (nd 90 [] ((nl (v 5) 0))
 (nd 90 sW ((nl 1536 (v 5)))
 (nd 90 s9 ((nl 1125899906842624 (v 5)))
 (lf 0 90 90 (rgs EU.n tUo) kL qI))))
 .nil))
 (.cons (rgs EU.n tE) (lf 1 90 90 (rgs EU.n tEw) (bm 74::nG) [])
 .nil))))
 (nd 90 aJF ((nl (v 10) 1))
 (.loop 19 90 90 (rgs EU.n mU.tin) qJ (SgT.enc aS3) (List.map TB.enc ((nl (v 10) 1)::aJF)) (.cons (rgs EU.n tX0) (.loop 123 90 90 (rgs EU.n sV.tin) qH (SgT.enc kT) (List.map TB.enc []) (.cons (rgs EU.n tX0) (nd 90 [] ((nl (v 5) 0))
 (nd 90 sW ((nl 1536 (v 5)))
 (nd 90 s9 ((nl 1125899906842624 (v 5)))
 (lf 0 90 90 (rgs EU.n tUo) kL qI))))
 .nil))
 (.cons (rgs EU.n tE) (lf 1 90 90 (rgs EU.n tEw) (bm 74::nG) [])
 .nil)))))
theorem ab5:aG (uL++(un++u2))=L2:=by kernel_rfl
abbrev aJG:List TB:=[(nl 0 (v 76)),(nq (v 76) (v 75))]
abbrev aE2:=.lt (v 8) (v 12)::nq (v 10) 0::aJG
abbrev aIJ:=.var 11::.eq (v 7) (v 6)::aE2
abbrev aEV:=nl 1536 (v 75)::aIJ
abbrev aDZ:=.not (.and (.var 11) (.eq (v 7) (v 6)))::aE2
abbrev aFM:=nl 1536 (v 75)::aDZ
abbrev aJB:SgT:=im 72::im 18::bm 16::(ids ([32]++dn 30 11)++((13,.btm (.lit true))::ij 5 75::arD))
abbrev aML:SgT:=bm 74::lm 17::lm 4::lm 3::(ids (dn 71 6++dn 64 21)++(im 9::im 10::im 7::im 6::bm 2::(39,.idn)::im 8::(37,.val (rv 76 0 1536))::bm 1::(11,.btm (.var 11))::im 19::aJB))
def aU:Tre:=(.fork (nd 90 aIJ ((nl 1536 (v 75)))
 (nd 90 aEV ((nl (v 10) 1))
 (.loop 19 90 90 (rgs EU.n mU.tin) qJ (SgT.enc aML) (List.map TB.enc ((nl (v 10) 1)::aEV)) (.cons (rgs EU.n tX0) (.loop 123 90 90 (rgs EU.n sV.tin) qH (SgT.enc kT) (List.map TB.enc []) (.cons (rgs EU.n tX0) (nd 90 [] ((nl (v 5) 0))
 (nd 90 sW ((nl 1536 (v 5)))
 (nd 90 s9 ((nl 1125899906842624 (v 5)))
 (lf 0 90 90 (rgs EU.n tUo) kL qI))))
 .nil))
 (.cons (rgs EU.n tE) (lf 1 90 90 (rgs EU.n tEw) (bm 74::nG) [])
 .nil)))))
 (nd 90 aDZ ((nl 1536 (v 75)))
 (nd 90 aFM ((nl (v 10) 1))
 (.loop 19 90 90 (rgs EU.n mU.tin) qJ (SgT.enc aML) (List.map TB.enc ((nl (v 10) 1)::aFM)) (.cons (rgs EU.n tX0) (.loop 123 90 90 (rgs EU.n sV.tin) qH (SgT.enc kT) (List.map TB.enc []) (.cons (rgs EU.n tX0) (nd 90 [] ((nl (v 5) 0))
 (nd 90 sW ((nl 1536 (v 5)))
 (nd 90 s9 ((nl 1125899906842624 (v 5)))
 (lf 0 90 90 (rgs EU.n tUo) kL qI))))
 .nil))
 (.cons (rgs EU.n tE) (lf 1 90 90 (rgs EU.n tEw) (bm 74::nG) [])
 .nil))))))
theorem acK:aG (uL++(un++u3))=aU:=by kernel_rfl
abbrev aD8:=.lt (v 8) (v 12)::.eq (v 10) 0::aQY
abbrev amR:=.var 11::.eq (v 7) (v 6)::aD8
abbrev aKO:=nl 1536 (v 75)::amR
abbrev aF6:=nl 1125899906842624 (v 75)::aKO
abbrev azT:=nl (lb 3) (v 75)::aF6
abbrev ay9:=nl (lb 3) (v 75-v 76)::azT
abbrev aBB:=nl (v 75-v 76) 0::ay9
abbrev aqQ:=.not (.and (.var 11) (.eq (v 7) (v 6)))::aD8
abbrev axV:=nl 1536 (v 75)::aqQ
abbrev aCX:=nl 1125899906842624 (v 75)::axV
abbrev aLP:=nl (lb 3) (v 75)::aCX
abbrev aMJ:=nl (lb 3) (v 75-v 76)::aLP
abbrev az5:=nl (v 75-v 76) 0::aMJ
abbrev eZ:SgT:=bm 74::lm 17::lm 4::(ids (dn 71 6++dn 64 21)++(im 9::im 10::im 7::im 6::bm 2::(39,.idn)::(38,.val (rv 8 0 2000))::(37,.val (rv 76 0 1536))::(36,.val (.func (.yield 4) #[(.int .i64 1),(.int .i64 0),(.map (some 75)),(.int .i64 1536)] #[]))::(11,.btm (.var 11))::im 19::im 72::im 18::bm 16::(ids ([32]++dn 30 11)++nG)))
abbrev ayY:SgT:=bm 74::lm 17::lj 4 94::(3,.ltm (.put (.var 3) 0 (.sub (.var 3) (v 76) (v 75))))::(ids (dn 71 6++dn 64 21)++(ij 9 99::ij 10 100::ij 7 97::ij 6 96::bm 2::(39,.idn)::im 8::(37,.val (.int .i64 0))::bm 1::(11,.btm (.var 101))::ij 19 109::aWQ))
def bX:Tre:=(.fork (.call 48 90 90 (rgs spD.n spD.tin) (SgT.enc eZ) (List.map TB.enc amR) (.cons (rgs 0 tDo++rgV (.bool true)) (nd 180 amR ((nl 1536 (v 75)))
 (nd 180 aKO ((nl 1125899906842624 (v 75)))
 (nd 180 aF6 ((nl (lb 3) (v 75)))
 (nd 180 azT ((nl (lb 3) (v 75-v 76)))
 (nd 180 ay9 ((nl (v 75-v 76) 0))
 (nd 180 aBB ((nl 1536 (v 75-v 76)))
 (.loop 19 90 180 (rgs EU.n mU.tin) qJ (SgT.enc ayY) (List.map TB.enc ((nl 1536 (v 75-v 76))::aBB)) (.cons (rgs EU.n tX0) (.loop 123 90 90 (rgs EU.n sV.tin) qH (SgT.enc kT) (List.map TB.enc []) (.cons (rgs EU.n tX0) (nd 90 [] ((nl (v 5) 0))
 (nd 90 sW ((nl 1536 (v 5)))
 (nd 90 s9 ((nl 1125899906842624 (v 5)))
 (lf 0 90 90 (rgs EU.n tUo) kL qI))))
 .nil))
 (.cons (rgs EU.n tE) (lf 1 90 90 (rgs EU.n tEw) (bm 74::nG) [])
 .nil)))))))))
 .nil))
 (.call 48 90 90 (rgs spD.n spD.tin) (SgT.enc eZ) (List.map TB.enc aqQ) (.cons (rgs 0 tDo++rgV (.bool true)) (nd 180 aqQ ((nl 1536 (v 75)))
 (nd 180 axV ((nl 1125899906842624 (v 75)))
 (nd 180 aCX ((nl (lb 3) (v 75)))
 (nd 180 aLP ((nl (lb 3) (v 75-v 76)))
 (nd 180 aMJ ((nl (v 75-v 76) 0))
 (nd 180 az5 ((nl 1536 (v 75-v 76)))
 (.loop 19 90 180 (rgs EU.n mU.tin) qJ (SgT.enc ayY) (List.map TB.enc ((nl 1536 (v 75-v 76))::az5)) (.cons (rgs EU.n tX0) (.loop 123 90 90 (rgs EU.n sV.tin) qH (SgT.enc kT) (List.map TB.enc []) (.cons (rgs EU.n tX0) (nd 90 [] ((nl (v 5) 0))
 (nd 90 sW ((nl 1536 (v 5)))
 (nd 90 s9 ((nl 1125899906842624 (v 5)))
 (lf 0 90 90 (rgs EU.n tUo) kL qI))))
 .nil))
 (.cons (rgs EU.n tE) (lf 1 90 90 (rgs EU.n tEw) (bm 74::nG) [])
 .nil)))))))))
 .nil)))
theorem acU:aG (uL++(uz++u1))=bX:=by kernel_rfl
abbrev aJZ:=.lt (v 8) (v 12)::.eq (v 10) 0::aL0
abbrev aHP:=.var 11::.eq (v 7) (v 6)::aJZ
abbrev aCU:=.not (.and (.var 11) (.eq (v 7) (v 6)))::aJZ
abbrev ayR:SgT:=bm 74::lm 17::lj 4 94::lm 3::(ids (dn 71 6++dn 64 21)++(ij 9 99::ij 10 100::ij 7 97::ij 6 96::bm 2::(39,.idn)::im 8::(37,.val (.int .i64 0))::bm 1::(11,.btm (.var 101))::ij 19 109::aUE))
def A7:Tre:=(.fork (.call 48 90 90 (rgs spD.n spD.tin) (SgT.enc eZ) (List.map TB.enc aHP) (.cons (rgs 0 tDo++rgV (.bool true)) (.loop 19 90 180 (rgs EU.n mU.tin) qJ (SgT.enc ayR) (List.map TB.enc aHP) (.cons (rgs EU.n tX0) (.loop 123 90 90 (rgs EU.n sV.tin) qH (SgT.enc kT) (List.map TB.enc []) (.cons (rgs EU.n tX0) (nd 90 [] ((nl (v 5) 0))
 (nd 90 sW ((nl 1536 (v 5)))
 (nd 90 s9 ((nl 1125899906842624 (v 5)))
 (lf 0 90 90 (rgs EU.n tUo) kL qI))))
 .nil))
 (.cons (rgs EU.n tE) (lf 1 90 90 (rgs EU.n tEw) (bm 74::nG) [])
 .nil)))
 .nil))
 (.call 48 90 90 (rgs spD.n spD.tin) (SgT.enc eZ) (List.map TB.enc aCU) (.cons (rgs 0 tDo++rgV (.bool true)) (.loop 19 90 180 (rgs EU.n mU.tin) qJ (SgT.enc ayR) (List.map TB.enc aCU) (.cons (rgs EU.n tX0) (.loop 123 90 90 (rgs EU.n sV.tin) qH (SgT.enc kT) (List.map TB.enc []) (.cons (rgs EU.n tX0) (nd 90 [] ((nl (v 5) 0))
 (nd 90 sW ((nl 1536 (v 5)))
 (nd 90 s9 ((nl 1125899906842624 (v 5)))
 (lf 0 90 90 (rgs EU.n tUo) kL qI))))
 .nil))
 (.cons (rgs EU.n tE) (lf 1 90 90 (rgs EU.n tEw) (bm 74::nG) [])
 .nil)))
 .nil)))
theorem aeE:aG (uL++(uz++u2))=A7:=by kernel_rfl
abbrev aD0:=.lt (v 8) (v 12)::.eq (v 10) 0::aJG
abbrev arJ:=.var 11::.eq (v 7) (v 6)::aD0
abbrev aoE:=.not (.and (.var 11) (.eq (v 7) (v 6)))::aD0
abbrev ayL:SgT:=bm 74::lm 17::lj 4 94::lm 3::(ids (dn 71 6++dn 64 21)++(ij 9 99::ij 10 100::ij 7 97::ij 6 96::bm 2::(39,.idn)::im 8::(37,.val (rv 76 0 1536))::bm 1::(11,.btm (.var 101))::ij 19 109::aJB))
def cZ:Tre:=(.fork (.call 48 90 90 (rgs spD.n spD.tin) (SgT.enc eZ) (List.map TB.enc arJ) (.cons (rgs 0 tDo++rgV (.bool true)) (nd 180 arJ ((nl 1536 (v 75)))
 (.loop 19 90 180 (rgs EU.n mU.tin) qJ (SgT.enc ayL) (List.map TB.enc ((nl 1536 (v 75))::arJ)) (.cons (rgs EU.n tX0) (.loop 123 90 90 (rgs EU.n sV.tin) qH (SgT.enc kT) (List.map TB.enc []) (.cons (rgs EU.n tX0) (nd 90 [] ((nl (v 5) 0))
 (nd 90 sW ((nl 1536 (v 5)))
 (nd 90 s9 ((nl 1125899906842624 (v 5)))
 (lf 0 90 90 (rgs EU.n tUo) kL qI))))
 .nil))
 (.cons (rgs EU.n tE) (lf 1 90 90 (rgs EU.n tEw) (bm 74::nG) [])
 .nil))))
 .nil))
 (.call 48 90 90 (rgs spD.n spD.tin) (SgT.enc eZ) (List.map TB.enc aoE) (.cons (rgs 0 tDo++rgV (.bool true)) (nd 180 aoE ((nl 1536 (v 75)))
 (.loop 19 90 180 (rgs EU.n mU.tin) qJ (SgT.enc ayL) (List.map TB.enc ((nl 1536 (v 75))::aoE)) (.cons (rgs EU.n tX0) (.loop 123 90 90 (rgs EU.n sV.tin) qH (SgT.enc kT) (List.map TB.enc []) (.cons (rgs EU.n tX0) (nd 90 [] ((nl (v 5) 0))
 (nd 90 sW ((nl 1536 (v 5)))
 (nd 90 s9 ((nl 1125899906842624 (v 5)))
 (lf 0 90 90 (rgs EU.n tUo) kL qI))))
 .nil))
 (.cons (rgs EU.n tE) (lf 1 90 90 (rgs EU.n tEw) (bm 74::nG) [])
 .nil))))
 .nil)))
theorem acI:aG (uL++(uz++u3))=cZ:=by kernel_rfl
end U
