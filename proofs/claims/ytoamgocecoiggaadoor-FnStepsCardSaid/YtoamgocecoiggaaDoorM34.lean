-- the statement of this claim: see YtoamgocecoiggaaDoorRs
import Derived.Test.YtoamgocecoiggaaDoorM31
import Derived.Test.YtoamgocecoiggaaDoorM33
set_option linter.unusedVariables false
set_option linter.unusedSimpArgs false
set_option maxRecDepth 100000
noncomputable section
open Go Go.SM Go.Proofs
namespace U
structure MI(a b:Ren):Prop where
 i76:gI b 76=gI a 76
 i8:gI b 8=gI a 8
 i77:gI b 77=gI a 77
 i78:gI b 78=gI a 78
 i45:gI b 45=gI a 45
 i39:gI b 39=gI a 39
structure MA(a b:Ren):Prop where
 s:SmQ a b
 m:MI a b
theorem MA.bk{a b:Ren}(h:MA a b)(k:Int):bk b k=bk a k:=by unfold U.bk;rw[h.s.l3,h.m.i76]
theorem MA.ks{a b:Ren}(h:MA a b)(p:KS a)(hn:Ln b):KS b:=by
 have e:=h.bk;obtain⟨e76,e8,e77,e78,e45,e39⟩:=h.m;exact⟨hn,by rw[h.s.l3];exact p.buf,by rw[h.s.i75];exact p.i75,by rw[e76];exact p.i76,by rw[e];exact p.w,by rw[e76,e,h.s.i75];exact p.le,by rw[e,e76,h.s.i75];exact p.la,by rw[e8];exact p.un,by rw[e,e,e8];exact p.u2,by rw[e8];exact p.i8,by rw[e77];exact p.ix,by rw[e78];exact p.co,by rw[e45];exact p.ln,by rw[e39];exact p.nl⟩
theorem MA.kr{a b:Ren}(h:MA a b)(p:KR a)(hn:Ln b):KR b:=by
 have e:=h.bk;exact⟨h.ks p.p hn,by unfold Nel;rw[e,e];exact p.nel,by unfold Lsp;rw[e,e,e];exact p.lsp⟩
theorem Mv.cong{a a' b b':Ren}{dp du dl co co':Int}(h:Mv a' b dp du dl co)(ea:MA a a')(eb:MI b b')(s:SmQ a b')(hc:co'=co):Mv a b' dp du dl co':=by
 obtain⟨e76,e8,e77,e78,e45,e39⟩:=ea.m;obtain⟨f76,f8,f77,f78,f45,f39⟩:=eb;exact⟨s,by rw[f76,h.i76,e76],by rw[f8,h.i8,e8],by rw[f77,h.i77,e77],by rw[f45,h.i45,e45],by rw[f78,h.i78,hc],by rw[f39,<-e39];exact h.i39⟩
theorem dG{a a' b b':Ren}(h:wL a' b)(ea:MA a a')(eb:MI b b')(s:SmQ a b'):wL a b':=by
 have e:=ea.bk 0;unfold wL at h ⊢;rw[e]at h;exact h.cong ea eb s (by rw[ea.m.i78])
theorem dQ{a a' b b':Ren}(h:nQ a' b)(ea:MA a a')(eb:MI b b')(s:SmQ a b'):nQ a b':=by
 unfold nQ at h ⊢;rw[ea.bk,ea.bk]at h;rcases h with h|h|h
 .exact .inl ⟨h.1,h.2.1,h.2.2.cong ea eb s rfl⟩
 .exact .inr (.inl ⟨h.1,h.2.1,h.2.2.cong ea eb s rfl⟩)
 .exact .inr (.inr ⟨h.1,h.2.cong ea eb s rfl⟩)
theorem cA{a a' b b':Ren}(h:pU a' b)(ea:MA a a')(eb:MI b b')(s:SmQ a b'):pU a b':=by
 unfold pU at h ⊢;rw[ea.bk]at h;exact⟨h.1,h.2.1,h.2.2.cong ea eb s ea.m.i78.symm⟩
theorem aiM{a a' b b':Ren}(h:qK a' b)(ea:MA a a')(eb:MI b b')(s:SmQ a b'):qK a b':=by
 unfold qK Nel Lsp at h ⊢;simp only[ea.bk]at h;rcases h with h|h|h|h|h|h
 .exact .inl ⟨h.1,h.2.1,h.2.2.cong ea eb s rfl⟩
 .exact .inr (.inl ⟨h.1,h.2.1,h.2.2.cong ea eb s rfl⟩)
 .exact .inr (.inr (.inl ⟨h.1,h.2.cong ea eb s rfl⟩))
 .exact .inr (.inr (.inr (.inl ⟨h.1,h.2.cong ea eb s rfl⟩)))
 .exact .inr (.inr (.inr (.inr (.inl ⟨h.1,h.2.cong ea eb s rfl⟩))))
 .exact .inr (.inr (.inr (.inr (.inr ⟨h.1,h.2.1,h.2.2.1,h.2.2.2.1,h.2.2.2.2.cong ea eb s ea.m.i78.symm⟩))))
theorem OutIt.cong{b b':Ren}{O:List UInt8}(h:OutIt b O)(e82:gL b' 82=gL b 82)(e80:gI b' 80=gI b 80)(e81:gI b' 81=gI b 81):OutIt b' O:=⟨by rw[e82,e80];exact h.out,by rw[e80];exact h.n,by rw[e81,e82];exact h.cl⟩
theorem ag6{a a' b b':Ren}{O:List UInt8}(h:RQ a' b O)(ea:MA a a')(eb:MI b b')(s:SmQ a b')(e82:gL b' 82=gL b 82)(e80:gI b' 80=gI b 80)(e81:gI b' 81=gI b 81):RQ a b' O:=by
 have e:bb a'=bb a:=by rw[xC,xC,ea.bk]
 exact⟨dG h.m ea eb s,by rw[e82,e80,h.out,e,ea.m.i76,ea.s.l3],by rw[e80,h.n,e],by rw[e81,e82];exact h.cl⟩
theorem arO{a a' b b':Ren}(h:RlN a' b)(ea:MA a a')(eb:MI b b')(s:SmQ a b')(e82:gL b' 82=gL b 82)(e80:gI b' 80=gI b 80)(e81:gI b' 81=gI b 81):RlN a b':=⟨dQ h.1 ea eb s,h.2.cong e82 e80 e81⟩
theorem aqD{a a' b b':Ren}{O:List UInt8}(h:RlS a' b O)(ea:MA a a')(eb:MI b b')(s:SmQ a b')(e82:gL b' 82=gL b 82)(e80:gI b' 80=gI b 80)(e81:gI b' 81=gI b 81):RlS a b' O:=by
 rcases h with h|h
 .exact .inl ⟨dQ h.1 ea eb s,h.2.cong e82 e80 e81⟩
 .exact .inr ⟨cA h.1 ea eb s,h.2.cong e82 e80 e81⟩
def qLN(i:Nat)(a b:Ren):Prop:=match i with|0=>RlN a b|_=>pU a b
def GH(g:Nat)(K:Ren->Prop)(Q:Nat->Ren->Ren->Prop)(V:Ren):Goal where
 J:=fun j γ=>Q j V γ
 L:=fun _ _=>False
 O:=fun _ _ _ _=>False
 W:=fun _ _=>False
 CL:=fun j γ=>j=g/\K γ
 CO:=fun j i γ J1=>j=g/\Ln J1/\Q i γ J1
abbrev aQG:SgT:=[bm 0,bm 73]
abbrev aU3:SgT:=im 75::bm 1::(ids (dn 35 16)++aQG)
abbrev awM:SgT:=bm 74::lm 3::(ids (dn 71 6++dn 64 18)++(im 78::im 45::im 77::(ids (dn 43 4)++(im 39::im 8::im 76::aU3))))
abbrev aOG:SgT:=bm 74::lm 3::(ids (dn 71 6++dn 64 18)++(ij 78 168::ij 45 135::ij 77 167::(ids (dn 43 4)++(ij 39 129::ij 8 98::ij 76 166::aU3))))
def aJ:Tre:=(.call 36 90 90 (rgs (spS 36).n (spS 36).tin) (SgT.enc awM) (List.map TB.enc []) (.cons (rgs 0 tS0++rgV (.tuple #[])) (.leaf 0 90 180 (rgs (EH 23 36 (spS 36) 0 v9 (fun _=>none)).n tS0) (SgT.enc aOG) (List.map TB.enc []))
 .nil))
theorem acO:aAX=aJ:=by kernel_rfl
theorem apE{V:Ren}(p:KS V):aJ.Holds (GH 36 KS (fun _=>wL) V) V:=by
 unfold aJ;have hβ:=p.n.1;refine (cO opS hβ ?_)
 .intro J0 hl0 hA hr0 hid0 hI;simp only[DD]at hI;obtain⟨i74,i3,i78,i45,i77,i39,i8,i76,i75,i1,i0,i73⟩:=hI;have ea:MA V J0:=⟨⟨i0,i1,i73,i74,i3,i75,hid0⟩,⟨i76,i8,i77,i78,i45,i39⟩⟩
  have hL0:(GH 36 KS (fun _=>wL) V).CL 36 J0:=⟨rfl,ea.ks p (p.n.of i73 hl0)⟩
  refine⟨hL0,(aC ?_ aN)⟩
  .intro V1 hq1 hO1;obtain⟨_,hn1,q⟩:=hO1;have q:wL J0 V1:=q;have hb1:=zE hβ hn1.1;simp only[Nat.reduceAdd]at hb1;refine (lO opS hb1 ?_)
   .intro J1 hl1 hA hr1 hid1 hI;simp +decide only[DD,aA hβ]at hI;obtain⟨j74,j3,j78,j45,j77,j39,j8,j76,j75,j1,j0,j73⟩:=hI;exact dG q ea ⟨j76,j8,j77,j78,j45,j39⟩ ⟨j0,j1,j73,j74,j3,j75,uU hβ (by decide) hid1⟩
theorem auX{G:Goal}(hCL:∀ V,G.CL 23 V->KS V)(hCO:∀ V V1,G.CL 23 V->Ln V1->wL V V1->G.CO 23 0 V V1):yT Tryd.prog G 23 (spS 23):=by
 refine zU (E:=EH 23 36 (spS 36) 0 v9 (fun _=>none)) (Gt:=GH 36 KS (fun _=>wL)) (fn:=wK 23) (c:=body 23) (s:=(spS 23)) zQ zS follows (by kernel_rfl) (by kernel_rfl) (by kernel_rfl) (by kernel_rfl) (by kernel_rfl) (by kernel_rfl) ?_ ?_ ?_ (fun V w0 r s c h=>by rcases h with h|h<;>cases h) (fun V j i V1 V2 h=>h.elim) (fun V r s h=>by rcases h with h|h<;>cases h) ?_
 .intro e j tp h;have h:=h.resolve_right fun h=>by cases h
  cases e with
  |normal=>cases h;exact⟨(fun id h=>by cases h),.tuple #[],by kernel_rfl,_,rfl⟩
  |ret=>cases h;exact⟨(fun id h=>by cases h),.tuple #[],by kernel_rfl,_,rfl⟩
  |exit id=>cases h
 .intro V hcl hlen hr;have p:=hCL V hcl;refine⟨p.n.2,[],2000,Facts.nil _,?_⟩;show (aAX).Holds _ V;rw[acO];exact apE p
 .intro V j v tp sm V1 hcl hout hlen _ hJ;have p:=hCL V hcl;match j,hout with
  |0,hout =>
   cases hout;have q:wL V V1:=hJ;exact⟨hCO V V1 hcl (p.n.of q.s.h73 hlen) q,vN q.s⟩
 .intro V f s hs;have hs:ct1 36 (spS 36) f=some s:=hs;unfold ct1 at hs;split at hs
  .rename_i hf;subst hf;cases hs;exact aSN (fun _ h=>h.2) (fun _ _ _ a b=>⟨rfl,a,b⟩)
  .cases hs
def aP:Tre:=(.call 37 90 90 (rgs (spS 37).n (spS 37).tin) (SgT.enc awM) (List.map TB.enc []) (.cons (rgs 0 tS0++rgV (.tuple #[])) (.leaf 0 90 180 (rgs (EH 24 37 (spS 37) 0 v9 (fun _=>none)).n tS0) (SgT.enc aOG) (List.map TB.enc []))
 .nil))
theorem ad7:aDT=aP:=by kernel_rfl
theorem ao0{V:Ren}(p:KS V):aP.Holds (GH 37 KS (fun _=>qK) V) V:=by
 unfold aP;have hβ:=p.n.1;refine (cO opS hβ ?_)
 .intro J0 hl0 hA hr0 hid0 hI;simp only[DD]at hI;obtain⟨i74,i3,i78,i45,i77,i39,i8,i76,i75,i1,i0,i73⟩:=hI;have ea:MA V J0:=⟨⟨i0,i1,i73,i74,i3,i75,hid0⟩,⟨i76,i8,i77,i78,i45,i39⟩⟩
  have hL0:(GH 37 KS (fun _=>qK) V).CL 37 J0:=⟨rfl,ea.ks p (p.n.of i73 hl0)⟩
  refine⟨hL0,(aC ?_ aN)⟩
  .intro V1 hq1 hO1;obtain⟨_,hn1,q⟩:=hO1;have q:qK J0 V1:=q;have hb1:=zE hβ hn1.1;simp only[Nat.reduceAdd]at hb1;refine (lO opS hb1 ?_)
   .intro J1 hl1 hA hr1 hid1 hI;simp +decide only[DD,aA hβ]at hI;obtain⟨j74,j3,j78,j45,j77,j39,j8,j76,j75,j1,j0,j73⟩:=hI;exact aiM q ea ⟨j76,j8,j77,j78,j45,j39⟩ ⟨j0,j1,j73,j74,j3,j75,uU hβ (by decide) hid1⟩
theorem awO{G:Goal}(hCL:∀ V,G.CL 24 V->KS V)(hCO:∀ V V1,G.CL 24 V->Ln V1->qK V V1->G.CO 24 0 V V1):yT Tryd.prog G 24 (spS 24):=by
 refine zU (E:=EH 24 37 (spS 37) 0 v9 (fun _=>none)) (Gt:=GH 37 KS (fun _=>qK)) (fn:=wK 24) (c:=body 24) (s:=(spS 24)) zQ zS follows (by kernel_rfl) (by kernel_rfl) (by kernel_rfl) (by kernel_rfl) (by kernel_rfl) (by kernel_rfl) ?_ ?_ ?_ (fun V w0 r s c h=>by rcases h with h|h<;>cases h) (fun V j i V1 V2 h=>h.elim) (fun V r s h=>by rcases h with h|h<;>cases h) ?_
 .intro e j tp h;have h:=h.resolve_right fun h=>by cases h
  cases e with
  |normal=>cases h;exact⟨(fun id h=>by cases h),.tuple #[],by kernel_rfl,_,rfl⟩
  |ret=>cases h;exact⟨(fun id h=>by cases h),.tuple #[],by kernel_rfl,_,rfl⟩
  |exit id=>cases h
 .intro V hcl hlen hr;have p:=hCL V hcl;refine⟨p.n.2,[],2000,Facts.nil _,?_⟩;show (aDT).Holds _ V;rw[ad7];exact ao0 p
 .intro V j v tp sm V1 hcl hout hlen _ hJ;have p:=hCL V hcl;match j,hout with
  |0,hout =>
   cases hout;have q:qK V V1:=hJ;have hs:SmQ V V1:=by
    rcases q with h|h|h|h|h|h
    .exact h.2.2.s
    .exact h.2.2.s
    .exact h.2.s
    .exact h.2.s
    .exact h.2.s
    .exact h.2.2.2.2.s
   exact⟨hCO V V1 hcl (p.n.of hs.h73 hlen) q,vN hs⟩
 .intro V f s hs;have hs:ct1 37 (spS 37) f=some s:=hs;unfold ct1 at hs;split at hs
  .rename_i hf;subst hf;cases hs;exact aST (fun _ h=>h.2) (fun _ _ _ a b=>⟨rfl,a,b⟩)
  .cases hs
abbrev awL:SgT:=lj 82 172::bm 74::lm 3::(ids (dn 71 6++dn 64 18)++(ij 78 168::ij 45 135::ij 77 167::(ids (dn 43 4)++(ij 39 129::ij 8 98::ij 76 166::im 75::bm 1::(ids (dn 35 16)++(ij 81 171::ij 80 170::bj 79 169::aQG))))))
def iS:Tre:=(.call 35 90 90 (rgs (pC 35).n (pC 35).tin) (SgT.enc awM) (List.map TB.enc []) (.cons (rgs 0 (tSo 4)++rgV xE) (.leaf 0 90 180 (rgs (EH 20 35 (pC 35) 1 (qS 4) (fun _=>none)).n (tSo 4)) (SgT.enc awL) (List.map TB.enc []))
 .nil))
theorem aaM:aqO=iS:=by kernel_rfl
theorem ahW{V:Ren}(p:KS V):iS.Holds (GH 35 KS (fun _ a b=>RQ a b []) V) V:=by
 unfold iS;have hβ:=p.n.1;refine (cO opS hβ ?_)
 .intro J0 hl0 hA hr0 hid0 hI;simp only[DD]at hI;obtain⟨i74,i3,i78,i45,i77,i39,i8,i76,i75,i1,i0,i73⟩:=hI;have ea:MA V J0:=⟨⟨i0,i1,i73,i74,i3,i75,hid0⟩,⟨i76,i8,i77,i78,i45,i39⟩⟩
  have hL0:(GH 35 KS (fun _ a b=>RQ a b []) V).CL 35 J0:=⟨rfl,ea.ks p (p.n.of i73 hl0)⟩
  refine⟨hL0,(aC ?_ aN)⟩
  .intro V1 hq1 hO1;obtain⟨_,hn1,q⟩:=hO1;have q:RQ J0 V1 []:=q;have hb1:=zE hβ hn1.1;simp only[Nat.reduceAdd]at hb1;refine (lO opS hb1 ?_)
   .intro J1 hl1 hA hr1 hid1 hI;simp +decide only[DD,aA hβ]at hI;obtain⟨j82,j74,j3,j78,j45,j77,j39,j8,j76,j75,j1,j81,j80,_,j0,j73⟩:=hI;exact ag6 q ea ⟨j76,j8,j77,j78,j45,j39⟩ ⟨j0,j1,j73,j74,j3,j75,uU hβ (by decide) hid1⟩ j82 j80 j81
theorem auA{G:Goal}(hCL:∀ V,G.CL 20 V->KS V)(hCO:∀ V V1,G.CL 20 V->Ln V1->RQ V V1 []->G.CO 20 0 V V1):yT Tryd.prog G 20 (pC 20):=by
 refine zU (E:=EH 20 35 (pC 35) 1 (qS 4) (fun _=>none)) (Gt:=GH 35 KS (fun _ a b=>RQ a b [])) (fn:=wK 20) (c:=body 20) (s:=(pC 20)) zQ zS follows (by kernel_rfl) (by kernel_rfl) (by kernel_rfl) (by kernel_rfl) (by kernel_rfl) (by kernel_rfl) ?_ ?_ ?_ (fun V w0 r s c h=>by rcases h with h|h<;>cases h) (fun V j i V1 V2 h=>h.elim) (fun V r s h=>by rcases h with h|h<;>cases h) ?_
 .intro e j tp h;have h:=h.resolve_right fun h=>by cases h
  cases e with
  |normal=>cases h;exact⟨(fun id h=>by cases h),xE,by kernel_rfl,_,rfl⟩
  |ret=>cases h;exact⟨(fun id h=>by cases h),xE,by kernel_rfl,_,rfl⟩
  |exit id=>cases h
 .intro V hcl hlen hr;have p:=hCL V hcl;refine⟨p.n.2,[],2000,Facts.nil _,?_⟩;show (aqO).Holds _ V;rw[aaM];exact ahW p
 .intro V j v tp sm V1 hcl hout hlen _ hJ;have p:=hCL V hcl;match j,hout with
  |0,hout =>
   cases hout;have q:RQ V V1 []:=hJ;exact⟨hCO V V1 hcl (p.n.of q.m.s.h73 hlen) q,vN q.m.s⟩
 .intro V f s hs;have hs:ct1 35 (pC 35) f=some s:=hs;unfold ct1 at hs;split at hs
  .rename_i hf;subst hf;cases hs;exact aTJ (fun _ h=>h.2) (fun _ _ _ a b=>⟨rfl,a,b⟩)
  .cases hs
abbrev aSP:SgT:=lm 82::bm 74::lm 3::(ids (dn 71 6++dn 64 18)++(im 78::im 45::im 77::(ids (dn 43 4)++(im 39::im 8::im 76::im 75::bm 1::(ids (dn 35 16)++(im 81::im 80::bm 79::aQG))))))
def jV:Tre:=(.call 35 90 90 (rgs (oJ 35).n (oJ 35).tin) (SgT.enc aSP) (List.map TB.enc []) (.cons (rgs 0 (tSo 4)++rgV xE) (.leaf 0 90 180 (rgs (EH 20 35 (oJ 35) 1 (qS 4) (fun _=>none)).n (tSo 4)) (SgT.enc awL) (List.map TB.enc []))
 .nil))
theorem aa3:aoN=jV:=by kernel_rfl
theorem ah9{V:Ren}(p:KS V)(o:KO V):jV.Holds (GH 35 (fun a=>KS a/\KO a) (fun _ a b=>RQ a b (OS a)) V) V:=by
 unfold jV;have hβ:=p.n.1;refine (cO opS hβ ?_)
 .intro J0 hl0 hA hr0 hid0 hI;simp only[DD]at hI;obtain⟨i82,i74,i3,i78,i45,i77,i39,i8,i76,i75,i1,i81,i80,_,i0,i73⟩:=hI;have ea:MA V J0:=⟨⟨i0,i1,i73,i74,i3,i75,hid0⟩,⟨i76,i8,i77,i78,i45,i39⟩⟩
  have hL0:(GH 35 (fun a=>KS a/\KO a) (fun _ a b=>RQ a b (OS a)) V).CL 35 J0:=⟨rfl,⟨ea.ks p (p.n.of i73 hl0),⟨by rw[i80];exact o.n0,by rw[i80];exact o.nb,by rw[i81,i82];exact o.cl⟩⟩⟩
  refine⟨hL0,(aC ?_ aN)⟩
  .intro V1 hq1 hO1;obtain⟨_,hn1,q⟩:=hO1;have eO:OS J0=OS V:=by unfold OS;rw[i80,i82]
   have q:RQ J0 V1 (OS J0):=q;rw[eO]at q;have hb1:=zE hβ hn1.1;simp only[Nat.reduceAdd]at hb1;refine (lO opS hb1 ?_)
   .intro J1 hl1 hA hr1 hid1 hI;simp +decide only[DD,aA hβ]at hI;obtain⟨j82,j74,j3,j78,j45,j77,j39,j8,j76,j75,j1,j81,j80,_,j0,j73⟩:=hI;exact ag6 q ea ⟨j76,j8,j77,j78,j45,j39⟩ ⟨j0,j1,j73,j74,j3,j75,uU hβ (by decide) hid1⟩ j82 j80 j81
theorem alM{G:Goal}(hCL:∀ V,G.CL 20 V->KS V/\KO V)(hCO:∀ V V1,G.CL 20 V->Ln V1->RQ V V1 (OS V)->G.CO 20 0 V V1):yT Tryd.prog G 20 (oJ 20):=by
 refine zU (E:=EH 20 35 (oJ 35) 1 (qS 4) (fun _=>none)) (Gt:=GH 35 (fun a=>KS a/\KO a) (fun _ a b=>RQ a b (OS a))) (fn:=wK 20) (c:=body 20) (s:=(oJ 20)) zQ zS follows (by kernel_rfl) (by kernel_rfl) (by kernel_rfl) (by kernel_rfl) (by kernel_rfl) (by kernel_rfl) ?_ ?_ ?_ (fun V w0 r s c h=>by rcases h with h|h<;>cases h) (fun V j i V1 V2 h=>h.elim) (fun V r s h=>by rcases h with h|h<;>cases h) ?_
 .intro e j tp h;have h:=h.resolve_right fun h=>by cases h
  cases e with
  |normal=>cases h;exact⟨(fun id h=>by cases h),xE,by kernel_rfl,_,rfl⟩
  |ret=>cases h;exact⟨(fun id h=>by cases h),xE,by kernel_rfl,_,rfl⟩
  |exit id=>cases h
 .intro V hcl hlen hr;obtain⟨p,o⟩:=hCL V hcl;refine⟨p.n.2,[],2000,Facts.nil _,?_⟩;show (aoN).Holds _ V;rw[aa3];exact ah9 p o
 .intro V j v tp sm V1 hcl hout hlen _ hJ;obtain⟨p,o⟩:=hCL V hcl;match j,hout with
  |0,hout =>
   cases hout;have q:RQ V V1 (OS V):=hJ;exact⟨hCO V V1 hcl (p.n.of q.m.s.h73 hlen) q,vN q.m.s⟩
 .intro V f s hs;have hs:ct1 35 (oJ 35) f=some s:=hs;unfold ct1 at hs;split at hs
  .rename_i hf;subst hf;cases hs;exact aSM (fun _ h=>h.2) (fun _ _ _ a b=>⟨rfl,a,b⟩)
  .cases hs
def g7:Tre:=(.call 38 90 90 (rgs (pV 38).n (pV 38).tin) (SgT.enc awM) (List.map TB.enc []) (.cons (rgs 0 (tSo 4)++rgV xE) (.leaf 0 90 180 (rgs (EH 25 38 (pV 38) 1 (qS 4) (ah6 4)).n (tSo 4)) (SgT.enc awL) (List.map TB.enc []))
 (.cons (rgs 0 (tSn 4)++rgV (.slice none 0 0)) (.leaf 1 90 180 (rgs (EH 25 38 (pV 38) 1 (qS 4) (ah6 4)).n (tSn 4)) (SgT.enc aOG) (List.map TB.enc []))
 .nil)))
theorem Q2:ajO=g7:=by kernel_rfl
theorem aiE{V:Ren}(p:KR V):g7.Holds (GH 38 KR qLN V) V:=by
 unfold g7;have hβ:=p.p.n.1;refine (cO opS hβ ?_)
 .intro J0 hl0 hA hr0 hid0 hI;simp only[DD]at hI;obtain⟨i74,i3,i78,i45,i77,i39,i8,i76,i75,i1,i0,i73⟩:=hI;have ea:MA V J0:=⟨⟨i0,i1,i73,i74,i3,i75,hid0⟩,⟨i76,i8,i77,i78,i45,i39⟩⟩
  have hL0:(GH 38 KR qLN V).CL 38 J0:=⟨rfl,ea.kr p (p.p.n.of i73 hl0)⟩
  refine⟨hL0,(aC ?_ (aC ?_ aN))⟩
  .intro V1 hq1 hO1;obtain⟨_,hn1,q⟩:=hO1;have q:RlN J0 V1:=q;have hb1:=zE hβ hn1.1;simp only[Nat.reduceAdd]at hb1;refine (lO opS hb1 ?_)
   .intro J1 hl1 hA hr1 hid1 hI;simp +decide only[DD,aA hβ]at hI;obtain⟨j82,j74,j3,j78,j45,j77,j39,j8,j76,j75,j1,j81,j80,_,j0,j73⟩:=hI;exact arO q ea ⟨j76,j8,j77,j78,j45,j39⟩ ⟨j0,j1,j73,j74,j3,j75,uU hβ (by decide) hid1⟩ j82 j80 j81
  .intro V1 hq1 hO1;obtain⟨_,hn1,q⟩:=hO1;have q:pU J0 V1:=q;have hb1:=zE hβ hn1.1;simp only[Nat.reduceAdd]at hb1;refine (lO opS hb1 ?_)
   .intro J1 hl1 hA hr1 hid1 hI;simp +decide only[DD,aA hβ]at hI;obtain⟨j74,j3,j78,j45,j77,j39,j8,j76,j75,j1,j0,j73⟩:=hI;exact cA q ea ⟨j76,j8,j77,j78,j45,j39⟩ ⟨j0,j1,j73,j74,j3,j75,uU hβ (by decide) hid1⟩
theorem am1{G:Goal}(hCL:∀ V,G.CL 25 V->KR V)(hCO:∀ V V1,G.CL 25 V->Ln V1->RlN V V1->G.CO 25 0 V V1)(hCO1:∀ V V1,G.CL 25 V->Ln V1->pU V V1->G.CO 25 1 V V1):yT Tryd.prog G 25 (pV 25):=by
 refine zU (E:=EH 25 38 (pV 38) 1 (qS 4) (ah6 4)) (Gt:=GH 38 KR qLN) (fn:=wK 25) (c:=body 25) (s:=(pV 25)) zQ zS follows (by kernel_rfl) (by kernel_rfl) (by kernel_rfl) (by kernel_rfl) (by kernel_rfl) (by kernel_rfl) ?_ ?_ ?_ (fun V w0 r s c h=>by rcases h with h|h<;>cases h) (fun V j i V1 V2 h=>h.elim) (fun V r s h=>by rcases h with h|h<;>cases h) ?_
 .intro e j tp h;rcases h with h|h
  .cases e with
   |normal=>cases h;exact⟨(fun id h=>by cases h),xE,by kernel_rfl,_,rfl⟩
   |ret=>cases h;exact⟨(fun id h=>by cases h),xE,by kernel_rfl,_,rfl⟩
   |exit id=>cases h
  .cases e with
   |normal=>cases h;exact⟨(fun id h=>by cases h),.slice none 0 0,by kernel_rfl,_,rfl⟩
   |ret=>cases h;exact⟨(fun id h=>by cases h),.slice none 0 0,by kernel_rfl,_,rfl⟩
   |exit id=>cases h
 .intro V hcl hlen hr;have p:=hCL V hcl;refine⟨p.p.n.2,[],2000,Facts.nil _,?_⟩;show (ajO).Holds _ V;rw[Q2];exact aiE p
 .intro V j v tp sm V1 hcl hout hlen _ hJ;have p:=hCL V hcl;match j,hout with
  |0,hout =>
   cases hout;have q:RlN V V1:=hJ;exact⟨hCO V V1 hcl (p.p.n.of (gW q.1).h73 hlen) q,vN (gW q.1)⟩
  |1,hout =>
   cases hout;have q:pU V V1:=hJ;exact⟨hCO1 V V1 hcl (p.p.n.of q.2.2.s.h73 hlen) q,vN q.2.2.s⟩
 .intro V f s hs;have hs:ct1 38 (pV 38) f=some s:=hs;unfold ct1 at hs;split at hs
  .rename_i hf;subst hf;cases hs;exact aRB (fun _ h=>h.2) (fun _ _ _ a b=>⟨rfl,a,b⟩) (fun _ _ _ a b=>⟨rfl,a,b⟩)
  .cases hs
def fQ:Tre:=(.call 38 90 90 (rgs (mN 38).n (mN 38).tin) (SgT.enc aSP) (List.map TB.enc []) (.cons (rgs 0 (tSo 4)++rgV xE) (.leaf 0 90 180 (rgs (EH 25 38 (mN 38) 1 (qS 4) (fun _=>none)).n (tSo 4)) (SgT.enc awL) (List.map TB.enc []))
 .nil))
theorem S9:an5=fQ:=by kernel_rfl
theorem ah1{V:Ren}(p:KR V)(o:KO V):fQ.Holds (GH 38 (fun a=>KR a/\KO a) (fun _ a b=>RlS a b (OS a)) V) V:=by
 unfold fQ;have hβ:=p.p.n.1;refine (cO opS hβ ?_)
 .intro J0 hl0 hA hr0 hid0 hI;simp only[DD]at hI;obtain⟨i82,i74,i3,i78,i45,i77,i39,i8,i76,i75,i1,i81,i80,_,i0,i73⟩:=hI;have ea:MA V J0:=⟨⟨i0,i1,i73,i74,i3,i75,hid0⟩,⟨i76,i8,i77,i78,i45,i39⟩⟩
  have hL0:(GH 38 (fun a=>KR a/\KO a) (fun _ a b=>RlS a b (OS a)) V).CL 38 J0:=⟨rfl,⟨ea.kr p (p.p.n.of i73 hl0),⟨by rw[i80];exact o.n0,by rw[i80];exact o.nb,by rw[i81,i82];exact o.cl⟩⟩⟩
  refine⟨hL0,(aC ?_ aN)⟩
  .intro V1 hq1 hO1;obtain⟨_,hn1,q⟩:=hO1;have eO:OS J0=OS V:=by unfold OS;rw[i80,i82]
   have q:RlS J0 V1 (OS J0):=q;rw[eO]at q;have hb1:=zE hβ hn1.1;simp only[Nat.reduceAdd]at hb1;refine (lO opS hb1 ?_)
   .intro J1 hl1 hA hr1 hid1 hI;simp +decide only[DD,aA hβ]at hI;obtain⟨j82,j74,j3,j78,j45,j77,j39,j8,j76,j75,j1,j81,j80,_,j0,j73⟩:=hI;exact aqD q ea ⟨j76,j8,j77,j78,j45,j39⟩ ⟨j0,j1,j73,j74,j3,j75,uU hβ (by decide) hid1⟩ j82 j80 j81
theorem aq4{G:Goal}(hCL:∀ V,G.CL 25 V->KR V/\KO V)(hCO:∀ V V1,G.CL 25 V->Ln V1->RlS V V1 (OS V)->G.CO 25 0 V V1):yT Tryd.prog G 25 (mN 25):=by
 refine zU (E:=EH 25 38 (mN 38) 1 (qS 4) (fun _=>none)) (Gt:=GH 38 (fun a=>KR a/\KO a) (fun _ a b=>RlS a b (OS a))) (fn:=wK 25) (c:=body 25) (s:=(mN 25)) zQ zS follows (by kernel_rfl) (by kernel_rfl) (by kernel_rfl) (by kernel_rfl) (by kernel_rfl) (by kernel_rfl) ?_ ?_ ?_ (fun V w0 r s c h=>by rcases h with h|h<;>cases h) (fun V j i V1 V2 h=>h.elim) (fun V r s h=>by rcases h with h|h<;>cases h) ?_
 .intro e j tp h;have h:=h.resolve_right fun h=>by cases h
  cases e with
  |normal=>cases h;exact⟨(fun id h=>by cases h),xE,by kernel_rfl,_,rfl⟩
  |ret=>cases h;exact⟨(fun id h=>by cases h),xE,by kernel_rfl,_,rfl⟩
  |exit id=>cases h
 .intro V hcl hlen hr;obtain⟨p,o⟩:=hCL V hcl;refine⟨p.p.n.2,[],2000,Facts.nil _,?_⟩;show (an5).Holds _ V;rw[S9];exact ah1 p o
 .intro V j v tp sm V1 hcl hout hlen _ hJ;obtain⟨p,o⟩:=hCL V hcl;match j,hout with
  |0,hout =>
   cases hout;have q:RlS V V1 (OS V):=hJ;have hs:SmQ V V1:=by
    rcases q with q|q
    .exact gW q.1
    .exact q.1.2.2.s
   exact⟨hCO V V1 hcl (p.p.n.of hs.h73 hlen) q,vN hs⟩
 .intro V f s hs;have hs:ct1 38 (mN 38) f=some s:=hs;unfold ct1 at hs;split at hs
  .rename_i hf;subst hf;cases hs;exact aQ9 (fun _ h=>h.2) (fun _ _ _ a b=>⟨rfl,a,b⟩)
  .cases hs
theorem DR.pre{e:Int}{R R':List UInt8}{cs:List Int}(h:DR e R cs R'):∀ {ds:List Int},DR e R ds []->∃ rs,ds=cs++rs/\DR e R' rs []:=by
 induction h with
 |nil R=>intro ds g;exact⟨ds,rfl,g⟩
 |cons h1 h2 h3 h4 _ ih =>
  intro ds g;cases g with
  |nil=>simp at h3;omega
  |cons g1 g2 g3 g4 g5 =>
   rw[h1]at g1;cases g1;obtain⟨rs,e1,e2⟩:=ih g5;exact⟨rs,by rw[e1];rfl,e2⟩
theorem agK{e:Int}{R:List UInt8}{cs:List Int}(h:DR e R cs [])(b:awX e R):False:=by
 obtain⟨b0,b1⟩:=b;cases h with
 |nil=>exact b0 rfl
 |cons h1 h2 h3 h4 h5 =>
  rw[h1]at b1;rcases b1 with b|b|⟨v,w,b,c⟩
  .cases b
  .cases b
  .cases b;exact c h4
structure TXT(R0:List UInt8)(cs:List Int):Prop where
 dr:DR 1 R0 cs []
 nb:∀ e R1,Mk 0 R0 e R1->e=1/\R1=R0
 pl:∀ v∈cs,v≠133/\v≠8232/\v≠8233
 n:cs.length<=4096
def SW(cs:List Int)(a:Nat)(V:Ren):Prop:=∃ (us:List Int) (z:List UInt8) (rs:List Int),win V=encs us++z/\cs.drop a=us++rs/\DR 1 (zH V) rs []/\us.length<=gI V 8/\gI V 8<=us.length+z.length/\(∀ b∈z,b=0)/\(z=[]\/zH V=[])/\(z.length:Int)<=4*(gI V 8-us.length)+20
structure SY(R0:List UInt8)(cs:List Int)(a:Nat)(V:Ren):Prop where
 pu:PU V
 st:(gI V 10=0/\a=0/\zH V=R0/\win V=[]/\gI V 8=0)\/(gI V 10=1/\SW cs a V)
structure SZ(cs:List Int)(a:Nat)(V:Ren):Prop where
 pu:PU V
 e:gI V 10=1
 sw:SW cs a V
 un:1<=gI V 8
 tw:2<=gI V 75-gI V 76
theorem zr{k:Nat}:∀ b∈List.replicate k (0:UInt8),b=0:=fun b h=>(List.mem_replicate.1 h).2
theorem iE{R0:List UInt8}{cs:List Int}{a:Nat}{V J0 V1:Ren}(t:TXT R0 cs)(d:SY R0 cs a V)(ea:AlW V J0)(h12:gI J0 12=2)(h:UT J0 V1):SZ cs a V1:=by
 have hw:=pB h.buf h.le;have er:=ea.rest;have ew:=ea.win;have e8:=ea.i8;have e10:=ea.i10;have e9:=ea.i9;have e75:=ea.i75;have e76:=ea.i76;have off:=d.pu.off;have b5:=d.pu.b5;have b6:=d.pu.b6;rcases h.cs with⟨c1,c2,c3,c4,c5,c6,c7⟩|⟨c0,R1,ds,z',k,m1,m2,m3,m4,m5,m6,m7,m8⟩
 .rcases d.st with⟨_,_,_,_,q⟩|⟨q1,us,z,rs,q2,q3,q4,q5,q6,q7,q8,q9⟩
  .omega
  .rw[c2,ew,q2,List.length_append]at hw;have hle:=vW us;have w0:((win V).length:Int)<=gI V 75-gI V 76:=by
    have hb:=d.pu.buf;have:=d.pu.le;unfold win;rw[List.length_drop,List.length_take];omega
   rw[q2,List.length_append]at w0;refine⟨⟨h.p,h.buf,h.le.2.1,by omega,by omega,by rw[c4,c6,e9,er];exact off⟩,by omega,⟨us,z,rs,by rw[c2,ew];exact q2,q3,by rw[c6,er];exact q4,by omega,by omega,q7,by rw[c6,er];exact q8,by omega⟩,by omega,by omega⟩
 ·have hz : ∀ b ∈ z', b = 0 := by
    rcases m8 with⟨rfl,_⟩|⟨rfl,_⟩
    .intro b hb;cases hb
    .intro b hb;simpa using hb
  have hzr:z'++List.replicate k 0=[]\/zH V1=[]:=by
   rcases m8 with⟨rfl,rfl,_⟩|⟨_,_,hr,_⟩
   .exact .inl rfl
   .exact .inr hr
  have h8:0<=gI V 8:=by
   rcases d.st with⟨_,_,_,_,q⟩|⟨q1,us,z,rs,q2,q3,q4,q5,q6,q7,q8,q9⟩<;>omega
  have hz1:z'.length=0/\k=0\/z'.length=1:=by
   rcases m8 with⟨rfl,rfl,_⟩|⟨rfl,_⟩
   .exact .inl ⟨rfl,rfl⟩
   .exact .inr rfl
  have hun:1<=gI V1 8:=by
   rcases m8 with⟨_,_,hk⟩|⟨rfl,_⟩
   .omega
   .simp at m5;omega
  have hk:k=0\/((win V1).length:Int)=2:=by
   rcases m8 with⟨_,hk,_⟩|⟨_,_,_,hk⟩
   .exact .inl hk
   .rw[h12]at hk;exact hk
  have hl:=congrArg List.length m4;rw[ew]at hl;simp only[List.length_append,List.length_replicate]at hl;have hd:=vW ds;have w0:((win V).length:Int)<=gI V 75-gI V 76:=by
   have hb:=d.pu.buf;have:=d.pu.le;unfold win;rw[List.length_drop,List.length_take];omega
  have w1:(gI V 8)<=(win V).length:=by
   rcases d.st with⟨_,_,_,_,q⟩|⟨q1,us,z,rs,q2,q3,q4,q5,q6,q7,q8,q9⟩
   .omega
   .have hu:=vW us;rw[q2,List.length_append];omega
  have pu:PU V1:=⟨h.p,h.buf,h.le.2.1,by rcases hk with hk|hk<;>omega,by omega,by rw[m6,e9,er];exact off⟩
  have key:gI V1 10=1/\SW cs a V1:=by
   rcases d.st with⟨q1,q2,q3,q4,q5⟩|⟨q1,us,z,rs,q2,q3,q4,q5,q6,q7,q8,q9⟩
   .rw[e10,q1,er,q3]at m1;obtain⟨x1,x2⟩:=t.nb _ _ m1;rw[x1,x2]at m3;obtain⟨rs,y1,y2⟩:=m3.pre t.dr;refine⟨x1,ds,z'++List.replicate k 0,rs,?_,by rw[q2];exact y1,y2,by omega,by simp only[List.length_append,List.length_replicate];omega,?_,hzr,by simp only[List.length_append,List.length_replicate];omega⟩
    .rw[m4,ew,q4];simp
    .intro b hb;rcases List.mem_append.1 hb with hb|hb
     .exact hz b hb
     .exact zr b hb
   ·have m1' : gI V1 10 = 1 ∧ R1 = zH V := by
      rcases m1 with⟨_,x1,x2⟩|⟨x1,_⟩
      .exact⟨by omega,by rw[x2,er]⟩
      .omega
    obtain⟨x1,x2⟩:=m1';rw[x1,x2]at m3;obtain⟨rs',y1,y2⟩:=m3.pre q4;refine⟨x1,?_⟩;rcases q8 with rfl|q8
    .refine⟨us++ds,z'++List.replicate k 0,rs',?_,by rw[q3,y1,List.append_assoc],y2,by rw[List.length_append];omega,by simp only[List.length_append,List.length_replicate,List.length_nil]at *;omega,?_,hzr,by simp only[List.length_append,List.length_replicate];omega⟩
     .rw[m4,ew,q2,qL];simp
     .intro b hb;rcases List.mem_append.1 hb with hb|hb
      .exact hz b hb
      .exact zr b hb
    .rw[q8]at m3;obtain⟨z1,z2⟩:=m3.nil_inv;subst z1;refine⟨us,z++z'++List.replicate k 0,rs',?_,by rw[q3,y1];rfl,y2,by omega,by simp only[List.length_append,List.length_replicate,List.length_nil]at *;omega,?_,.inr z2,by simp only[List.length_append,List.length_replicate,List.length_nil]at *;omega⟩
     .rw[m4,ew,q2];simp[encs]
     .intro b hb;rcases List.mem_append.1 hb with hb|hb
      .rcases List.mem_append.1 hb with hb|hb
       .exact q7 b hb
       .exact hz b hb
      .exact zr b hb
  exact⟨pu,key.1,key.2,hun,by omega⟩
theorem acY{R0:List UInt8}{cs:List Int}{a:Nat}{V J0 V1:Ren}(t:TXT R0 cs)(d:SY R0 cs a V)(ea:AlW V J0)(h:UE J0 V1):False:=by
 obtain⟨_,e,R1,ds,R,h1,h2,h3⟩:=h;rw[ea.i10,ea.rest]at h1;rcases d.st with⟨q1,q2,q3,q4,q5⟩|⟨q1,us,z,rs,q2,q3,q4,q5,q6,q7,q8,q9⟩
 .rw[q1,q3]at h1;obtain⟨x1,x2⟩:=t.nb _ _ h1;rw[x1,x2]at h2;rw[x1]at h3;obtain⟨rs,_,y2⟩:=h2.pre t.dr;exact agK y2 h3
 .rcases h1 with⟨_,x1,x2⟩|⟨x1,_⟩
  .rw[q1]at x1;rw[x1,x2]at h2;rw[x1]at h3;obtain⟨rs,_,y2⟩:=h2.pre q4;exact agK y2 h3
  .omega
theorem aPJ{v:Int}(h:0<=v):ia v 63=v%64:=by
 obtain⟨n,rfl⟩:=Int.eq_ofNat_of_zero_le h;have:n &&& 63=n%64:=Nat.and_two_pow_sub_one_eq_mod n 6;show ((n &&& 63:Nat):Int)=(n:Int)%64;omega
theorem aWM(v:Int):sr v 6=v/64:=by simp only[IOp.fn];rw[Int.fdiv_eq_ediv_of_nonneg _ (by decide)];rfl
theorem aY8(v:Int):sr v 12=v/4096:=by simp only[IOp.fn];rw[Int.fdiv_eq_ediv_of_nonneg _ (by decide)];rfl
theorem aZV(v:Int):sr v 18=v/262144:=by simp only[IOp.fn];rw[Int.fdiv_eq_ediv_of_nonneg _ (by decide)];rfl
theorem u8v{x:Int}(h:0<=x/\x<=255):((u8 x).toNat:Int)=x:=by
 rw[u8,UInt8.toNat_ofNat',Nat.mod_eq_of_lt (by omega)];omega
theorem u8w{x:Int}(h:0<=x/\x<=255):((u8 (IntKind.u8.wrap x)).toNat:Int)=x:=by
 rw[show IntKind.u8.wrap x=x from IntWalk.u8_in _ (by omega)];exact u8v h
theorem iF{v:Int}(hv:9<=v/\v<=1114111):(v<=127/\∃ b,enc1 v=[b]/\(b.toNat:Int)=v) \/
    (127<v/\v<=2047/\∃ b c,enc1 v=[b,c]/\(b.toNat:Int)=v/64+192/\(c.toNat:Int)=v%64+128) \/
    (2047<v/\∃ b c d,enc1 v=[b,c,d]/\(b.toNat:Int)=v/4096+224/\(c.toNat:Int)=v/64%64+128/\(d.toNat:Int)=v%64+128) \/
    (65535<v/\∃ b l,enc1 v=b::l/\(b.toNat:Int)=v/262144+240/\l.length=3):=by
 by_cases h1:127<v
 .by_cases h2:2047<v
  .by_cases h3:65535<v
   .refine .inr (.inr (.inr ⟨h3,_,_,adW h1 h2 h3,?_,rfl⟩))
    rw[aZV];exact u8v (by omega)
   .refine .inr (.inr (.inl ⟨h2,_,_,_,ae5 h1 h2 h3,?_,?_,?_⟩))
    .rw[aY8];exact u8w (by omega)
    .rw[aWM,aPJ (by omega)];exact u8v (by omega)
    .rw[aPJ (by omega)];exact u8v (by omega)
  .refine .inr (.inl ⟨h1,by omega,_,_,ac1 h1 h2,?_,?_⟩)
   .rw[aWM];exact u8w (by omega)
   .rw[aPJ (by omega)];exact u8v (by omega)
 .refine .inl ⟨by omega,_,acQ h1,u8w (by omega)⟩
theorem aOL{V:Ren}(hb:(gL V 3).length=1536)(h:0<=gI V 76/\gI V 76<=gI V 75/\gI V 75<=1536){k:Nat}(hk:(k:Int)<gI V 75-gI V 76):bk V k=(((win V).getD k 0).toNat:Int):=by
 unfold bk win;congr 2;rw[List.getD_eq_getElem?_getD,List.getD_eq_getElem?_getD,List.getElem?_drop,List.getElem?_take,if_pos (by omega)];rw[show (gI V 76+(k:Int)).toNat=(gI V 76).toNat+k from by omega]
structure CH(cs:List Int)(a:Nat)(V:Ren)(v:Int):Prop where
 lt:a<cs.length
 hv:cs.getD a 0=v
 w:wd (bk V 0)=((enc1 v).length:Int)
 le:gI V 76+wd (bk V 0)<=gI V 75
 c13:bk V 0=13↔v=13
 c10:bk V 0=10↔v=10
 cr:v=13->(bk V 1=10↔cs.getD (a+1) 0=10)
 u2:bk V 0=13->bk V 1=10->2<=gI V 8
 nel:¬ Nel V
 lsp:¬ Lsp V
 enc:((gL V 3).take (gI V 76+wd (bk V 0)).toNat).drop (gI V 76).toNat=enc1 v
 dec:∃ (us:List Int) (z:List UInt8) (rs:List Int),win V=enc1 v++(encs us++z)/\cs.drop a=v::(us++rs)/\DR 1 (zH V) rs []/\us.length+1<=gI V 8/\gI V 8<=us.length+1+z.length/\(∀ b∈z,b=0)/\(z=[]\/zH V=[])/\(z.length:Int)<=4*(gI V 8-us.length-1)+20/\(v=13->bk V 1=10->∃ ls,us=10::ls)
theorem acT{cs:List Int}{a:Nat}{V:Ren}(d:SZ cs a V)(h76:0<=gI V 76)(h75:gI V 75<=1536)(h0:bk V 0=0)(hp:∀ v∈cs,Prn v):cs.length<=a:=by
 obtain⟨us,z,rs,k1,k2,k3,k4,k5,k6,k7,k9⟩:=d.sw;have un:=d.un;cases us with
 |nil =>
  have hz:zH V=[]:=by
   rcases k7 with rfl|hr
   .simp at k5;omega
   .exact hr
  rw[hz]at k3;rw[k3.nil_inv.1]at k2;exact List.drop_eq_nil_iff.1 k2
 |cons v us =>
  exfalso;have hv:v∈cs:=List.mem_of_mem_drop (i:=a) (by rw[k2];simp);obtain⟨b,l,e1,e2,e3⟩:=cE (hp v hv);have:win V=b::(l++encs us++z):=by
   rw[k1];simp only[encs,List.flatMap_cons,e1];simp
  have h:=(aPF d.pu h76 h75 this).1;rw[xC]at h;omega
theorem t9{R0:List UInt8}{cs:List Int}{a:Nat}{V:Ren}(t:TXT R0 cs)(d:SZ cs a V)(h76:0<=gI V 76)(h75:gI V 75<=1536)(h0:bk V 0≠0):∃ v,CH cs a V v/\Prn v:=by
 obtain⟨us,z,rs,k1,k2,k3,k4,k5,k6,k7,k9⟩:=d.sw;have un:=d.un;have tw:=d.tw;have hb:=d.pu.buf;have hle:=d.pu.le;have hl:=pB hb ⟨h76,hle,h75⟩;have B:=fun {k:Nat}=>aOL (k:=k) hb ⟨h76,hle,h75⟩;have B0:=B (k:=0) (by omega);have B1:=B (k:=1) (by omega);rw[show ((0:Nat):Int)=0 from rfl]at B0;rw[show ((1:Nat):Int)=1 from rfl]at B1;cases us with
 |nil =>
  exfalso;simp only[encs,List.flatMap_nil,List.nil_append]at k1;apply h0;rw[B0,k1];cases z with
  |nil=>rfl
  |cons b z=>rw[k6 b (by simp)];rfl
 |cons v us =>
  have hv:v∈cs:=List.mem_of_mem_drop (i:=a) (by rw[k2];simp);have hp:=t.dr.prn v hv;have hpl:=t.pl v hv;have hr:9<=v/\v<=1114111:=by unfold Prn at hp;omega
  have hlt:a<cs.length:=by
   have:=congrArg List.length k2;simp at this;omega
  have hd:∀ i,cs.getD (a+i) 0=(v::us++rs).getD i 0:=by
   intro i;rw[<-k2,List.getD_eq_getElem?_getD,List.getD_eq_getElem?_getD,List.getElem?_drop]
  have hwin:win V=enc1 v++(encs us++z):=by
   rw[k1];simp only[encs,List.flatMap_cons];simp
  obtain⟨b,l,e1,e2,e3⟩:=cE hp;have b0:bk V 0=((b.toNat:Nat):Int):=by rw[B0,hwin,e1];rfl
  have hwlen:=congrArg List.length hwin;simp only[List.length_append]at hwlen;have eb:=iF hr;have hw:wd (bk V 0)=((enc1 v).length:Int):=by rw[b0];exact e2
  have hcr:v=13->us=[]->bk V 1≠10:=by
   intro h13 hu;subst hu;subst h13;have e13:enc1 13=[13]:=by decide
   rw[e13]at hwin hwlen;simp only[encs,List.flatMap_nil,List.nil_append,List.length_cons,List.length_nil]at hwin hwlen;rw[B1,hwin];cases z with
   |nil=>simp at hwlen;omega
   |cons c z=>rw[k6 c (by simp)];simp
  have hcr2:∀ u ls,v=13->us=u::ls->(bk V 1=10↔u=10):=by
   intro u ls h13 hu;subst hu;subst h13;have e13:enc1 13=[13]:=by decide
   have hu':u∈cs:=List.mem_of_mem_drop (i:=a) (by rw[k2];simp);have hpu:=t.dr.prn u hu';have hru:9<=u/\u<=1114111:=by unfold Prn at hpu;omega
   rw[e13]at hwin;rcases iF hru with⟨x1,c,x2,x3⟩|⟨x1,y1,c,d',x2,x3,x4⟩|⟨x1,c,d',f,x2,x3,_⟩|⟨x1,c,l',x2,x3,_⟩;all_goals
    have:bk V 1=((c.toNat:Nat):Int):=by rw[B1,hwin];simp[encs,x2]
    rw[this];omega
  have hdec:v=13->bk V 1=10->∃ ls,us=10::ls:=by
   intro h13 h10;cases us with
   |nil=>exact (hcr h13 rfl h10).elim
   |cons u ls=>exact⟨ls,by rw[(hcr2 u ls h13 rfl).1 h10]⟩
  refine⟨v,⟨hlt,?_,hw,?_,?_,?_,?_,?_,?_,?_,?_,us,z,rs,hwin,k2,k3,by simpa using k4,by simpa using k5,k6,k7,by simp only[List.length_cons]at k9;omega,hdec⟩,hp⟩
  .have:=hd 0;rw[Nat.add_zero]at this;rw[this];rfl
  .rw[hw];omega
  .rw[b0];rcases eb with⟨x1,c,x2,x3⟩|⟨x1,y1,c,d',x2,x3,_⟩|⟨x1,c,d',f,x2,x3,_⟩|⟨x1,c,l',x2,x3,_⟩;all_goals
    rw[x2]at e1;cases e1;omega
  .rw[b0];rcases eb with⟨x1,c,x2,x3⟩|⟨x1,y1,c,d',x2,x3,_⟩|⟨x1,c,d',f,x2,x3,_⟩|⟨x1,c,l',x2,x3,_⟩;all_goals
    rw[x2]at e1;cases e1;omega
  .intro h13;rw[hd 1];cases us with
   |nil =>
    have h:=hcr h13 rfl;refine⟨fun x=>(h x).elim,fun x=>?_⟩;exfalso;have:rs=[]:=by
     rcases k7 with rfl|hr'
     .simp only[encs,List.flatMap_nil,List.length_nil]at hwlen;have:(enc1 v).length=1:=by rw[h13];decide
      omega
     .rw[hr']at k3;exact k3.nil_inv.1
    subst this;simp at x
   |cons u ls=>exact hcr2 u ls h13 rfl
  .intro h13 h10;have h13':v=13:=by
    rw[b0]at h13;rcases eb with⟨x1,c,x2,x3⟩|⟨x1,y1,c,d',x2,x3,_⟩|⟨x1,c,d',f,x2,x3,_⟩|⟨x1,c,l',x2,x3,_⟩;all_goals
     rw[x2]at e1;cases e1;omega
   cases us with
   |nil=>exact (hcr h13' rfl h10).elim
   |cons u ls=>simp at k4;omega
  .rintro⟨n0,n1⟩;rw[b0]at n0;rcases eb with⟨x1,c,x2,x3⟩|⟨x1,y1,c,d',x2,x3,x4⟩|⟨x1,c,d',f,x2,x3,_⟩|⟨x1,c,l',x2,x3,_⟩;all_goals (have x2':=x2;rw[x2]at e1;cases e1)
   .omega
   .have:bk V 1=((d'.toNat:Nat):Int):=by rw[B1,hwin,x2'];rfl
    rw[this]at n1;omega
   .omega
   .omega
  .rintro⟨n0,n1,n2⟩;rw[b0]at n0;rcases eb with⟨x1,c,x2,x3⟩|⟨x1,y1,c,d',x2,x3,x4⟩|⟨x1,c,d',f,x2,x3,x4,x5⟩|⟨x1,c,l',x2,x3,_⟩;all_goals (have x2':=x2;rw[x2]at e1;cases e1)
   .omega
   .omega
   .have hl3:(3:Int)<=gI V 75-gI V 76:=by rw[x2']at hwlen;simp only[List.length_cons,List.length_nil]at hwlen;omega
    have B2:=B (k:=2) (by omega);rw[show ((2:Nat):Int)=2 from rfl]at B2;have c1:bk V 1=((d'.toNat:Nat):Int):=by rw[B1,hwin,x2'];rfl
    have c2:bk V 2=((f.toNat:Nat):Int):=by rw[B2,hwin,x2'];rfl
    rw[c1]at n1;rw[c2]at n2;omega
   .omega
  ·have e4 : ((gL V 3).take (gI V 76 + wd (bk V 0)).toNat).drop (gI V 76).toNat = (win V).take (enc1 v).length := by
     rw[hw];unfold win;rw[List.take_drop,List.take_take];congr 2;omega
   rw[e4,hwin,List.take_append_of_le_length (Nat.le_refl _),List.take_length]
end U
