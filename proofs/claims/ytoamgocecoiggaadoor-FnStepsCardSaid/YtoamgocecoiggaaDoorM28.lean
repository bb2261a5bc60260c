-- the statement of this claim: see YtoamgocecoiggaaDoorRs
import Derived.Test.YtoamgocecoiggaaDoorM27
set_option linter.unusedVariables false
set_option linter.unusedSimpArgs false
set_option maxRecDepth 100000
noncomputable section
open Go Go.SM Go.Proofs
namespace U
theorem aQK{e:Int}{R R':List UInt8}{cs:List Int}(h:DC e R cs R'):(∀ c∈cs,Prn c)->DR e R cs R':=by
 induction h with
 |nil R=>intro _;exact .nil _
 |cons h1 h2 h3 _ ih=>intro g;exact .cons h1 h2 h3 (g _ (by simp)) (ih fun c hc=>g c (by simp[hc]))
theorem sG{c:Prop}[Decidable c]{a b:Dc}{P:Prop}(h1:a=b->P){d:Dc}(h2:d=b->P):(if c then a else d)=b->P:=by
 intro h;split at h
 .exact h1 h
 .exact h2 h
theorem kZ{v w:Int}{P:Prop}:Dc.more=Dc.ok v w->P:=fun h=>by cases h
theorem uX{v w:Int}{P:Prop}:Dc.bad=Dc.ok v w->P:=fun h=>by cases h
theorem ahG{x k v w:Int}(h:0<=x/\x<=1114111):Dc.ok x k=Dc.ok v w->0<=v/\v<=1114111:=fun e=>by
 have:=(Dc.ok.inj e).1;omega
theorem arC{n:Int}{b:Int->Int}{v w:Int}(hb:Byt b):yE n b=.ok v w->0<=v/\v<=1114111:=by
 obtain⟨a1,a2,a3,a4,a5,a6,a7,a8,a9⟩:=cl (hb 0);obtain⟨_,_,_,_,_,_,_,_,b9⟩:=cl (hb 1);obtain⟨_,_,_,_,_,_,_,_,c9⟩:=cl (hb 2);have r1:0<=sl (ia (b 0) 31) 6+ia (b 1) 63/\sl (ia (b 0) 31) 6+ia (b 1) 63<=1114111:=by rw[sl6,a6,b9];omega
 have r2:0<=sl (sl (ia (b 0) 15) 6+ia (b 1) 63) 6+ia (b 2) 63/\sl (sl (ia (b 0) 15) 6+ia (b 1) 63) 6+ia (b 2) 63<=1114111:=by rw[sl6,sl6,a7,b9,c9];omega
 have r3:0<=sl (sl (sl (ia (b 0) 7) 6+ia (b 1) 63) 6+ia (b 2) 63) 6+ia (b 3) 63:=by
  obtain⟨_,_,_,_,_,_,_,_,d9⟩:=cl (hb 3);rw[sl6,sl6,sl6,a8,b9,c9,d9];omega
 by_cases h0:b 0<128
 .have:0<=ia (b 0) 127/\ia (b 0) 127<=1114111:=by rw[a5 h0];have:=hb 0;omega
  unfold yE;rw[if_pos (a1.2 h0)];exact sG kZ (ahG this)
 by_cases h1:b 0<192
 .unfold yE;rw[if_neg (fun h=>h0 (a1.1 h)),if_neg (fun h=>by have:=a2.1 h;omega),if_neg (fun h=>by have:=a3.1 h;omega),if_neg (fun h=>by have:=a4.1 h;omega)];exact uX
 by_cases h2:b 0<224
 .rw[adX hb (by omega) h2];exact sG kZ (sG (sG uX (ahG r1)) uX)
 by_cases h3:b 0<240
 .rw[abJ hb (by omega) h3];exact sG kZ (sG (sG (sG uX (sG uX (ahG r2))) uX) uX)
 by_cases h4:b 0<248
 .rw[aeU hb (by omega) h4];refine sG kZ (sG (sG (sG (sG uX ?_) uX) uX) uX);intro h;split at h
  .cases h
  .rename_i hc;exact ahG ⟨r3,by omega⟩ h
 .unfold yE;rw[if_neg (fun h=>h0 (a1.1 h)),if_neg (fun h=>by have:=a2.1 h;omega),if_neg (fun h=>by have:=a3.1 h;omega),if_neg (fun h=>by have:=a4.1 h;omega)];exact uX
theorem aQR(R:List UInt8):Byt (bt R):=fun k=>⟨Int.natCast_nonneg _,by have:=UInt8.toNat_lt (R.getD k.toNat 0);unfold bt;omega⟩
theorem agE{n u v c w:Int}(hu:0<=u/\u<=65535)(hv:0<=v/\v<=65535)(h:zW n u v=.ok c w):0<=c/\c<=1114111:=by
 obtain⟨a1,a2⟩:=lQ hu;obtain⟨b1,b2⟩:=lQ hv;unfold zW at h;split at h
 .cases h
 split at h
 .cases h
 split at h
 .split at h
  .cases h
  split at h
  .cases h;rw[a2,b2];show 0<=u%1024*2 ^ 10+65536+v%1024/\u%1024*2 ^ 10+65536+v%1024<=1114111;omega
  .cases h
 .cases h;omega
theorem aQD{e:Int}{R:List UInt8}{v w:Int}(h:d1 e R=.ok v w):0<=v/\v<=1114111:=by
 have hb:=aQR R;have s8:∀ a,sl a 8=a*256:=fun a=>rfl;have h0:=hb 0;have h1:=hb 1;have h2:=hb 2;have h3:=hb 3;unfold d1 dcd at h;split at h
 .exact arC hb h
 split at h
 .exact agE (by rw[s8];omega) (by rw[s8];omega) h
 .exact agE (by rw[s8];omega) (by rw[s8];omega) h
theorem aPW{e:Int}{R R':List UInt8}{cs:List Int}(h:DC e R cs R'):(∀ c∈cs,0<=c/\c<=1114111)/\R'.length+cs.length<=R.length:=by
 induction h with
 |nil R=>exact⟨fun c hc=>(by cases hc),(by simp)⟩
 |cons h1 h2 h3 _ ih =>
  refine⟨fun c hc=>?_,?_⟩
  .rcases List.mem_cons.1 hc with rfl|hc
   .exact aQD h1
   .exact ih.1 c hc
  .have:=ih.2;rw[List.length_drop]at this;simp only[List.length_cons];omega
def sQ(T:List UInt8)(cs:List Int):Prop:=∃ e w,MkW T e w/\DC e (T.drop w.toNat) cs []
def aZN(T:List UInt8):Prop:=∃ e w,MkW T e w/\oU e (T.drop w.toNat)
def ai8(T:List UInt8)(b:Bool):Prop:=(b=true/\sQ T [])\/(b=false/\aZN T)
def aaY(T:List UInt8)(γ:Ren):Prop:=∃ cs,sQ T cs/\cs≠[]/\Num6 cs γ
theorem nr6{T:List UInt8}{e w:Int}{γ J1:Ren}(hm:MkW T e w)(he:e=1)(hA:A6 γ=T.drop w.toNat)(z:Z6 1 γ J1 0):ai8 T (gB J1 84):=by
 subst he;have z:gB J1 84=true/\A6 γ=[]\/gB J1 84=false/\oU 1 (A6 γ):=z;rw[hA]at z;rcases z with⟨a,b⟩|⟨a,b⟩
 .exact .inl ⟨a,1,w,hm,by rw[b];exact .nil _⟩
 .exact .inr ⟨a,1,w,hm,b⟩
theorem sr6{T:List UInt8}{e w:Int}{γ J1:Ren}(hm:MkW T e w)(he:e=1)(hA:A6 γ=T.drop w.toNat)(z:Z6 1 γ J1 1):aaY T J1:=by
 subst he;obtain⟨cs,a,b,c⟩:=(z:∃ cs,DC 1 (A6 γ) cs []/\cs≠[]/\Num6 cs J1)
 rw[hA]at a;exact⟨cs,⟨1,w,hm,a⟩,b,c⟩
theorem aII{e:Int}{b:Bool}(h1:1<e)(h3:e<=3)(hb:b=true↔e=3):eb b=e:=by
 unfold eb;cases b
 .have:e≠3:=fun h=>by have:=hb.2 h;cases this
  show (2:Int)=e;omega
 .have:=hb.1 rfl;show (3:Int)=e;omega
theorem nr7{T:List UInt8}{e w:Int}{γ J1:Ren}(hm:MkW T e w)(h1:1<e)(h3:e<=3)(hb:gB γ 85=true↔e=3)(hA:A6 γ=T.drop w.toNat)(z:Z6 (eb (gB γ 85)) γ J1 0):ai8 T (gB J1 84):=by
 rw[aII h1 h3 hb]at z;have z:gB J1 84=true/\A6 γ=[]\/gB J1 84=false/\oU e (A6 γ):=z;rw[hA]at z;rcases z with⟨a,b⟩|⟨a,b⟩
 .exact .inl ⟨a,e,w,hm,by rw[b];exact .nil _⟩
 .exact .inr ⟨a,e,w,hm,b⟩
theorem sr7{T:List UInt8}{e w:Int}{γ J1:Ren}(hm:MkW T e w)(h1:1<e)(h3:e<=3)(hb:gB γ 85=true↔e=3)(hA:A6 γ=T.drop w.toNat)(z:Z6 (eb (gB γ 85)) γ J1 1):aaY T J1:=by
 rw[aII h1 h3 hb]at z;obtain⟨cs,a,b,c⟩:=(z:∃ cs,DC e (A6 γ) cs []/\cs≠[]/\Num6 cs J1)
 rw[hA]at a;exact⟨cs,⟨e,w,hm,a⟩,b,c⟩
structure P3(V:Ren):Prop where
 n:Ln V
 i18:0<=gI V 18
 i72:gI V 18<=gI V 72
 l17:gI V 18<=(gL V 17).length
theorem P3.pt{V γ:Ren}(p:P3 V)(hn:Ln γ)(h17:gL γ 17=gL V 17)(h18:gI γ 18=gI V 18)(h:¬ 1048576<gI V 18):PT γ/\T0 γ=T0 V:=by
 have:=p.i18;have:=p.l17;exact⟨⟨hn,by omega,by rw[h17,h18];exact p.l17⟩,by unfold T0;rw[h17,h18]⟩
theorem P3.pa{V γ:Ren}{e w:Int}(p:P3 V)(hn:Ln γ)(hm:MkW (T0 V) e w)(h17:gL γ 17=gL V 17)(h20:gI γ 20=if gI V 72=w then 0 else w)(h21:gI γ 21=gI V 18-w)(h:¬ 1048576<gI V 18):PA γ/\A6 γ=(T0 V).drop w.toNat:=by
 have h18:=p.i18;have hl:=p.l17;have h72:=p.i72;obtain⟨m1,m2,_⟩:=hm;have hT:((T0 V).length:Int)=gI V 18:=by unfold T0;rw[List.length_take];omega
 by_cases hc:gI V 72=w
 .rw[if_pos hc]at h20;refine⟨⟨hn,by omega,by omega,by rw[h17];omega⟩,?_⟩;have e1:(T0 V).drop w.toNat=[]:=by rw[List.drop_eq_nil_iff];omega
  rw[e1];unfold A6;rw[List.drop_eq_nil_iff,List.length_take];omega
 .rw[if_neg hc]at h20;refine⟨⟨hn,by omega,by omega,by rw[h17];omega⟩,?_⟩;unfold A6 T0;rw[h17,h20,h21,show w+(gI V 18-w)=gI V 18 from by omega]
theorem abB{V γ:Ren}(p:PE V)(hn:γ.length=90)(s:SmE V γ)(hl:gI V 23<gI V 31)(h:gI γ 23=gI V 23+1):PE γ:=jY p hn s (by omega) h (by have:=s.2.2.2;omega)
theorem SmT.trans{a b c:Ren}(h:SmT a b)(g:SmT b c):SmT a c:=⟨g.1.trans h.1,g.2.1.trans h.2.1,g.2.2.1.trans h.2.2.1,g.2.2.2.1.trans h.2.2.2.1,g.2.2.2.2.trans h.2.2.2.2⟩
theorem jK{T:List UInt8}{cs:List Int}(h:sQ T cs):(∀ c∈cs,0<=c/\c<=1114111)/\cs.length<=T.length:=by
 obtain⟨e,w,_,hd⟩:=h;obtain⟨a,b⟩:=aPW hd;refine⟨a,?_⟩;rw[List.length_drop]at b;simp at b;omega
abbrev aTY:List TB:=[(.or (.lt (v 18) 2) (.lt 0 (v 18)))]
abbrev aT2:=.or (.lt (v 18) 2) (.lt 0 (lb 17))::aTY
abbrev aTN:=.or (.not (.and (nl (v 18) 2) (.eq (sb 17 0) 255))) (.lt 1 (v 18))::aT2
abbrev aUL:=.or (.not (.and (nl (v 18) 2) (.eq (sb 17 0) 255))) (.lt 1 (lb 17))::aTN
abbrev aVD:=.not (.and (.and (nl (v 18) 2) (.eq (sb 17 0) 255)) (.eq (sb 17 1) 254))::aUL
abbrev aR1:=.or (.not (.and (nl (v 18) 2) (.eq (sb 17 0) 254))) (.lt 1 (v 18))::aVD
abbrev aVT:=.or (.not (.and (nl (v 18) 2) (.eq (sb 17 0) 254))) (.lt 1 (lb 17))::aR1
abbrev aSO:=.not (.and (.and (nl (v 18) 2) (.eq (sb 17 0) 254)) (.eq (sb 17 1) 255))::aVT
abbrev aXJ:=.or (.lt (v 18) 3) (.lt 0 (v 18))::aSO
abbrev aV0:=.or (.lt (v 18) 3) (.lt 0 (lb 17))::aXJ
abbrev aEZ:=.or (.not (.and (nl (v 18) 3) (.eq (sb 17 0) 239))) (.lt 1 (v 18))::aV0
abbrev aKX:=.or (.not (.and (nl (v 18) 3) (.eq (sb 17 0) 239))) (.lt 1 (lb 17))::aEZ
abbrev axT:=.or (.not (.and (.and (nl (v 18) 3) (.eq (sb 17 0) 239)) (.eq (sb 17 1) 187))) (.lt 2 (v 18))::aKX
abbrev aB5:=.or (.not (.and (.and (nl (v 18) 3) (.eq (sb 17 0) 239)) (.eq (sb 17 1) 187))) (.lt 2 (lb 17))::axT
abbrev aOE:SgT:=[im 72,im 18,bm 16,bm 73]
abbrev aXZ:SgT:=ik 87 1::aOE
def aeV:Tre:=(nd 90 [] ((.or (.lt (v 18) 2) (.lt 0 (v 18))))
 (nd 90 aTY ((.or (.lt (v 18) 2) (.lt 0 (lb 17))))
 (nd 90 aT2 ((.or (.not (.and (nl (v 18) 2) (.eq (sb 17 0) 255))) (.lt 1 (v 18))))
 (nd 90 aTN ((.or (.not (.and (nl (v 18) 2) (.eq (sb 17 0) 255))) (.lt 1 (lb 17))))
 (.fork (lf 0 90 90 (rgs EF5.n t5o) (bm 74::lm 17::ik 88 2::ik 87 2::aOE) ((nl (v 18) 2)::(.eq (sb 17 0) 255)::(.eq (sb 17 1) 254)::aUL))
 (nd 90 aVD ((.or (.not (.and (nl (v 18) 2) (.eq (sb 17 0) 254))) (.lt 1 (v 18))))
 (nd 90 aR1 ((.or (.not (.and (nl (v 18) 2) (.eq (sb 17 0) 254))) (.lt 1 (lb 17))))
 (.fork (lf 0 90 90 (rgs EF5.n t5o) (bm 74::lm 17::ik 88 2::ik 87 3::aOE) ((nl (v 18) 2)::(.eq (sb 17 0) 254)::(.eq (sb 17 1) 255)::aVT))
 (nd 90 aSO ((.or (.lt (v 18) 3) (.lt 0 (v 18))))
 (nd 90 aXJ ((.or (.lt (v 18) 3) (.lt 0 (lb 17))))
 (nd 90 aV0 ((.or (.not (.and (nl (v 18) 3) (.eq (sb 17 0) 239))) (.lt 1 (v 18))))
 (nd 90 aEZ ((.or (.not (.and (nl (v 18) 3) (.eq (sb 17 0) 239))) (.lt 1 (lb 17))))
 (nd 90 aKX ((.or (.not (.and (.and (nl (v 18) 3) (.eq (sb 17 0) 239)) (.eq (sb 17 1) 187))) (.lt 2 (v 18))))
 (nd 90 axT ((.or (.not (.and (.and (nl (v 18) 3) (.eq (sb 17 0) 239)) (.eq (sb 17 1) 187))) (.lt 2 (lb 17))))
 (.fork (lf 0 90 90 (rgs EF5.n t5o) (bm 74::lm 17::ik 88 3::aXZ) ((nl (v 18) 3)::(.eq (sb 17 0) 239)::(.eq (sb 17 1) 187)::(.eq (sb 17 2) 191)::aB5))
 (lf 0 90 90 (rgs EF5.n t5o) (bm 74::lm 17::ik 88 0::aXZ) ((.not (.and (.and (.and (nl (v 18) 3) (.eq (sb 17 0) 239)) (.eq (sb 17 1) 187)) (.eq (sb 17 2) 191)))::aB5)))))))))))))))))
theorem aiO:aKC=aeV:=by kernel_rfl
theorem avP{V:Ren}(p:PB V):aeV.Holds (GF5 V) V:=by
 unfold aeV;have hβ:=p.n.1;have p18:=p.i18;have p17:=p.l17;refine (nO hβ ?_ (nO hβ ?_ (nO hβ ?_ (nO hβ ?_ (fO (lO [] hβ ?_) (nO hβ ?_ (nO hβ ?_ (fO (lO [] hβ ?_) (nO hβ ?_ (nO hβ ?_ (nO hβ ?_ (nO hβ ?_ (nO hβ ?_ (nO hβ ?_ (fO (lO [] hβ ?_) (lO [] hβ ?_))))))))))))))))
 .intro hA;clear hA;simp only[DD];omega
 iterate 3 (focus (intro hA;simp only[DD]at hA ⊢;omega))
 .intro J0 hl0 hA hr0 hid0 hI;simp only[DD]at hA hI;obtain⟨a0,a1,a2,a3,a4,a5,a6⟩:=hA;obtain⟨_,i17,i88,i87,i72,i18,i16,i73⟩:=hI;exact⟨p.n.of i73 hl0,⟨i73,i16,i17,i18,i72⟩,by rw[i87,i88];exact aY4 p a0 a1 a2⟩
 iterate 2 (focus (intro hA;simp only[DD]at hA ⊢;omega))
 .intro J0 hl0 hA hr0 hid0 hI;simp only[DD]at hA hI;obtain⟨a0,a1,a2,a3,a4,a5,a6,a7,a8,a9⟩:=hA;obtain⟨_,i17,i88,i87,i72,i18,i16,i73⟩:=hI;exact⟨p.n.of i73 hl0,⟨i73,i16,i17,i18,i72⟩,by rw[i87,i88];exact a0B p a0 a1 a2⟩
 iterate 6 (focus (intro hA;simp only[DD]at hA ⊢;omega))
 .intro J0 hl0 hA hr0 hid0 hI;simp only[DD]at hA hI;obtain⟨a0,a1,a2,a3,a4,a5,a6,a7,a8,a9,a10,a11,a12,a13,a14,a15,a16,a17⟩:=hA;obtain⟨_,i17,i88,i87,i72,i18,i16,i73⟩:=hI;exact⟨p.n.of i73 hl0,⟨i73,i16,i17,i18,i72⟩,by rw[i87,i88];exact aY2 p a0 a1 a2 a3⟩
 .intro J0 hl0 hA hr0 hid0 hI;simp only[DD]at hA hI;obtain⟨a0,a1,a2,a3,a4,a5,a6,a7,a8,a9,a10,a11,a12,a13,a14⟩:=hA;obtain⟨_,i17,i88,i87,i72,i18,i16,i73⟩:=hI;exact⟨p.n.of i73 hl0,⟨i73,i16,i17,i18,i72⟩,by rw[i87,i88];exact aZU p a10 a7 a0⟩
theorem aGG{T:List UInt8}{e w:Int}(h:MkW T e w):1<=e/\e<=3/\0<=w/\w<=T.length:=by
 obtain⟨a,b,c⟩:=h;rcases c with⟨h,_⟩|⟨_,bom,_,c⟩
 .exact (h rfl).elim
 .refine⟨?_,?_,a,b⟩<;>(rcases c with c|c|c|c<;>omega)
theorem PE.pl{a b γ:Ren}(p:PE a)(hn:Ln γ)(s:SmE a b)(h33:gN γ 33=gN b 33)(h31:gI γ 31=gI b 31):PL γ:=by
 obtain⟨_,_,s1,s2⟩:=s;have:=p.i23;have:=p.i31;exact⟨hn,by omega,by rw[h31,s2,h33,s1];exact p.len,by rw[h31,s2,h33,s1];exact p.el⟩
theorem aYD:lF Tryd.prog puG aWP:=rC (by kernel_rfl)
theorem ar5:xH Tryd.prog { g:=g0,A:=[],pu:=puG } abS:=wY zQ follows aYD (tJ _ _) 8
abbrev aw5:SgT:=[im 22,im 21,im 20,bm 16,bm 73]
def acD:Tre:=(.loop 3 90 90 (rgs EF6.n aUI.tin) apW (SgT.enc (bm 74::lm 17::ik 23 0::aw5)) (List.map TB.enc []) (.cons (rgs EF6.n t6N) (lf 0 90 90 (rgs EF6.n t6a) (bm 74::lm 17::(84,.btm (.lit true))::aw5) [])
 (.cons (rgs EF6.n t6S) (lf 1 90 90 (rgs EF6.n t6b) (nm 33::bm 74::lm 17::im 32::im 31::bm 30::aw5) [])
 (.cons (rgs EF6.n t6f) (lf 0 90 90 (rgs EF6.n t6a) (bm 74::lm 17::(84,.btm (.lit false))::aw5) [])
 .nil))))
theorem ai0:aG1=acD:=by kernel_rfl
theorem avG{V:Ren}(p:PA V):acD.Holds (GF6 V) V:=by
 unfold acD;have hβ:=p.n.1;refine (pO [] hβ rfl ?_)
 .intro J0 hl0 hA hr0 hid0 hI;simp only[DD]at hI;obtain⟨_,i17,i23,i22,i21,i20,i16,i73⟩:=hI;have hn1:Ln J0:=p.n.of i73 hl0;have s0:SmD V J0:=⟨i73,i16,i17,i20,i21,i22⟩
  have p20:=p.i20;have p21:=p.i21;have hL0:(GF6 V).L 3 J0:=⟨⟨hn1,by omega,by omega,by rw[i17,i20,i21];exact p.le,by omega⟩,s0,i23⟩
  refine⟨hL0,(oC ?_ (oC ?_ (oC ?_ oN)))⟩
  .intro V1 hq1 hO1;obtain⟨hn2,s1,hz⟩:=hO1;have hb1:=hn2.1;refine (lO [] hb1 ?_)
   .intro J1 hl1 hA hr1 hid1 hI;simp only[DD]at hI;obtain⟨_,j17,j84,j22,j21,j20,j16,j73⟩:=hI;have s2:SmD V1 J1:=⟨j73,j16,j17,j20,j21,j22⟩
    have ts:=(s0.trans s1).trans s2;have hnf:=hn2.of j73 hl1;exact⟨hnf,ts,.inl ⟨j84.2 trivial,by rw[<-aj0 s0 i23];exact hz⟩⟩
  .intro V1 hq1 hO1;obtain⟨hn2,s1,hz⟩:=hO1;have hb1:=hn2.1;refine (lO [] hb1 ?_)
   .intro J1 hl1 hA hr1 hid1 hI;simp only[DD]at hI;obtain⟨j33,_,j17,j32,j31,_,j22,j21,j20,j16,j73⟩:=hI;have s2:SmD V1 J1:=⟨j73,j16,j17,j20,j21,j22⟩
    have ts:=(s0.trans s1).trans s2;have hnf:=hn2.of j73 hl1;obtain⟨cs,z1,z2,z3,z4,z5,z6⟩:=hz;exact⟨hnf,ts,cs,by rw[<-aj0 s0 i23];exact z1,z2,by unfold O6 at *;rw[j31,j33];exact z3,by rw[j31];exact z4,by rw[j31,j32];exact z5,by rw[j32,j33];exact z6⟩
  .intro V1 hq1 hO1;obtain⟨hn2,s1,hz⟩:=hO1;have hb1:=hn2.1;refine (lO [] hb1 ?_)
   .intro J1 hl1 hA hr1 hid1 hI;simp only[DD]at hI;obtain⟨_,j17,j84,j22,j21,j20,j16,j73⟩:=hI;have s2:SmD V1 J1:=⟨j73,j16,j17,j20,j21,j22⟩
    have ts:=(s0.trans s1).trans s2;have hnf:=hn2.of j73 hl1;exact⟨hnf,ts,.inr ⟨Bool.eq_false_iff.2 fun h=>Bool.noConfusion (j84.1 h),by rw[<-aj0 s0 i23];exact hz⟩⟩
theorem a0C{G:Goal}(hCL:∀ V,G.CL 6 V->PA V)(h0:∀ V V1 i,G.CL 6 V->Ln V1->SmD V V1->Z6 1 V V1 i->G.CO 6 i V V1):yT Tryd.prog G 6 sp6:=by
 refine zU (E:=EF6) (Gt:=GF6) (fn:=wK 6) (c:=body 6) (s:=sp6) zQ zS follows (by kernel_rfl) (by kernel_rfl) (by kernel_rfl) (by kernel_rfl) (by kernel_rfl) (by kernel_rfl) ?_ ?_ ?_ ?_ (fun V j i V1 V2 h=>h.1.2) ?_ (fun V f s h=>by cases h)
 .intro e j tp h;rcases h with h|h
  .cases e with
   |normal=>cases h;exact⟨(fun id h=>by cases h),.tuple #[.slice none 0 0,sB (x 84)],by kernel_rfl,_,rfl⟩
   |ret=>cases h;exact⟨(fun id h=>by cases h),.tuple #[.slice none 0 0,sB (x 84)],by kernel_rfl,_,rfl⟩
   |exit id=>cases h
  .cases e with
   |normal=>cases h;exact⟨(fun id h=>by cases h),.tuple #[wF,.bool true],by kernel_rfl,_,rfl⟩
   |ret=>cases h;exact⟨(fun id h=>by cases h),.tuple #[wF,.bool true],by kernel_rfl,_,rfl⟩
   |exit id=>cases h
 .intro V hcl hlen hr;have p:=hCL V hcl;refine⟨p.n.2,[],2000,Facts.nil _,?_⟩;show (aG1).Holds _ V;rw[ai0];exact avG p
 .intro V j v tp sm V1 hcl hout hlen _ hJ;obtain⟨hn,s,z⟩:=hJ;match j,hout with
  |0,hout =>
   cases hout;exact⟨h0 V V1 0 hcl hn s z,K0 s⟩
  |1,hout =>
   cases hout;exact⟨h0 V V1 1 hcl hn s z,K0 s⟩
 .intro V w0 r s c hs hw;rcases hs with hs|hs
  .have hs:lt6 r=some s:=hs;unfold lt6 at hs;split at hs
   .cases hs;have hc:c=apW:=hw;subst hc;intro Q b a w hH hF hl hQ;refine xU (abO b a w hl.1 hH hF ?_ ?_ ?_)
    .intro V1 a' w' hn1 s1 hr q1 q2;exact hQ 0 (.exit 0) t6N [] rfl V1 a' w' q1 q2 ⟨hn1,s1,hr⟩
    .intro V1 a' w' cs hn1 s1 dc hne ho q1 q2;exact hQ 1 (.exit 0) t6S [] rfl V1 a' w' q1 q2 ⟨hn1,s1,cs,dc,hne,ho⟩
    .intro V1 a' w' hn1 s1 hr q1 q2;exact hQ 2 .ret t6f [] rfl V1 a' w' q1 q2 ⟨hn1,s1,hr⟩
   .cases hs
  .cases hs
 .intro V r s hs i e tp B hi V1 V2 _;refine yO ?_;rcases hs with hs|hs
  .have hs:lt6 r=some s:=hs;unfold lt6 at hs;split at hs
   .cases hs;match i,hi with
    |0,hi=>cases hi;rfl
    |1,hi=>cases hi;rfl
    |2,hi=>cases hi;rfl
   .cases hs
  .cases hs
theorem aXG{G:Goal}(hCL:∀ V,G.CL 5 V->PB V)(hCO:∀ V V1,G.CL 5 V->Ln V1->MkW (T0 V) (gI V1 87) (gI V1 88)->G.CO 5 0 V V1):yT Tryd.prog G 5 sp5:=by
 refine zU (E:=EF5) (Gt:=GF5) (fn:=wK 5) (c:=body 5) (s:=sp5) zQ ar5 follows (by kernel_rfl) (by kernel_rfl) (by kernel_rfl) (by kernel_rfl) (by kernel_rfl) (by kernel_rfl) ?_ ?_ ?_ (fun V w0 r s c h=>by rcases h with h|h<;>cases h) (fun V j i V1 V2 h=>h.elim) (fun V r s h=>by rcases h with h|h<;>cases h) (fun V=>t8)
 .intro e j tp h;have h:=h.resolve_right fun h=>by cases h
  cases e with
  |normal=>cases h;exact⟨(fun id h=>by cases h),.tuple #[I 87 1 3,I 88 0 3],by kernel_rfl,_,rfl⟩
  |ret=>cases h;exact⟨(fun id h=>by cases h),.tuple #[I 87 1 3,I 88 0 3],by kernel_rfl,_,rfl⟩
  |exit id=>cases h
 .intro V hcl hlen hr;have p:=hCL V hcl;refine⟨p.n.2,[],2000,Facts.nil _,?_⟩;show (aKC).Holds _ V;rw[aiO];exact avP p
 .intro V j v tp sm V1 hcl hout hlen _ hJ;obtain⟨hn,s,z⟩:=hJ;match j,hout with
  |0,hout =>
   cases hout;refine⟨hCO V V1 hcl hn z,fun x hx=>?_⟩;have hx:x∈[(16,0),(17,2),(18,1),(72,1),(73,0)]:=hx;obtain⟨q1,q2,q3,q4,q5⟩:=s;simp only[List.mem_cons,List.not_mem_nil,or_false]at hx;rcases hx with rfl|rfl|rfl|rfl|rfl
   .exact q2
   .exact q3
   .exact q4
   .exact q5
   .exact q1
def abI:Value:=.slice none 0 0
def zB(n:Nat):Blk:={ cells:=List.replicate n (.int .u8 0),elem:=5,ro:=false,live:=true }
def HZc(upd:List (Nat × Value)):List (Nat × Blk):=[(0,{ cells:=aoF (upd++[(16,.slice (some ⟨1,0,none⟩) 0 1536),(20,.slice (some ⟨2,0,none⟩) 0 512)]),elem:=76,ro:=false,live:=true }),(1,zB 1536),(2,zB 512),(73,xB)]
def an8:Tpl:={ m:=90,F:=[(0,pt 0),(2,.bool true)],H:=HZc [],G:=[73] }
def aw3:Tpl:={ m:=90,F:=[(2,pt 0)],H:=HZc [],G:=[73] }
def aa0:CSpec:={ j:=40,n:=1,tin:=t40,outs:=[(.bool true,an8,aq1)] }
def aaV:CSpec:={ j:=28,n:=1,tin:=t40,outs:=[(.tuple #[],aw3,aq1)] }
def axC:Env:={ EG 40 (fun _=>none) (fun _=>false) (fun _=>none) (fun _=>none) (rG an8 0) (fun _=>none) with al:=fun n=>if n=1 then some [0,2,1,3,4,5] else none }
def aNK:Env:=EG 28 (ctI 40 aa0) (fun n=>Nat.beq n 0) (fun _=>none) (fun _=>none) (rG aw3 0) (fun _=>none)
def akG:Tre:=tre axC 2000 (body 40) [] [] t40.frame t40.heap
def anM:Tre:=tre aNK 2000 (body 28) [] [] t40.frame t40.heap
def aO3:Tpl:={ m:=90,F:=[(0,abI)],H:=[(73,xB)],G:=[73] }
def U7:Tpl:={ m:=90,F:=[(2,pt 0)],H:=HZc [(11,.func (.func 47) #[] #[]),(13,abI)],G:=[73] }
def lE:CSpec:={ j:=14,n:=1,tin:=aO3,outs:=[(pt 0,U7,[(73,0),(74,0)])] }
def aNQ:Env:=EG 14 (ctI 28 aaV) (fun n=>Nat.beq n 2) (fun _=>none) (fun _=>none) (rG U7 0) (fun _=>none)
def amN:Tre:=tre aNQ 2000 (body 14) [] [] aO3.frame aO3.heap
def okZ:FuncId->Bool:=fun f=>Nat.ble 3 f&&(Nat.ble f 50 && !([14,28,40].contains f))
def as2:yN:=rD Tryd.prog g0 puG okZ o6 20000 30
def EGZ(f:Nat)(ct:FuncId->Option CSpec)(rc:Nat->Bool)(ft:AExit->Option (Nat × Tpl)):Env:={ EG f ct rc (fun _=>none) (fun _=>none) ft (fun _=>none) with call:=as2,orc:=oY Tryd.prog puG g0 as2 (ntmps f) }
def aX7:FuncId->Bool:=fun f=>Nat.ble 3 f&&(Nat.ble f 50 && !([3,4,5,6,7,9,12,13,17,21,31,42,48,49].contains f))
def ae9:yN:=rD Tryd.prog g0 puG aX7 o6 1000 8
def EGL(f:Nat)(ct:FuncId->Option CSpec)(rc:Nat->Bool)(bt lt:Nat->Option LSpec)(ft ft2:AExit->Option (Nat × Tpl)):Env:={ EG f ct rc bt lt ft ft2 with call:=ae9,orc:=oY Tryd.prog puG g0 ae9 (ntmps f) }
def HT:List (Nat × Blk):=[(16,vM),(73,xB)]
def HN:List (Nat × Blk):=[(16,vM),(73,xB),(30,kJ)]
def ad0:Tpl:={ m:=90,F:=[(0,nR),(6,wF),(35,wF),(36,I 31 0 1125899906842624),(37,i23)],H:=HN,G:=[73] }
def M9:Tpl:={ m:=90,F:=[(0,nR),(6,wF)],H:=HN,G:=[73] }
def D9:Tpl:={ m:=90,F:=[(0,nR),(2,.slice none 0 0),(3,.bool false)],H:=HT,G:=[73] }
def kH:Tpl:={ m:=90,F:=[(0,nR),(2,.slice none 0 0),(3,sB (x 84))],H:=HT,G:=[73] }
def ajG:Tpl:={ m:=90,F:=[(0,nR),(2,wF),(3,.bool true)],H:=HN,G:=[73] }
def aVE:AExit->Option (Nat × Tpl):=fun e=>match e with
 | .normal=>some (0,ad0)
 | .exit 0=>some (1,M9)
 | .ret=>some (2,D9)
 |_=>none
def bB:Code:=(findLoop 8 100 (body 21)).getD .skip
def ahZ:Env:=EGL 21 (fun _=>none) (fun _=>false) (fun _=>none) (fun _=>none) aVE (fun _=>none)
def abW:Tre:=tre ahZ 2000 bB [] [] ad0.frame ad0.heap
def agI:LSpec:={ j:=8,tin:=ad0,outs:=[(.exit 0,M9,[]),(.ret,D9,[])] }
def arL:Nat->Option LSpec:=fun n=>if n=8 then some agI else none
def aNI:FuncId->Option CSpec:=fun f=>if f=5 then some sp5 else if f=6 then some sp6 else if f=7 then some sp7 else none
def aZ4:Nat->Bool:=fun n=>Nat.beq n 1 || (Nat.beq n 2 || Nat.beq n 4)
def E21:Env:=EGL 21 aNI aZ4 (fun _=>none) arL (rG kH 0) (rG ajG 1)
def azQ:Tre:=tre E21 4000 (body 21) [] [] t5.frame t5.heap
def aoP:CSpec:={ j:=21,n:=1,tin:=t5,outs:=[(.tuple #[.slice none 0 0,sB (x 84)],kH,sm5),(.tuple #[wF,.bool true],ajG,sm5)] }
def t22:Tpl:={ m:=90,F:=[(0,wF)],H:=[(30,kJ),(73,xB)],G:=[73] }
def ae8:Tpl:={ m:=90,F:=[(0,wF),(5,wF),(6,I 31 0 1125899906842624),(7,i23)],H:=[(30,kJ),(73,xB)],G:=[73] }
def aeF:Tpl:={ m:=90,F:=[(0,wF),(2,.bool false)],H:=[(30,kJ),(73,xB)],G:=[73] }
def al7:Tpl:={ m:=90,F:=[(0,wF),(2,sB (x 84))],H:=[(30,kJ),(73,xB)],G:=[73] }
def aVP:AExit->Option (Nat × Tpl):=fun e=>match e with
 | .normal=>some (0,ae8)
 | .exit 0=>some (1,t22)
 | .ret=>some (2,aeF)
 |_=>none
def A8:Code:=(findLoop 2 100 (body 22)).getD .skip
def aiF:Env:=EGL 22 (fun _=>none) (fun _=>false) (fun _=>none) (fun _=>none) aVP (fun _=>none)
def adN:Tre:=tre aiF 2000 A8 [] [] ae8.frame ae8.heap
def aCN:LSpec:={ j:=2,tin:=ae8,outs:=[(.exit 0,t22,[]),(.ret,aeF,[])] }
def apD:Nat->Option LSpec:=fun n=>if n=2 then some aCN else none
def E22:Env:=EGL 22 (fun _=>none) (fun _=>false) (fun _=>none) apD (rG al7 0) (fun _=>none)
def aFS:Tre:=tre E22 2000 (body 22) [] [] t22.frame t22.heap
def aUC:List (Nat × Nat):=[(30,0),(31,1),(32,1),(33,5),(73,0)]
def ap5:CSpec:={ j:=22,n:=1,tin:=t22,outs:=[(sB (x 84),al7,aUC)] }
def aQH:FuncId->Option CSpec:=fun f=>if f=5 then some sp5 else if f=21 then some aoP else if f=22 then some ap5 else none
def aZT:Nat->Bool:=fun n=>Nat.beq n 1 || (Nat.beq n 2 || Nat.beq n 3)
def T9:Tpl:={ m:=90,F:=[(0,nR),(2,.slice none 0 0),(3,sB (x 84))],H:=HT,G:=[73] }
def aeS:Tpl:={ m:=90,F:=[(0,nR),(2,wF),(3,sB (x 84))],H:=HN,G:=[73] }
def E12:Env:=EGL 12 aQH aZT (fun _=>none) (fun _=>none) (rG T9 0) (rG aeS 1)
def aDU:Tre:=tre E12 4000 (body 12) [] [] t5.frame t5.heap
def fX:CSpec:={ j:=12,n:=1,tin:=t5,outs:=[(.tuple #[.slice none 0 0,sB (x 84)],T9,sm5),(.tuple #[wF,sB (x 84)],aeS,sm5)] }
def a0I:List (Nat × Value):=[(16,sL 1 (Z 0) (x 75) (Z 1536)),(17,I 76 0 1536),(18,I 8 0 2000),(19,I 39 0 8000000),(24,I 77 0 4194303),(25,I 45 0 4194303),(26,I 78 0 4194303),(45,.chan none)]
def HS:List (Nat × Blk):=[(0,{ cells:=rX a0I,elem:=76,ro:=false,live:=true }),(1,{ cells:=[],elem:=5,ro:=true,live:=true,seq:=some (x 3) }),(73,{ cells:=[.iface 89 (.pointer (some ⟨74,0,none⟩))],elem:=86,ro:=true,live:=true })]
def tS0:Tpl:={ m:=90,F:=[(0,pt 0)],H:=HS,G:=[73] }
def tSN:Tpl:={ m:=90,F:=[(0,pt 0),(1,.slice none 0 0)],H:=HS,G:=[73] }
def tSS:Tpl:={ m:=90,F:=[(0,pt 0),(1,xE)],H:=HS++[(79,Y8)],G:=[73] }
def tSo(r:Nat):Tpl:={ m:=90,F:=[(0,pt 0),(r,xE)],H:=HS++[(79,Y8)],G:=[73] }
def tSn(r:Nat):Tpl:={ m:=90,F:=[(0,pt 0),(r,.slice none 0 0)],H:=HS,G:=[73] }
def opS:List Nat:=(List.range 52).filterMap fun i=>if [16,17,18,19,24,25,26,45].contains i then none else some (20+i)
def smS:List (Nat × Nat):=[(0,0),(1,0),(73,0),(74,0),(3,2),(75,1)]++opS.map fun i=>(i,4)
def v9:AExit->Option (Nat × Tpl):=fun e=>match e with
 | .normal=>some (0,tS0)
 | .ret=>some (0,tS0)
 |_=>none
def qS(r:Nat):AExit->Option (Nat × Tpl):=fun e=>match e with
 | .normal=>some (0,tSo r)
 | .ret=>some (0,tSo r)
 |_=>none
def ah6(r:Nat):AExit->Option (Nat × Tpl):=fun e=>match e with
 | .normal=>some (1,tSn r)
 | .ret=>some (1,tSn r)
 |_=>none
def aKK:Tre:=tre (EG 36 (fun _=>none) (fun _=>false) (fun _=>none) (fun _=>none) v9 (fun _=>none)) 2000 (body 36) [] [.bool true] tS0.frame tS0.heap
def azS:Tre:=tre (EG 37 (fun _=>none) (fun _=>false) (fun _=>none) (fun _=>none) v9 (fun _=>none)) 2000 (body 37) [] [.bool true] tS0.frame tS0.heap
def aL9(t:Tpl)(r:Nat):Tre:=tre (EG 38 (fun _=>none) (fun _=>false) (fun _=>none) (fun _=>none) (qS r) (ah6 r)) 2000 (body 38) [] [.bool true] t.frame t.heap
def bk(V:Ren)(k:Int):Int:=(((gL V 3).getD (gI V 76+k).toNat 0).toNat:Int)
theorem bk0(V:Ren):(((gL V 3).getD (gI V 76).toNat 0).toNat:Int)=bk V 0:=by unfold bk;rw[Int.add_zero]
theorem bkk(V:Ren)(k:Int):(((gL V 3).getD (gI V 76+k).toNat 0).toNat:Int)=bk V k:=rfl
theorem xC(V:Ren):bb V=bk V 0:=bk0 V
structure KS(V:Ren):Prop where
 n:Ln V
 buf:(gL V 3).length=1536
 i75:gI V 75<=1536
 i76:0<=gI V 76
 w:1<=wd (bk V 0)
 le:gI V 76+wd (bk V 0)<=gI V 75
 la:bk V 0=13->gI V 76+2<=gI V 75
 un:1<=gI V 8
 u2:bk V 0=13->bk V 1=10->2<=gI V 8
 i8:gI V 8<=2000
 ix:0<=gI V 77/\gI V 77<4194290
 co:0<=gI V 78/\gI V 78<4194290
 ln:0<=gI V 45/\gI V 45<4194290
 nl:0<=gI V 39/\gI V 39<7999990
structure SmQ(V γ:Ren):Prop where
 h0:γ[0]?=V[0]?
 h1:γ[1]?=V[1]?
 h73:γ[73]?=V[73]?
 h74:γ[74]?=V[74]?
 l3:gL γ 3=gL V 3
 i75:gI γ 75=gI V 75
 op:∀ i∈opS,gV γ i=gV V i
structure Mv(V γ:Ren)(dp du dl co:Int):Prop where
 s:SmQ V γ
 i76:gI γ 76=gI V 76+dp
 i8:gI γ 8=gI V 8-du
 i77:gI γ 77=gI V 77+du
 i45:gI γ 45=gI V 45+dl
 i78:gI γ 78=co
 i39:0<=gI γ 39/\gI γ 39<=gI V 39+dl
def G0J(J:Ren->Ren->Prop)(V:Ren):Goal where
 J:=fun _ γ=>J V γ
 L:=fun _ _=>False
 O:=fun _ _ _ _=>False
 W:=fun _ _=>False
def Nel(V:Ren):Prop:=bk V 0=194/\bk V 1=133
def Lsp(V:Ren):Prop:=bk V 0=226/\bk V 1=128/\(bk V 2=168\/bk V 2=169)
def wL(V γ:Ren):Prop:=Mv V γ (wd (bk V 0)) 1 0 (gI V 78+1)
def qK(V γ:Ren):Prop :=
 (bk V 0=13/\bk V 1=10/\Mv V γ 2 2 1 0)\/(bk V 0=13/\bk V 1≠10/\Mv V γ 1 1 1 0)\/(bk V 0=10/\Mv V γ 1 1 1 0)\/(Nel V/\Mv V γ 2 1 1 0)\/(Lsp V/\Mv V γ 3 1 1 0) \/
 (bk V 0≠13/\bk V 0≠10/\¬ Nel V/\¬ Lsp V/\Mv V γ 0 0 0 (gI V 78))
theorem yI:wd 13=1:=by decide
theorem vI:wd 10=1:=by decide
theorem aaH:wd 32=1:=by decide
theorem alI:wd 9=1:=by decide
theorem vL:wd 194=2:=by decide
theorem yP:wd 226=3:=by decide
theorem awJ{b:Int}(h0:¬ ia b 128=0)(h1:¬ ia b 224=192)(h2:¬ ia b 240=224)(h3:¬ ia b 248=240):wd b=0:=by unfold wd;rw[if_neg h0,if_neg h1,if_neg h2,if_neg h3]
theorem jG(V:Ren):Facts V [.bool true]:=fun a ha=>by
 rw[List.mem_singleton]at ha;subst ha;exact⟨.lit true,rfl,rfl,rfl⟩
def ES(f:Nat)(ft ft2:AExit->Option (Nat × Tpl)):Env:=EG f (fun _=>none) (fun _=>false) (fun _=>none) (fun _=>none) ft ft2
def spS(f:Nat):CSpec:={ j:=f,n:=1,tin:=tS0,outs:=[(.tuple #[],tS0,smS)] }
theorem vN{V γ:Ren}(q:SmQ V γ):∀ p∈smS,SmK V γ p:=by
 intro x hx;rcases List.mem_append.1 hx with hx|hx
 .simp only[List.mem_cons,List.not_mem_nil,or_false]at hx;rcases hx with rfl|rfl|rfl|rfl|rfl|rfl
  .exact q.h0
  .exact q.h1
  .exact q.h73
  .exact q.h74
  .exact q.l3
  .exact q.i75
 .obtain⟨i,hi,rfl⟩:=List.mem_map.1 hx;exact q.op i hi
def ERd:Env:=EG 35 (fun _=>none) (fun _=>false) (fun _=>none) (fun _=>none) (qS 4) (fun _=>none)
def eU(A:List TB):Tre:=tre ERd 2000 (body 35) [] (A.map TB.enc) tSN.frame tSN.heap
def eP(A:List TB):Tre:=tre ERd 2000 (body 35) [] (A.map TB.enc) tSS.frame tSS.heap
end U
