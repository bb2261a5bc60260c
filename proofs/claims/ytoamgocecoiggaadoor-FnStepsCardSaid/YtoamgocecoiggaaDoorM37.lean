-- the statement of this claim: see YtoamgocecoiggaaDoorRs
import Derived.Test.YtoamgocecoiggaaDoorM36
set_option linter.unusedVariables false
set_option linter.unusedSimpArgs false
set_option maxRecDepth 100000
noncomputable section
open Go Go.SM Go.Proofs
namespace U
def Z13(cs:List Int)(V:Ren):Prop:=zD V=[]\/cs=[]
theorem aWU{cs steps:List Int}{n:Nat}{o m:Bool}{γ:Ren}(h:steps=[]\/cs=[])(le:LE cs steps n o m γ):n=0:=by
 rcases Nat.eq_zero_or_pos n with h0|h0
 .exact h0
 .have h1:=le.lt 0 h0;have h2:=le.le;rcases h with rfl|rfl
  .simp at h2;omega
  .simp at h1
theorem aO0{cs steps:List Int}{o m:Bool}{γ:Ren}(h:¬ (steps=[]\/cs=[]))(le:LE cs steps 0 o m γ):False:=by
 rcases le.fin with h1|h1
 .exact h (.inl (List.eq_nil_of_length_eq_zero h1.symm))
 .exact h (.inr (List.eq_nil_of_length_eq_zero (Nat.le_zero.1 h1)))
theorem afF{A:Bool}{cs:List Int}{V:Ren}{w0:W0}(p:P13 cs V)(hA:A=true↔Z13 cs V){E:Env}(hE:E.P=Tryd.prog)(hn:E.n=ntmps 13) :
    ∀ (r:Nat) (s:LSpec) (c:Code),R7 A r=some s->(G13 cs A V).W s.j c->tW E w0 (G13 cs A V) s c:=by
 intro r s c hs hw
 unfold R7 at hs
 split at hs
 .cases hs
  have hc:c=.loop qP:=hw
  subst hc
  intro Q b a w hH hF hl hQ
  obtain⟨sm0,ly⟩:=hl
  rw[hn]at hF
  rw[hE]
  have hsl:(zD V).length<=4096:=by have:=p.len;have:=p.i86;omega
  refine xU (adT p.tx hsl ly hH hF ?_ ?_)
  .intro V1 a' w' hn1 sm le q1 q2
   cases A with
   |true=>exact hQ 0 (.exit 0) (tZx false false) [] rfl V1 a' w' q1 (by rw[hn];exact q2) ⟨hn1,sm0.trans sm,0,le⟩
   |false=>exact (aO0 (fun h=>by have:=hA.2 h;cases this) le).elim
  .intro n o V1 a' w' hp hn1 sm le q1 q2
   cases A with
   |true =>
    exfalso
    have h0:=aWU (hA.1 rfl) le
    omega
   |false =>
    cases o with
    |false=>exact hQ 0 (.exit 0) (tZx false true) [] rfl V1 a' w' q1 (by rw[hn];exact q2) ⟨hn1,sm0.trans sm,n,le⟩
    |true=>exact hQ 1 (.exit 0) (tZx true true) [] rfl V1 a' w' q1 (by rw[hn];exact q2) ⟨hn1,sm0.trans sm,n,le⟩
 .cases hs
def aHF:CSpec:={ j:=13,n:=2,tin:=t13,outs:=[(.tuple #[.slice none 0 0,.slice none 0 0,fv (Z 0)],uI false false,smT)] }
def aHK:CSpec:={ j:=13,n:=2,tin:=t13,outs:=[(.tuple #[.slice none 0 0,rZ,fv (Z 0)],uI false true,smT),(.tuple #[xE,rZ,fv (Z 0)],uI true true,smT)] }
def aT8:CSpec:={ j:=13,n:=2,tin:=t13,outs:=[(.tuple #[.slice none 0 0,.slice none 0 0,fv (Z 0)],uI false false,smT),(.tuple #[.slice none 0 0,rZ,fv (Z 0)],uI false true,smT),(.tuple #[xE,rZ,fv (Z 0)],uI true true,smT)] }
theorem abQ{V γ:Ren}(h:SmZ V γ):∀ p∈smT,SmK V γ p:=by
 intro x hx;simp only[smT,List.mem_cons,List.not_mem_nil,or_false]at hx;rcases hx with rfl|rfl|rfl|rfl|rfl
 .exact h.h84
 .exact h.n85
 .exact h.i86
 .exact h.i87
 .exact h.h73
theorem aP4{G:Goal}(hCL:∀ V,G.CL 13 V->∃ cs,P13 cs V/\Z13 cs V)(hCO:∀ cs V V1,G.CL 13 V->P13 cs V->Ln V1->SmZ V V1->LE cs (zD V) 0 false false V1->G.CO 13 0 V V1):yT Tryd.prog G 13 aHF:=by
 intro w0 V args w hH hF hcl;obtain⟨cs,p,hz⟩:=hCL V hcl;refine (zU (E:=anS) (Gt:=fun _=>G13 cs true V) (G:={ G with CL:=fun _ b=>b=V,CO:=fun j i b b1=>G.CO j i b b1 }) (fn:=wK 13) (c:=body 13) (s:=aHF) zQ zS follows (by kernel_rfl) (by kernel_rfl) (by kernel_rfl) (by kernel_rfl) (by kernel_rfl) (by kernel_rfl) ?_ ?_ ?_ ?_ (fun b j i V1 V2 h=>h.1.2) ?_ (fun b=>wX (ak1 (fun _ h=>h) (fun _ _ _ a b=>⟨a,b⟩)))) w0 V args w hH hF rfl
 .intro e j tp h;have h:=h.resolve_right fun h=>by cases h
  cases e with
  |normal=>cases h;exact⟨(fun id h=>by cases h),.tuple #[.slice none 0 0,.slice none 0 0,fv (Z 0)],by kernel_rfl,_,rfl⟩
  |ret=>cases h;exact⟨(fun id h=>by cases h),.tuple #[.slice none 0 0,.slice none 0 0,fv (Z 0)],by kernel_rfl,_,rfl⟩
  |exit id=>cases h
 .intro b hb hlen hr;have hb:b=V:=hb;subst hb;refine⟨p.pt.n.2,[],2000,Facts.nil _,?_⟩;show (anZ).Holds _ b;rw[aaA];exact aiJ p
 .intro b j v tp sm V1 hb hout hlen _ hJ;have hb:b=V:=hb;subst hb;match j,hout,hJ with
  |0,hout,hJ =>
   cases hout;obtain⟨hn,s,n,le⟩:=hJ;have le:LE cs (zD b) n false false V1:=le;have h0:=aWU hz le;subst h0;exact⟨hCO cs b V1 hcl p hn s le,abQ s⟩
 .intro b w0 r s c hs hw;rcases hs with hs|hs
  .exact afF p ⟨fun _=>hz,fun _=>rfl⟩ rfl rfl r s c hs hw
  .cases hs
 .intro b r s hs i e tp B hi V1 V2 _;refine yO ?_;rcases hs with hs|hs
  .have hs:R7 true r=some s:=hs;unfold R7 at hs;split at hs
   .cases hs;match i,hi with
    |0,hi=>cases hi;rfl
   .cases hs
  .cases hs
theorem aN4{G:Goal}(hCL:∀ V,G.CL 13 V->∃ cs,P13 cs V/\¬ Z13 cs V)(hC0:∀ cs V V1 n,G.CL 13 V->P13 cs V->Ln V1->SmZ V V1->LE cs (zD V) n false true V1->G.CO 13 0 V V1)(hC1:∀ cs V V1 n,G.CL 13 V->P13 cs V->Ln V1->SmZ V V1->LE cs (zD V) n true true V1->G.CO 13 1 V V1):yT Tryd.prog G 13 aHK:=by
 intro w0 V args w hH hF hcl;obtain⟨cs,p,hz⟩:=hCL V hcl;refine (zU (E:=ad8) (Gt:=fun _=>G13 cs false V) (G:={ G with CL:=fun _ b=>b=V,CO:=fun j i b b1=>G.CO j i b b1 }) (fn:=wK 13) (c:=body 13) (s:=aHK) zQ zS follows (by kernel_rfl) (by kernel_rfl) (by kernel_rfl) (by kernel_rfl) (by kernel_rfl) (by kernel_rfl) ?_ ?_ ?_ ?_ (fun b j i V1 V2 h=>h.1.2) ?_ (fun b=>wX (ak1 (fun _ h=>h) (fun _ _ _ a b=>⟨a,b⟩)))) w0 V args w hH hF rfl
 .intro e j tp h;rcases h with h|h
  .cases e with
   |normal=>cases h;exact⟨(fun id h=>by cases h),.tuple #[.slice none 0 0,rZ,fv (Z 0)],by kernel_rfl,_,rfl⟩
   |ret=>cases h;exact⟨(fun id h=>by cases h),.tuple #[.slice none 0 0,rZ,fv (Z 0)],by kernel_rfl,_,rfl⟩
   |exit id=>cases h
  .cases e with
   |normal=>cases h;exact⟨(fun id h=>by cases h),.tuple #[xE,rZ,fv (Z 0)],by kernel_rfl,_,rfl⟩
   |ret=>cases h;exact⟨(fun id h=>by cases h),.tuple #[xE,rZ,fv (Z 0)],by kernel_rfl,_,rfl⟩
   |exit id=>cases h
 .intro b hb hlen hr;have hb:b=V:=hb;subst hb;refine⟨p.pt.n.2,[],2000,Facts.nil _,?_⟩;show (aqW).Holds _ b;rw[aaZ];exact ahV p
 .intro b j v tp sm V1 hb hout hlen _ hJ;have hb:b=V:=hb;subst hb;match j,hout,hJ with
  |0,hout,hJ =>
   cases hout;obtain⟨hn,s,n,le⟩:=hJ;exact⟨hC0 cs b V1 n hcl p hn s le,abQ s⟩
  |1,hout,hJ =>
   cases hout;obtain⟨hn,s,n,le⟩:=hJ;exact⟨hC1 cs b V1 n hcl p hn s le,abQ s⟩
 .intro b w0 r s c hs hw;rcases hs with hs|hs
  .exact afF p ⟨(fun h=>by cases h),fun h=>(hz h).elim⟩ rfl rfl r s c hs hw
  .cases hs
 .intro b r s hs i e tp B hi V1 V2 _;refine yO ?_;rcases hs with hs|hs
  .have hs:R7 false r=some s:=hs;unfold R7 at hs;split at hs
   .cases hs;match i,hi with
    |0,hi=>cases hi;rfl
    |1,hi=>cases hi;rfl
   .cases hs
  .cases hs
theorem apS{G:Goal}(hCL:∀ V,G.CL 13 V->∃ cs,P13 cs V)(h0:∀ cs V V1,G.CL 13 V->P13 cs V->Ln V1->SmZ V V1->LE cs (zD V) 0 false false V1->G.CO 13 0 V V1)(h1:∀ cs V V1 n,G.CL 13 V->P13 cs V->Ln V1->SmZ V V1->LE cs (zD V) n false true V1->G.CO 13 1 V V1)
    (h2:∀ cs V V1 n,G.CL 13 V->P13 cs V->Ln V1->SmZ V V1->LE cs (zD V) n true true V1->G.CO 13 2 V V1):yT Tryd.prog G 13 aT8:=by
 intro w0 V args w hH hF hcl
 obtain⟨cs,p⟩:=hCL V hcl
 by_cases hf:Z13 cs V
 .refine ((aP4 (G:={ G with CL:=fun _ b=>b=V,CO:=fun _ _ b b1=>G.CO 13 0 b b1/\SmZ b b1 }) (fun b h=>by subst h;exact⟨cs,p,hf⟩) (fun cs' b b1 hb p' a c d=>by subst hb;exact⟨h0 cs' b b1 hcl p' a c d,c⟩)) w0 V args w hH hF rfl).mono ?_
  rintro e w' ⟨i,v,tp,sm,V2,u,g1,g2,g3,g4,g5,g6⟩
  match i,g1,g5 with
  |0,g1,g5 =>
   cases g1
   exact⟨0,_,_,_,V2,u,rfl,g2,g3,g4,g5.1,g6⟩
 .refine ((aN4 (G:={ G with CL:=fun _ b=>b=V,CO:=fun _ i b b1=>G.CO 13 (i+1) b b1 }) (fun b h=>by subst h;exact⟨cs,p,hf⟩) (fun cs' b b1 n hb p' a c d=>by subst hb;exact h1 cs' b b1 n hcl p' a c d) (fun cs' b b1 n hb p' a c d=>by subst hb;exact h2 cs' b b1 n hcl p' a c d)) w0 V args w hH hF rfl).mono ?_
  rintro e w' ⟨i,v,tp,sm,V2,u,g1,g2,g3,g4,g5,g6⟩
  match i,g1,g5 with
  |0,g1,g5 =>
   cases g1
   exact⟨1,_,_,_,V2,u,rfl,g2,g3,g4,g5,g6⟩
  |1,g1,g5 =>
   cases g1
   exact⟨2,_,_,_,V2,u,rfl,g2,g3,g4,g5,g6⟩
structure PK(V:Ren):Prop where
 n:Ln V
 i18:0<=gI V 18/\gI V 18<=2147483647
 i72:gI V 18<=gI V 72
 l17:gI V 18<=(gL V 17).length
theorem PK.pb{V γ:Ren}(p:PK V)(hn:Ln γ)(h17:gL γ 17=gL V 17)(h18:gI γ 18=gI V 18):PB γ/\T0 γ=T0 V :=
 ⟨⟨hn,by rw[h18];exact p.i18,by rw[h17,h18];exact p.l17⟩,by unfold T0;rw[h17,h18]⟩
theorem PK.len{V:Ren}(p:PK V):((T0 V).length:Int)=gI V 18:=by
 have:=p.i18;have:=p.l17;unfold T0;rw[List.length_take];omega
theorem PK.pa{V γ:Ren}{e w:Int}(p:PK V)(hn:Ln γ)(hm:MkW (T0 V) e w)(h17:gL γ 17=gL V 17)(h20:gI γ 20=if gI V 72=w then 0 else w)(h21:gI γ 21=gI V 18-w):PA γ/\A6 γ=(T0 V).drop w.toNat:=by
 have h18:=p.i18;have hl:=p.l17;have h72:=p.i72;obtain⟨m1,m2,_⟩:=hm;have hT:((T0 V).length:Int)=gI V 18:=p.len;by_cases hc:gI V 72=w
 .rw[if_pos hc]at h20;refine⟨⟨hn,by omega,by omega,by rw[h17];omega⟩,?_⟩;have e1:(T0 V).drop w.toNat=[]:=by rw[List.drop_eq_nil_iff];omega
  rw[e1];unfold A6;rw[List.drop_eq_nil_iff,List.length_take];omega
 .rw[if_neg hc]at h20;refine⟨⟨hn,by omega,by omega,by rw[h17];omega⟩,?_⟩;unfold A6 T0;rw[h17,h20,h21,show w+(gI V 18-w)=gI V 18 from by omega]
theorem abK{T:List UInt8}{cs:List Int}{J1 γ:Ren}(d:sQ T cs)(o:Num6 cs J1)(hT:T.length<=2147483647)(hn:Ln γ)(h33:gN γ 33=gN J1 33)(h31:gI γ 31=gI J1 31)(h23:gI γ 23=0):PE γ/\zZ γ=cs:=by
 obtain⟨o1,o2,o3,o4⟩:=o;have e:zZ γ=cs:=by unfold zZ;rw[h33,h31,h23];exact o1
 obtain⟨r1,r2⟩:=jK d;refine⟨⟨hn,by omega,by omega,by rw[h33,h31];omega,fun k h0 hk=>r1 _ ?_⟩,e⟩;have hk':k.toNat<((gN γ 33).take (gI γ 31).toNat).length:=by rw[List.length_take,h33];omega
 have e2:(gN γ 33).getD k.toNat 0=((gN γ 33).take (gI γ 31).toNat)[k.toNat]:=by
  rw[List.getElem_take,List.getD_eq_getElem?_getD,List.getElem?_eq_getElem (by rw[List.length_take]at hk';omega)];rfl
 rw[e2,<-e];have e3:zZ γ=(gN γ 33).take (gI γ 31).toNat:=by unfold zZ;rw[h23];rfl
 rw[e3];exact List.getElem_mem hk'
def SmN(V γ:Ren):Prop:=SmE V γ/\gI γ 32=gI V 32
theorem SmN.trans{a b c:Ren}(h:SmN a b)(g:SmN b c):SmN a c:=⟨h.1.trans' g.1,g.2.trans h.2⟩
theorem Num6.of{cs:List Int}{a b:Ren}(h:Num6 cs a)(s:SmN a b):Num6 cs b:=by
 obtain⟨⟨_,_,s1,s2⟩,s3⟩:=s;exact⟨by unfold O6;rw[s1,s2];exact h.b,by rw[s2];exact h.l,by rw[s2,s3];exact h.c,by rw[s3,s1];exact h.d⟩
def aQI(V:Ren):Goal where
 J:=fun j γ=>SmT V γ/\match j with
  |0=>SmN V γ/\gI V 23<gI V 31/\Prs (vE V)/\gI γ 23=gI V 23+1
  |1=>SmN V γ/\¬ gI V 23<gI V 31
  |2=>True
  |_=>False
 L:=fun _ _=>False
 O:=fun _ _ _ _=>False
 W:=fun _ _=>False
def NPl(v:Int):Prop:=v≠133/\v≠8232/\v≠8233/\v≠65279
def aP7(V:Ren):Goal where
 J:=fun j γ=>SmN V γ/\match j with
  |0=>gI V 23<gI V 31/\NPl (vE V)/\gI γ 23=gI V 23+1
  |1=>¬ gI V 23<gI V 31
  |2=>True
  |_=>False
 L:=fun _ _=>False
 O:=fun _ _ _ _=>False
 W:=fun _ _=>False
def G21(V:Ren):Goal where
 J:=fun j γ=>Ln γ/\SmT V γ/\match j with
  |0=>gB γ 84=true->sQ (T0 V) []
  |1=>∃ cs,sQ (T0 V) cs/\cs≠[]/\Num6 cs γ/\∀ c∈cs,Prs c
  |_=>False
 L:=fun _ γ=>PE γ/\SmT V γ/\gI γ 23=0/\sQ (T0 V) (zZ γ)/\zZ γ≠[]/\Num6 (zZ γ) γ
 O:=fun _ i γ J1=>Ln J1/\SmT γ J1/\match i with
  |0=>SmN γ J1/\∀ c∈zZ γ,Prs c
  |_=>True
 W:=fun _ c=>c=.loop bB
 CL:=fun j γ=>match j with
  |5=>PB γ
  |6=>PA γ
  |7=>PA γ
  |_=>False
 CO:=fun j i γ J1=>Ln J1/\match j with
  |5=>MkW (T0 γ) (gI J1 87) (gI J1 88)
  |6=>Z6 1 γ J1 i
  |7=>Z6 (eb (gB γ 85)) γ J1 i
  |_=>False
def G22(V:Ren):Goal where
 J:=fun _ γ=>Ln γ/\SmN V γ/\(gB γ 84=true->∀ c∈NL V,NPl c)
 L:=fun _ γ=>PE γ/\SmN V γ/\gI γ 23=0
 O:=fun _ i γ J1=>Ln J1/\SmN γ J1/\match i with
  |0=>∀ c∈zZ γ,NPl c
  |_=>True
 W:=fun _ c=>c=.loop A8
def Lkd(T:List UInt8)(cs:List Int):Prop:=DR 1 T cs []/\(∀ e R1,Mk 0 T e R1->e=1/\R1=T)/\∀ c∈cs,NPl c
def G12(V:Ren):Goal where
 J:=fun j γ=>Ln γ/\SmT V γ/\match j with
  |0=>gB γ 84=true->Lkd (T0 V) []
  |1=>∃ cs,sQ (T0 V) cs/\cs≠[]/\Num6 cs γ/\(gB γ 84=true->Lkd (T0 V) cs)
  |_=>False
 L:=fun _ _=>False
 O:=fun _ _ _ _=>False
 W:=fun _ _=>False
 CL:=fun j γ=>match j with
  |5=>PB γ
  |21=>PK γ
  |22=>PL γ
  |_=>False
 CO:=fun j i γ J1=>Ln J1/\match j with
  |5=>MkW (T0 γ) (gI J1 87) (gI J1 88)
  |21=>(match i with
   |0=>gB J1 84=true->sQ (T0 γ) []
   |_=>∃ cs,sQ (T0 γ) cs/\cs≠[]/\Num6 cs J1/\∀ c∈cs,Prs c)
  |22=>gB J1 84=true->∀ c∈NL γ,NPl c
  |_=>False
theorem aoX{T:List UInt8}{cs:List Int}{e w:Int}(hm:MkW T e w)(hw:w=0)(d:sQ T cs)(hp:∀ c∈cs,Prn c)(hn:∀ c∈cs,NPl c):Lkd T cs:=by
 obtain⟨m1,m2,m3⟩:=hm;subst hw;have m3:Mk 0 T e T:=m3;have e1:e=1:=by
  rcases m3 with⟨h,_⟩|⟨_,bom,h1,h2⟩
  .exact (h rfl).elim
  ·have : bom = [] := by
     have:=congrArg List.length h1;simp at this;exact this
   subst this;rcases h2 with⟨h,_⟩|⟨h,_⟩|⟨h,_⟩|⟨_,h,_⟩
   .cases h
   .cases h
   .cases h
   .exact h
 subst e1;obtain⟨e',w',⟨_,_,m'⟩,hd⟩:=d;obtain⟨u1,u2⟩:=cC m3 m';rw[<-u1,<-u2]at hd;refine⟨aQK hd hp,fun e R1 h=>?_,hn⟩;obtain⟨v1,v2⟩:=cC m3 h;exact⟨v1.symm,v2.symm⟩
abbrev kX:Code:=.loop bB
abbrev agA:Code:=.loop A8
abbrev aQM:List TB:=[(.lt (v 23) (v 31))]
abbrev avR:=.lt (v 23) (ln 33)::aQM
abbrev aXK:=.or (.or (.or (.or (.or (.or (.or (.eq (sn 33 (v 23)) 9) (.eq (sn 33 (v 23)) 10)) (.eq (sn 33 (v 23)) 13)) (.and (nl (sn 33 (v 23)) 32) (nl 126 (sn 33 (v 23))))) (.eq (sn 33 (v 23)) 133)) (.and (nl (sn 33 (v 23)) 160) (nl 55295 (sn 33 (v 23))))) (.and (.and (nl (sn 33 (v 23)) 57344) (nl 65533 (sn 33 (v 23)))) (nq (sn 33 (v 23)) 65279))) (.and (nl (sn 33 (v 23)) 65536) (nl 1114111 (sn 33 (v 23))))::avR
abbrev aRL:List TB:=[(nl (v 23) (v 31))]
abbrev aW8:SgT:=[bm 16,bm 73]
abbrev aiC:SgT:=im 72::im 18::aW8
abbrev au6:SgT:=bm 74::lm 17::aiC
abbrev aV7:SgT:=im 32::im 31::bm 30::aiC
abbrev avK:SgT:=nm 33::bm 74::lm 17::aV7
def fN:Tre:=(.fork (nd 90 aQM ((.lt (v 23) (ln 33)))
 (.fork (lf 2 90 90 (rgs ahZ.n D9) au6 ((nq (sn 33 (v 23)) 9)::(nq (sn 33 (v 23)) 10)::(nq (sn 33 (v 23)) 13)::(.not (.and (nl (sn 33 (v 23)) 32) (nl 126 (sn 33 (v 23)))))::(nq (sn 33 (v 23)) 133)::(.not (.and (nl (sn 33 (v 23)) 160) (nl 55295 (sn 33 (v 23)))))::(.not (.and (.and (nl (sn 33 (v 23)) 57344) (nl 65533 (sn 33 (v 23)))) (nq (sn 33 (v 23)) 65279)))::(.not (.and (nl (sn 33 (v 23)) 65536) (nl 1114111 (sn 33 (v 23)))))::avR))
 (nd 90 aXK ((nl 1125899906842624 (v 23+1)))
 (lf 0 90 90 (rgs ahZ.n ad0) (nm 33::bm 74::lm 17::(23,.itm (v 23+1))::aV7) ((nl 1125899906842624 (v 23+1))::aXK)))))
 (lf 1 90 90 (rgs ahZ.n M9) avK aRL))
theorem lN:abW=fN:=by kernel_rfl
abbrev aXO:=nq (sn 33 (v 23)) 133::nq (sn 33 (v 23)) 8232::nq (sn 33 (v 23)) 8233::nq (sn 33 (v 23)) 65279::avR
abbrev asX:SgT:=[im 32,im 31,bm 30,bm 73]
abbrev aRA:SgT:=bm 74::nm 33::asX
def iD:Tre:=(.fork (nd 90 aQM ((.lt (v 23) (ln 33)))
 (.fork (lf 2 90 90 (rgs aiF.n aeF) aRA ((.or (.or (.or (.eq (sn 33 (v 23)) 133) (.eq (sn 33 (v 23)) 8232)) (.eq (sn 33 (v 23)) 8233)) (.eq (sn 33 (v 23)) 65279))::avR))
 (nd 90 aXO ((nl 1125899906842624 (v 23+1)))
 (lf 0 90 90 (rgs aiF.n ae8) (bm 74::nm 33::(23,.itm (v 23+1))::asX) ((nl 1125899906842624 (v 23+1))::aXO)))))
 (lf 1 90 90 (rgs aiF.n t22) aRA aRL))
theorem lK:adN=iD:=by kernel_rfl
def bI:Tre:=(.loop 2 90 90 (rgs E22.n aCN.tin) agA (SgT.enc (bm 74::nm 33::ik 23 0::asX)) (List.map TB.enc []) (.cons (rgs E22.n t22) (lf 0 90 90 (rgs E22.n al7) (bm 74::nm 33::(84,.btm (.lit true))::asX) [])
 (.cons (rgs E22.n aeF) (lf 0 90 90 (rgs E22.n al7) (bm 74::nm 33::(84,.btm (.lit false))::asX) [])
 .nil)))
theorem aeH:aFS=bI:=by kernel_rfl
abbrev aTF:List TB:=[(nl (v 178) 0)]
abbrev aSR:=nl (v 18) (v 178)::aTF
abbrev aR8:=nl (v 72) (v 18)::aSR
abbrev aN0:=nl 1125899906842624 (v 18)::aR8
abbrev acA:=.lt 1 (v 177)::aN0
abbrev aEW:=.not (.var 354)::acA
abbrev aqC:=nl 1 (v 177)::aN0
abbrev aX8:SgT:=(22,.itm (v 72-v 178))::(21,.itm (v 18-v 178))::(20,.itm (.ite (.eq (v 72) (v 178)) 0 (v 178)))::aW8
abbrev aWA:SgT:=bm 74::lm 17::(85,.btm (.eq (v 177) 3))::aX8
abbrev aa1:SgT:=bm 74::lm 17::(84,.btm (.lit false))::aiC
abbrev afR:SgT:=bm 74::lm 17::(84,.btm (.lit true))::aiC
abbrev aA8:SgT:=nj 33 303::bm 74::lm 17::ik 23 0::ij 32 302::ij 31 301::bj 30 300::aiC
abbrev al1:SgT:=ij 32 212::ij 31 211::bj 30 210::aiC
def L0:Tre:=(.call 5 90 90 (rgs sp5.n sp5.tin) (SgT.enc au6) (List.map TB.enc []) (.cons (rgs 0 t5o++rgV (.tuple #[I 87 1 3,I 88 0 3])) (nd 180 [] ((nl (v 178) 0))
 (nd 180 aTF ((nl (v 18) (v 178)))
 (nd 180 aSR ((nl (v 72) (v 18)))
 (nd 180 aR8 ((nl 1125899906842624 (v 18)))
 (.call 6 90 180 (rgs sp6.n sp6.tin) (SgT.enc (bm 74::lm 17::aX8)) (List.map TB.enc aN0) (.cons (rgs 0 t6a++rgV (.tuple #[.slice none 0 0,sB (x 84)])) (.fork (.call 7 90 270 (rgs sp7.n sp7.tin) (SgT.enc aWA) (List.map TB.enc acA) (.cons (rgs 0 t7a++rgV (.tuple #[.slice none 0 0,sB (x 84)])) (.fork (lf 0 90 360 (rgs E21.n kH) aa1 aEW)
 (lf 0 90 360 (rgs E21.n kH) afR ((.var 354)::acA)))
 (.cons (rgs 0 t7b++rgV (.tuple #[wF,.bool true])) (.loop 8 90 360 (rgs E21.n agI.tin) kX (SgT.enc aA8) (List.map TB.enc acA) (.cons (rgs E21.n M9) (lf 1 90 90 (rgs E21.n ajG) avK [])
 (.cons (rgs E21.n D9) (lf 0 90 90 (rgs E21.n kH) aa1 [])
 .nil)))
 .nil)))
 (.fork (lf 0 90 270 (rgs E21.n kH) aa1 ((.not (.var 264))::aqC))
 (lf 0 90 270 (rgs E21.n kH) afR ((.var 264)::aqC))))
 (.cons (rgs 0 t6b++rgV (.tuple #[wF,.bool true])) (.fork (.call 7 90 270 (rgs sp7.n sp7.tin) (SgT.enc aWA) (List.map TB.enc acA) (.cons (rgs 0 t7a++rgV (.tuple #[.slice none 0 0,sB (x 84)])) (.fork (lf 0 90 360 (rgs E21.n kH) aa1 aEW)
 (lf 0 90 360 (rgs E21.n kH) afR ((.var 354)::acA)))
 (.cons (rgs 0 t7b++rgV (.tuple #[wF,.bool true])) (.loop 8 90 360 (rgs E21.n agI.tin) kX (SgT.enc aA8) (List.map TB.enc acA) (.cons (rgs E21.n M9) (lf 1 90 90 (rgs E21.n ajG) avK [])
 (.cons (rgs E21.n D9) (lf 0 90 90 (rgs E21.n kH) aa1 [])
 .nil)))
 .nil)))
 (.loop 8 90 270 (rgs E21.n agI.tin) kX (SgT.enc (nj 33 213::bm 74::lm 17::ik 23 0::al1)) (List.map TB.enc aqC) (.cons (rgs E21.n M9) (lf 1 90 90 (rgs E21.n ajG) avK [])
 (.cons (rgs E21.n D9) (lf 0 90 90 (rgs E21.n kH) aa1 [])
 .nil))))
 .nil)))))))
 .nil))
theorem ac7:azQ=L0:=by kernel_rfl
abbrev aMZ:List TB:=[(.eq (v 178) 0)]
def cR:Tre:=(.call 5 90 90 (rgs sp5.n sp5.tin) (SgT.enc au6) (List.map TB.enc []) (.cons (rgs 0 t5o++rgV (.tuple #[I 87 1 3,I 88 0 3])) (.call 21 90 180 (rgs aoP.n aoP.tin) (SgT.enc au6) (List.map TB.enc []) (.cons (rgs 0 kH++rgV (.tuple #[.slice none 0 0,sB (x 84)])) (.fork (.fork (lf 0 90 270 (rgs E12.n T9) afR [(.eq (v 178) 0),(.var 264)])
 (lf 0 90 270 (rgs E12.n T9) aa1 [(nq (v 178) 0),(.var 264)]))
 (lf 0 90 270 (rgs E12.n T9) aa1 [(.not (.var 264))]))
 (.cons (rgs 0 ajG++rgV (.tuple #[wF,.bool true])) (.fork (.call 22 90 270 (rgs ap5.n ap5.tin) (SgT.enc [bm 74,nj 33 213,ij 32 212,ij 31 211,bj 30 210,bm 73]) (List.map TB.enc aMZ) (.cons (rgs 0 al7++rgV (sB (x 84))) (lf 1 90 360 (rgs E12.n aeS) (nj 33 213::bm 74::lm 17::(84,.btm (.var 354))::al1) aMZ)
 .nil))
 (lf 1 90 270 (rgs E12.n aeS) (nj 33 213::bm 74::lm 17::(84,.btm (.lit false))::al1) [(nq (v 178) 0)]))
 .nil)))
 .nil))
theorem ae3:aDU=cR:=by kernel_rfl
theorem dE{V:Ren}(p:PE V):fN.Holds (aQI V) V:=by
 unfold fN;have hβ:=p.n.1;have p31:=p.i31;have p23:=p.i23;have pl:=p.len;refine (fO (nO hβ ?_ (fO (lO [] hβ ?_) (nO hβ ?_ (lO [] hβ ?_)))) (lO [] hβ ?_))
 .intro hA;simp only[DD]at hA ⊢;omega
 .intro J0 hl0 hA hr0 hid0 hI;simp only[DD]at hA hI;obtain⟨_,i17,i72,i18,i16,i73⟩:=hI;exact⟨⟨i73,i16,i17,i18,i72⟩,trivial⟩
 .intro hA;simp only[DD]at hA ⊢;omega
 .intro J0 hl0 hA hr0 hid0 hI;simp only[DD]at hA hI;obtain⟨i33,_,i17,i23,i32,i31,i30,i72,i18,i16,i73⟩:=hI;exact⟨⟨i73,i16,i17,i18,i72⟩,⟨⟨i73,i30,i33,i31⟩,i32⟩,by omega,⟨by unfold Prn vE;omega,by unfold vE;omega⟩,i23⟩
 .intro J0 hl0 hA hr0 hid0 hI;simp only[DD]at hA hI;obtain⟨i33,_,i17,i32,i31,i30,i72,i18,i16,i73⟩:=hI;exact⟨⟨i73,i16,i17,i18,i72⟩,⟨⟨i73,i30,i33,i31⟩,i32⟩,by omega⟩
theorem eJ{V:Ren}(p:PE V):iD.Holds (aP7 V) V:=by
 unfold iD;have hβ:=p.n.1;have p31:=p.i31;have p23:=p.i23;have pl:=p.len;refine (fO (nO hβ ?_ (fO (lO [] hβ ?_) (nO hβ ?_ (lO [] hβ ?_)))) (lO [] hβ ?_))
 .intro hA;simp only[DD]at hA ⊢;omega
 .intro J0 hl0 hA hr0 hid0 hI;simp only[DD]at hA hI;obtain⟨_,i33,i32,i31,i30,i73⟩:=hI;exact⟨⟨⟨i73,i30,i33,i31⟩,i32⟩,trivial⟩
 .intro hA;simp only[DD]at hA ⊢;omega
 .intro J0 hl0 hA hr0 hid0 hI;simp only[DD]at hA hI;obtain⟨_,i33,i23,i32,i31,i30,i73⟩:=hI;exact⟨⟨⟨i73,i30,i33,i31⟩,i32⟩,by omega,⟨by unfold vE;omega,by unfold vE;omega,by unfold vE;omega,by unfold vE;omega⟩,i23⟩
 .intro J0 hl0 hA hr0 hid0 hI;simp only[DD]at hA hI;obtain⟨_,i33,i32,i31,i30,i73⟩:=hI;exact⟨⟨⟨i73,i30,i33,i31⟩,i32⟩,by omega⟩
theorem aZH{V γ:Ren}(s:SmN V γ)(h23:gI γ 23=0):zZ γ=NL V:=by
 obtain⟨⟨_,_,s1,s2⟩,_⟩:=s;unfold NL zZ;rw[s1,s2,h23];rfl
theorem ap1{V:Ren}(p:PL V):bI.Holds (G22 V) V:=by
 unfold bI;have hβ:=p.n.1;refine (pO [] hβ rfl ?_)
 .intro J0 hl0 hA hr0 hid0 hI;simp only[DD]at hI;obtain⟨_,i33,i23,i32,i31,i30,i73⟩:=hI;have hn1:Ln J0:=p.n.of i73 hl0;have pe:PE J0:=⟨hn1,by have:=p.i31;omega,by have:=p.i31;omega,by rw[i31,i33];exact p.len,by rw[i31,i33];exact p.el⟩
  have hL0:(G22 V).L 2 J0:=⟨pe,⟨⟨i73,i30,i33,i31⟩,i32⟩,i23⟩
  refine⟨hL0,(oC ?_ (oC ?_ oN))⟩
  .intro V1 hq1 hO1;obtain⟨hn2,sm,hp⟩:=hO1;have hb1:=hn2.1;refine (lO [] hb1 ?_)
   .intro J1 hl1 hA hr1 hid1 hI;simp only[DD]at hI;obtain⟨_,j33,_,j32,j31,j30,j73⟩:=hI;have e:zZ J0=NL V:=aZH hL0.2.1 i23;exact⟨hn2.of j73 hl1,SmN.trans hL0.2.1 (SmN.trans sm ⟨⟨j73,j30,j33,j31⟩,j32⟩),fun _=>by rw[<-e];exact hp⟩
  .intro V1 hq1 hO1;obtain⟨hn2,sm,hp⟩:=hO1;have hb1:=hn2.1;refine (lO [] hb1 ?_)
   .intro J1 hl1 hA hr1 hid1 hI;simp only[DD]at hI;obtain⟨_,j33,j84,j32,j31,j30,j73⟩:=hI;exact⟨hn2.of j73 hl1,SmN.trans hL0.2.1 (SmN.trans sm ⟨⟨j73,j30,j33,j31⟩,j32⟩),fun h=>by cases j84.1 h⟩
theorem aPN{T:List UInt8}{b:Bool}(r:ai8 T b)(hb:b=true):sQ T []:=by
 rcases r with⟨_,a⟩|⟨a,_⟩
 .exact a
 .rw[a]at hb;cases hb
theorem Num6.of'{cs:List Int}{a b:Ren}(h:Num6 cs a)(e33:gN b 33=gN a 33)(e31:gI b 31=gI a 31)(e32:gI b 32=gI a 32):Num6 cs b :=
 ⟨by unfold O6;rw[e33,e31];exact h.b,by rw[e31];exact h.l,by rw[e31,e32];exact h.c,by rw[e32,e33];exact h.d⟩
theorem asN{V:Ren}(p:PK V):L0.Holds (G21 V) V:=by
 unfold L0;have hβ:=p.n.1;have p18:=p.i18;have p17:=p.l17;have p72:=p.i72;refine (cO [] hβ ?_)
 .intro J0 hl0 hA hr0 hid0 hI;simp only[DD]at hI;obtain⟨_,i17,_,i18,_,i73⟩:=hI;have pt0:=p.pb (p.n.of i73 hl0) i17 i18;have hL0:(G21 V).CL 5 J0:=pt0.1;refine⟨hL0,(aC ?_ aN)⟩
  .intro V1 hq1 hO1;obtain⟨hn1,hm0⟩:=hO1;have hmk:MkW (T0 J0) (gI V1 87) (gI V1 88):=hm0;clear hm0;rw[pt0.2]at hmk;have rr:=aGG hmk;have tl:=p.len;have hb1:=zE hβ hn1.1;simp only[Nat.reduceAdd]at hb1;refine (nO hb1 ?_ (nO hb1 ?_ (nO hb1 ?_ (nO hb1 ?_ (cO [] hb1 ?_)))))
   .intro hA;clear hA;simp +decide only[DD,aA hβ];omega
   iterate 3 (focus (intro hA;simp +decide only[DD,aA hβ]at hA ⊢;omega))
   .intro J1 hl1 hA hr1 hid1 hI;simp +decide only[DD,aA hβ]at hA hI;obtain⟨b0,b1,b2,b3⟩:=hA;obtain⟨_,j17,_,j21,j20,_,j73⟩:=hI;have hA6:=p.pa (p.n.of j73 hl1) hmk j17 (by rw[j20]) (by rw[j21]);have hL1:(G21 V).CL 6 J1:=hA6.1;refine⟨hL1,(aC ?_ (aC ?_ aN))⟩
    .intro V2 hq2 hO2;obtain⟨hn2,z6⟩:=hO2;have hb2:=zE hb1 hn2.1;simp only[Nat.reduceAdd]at hb2;refine (fO (cO [] hb2 ?_) (fO (lO [] hb2 ?_) (lO [] hb2 ?_)))
     .intro J2 hl2 hA hr2 hid2 hI;simp +decide only[DD,aA hβ,aA hb1]at hA hI;obtain⟨c0,c1,c2,c3,c4⟩:=hA;obtain⟨_,k17,k85,_,k21,k20,_,k73⟩:=hI;have hA7:=p.pa (p.n.of k73 hl2) hmk k17 (by rw[k20]) (by rw[k21]);have hb7:=k85;have hL2:(G21 V).CL 7 J2:=hA7.1;refine⟨hL2,(aC ?_ (aC ?_ aN))⟩
      .intro V3 hq3 hO3;obtain⟨hn3,z7⟩:=hO3;have hb3:=zE hb2 hn3.1;simp only[Nat.reduceAdd]at hb3;refine (fO (lO [] hb3 ?_) (lO [] hb3 ?_))
       .intro J3 hl3 hA hr3 hid3 hI;simp +decide only[DD,aA hβ,aA hb1,aA hb2]at hA hI;obtain⟨_,l17,l84,l72,l18,l16,l73⟩:=hI;exact⟨p.n.of l73 hl3,⟨l73,l16,l17,l18,l72⟩,fun h=>by cases l84.1 h⟩
       .intro J3 hl3 hA hr3 hid3 hI;simp +decide only[DD,aA hβ,aA hb1,aA hb2]at hA hI;obtain⟨d0,d1,d2,d3,d4,d5⟩:=hA;obtain⟨_,l17,_,l72,l18,l16,l73⟩:=hI;have nr:ai8 (T0 V) (gB V3 84):=nr7 hmk (by omega) (by omega) hb7 hA7.2 z7;exact⟨p.n.of l73 hl3,⟨l73,l16,l17,l18,l72⟩,fun _=>aPN nr (by assumption)⟩
      .intro V3 hq3 hO3;obtain⟨hn3,z7⟩:=hO3;have hb3:=zE hb2 hn3.1;simp only[Nat.reduceAdd]at hb3;refine (pO [] hb3 rfl ?_)
       .intro J3 hl3 hA hr3 hid3 hI;simp +decide only[DD,aA hβ,aA hb1,aA hb2]at hA hI;obtain⟨l33,_,l17,l23,l32,l31,_,l72,l18,l16,l73⟩:=hI;have sr:aaY (T0 V) V3:=sr7 hmk (by omega) (by omega) hb7 hA7.2 z7;obtain⟨cs,dt,hne,nm⟩:=sr;have hnL:Ln J3:=p.n.of l73 hl3;have nm1:Num6 cs J3:=nm.of' l33 l31 l32;have q9:=abK dt nm (by omega) hnL l33 l31 l23;have hL3:(G21 V).L 8 J3:=⟨q9.1,⟨l73,l16,l17,l18,l72⟩,l23,by rw[q9.2];exact dt,by rw[q9.2];exact hne,by rw[q9.2];exact nm1⟩
        refine⟨hL3,(oC ?_ (oC ?_ oN))⟩
        .intro V4 hq4 hO4;obtain⟨hn4,sm,hz⟩:=hO4;have hb4:=hn4.1;have hz:SmN J3 V4/\∀ c∈zZ J3,Prs c:=hz;refine (lO [] hb4 ?_)
         .intro J4 hl4 hA hr4 hid4 hI;simp only[DD]at hI;obtain⟨m33,_,m17,m32,m31,m30,m72,m18,m16,m73⟩:=hI;exact⟨hn4.of m73 hl4,SmT.trans hL3.2.1 (SmT.trans sm ⟨m73,m16,m17,m18,m72⟩),cs,dt,hne,(nm1.of hz.1).of ⟨⟨m73,m30,m33,m31⟩,m32⟩,by rw[q9.2]at hz;exact hz.2⟩
        .intro V4 hq4 hO4;obtain⟨hn4,sm,hz⟩:=hO4;have hb4:=hn4.1;refine (lO [] hb4 ?_)
         .intro J4 hl4 hA hr4 hid4 hI;simp only[DD]at hI;obtain⟨_,m17,m84,m72,m18,m16,m73⟩:=hI;exact⟨hn4.of m73 hl4,SmT.trans hL3.2.1 (SmT.trans sm ⟨m73,m16,m17,m18,m72⟩),fun h=>by cases m84.1 h⟩
     .intro J2 hl2 hA hr2 hid2 hI;simp +decide only[DD,aA hβ,aA hb1]at hA hI;obtain⟨_,k17,k84,k72,k18,k16,k73⟩:=hI;exact⟨p.n.of k73 hl2,⟨k73,k16,k17,k18,k72⟩,fun h=>by cases k84.1 h⟩
     .intro J2 hl2 hA hr2 hid2 hI;simp +decide only[DD,aA hβ,aA hb1]at hA hI;obtain⟨c0,c1,c2,c3,c4,c5⟩:=hA;obtain⟨_,k17,_,k72,k18,k16,k73⟩:=hI;have nr:ai8 (T0 V) (gB V2 84):=nr6 hmk (by omega) hA6.2 z6;exact⟨p.n.of k73 hl2,⟨k73,k16,k17,k18,k72⟩,fun _=>aPN nr (by assumption)⟩
    .intro V2 hq2 hO2;obtain⟨hn2,z6⟩:=hO2;have hb2:=zE hb1 hn2.1;simp only[Nat.reduceAdd]at hb2;refine (fO (cO [] hb2 ?_) (pO [] hb2 rfl ?_))
     .intro J2 hl2 hA hr2 hid2 hI;simp +decide only[DD,aA hβ,aA hb1]at hA hI;obtain⟨c0,c1,c2,c3,c4⟩:=hA;obtain⟨_,k17,k85,_,k21,k20,_,k73⟩:=hI;have hA7:=p.pa (p.n.of k73 hl2) hmk k17 (by rw[k20]) (by rw[k21]);have hb7:=k85;have hL2:(G21 V).CL 7 J2:=hA7.1;refine⟨hL2,(aC ?_ (aC ?_ aN))⟩
      .intro V3 hq3 hO3;obtain⟨hn3,z7⟩:=hO3;have hb3:=zE hb2 hn3.1;simp only[Nat.reduceAdd]at hb3;refine (fO (lO [] hb3 ?_) (lO [] hb3 ?_))
       .intro J3 hl3 hA hr3 hid3 hI;simp +decide only[DD,aA hβ,aA hb1,aA hb2]at hA hI;obtain⟨_,l17,l84,l72,l18,l16,l73⟩:=hI;exact⟨p.n.of l73 hl3,⟨l73,l16,l17,l18,l72⟩,fun h=>by cases l84.1 h⟩
       .intro J3 hl3 hA hr3 hid3 hI;simp +decide only[DD,aA hβ,aA hb1,aA hb2]at hA hI;obtain⟨d0,d1,d2,d3,d4,d5⟩:=hA;obtain⟨_,l17,_,l72,l18,l16,l73⟩:=hI;have nr:ai8 (T0 V) (gB V3 84):=nr7 hmk (by omega) (by omega) hb7 hA7.2 z7;exact⟨p.n.of l73 hl3,⟨l73,l16,l17,l18,l72⟩,fun _=>aPN nr (by assumption)⟩
      .intro V3 hq3 hO3;obtain⟨hn3,z7⟩:=hO3;have hb3:=zE hb2 hn3.1;simp only[Nat.reduceAdd]at hb3;refine (pO [] hb3 rfl ?_)
       .intro J3 hl3 hA hr3 hid3 hI;simp +decide only[DD,aA hβ,aA hb1,aA hb2]at hA hI;obtain⟨l33,_,l17,l23,l32,l31,_,l72,l18,l16,l73⟩:=hI;have sr:aaY (T0 V) V3:=sr7 hmk (by omega) (by omega) hb7 hA7.2 z7;obtain⟨cs,dt,hne,nm⟩:=sr;have hnL:Ln J3:=p.n.of l73 hl3;have nm1:Num6 cs J3:=nm.of' l33 l31 l32;have q9:=abK dt nm (by omega) hnL l33 l31 l23;have hL3:(G21 V).L 8 J3:=⟨q9.1,⟨l73,l16,l17,l18,l72⟩,l23,by rw[q9.2];exact dt,by rw[q9.2];exact hne,by rw[q9.2];exact nm1⟩
        refine⟨hL3,(oC ?_ (oC ?_ oN))⟩
        .intro V4 hq4 hO4;obtain⟨hn4,sm,hz⟩:=hO4;have hb4:=hn4.1;have hz:SmN J3 V4/\∀ c∈zZ J3,Prs c:=hz;refine (lO [] hb4 ?_)
         .intro J4 hl4 hA hr4 hid4 hI;simp only[DD]at hI;obtain⟨m33,_,m17,m32,m31,m30,m72,m18,m16,m73⟩:=hI;exact⟨hn4.of m73 hl4,SmT.trans hL3.2.1 (SmT.trans sm ⟨m73,m16,m17,m18,m72⟩),cs,dt,hne,(nm1.of hz.1).of ⟨⟨m73,m30,m33,m31⟩,m32⟩,by rw[q9.2]at hz;exact hz.2⟩
        .intro V4 hq4 hO4;obtain⟨hn4,sm,hz⟩:=hO4;have hb4:=hn4.1;refine (lO [] hb4 ?_)
         .intro J4 hl4 hA hr4 hid4 hI;simp only[DD]at hI;obtain⟨_,m17,m84,m72,m18,m16,m73⟩:=hI;exact⟨hn4.of m73 hl4,SmT.trans hL3.2.1 (SmT.trans sm ⟨m73,m16,m17,m18,m72⟩),fun h=>by cases m84.1 h⟩
     .intro J2 hl2 hA hr2 hid2 hI;simp +decide only[DD,aA hβ,aA hb1]at hA hI;obtain⟨k33,_,k17,k23,k32,k31,_,k72,k18,k16,k73⟩:=hI;have sr:aaY (T0 V) V2:=sr6 hmk (by omega) hA6.2 z6;obtain⟨cs,dt,hne,nm⟩:=sr;have hnL:Ln J2:=p.n.of k73 hl2;have nm1:Num6 cs J2:=nm.of' k33 k31 k32;have q9:=abK dt nm (by omega) hnL k33 k31 k23;have hL2:(G21 V).L 8 J2:=⟨q9.1,⟨k73,k16,k17,k18,k72⟩,k23,by rw[q9.2];exact dt,by rw[q9.2];exact hne,by rw[q9.2];exact nm1⟩
      refine⟨hL2,(oC ?_ (oC ?_ oN))⟩
      .intro V3 hq3 hO3;obtain⟨hn3,sm,hz⟩:=hO3;have hb3:=hn3.1;have hz:SmN J2 V3/\∀ c∈zZ J2,Prs c:=hz;refine (lO [] hb3 ?_)
       .intro J3 hl3 hA hr3 hid3 hI;simp only[DD]at hI;obtain⟨l33,_,l17,l32,l31,l30,l72,l18,l16,l73⟩:=hI;exact⟨hn3.of l73 hl3,SmT.trans hL2.2.1 (SmT.trans sm ⟨l73,l16,l17,l18,l72⟩),cs,dt,hne,(nm1.of hz.1).of ⟨⟨l73,l30,l33,l31⟩,l32⟩,by rw[q9.2]at hz;exact hz.2⟩
      .intro V3 hq3 hO3;obtain⟨hn3,sm,hz⟩:=hO3;have hb3:=hn3.1;refine (lO [] hb3 ?_)
       .intro J3 hl3 hA hr3 hid3 hI;simp only[DD]at hI;obtain⟨_,l17,l84,l72,l18,l16,l73⟩:=hI;exact⟨hn3.of l73 hl3,SmT.trans hL2.2.1 (SmT.trans sm ⟨l73,l16,l17,l18,l72⟩),fun h=>by cases l84.1 h⟩
theorem aO7{T:List UInt8}{cs:List Int}{γ:Ren}(d:sQ T cs)(o:Num6 cs γ)(hT:T.length<=2147483647)(hn:Ln γ):PL γ:=by
 obtain⟨o1,o2,o3,o4⟩:=o;obtain⟨r1,r2⟩:=jK d;refine⟨hn,by omega,by omega,fun k h0 hk=>r1 _ ?_⟩;have hk':k.toNat<((gN γ 33).take (gI γ 31).toNat).length:=by rw[List.length_take];omega
 have e2:(gN γ 33).getD k.toNat 0=((gN γ 33).take (gI γ 31).toNat)[k.toNat]:=by
  rw[List.getElem_take,List.getD_eq_getElem?_getD,List.getElem?_eq_getElem (by rw[List.length_take]at hk';omega)];rfl
 rw[e2,<-o1];exact List.getElem_mem hk'
theorem ao6{V:Ren}(p:PK V):cR.Holds (G12 V) V:=by
 unfold cR;have hβ:=p.n.1;have p18:=p.i18;have p17:=p.l17;have p72:=p.i72;refine (cO [] hβ ?_)
 .intro J0 hl0 hA hr0 hid0 hI;simp only[DD]at hI;obtain⟨_,i17,_,i18,_,i73⟩:=hI;have pt0:=p.pb (p.n.of i73 hl0) i17 i18;have hL0:(G12 V).CL 5 J0:=pt0.1;refine⟨hL0,(aC ?_ aN)⟩
  .intro V1 hq1 hO1;obtain⟨hn1,hm0⟩:=hO1;have hmk:MkW (T0 J0) (gI V1 87) (gI V1 88):=hm0;clear hm0;rw[pt0.2]at hmk;have rr:=aGG hmk;have tl:=p.len;have hb1:=zE hβ hn1.1;simp only[Nat.reduceAdd]at hb1;refine (cO [] hb1 ?_)
   .intro J1 hl1 hA hr1 hid1 hI;simp +decide only[DD,aA hβ]at hI;obtain⟨_,j17,j72,j18,_,j73⟩:=hI;have pk:PK J1:=⟨p.n.of j73 hl1,by rw[j18];exact p.i18,by rw[j18,j72];exact p.i72,by rw[j17,j18];exact p.l17⟩
    have eT:T0 J1=T0 V:=by unfold T0;rw[j17,j18]
    have hL1:(G12 V).CL 21 J1:=pk;refine⟨hL1,(aC ?_ (aC ?_ aN))⟩
    .intro V2 hq2 hO2;obtain⟨hn2,z0⟩:=hO2;have z:gB V2 84=true->sQ (T0 J1) []:=z0;clear z0;rw[eT]at z;have hb2:=zE hb1 hn2.1;simp only[Nat.reduceAdd]at hb2;refine (fO (fO (lO [] hb2 ?_) (lO [] hb2 ?_)) (lO [] hb2 ?_))
     .intro J2 hl2 hA hr2 hid2 hI;simp +decide only[DD,aA hβ,aA hb1]at hA hI;obtain⟨c0,c1⟩:=hA;obtain⟨_,k17,_,k72,k18,k16,k73⟩:=hI;exact⟨p.n.of k73 hl2,⟨k73,k16,k17,k18,k72⟩,fun _=>aoX hmk (by assumption) (z (by assumption)) (fun c hc=>by cases hc) (fun c hc=>by cases hc)⟩
     .intro J2 hl2 hA hr2 hid2 hI;simp +decide only[DD,aA hβ,aA hb1]at hA hI;obtain⟨_,k17,k84,k72,k18,k16,k73⟩:=hI;exact⟨p.n.of k73 hl2,⟨k73,k16,k17,k18,k72⟩,fun h=>by cases k84.1 h⟩
     .intro J2 hl2 hA hr2 hid2 hI;simp +decide only[DD,aA hβ,aA hb1]at hA hI;obtain⟨_,k17,k84,k72,k18,k16,k73⟩:=hI;exact⟨p.n.of k73 hl2,⟨k73,k16,k17,k18,k72⟩,fun h=>by cases k84.1 h⟩
    .intro V2 hq2 hO2;obtain⟨hn2,z0⟩:=hO2;have z:∃ cs,sQ (T0 J1) cs/\cs≠[]/\Num6 cs V2/\∀ c∈cs,Prs c:=z0;clear z0;rw[eT]at z;obtain⟨cs,dt,hne,nm,prs⟩:=z;have hb2:=zE hb1 hn2.1;simp only[Nat.reduceAdd]at hb2;refine (fO (cO [] hb2 ?_) (lO [] hb2 ?_))
     .intro J2 hl2 hA hr2 hid2 hI;simp +decide only[DD,aA hβ,aA hb1]at hA hI;have c0:=hA;obtain⟨_,k33,k32,k31,_,k73⟩:=hI;have nm2:Num6 cs J2:=nm.of' k33 k31 k32;have pl:PL J2:=aO7 dt nm2 (by have:=p.len;omega) (p.n.of k73 hl2);have hL2:(G12 V).CL 22 J2:=pl;refine⟨hL2,(aC ?_ aN)⟩
      .intro V3 hq3 hO3;obtain⟨hn3,z2⟩:=hO3;have z2:gB V3 84=true->∀ c∈NL J2,NPl c:=z2;have eN:NL J2=cs:=nm2.b;have hb3:=zE hb2 hn3.1;simp only[Nat.reduceAdd]at hb3;refine (lO [] hb3 ?_)
       .intro J3 hl3 hA hr3 hid3 hI;simp +decide only[DD,aA hβ,aA hb1,aA hb2]at hA hI;have d0:=hA;obtain⟨l33,_,l17,l84,l32,l31,_,l72,l18,l16,l73⟩:=hI;exact⟨p.n.of l73 hl3,⟨l73,l16,l17,l18,l72⟩,cs,dt,hne,nm.of' l33 l31 l32,fun h=>aoX hmk (by assumption) dt (fun c hc=>(prs c hc).1) (by have:=z2 (l84.1 h);rw[eN]at this;exact this)⟩
     .intro J2 hl2 hA hr2 hid2 hI;simp +decide only[DD,aA hβ,aA hb1]at hA hI;obtain⟨k33,_,k17,k84,k32,k31,_,k72,k18,k16,k73⟩:=hI;exact⟨p.n.of k73 hl2,⟨k73,k16,k17,k18,k72⟩,cs,dt,hne,nm.of' k33 k31 k32,fun h=>by cases k84.1 h⟩
end U
