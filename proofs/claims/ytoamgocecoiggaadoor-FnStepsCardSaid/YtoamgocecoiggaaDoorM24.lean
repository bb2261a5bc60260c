-- the statement of this claim: see YtoamgocecoiggaaDoorRs
import Derived.Test.YtoamgocecoiggaaDoorM23
set_option linter.unusedVariables false
set_option linter.unusedSimpArgs false
set_option maxRecDepth 100000
noncomputable section
open Go Go.SM Go.Proofs
namespace U
theorem anT{V:Ren}{w:Int}(h1:1<=wd (bb V)):(wd (bb V)=1/\ia (bb V) 128=0)\/(wd (bb V)=2/\¬ ia (bb V) 128=0/\ia (bb V) 224=192)\/(wd (bb V)=3/\¬ ia (bb V) 128=0/\¬ ia (bb V) 224=192/\ia (bb V) 240=224) \/
    (wd (bb V)=4/\¬ ia (bb V) 128=0/\¬ ia (bb V) 224=192/\¬ ia (bb V) 240=224/\ia (bb V) 248=240):=by
 by_cases a1:ia (bb V) 128=0
 .exact .inl ⟨wd1 a1,a1⟩
 by_cases a2:ia (bb V) 224=192
 .exact .inr (.inl ⟨wd2 a1 a2,a1,a2⟩)
 by_cases a3:ia (bb V) 240=224
 .exact .inr (.inr (.inl ⟨wd3 a1 a2 a3,a1,a2,a3⟩))
 by_cases a4:ia (bb V) 248=240
 .exact .inr (.inr (.inr ⟨wd4 a1 a2 a3 a4,a1,a2,a3,a4⟩))
 .exfalso
  unfold wd at h1
  rw[if_neg a1,if_neg a2,if_neg a3,if_neg a4]at h1
  omega
theorem KSm.trans{a b c:Ren}(h:KSm a b)(g:KSm b c):KSm a c:=⟨g.h0.trans h.h0,g.h1.trans h.h1,g.h73.trans h.h73,g.h74.trans h.h74,g.l3.trans h.l3,g.i75.trans h.i75,fun i hi=>(g.op i hi).trans (h.op i hi)⟩
structure KA(a b:Ren):Prop where
 s:KSm a b
 i76:gI b 76=gI a 76
 i8:gI b 8=gI a 8
 i77:gI b 77=gI a 77
 i78:gI b 78=gI a 78
theorem KA.bb{a b:Ren}(h:KA a b):bb b=bb a:=by unfold U.bb;rw[h.s.l3,h.i76]
theorem KA.kp{a b:Ren}(h:KA a b)(p:KP a)(hn:Ln b):KP b:=by
 have e:=h.bb;exact⟨hn,by rw[h.s.l3];exact p.buf,by rw[e];exact p.w,by rw[h.i76,e,h.s.i75];exact p.le,by rw[h.i8];exact p.un,by rw[h.i77];exact p.ix,by rw[h.i78];exact p.co⟩
def aq5(k:Value):Blk:={ cells:=k::List.replicate 8 (.chan none),elem:=33,ro:=false,live:=true }
theorem wdT:((List.range 256).all fun b=>decide (wd (b:Int)=if b<128 then 1 else if b<192 then 0 else if b<224 then 2 else if b<240 then 3 else if b<248 then 4 else 0))=true:=by decide
theorem ag0{b:Nat}(h:b<256):wd (b:Int)=if b<128 then 1 else if b<192 then 0 else if b<224 then 2 else if b<240 then 3 else if b<248 then 4 else 0 :=
 of_decide_eq_true (List.all_eq_true.1 wdT b (List.mem_range.2 h))
theorem cE{v:Int}(hp:Prn v):∃ b l,enc1 v=b::l/\wd ((b.toNat:Nat):Int)=((enc1 v).length:Int)/\b.toNat≠0:=by
 have hv:9<=v/\v<=1114111:=by unfold Prn at hp;omega
 unfold enc1;split
 .rename_i h;refine⟨_,[],rfl,?_,?_⟩
  ·have : (u8 (IntKind.u8.wrap v)).toNat = v.toNat := by
     have e:IntKind.u8.wrap v=v:=IntWalk.u8_in v (by omega);rw[e,u8,UInt8.toNat_ofNat',Nat.mod_eq_of_lt (by omega)]
   rw[this,ag0 (by omega),if_pos (by omega)];rfl
  ·have : (u8 (IntKind.u8.wrap v)).toNat = v.toNat := by
     have e:IntKind.u8.wrap v=v:=IntWalk.u8_in v (by omega);rw[e,u8,UInt8.toNat_ofNat',Nat.mod_eq_of_lt (by omega)]
   omega
 .split
  .rename_i h1 h2;have hs:sr v 6=v/64:=by simp only[IOp.fn];rw[Int.fdiv_eq_ediv_of_nonneg _ (by decide)];rfl
   have e:(u8 (IntKind.u8.wrap (sr v 6+192))).toNat=(v/64+192).toNat:=by
    rw[hs,show IntKind.u8.wrap (v/64+192)=v/64+192 from IntWalk.u8_in _ (by omega),u8,UInt8.toNat_ofNat',Nat.mod_eq_of_lt (by omega)]
   refine⟨_,_,rfl,?_,by rw[e];omega⟩;rw[e,ag0 (by omega),if_neg (by omega),if_neg (by omega),if_pos (by omega)];rfl
  .split
   .rename_i h1 h2 h3;have hs:sr v 12=v/4096:=by simp only[IOp.fn];rw[Int.fdiv_eq_ediv_of_nonneg _ (by decide)];rfl
    have e:(u8 (IntKind.u8.wrap (sr v 12+224))).toNat=(v/4096+224).toNat:=by
     rw[hs,show IntKind.u8.wrap (v/4096+224)=v/4096+224 from IntWalk.u8_in _ (by omega),u8,UInt8.toNat_ofNat',Nat.mod_eq_of_lt (by omega)]
    refine⟨_,_,rfl,?_,by rw[e];omega⟩;rw[e,ag0 (by omega),if_neg (by omega),if_neg (by omega),if_neg (by omega),if_pos (by omega)];rfl
   .rename_i h1 h2 h3;have hs:sr v 18=v/262144:=by simp only[IOp.fn];rw[Int.fdiv_eq_ediv_of_nonneg _ (by decide)];rfl
    have e:(u8 (sr v 18+240)).toNat=(v/262144+240).toNat:=by
     rw[hs,u8,UInt8.toNat_ofNat',Nat.mod_eq_of_lt (by omega)]
    refine⟨_,_,rfl,?_,by rw[e];omega⟩;rw[e,ag0 (by omega),if_neg (by omega),if_neg (by omega),if_neg (by omega),if_neg (by omega),if_pos (by omega)];rfl
theorem DR.prn{e:Int}{R R':List UInt8}{cs:List Int}(h:DR e R cs R'):∀ v∈cs,Prn v:=by
 induction h with
 |nil R=>intro v hv;cases hv
 |cons h1 h2 h3 h4 _ ih =>
  intro v hv;rcases List.mem_cons.1 hv with rfl|hv
  .exact h4
  .exact ih v hv
theorem DR.nil_inv{e:Int}{R':List UInt8}{cs:List Int}(h:DR e [] cs R'):cs=[]/\R'=[]:=by
 cases h with
 |nil R=>exact⟨rfl,rfl⟩
 |cons h1 h2 h3 h4 _=>simp at h3;omega
structure AlW(a b:Ren):Prop where
 l17:gL b 17=gL a 17
 i18:gI b 18=gI a 18
 l3:gL b 3=gL a 3
 l4:gL b 4=gL a 4
 i6:gI b 6=gI a 6
 i7:gI b 7=gI a 7
 i8:gI b 8=gI a 8
 i9:gI b 9=gI a 9
 i10:gI b 10=gI a 10
 b11:gB b 11=gB a 11
 i19:gI b 19=gI a 19
 i75:gI b 75=gI a 75
 i76:gI b 76=gI a 76
theorem AlW.rest{a b:Ren}(h:AlW a b):zH b=zH a:=rest_of h.l4 h.i6 h.i7 h.l17 h.i18 h.i19
theorem AlW.win{a b:Ren}(h:AlW a b):win b=win a:=by unfold U.win;rw[h.l3,h.i75,h.i76]
theorem AlW.pu{a b:Ren}(h:AlW a b)(p:PU a)(hn:Ln b):PU b:=by
 have h8:=h.i8;have h75:=h.i75;have h76:=h.i76;have:=p.le;have:=p.b5;have:=p.b6;exact⟨p.p.of hn h.l4 h.i6 h.i7 h.b11 h.l17 h.i18 h.i19,by rw[h.l3];exact p.buf,by omega,by omega,by omega,by rw[h.i9,h.rest];exact p.off⟩
structure DY(R0:List UInt8)(done:List Int)(V:Ren):Prop where
 pu:PU V
 sm:(zH V).length<=2000000
 ix:0<=gI V 77/\gI V 77=(done.length:Int)
 co:gI V 78=gI V 77
 st:(gI V 10=0/\done=[]/\zH V=R0/\win V=[]/\gI V 8=0) \/
  (1<=gI V 10/\∃ (R1:List UInt8) (us:List Int) (z:List UInt8),Mk 0 R0 (gI V 10) R1/\R1.length<=2000000/\DR (gI V 10) R1 (done++us) (zH V)/\win V=encs us++z/\gI V 8=us.length+z.length/\(z=[]\/(z=[0]/\zH V=[])))
structure DZ(R0:List UInt8)(done:List Int)(V:Ren):Prop where
 pu:PU V
 e:1<=gI V 10
 st:∃ (R1:List UInt8) (us:List Int) (z:List UInt8),Mk 0 R0 (gI V 10) R1/\R1.length<=2000000/\DR (gI V 10) R1 (done++us) (zH V)/\win V=encs us++z/\gI V 8=us.length+z.length/\1<=gI V 8/\(z=[]\/(z=[0]/\zH V=[]))
theorem pB{γ:Ren}(hb:(gL γ 3).length=1536)(hl:0<=gI γ 76/\gI γ 76<=gI γ 75/\gI γ 75<=1536):((win γ).length:Int)=gI γ 75-gI γ 76:=by
 unfold win;rw[List.length_drop,List.length_take];omega
theorem aPF{γ:Ren}(pu:PU γ)(h76:0<=gI γ 76)(h75:gI γ 75<=1536){b:UInt8}{l:List UInt8}(h:win γ=b::l):bb γ=((b.toNat:Nat):Int)/\1<=gI γ 75-gI γ 76:=by
 have hb:=pu.buf;have hle:=pu.le;have hl:=pB hb ⟨h76,hle,h75⟩;rw[h]at hl;simp only[List.length_cons]at hl;have e:=drop_cons (L:=gL γ 3) (a:=(gI γ 76).toNat) (b:=(gI γ 75).toNat) (by omega) (by omega);unfold win at h;rw[e]at h;unfold bb;rw[(List.cons.inj h).1];exact⟨rfl,by omega⟩
theorem DR.encs{e:Int}{R R':List UInt8}{cs:List Int}(h:DR e R cs R'):(U.encs cs).length+2*R'.length<=2*R.length:=by
 induction h with
 |nil R=>simp[U.encs]
 |cons h1 h2 h3 h4 _ ih =>
  obtain⟨w1,w2,w3⟩:=aCV h1;simp only[U.encs,List.flatMap_cons,List.length_append]at ih ⊢;rw[List.length_drop]at ih;omega
structure DO(done:List Int)(V:Ren):Prop where
 ne:done≠[]
 out:(gL V 82).take (gI V 80).toNat=encs done
 n:gI V 80=(encs done).length
 cl:gI V 81<=(gL V 82).length
abbrev aQL:List TB:=[(.lt (v 8) (v 12))]
abbrev aPH:SgT:=[bm 0,bm 73]
abbrev aSC:SgT:=im 72::im 18::bm 16::(ids ([32]++dn 30 11)++(im 12::aPH))
abbrev aON:SgT:=bm 74::lm 17::lm 4::lm 3::(ids (dn 71 6++dn 64 21)++(im 9::im 10::im 7::im 6::bm 2::(39,.idn)::im 8::im 76::im 75::bm 1::(11,.btm (.var 11))::im 19::aSC))
abbrev aRY:SgT:=bm 74::lm 17::lj 4 94::lj 3 93::(ids (dn 71 6++dn 64 21)++(ij 9 99::ij 10 100::ij 7 97::ij 6 96::bm 2::(39,.idn)::ij 8 98::ij 76 166::ij 75 165::bm 1::(11,.btm (.var 101))::ij 19 109::aSC))
def aV:Tre:=(.fork (.call 42 90 90 (rgs spU.n spU.tin) (SgT.enc aON) (List.map TB.enc aQL) (.cons (rgs 0 tUo++rgV (.bool true)) (lf 0 90 180 (rgs aj3.n tUo) aRY aQL)
 (.cons (rgs 0 tEw++rgV (.bool false)) (lf 1 90 180 (rgs aj3.n tEw) (bm 74::aPH) aQL)
 .nil)))
 (lf 0 90 90 (rgs aj3.n tUo) aON [(nl (v 8) (v 12))]))
theorem aeR:aA3=aV:=by kernel_rfl
def H9:Tre:=(.call 31 90 90 (rgs (spC 31).n (spC 31).tin) (SgT.enc aON) (List.map TB.enc []) (.cons (rgs 0 tUo++rgV (.bool true)) (lf 0 90 180 (rgs aw1.n tUo) aRY [])
 (.cons (rgs 0 tEw++rgV (.bool false)) (lf 1 90 180 (rgs aw1.n tEw) (bm 74::aPH) [])
 .nil)))
theorem adU:az2=H9:=by kernel_rfl
theorem ajY{V:Ren}(pu:PU V)(r:RU V):aV.Holds (GC V) V:=by
 unfold aV;have hβ:=pu.p.n.1;refine (fO (cO opX hβ ?_) (lO opX hβ ?_))
 .intro J0 hl0 hA hr0 hid0 hI;simp only[DD]at hA hI;obtain⟨i74,i17,i4,i3,i9,i10,i7,i6,i2,i8,i76,i75,i1,i11,i19,i72,i18,i16,i12,i0,i73⟩:=hI;have ea:Al V J0:=⟨⟨i0,i1,i2,i16,i73,i74,i17,i18,i72,hid0⟩,i3,i4,i6,i7,i8,i9,i10,Bool.eq_iff_iff.2 i11,i19,i75,i76⟩
  have hL0:(GC V).CL 42 J0:=ea.pu pu (pu.p.n.of i73 hl0);refine⟨hL0,(aC ?_ (aC ?_ aN))⟩
  .intro V1 hq1 hO1;obtain⟨hn1,ut⟩:=hO1;have hb1:=zE hβ hn1.1;simp only[Nat.reduceAdd]at hb1;refine (lO opX hb1 ?_)
   .intro J1 hl1 hA hr1 hid1 hI;simp +decide only[DD,aA hβ]at hA hI;obtain⟨j74,j17,j4,j3,j9,j10,j7,j6,j2,j8,j76,j75,j1,j11,j19,j72,j18,j16,_,j0,j73⟩:=hI;have us1:Us V J1:=⟨j0,j1,j2,j16,j73,j74,j17,j18,j72,uU hβ (by decide) hid1⟩
    have s1:=ut.s;have eb:Al V1 J1:=⟨⟨by rw[j0,s1.h0,i0],by rw[j1,s1.h1,i1],by rw[j2,s1.h2,i2],by rw[j16,s1.h16,i16],by rw[j73,s1.h73,i73],by rw[j74,s1.h74,i74],by rw[j17,s1.l17,i17],by rw[j18,s1.i18,i18],by rw[j72,s1.i72,i72],fun x hx=>by rw[us1.op x hx,s1.op x hx,ea.s.op x hx]⟩,j3,j4,j6,j7,j8,j9,j10,Bool.eq_iff_iff.2 j11,j19,j75,j76⟩
    exact afY ut ea i12 eb (hn1.of eb.s.h73 hl1)
  .intro V1 hq1 hO1;obtain⟨hn1,ue⟩:=hO1;have hb1:=zE hβ hn1.1;simp only[Nat.reduceAdd]at hb1;refine (lO [] hb1 ?_)
   .intro J1 hl1 hA hr1 hid1 hI;simp +decide only[DD,aA hβ]at hA hI;obtain⟨_,j0,j73⟩:=hI;exact ag4 ue ea (j0.trans (i0.symm.trans ue.1.1.symm)) (j73.trans (i73.symm.trans ue.1.2.symm))
 .intro J0 hl0 hA hr0 hid0 hI;simp only[DD]at hA hI;obtain⟨i74,i17,i4,i3,i9,i10,i7,i6,i2,i8,i76,i75,i1,i11,i19,i72,i18,i16,_,i0,i73⟩:=hI;have ea:Al V J0:=⟨⟨i0,i1,i2,i16,i73,i74,i17,i18,i72,hid0⟩,i3,i4,i6,i7,i8,i9,i10,Bool.eq_iff_iff.2 i11,i19,i75,i76⟩
  exact axD pu r (pu.p.n.of i73 hl0) ea (by omega)
theorem am9{V:Ren}(pu:PU V)(r:RU V):H9.Holds (GC V) V:=by
 unfold H9;have hβ:=pu.p.n.1;refine (cO opX hβ ?_)
 .intro J0 hl0 hA hr0 hid0 hI;simp only[DD]at hI;obtain⟨i74,i17,i4,i3,i9,i10,i7,i6,i2,i8,i76,i75,i1,i11,i19,i72,i18,i16,i12,i0,i73⟩:=hI;have ea:Al V J0:=⟨⟨i0,i1,i2,i16,i73,i74,i17,i18,i72,hid0⟩,i3,i4,i6,i7,i8,i9,i10,Bool.eq_iff_iff.2 i11,i19,i75,i76⟩
  have hL0:(GC V).CL 31 J0:=ea.pu pu (pu.p.n.of i73 hl0);refine⟨hL0,(aC ?_ (aC ?_ aN))⟩
  .intro V1 hq1 hO1;obtain⟨hn1,ut⟩:=hO1;have hb1:=zE hβ hn1.1;simp only[Nat.reduceAdd]at hb1;refine (lO opX hb1 ?_)
   .intro J1 hl1 hA hr1 hid1 hI;simp +decide only[DD,aA hβ]at hI;obtain⟨j74,j17,j4,j3,j9,j10,j7,j6,j2,j8,j76,j75,j1,j11,j19,j72,j18,j16,_,j0,j73⟩:=hI;have us1:Us V J1:=⟨j0,j1,j2,j16,j73,j74,j17,j18,j72,uU hβ (by decide) hid1⟩
    have s1:=ut.s;have eb:Al V1 J1:=⟨⟨by rw[j0,s1.h0,i0],by rw[j1,s1.h1,i1],by rw[j2,s1.h2,i2],by rw[j16,s1.h16,i16],by rw[j73,s1.h73,i73],by rw[j74,s1.h74,i74],by rw[j17,s1.l17,i17],by rw[j18,s1.i18,i18],by rw[j72,s1.i72,i72],fun x hx=>by rw[us1.op x hx,s1.op x hx,ea.s.op x hx]⟩,j3,j4,j6,j7,j8,j9,j10,Bool.eq_iff_iff.2 j11,j19,j75,j76⟩
    exact afY ut ea i12 eb (hn1.of eb.s.h73 hl1)
  .intro V1 hq1 hO1;obtain⟨hn1,ue⟩:=hO1;have hb1:=zE hβ hn1.1;simp only[Nat.reduceAdd]at hb1;refine (lO [] hb1 ?_)
   .intro J1 hl1 hA hr1 hid1 hI;simp +decide only[DD,aA hβ]at hI;obtain⟨_,j0,j73⟩:=hI;exact ag4 ue ea (j0.trans (i0.symm.trans ue.1.1.symm)) (j73.trans (i73.symm.trans ue.1.2.symm))
theorem aYW{G:Goal}(hCL:∀ V,G.CL 31 V->PU V)(hCO:∀ V V1,G.CL 31 V->PU V->Ln V1->UT V V1->G.CO 31 0 V V1)(hCE:∀ V V1,G.CL 31 V->PU V->Ln V1->UE V V1->G.CO 31 1 V V1):yT Tryd.prog G 31 (spC 31):=by
 refine zU (E:=aj3) (Gt:=GC) (fn:=wK 31) (c:=body 31) (s:=spC 31) zQ zS follows (by kernel_rfl) (by kernel_rfl) (by kernel_rfl) (by kernel_rfl) (by kernel_rfl) (by kernel_rfl) ?_ ?_ ?_ (fun V w0 r s c h=>by rcases h with h|h<;>cases h) (fun V j i V1 V2 h=>h.elim) (fun V r s h=>by rcases h with h|h<;>cases h) ?_
 .intro e j tp h;rcases h with h|h
  .cases e with
   |normal=>cases h;exact⟨(fun id h=>by cases h),.bool true,by kernel_rfl,_,rfl⟩
   |ret=>cases h;exact⟨(fun id h=>by cases h),.bool true,by kernel_rfl,_,rfl⟩
   |exit id=>cases h
  .cases e with
   |normal=>cases h
   |ret=>cases h;exact⟨(fun id h=>by cases h),.bool false,by kernel_rfl,_,rfl⟩
   |exit id=>cases h
 .intro V hcl hlen hr;have pu:=hCL V hcl;refine⟨pu.p.n.2,[],2000,Facts.nil _,?_⟩;show (aA3).Holds (GC V) V;rw[aeR];exact ajY pu (ajJ hr)
 .intro V j v tp sm V1 hcl hout hlen _ hJ;have pu:=hCL V hcl;exact af1 (G:=G) (j:=31) pu hout hlen hJ (fun hn h=>hCO V V1 hcl pu hn h) (fun hn h=>hCE V V1 hcl pu hn h)
 .intro V f s hs;have hs:aNG f=some s:=hs;unfold aNG at hs;split at hs
  .rename_i hf;subst hf;cases hs;exact aUT (fun _ h=>h) (fun _ _ _ _ a b=>⟨a,b⟩) (fun _ _ _ _ a b=>⟨a,b⟩)
  .cases hs
theorem aT5{G:Goal}(hCL:∀ V,G.CL 17 V->PU V)(hCO:∀ V V1,G.CL 17 V->PU V->Ln V1->UT V V1->G.CO 17 0 V V1)(hCE:∀ V V1,G.CL 17 V->PU V->Ln V1->UE V V1->G.CO 17 1 V V1):yT Tryd.prog G 17 (spC 17):=by
 refine zU (E:=aw1) (Gt:=GC) (fn:=wK 17) (c:=body 17) (s:=spC 17) zQ zS follows (by kernel_rfl) (by kernel_rfl) (by kernel_rfl) (by kernel_rfl) (by kernel_rfl) (by kernel_rfl) ?_ ?_ ?_ (fun V w0 r s c h=>by rcases h with h|h<;>cases h) (fun V j i V1 V2 h=>h.elim) (fun V r s h=>by rcases h with h|h<;>cases h) ?_
 .intro e j tp h;rcases h with h|h
  .cases e with
   |normal=>cases h;exact⟨(fun id h=>by cases h),.bool true,by kernel_rfl,_,rfl⟩
   |ret=>cases h;exact⟨(fun id h=>by cases h),.bool true,by kernel_rfl,_,rfl⟩
   |exit id=>cases h
  .cases e with
   |normal=>cases h
   |ret=>cases h;exact⟨(fun id h=>by cases h),.bool false,by kernel_rfl,_,rfl⟩
   |exit id=>cases h
 .intro V hcl hlen hr;have pu:=hCL V hcl;refine⟨pu.p.n.2,[],2000,Facts.nil _,?_⟩;show (az2).Holds (GC V) V;rw[adU];exact am9 pu (ajJ hr)
 .intro V j v tp sm V1 hcl hout hlen _ hJ;have pu:=hCL V hcl;exact af1 (G:=G) (j:=17) pu hout hlen hJ (fun hn h=>hCO V V1 hcl pu hn h) (fun hn h=>hCE V V1 hcl pu hn h)
 .intro V f s hs;have hs:aNZ f=some s:=hs;unfold aNZ at hs;split at hs
  .rename_i hf;subst hf;cases hs;exact aYW (fun _ h=>h) (fun _ _ _ _ a b=>⟨a,b⟩) (fun _ _ _ _ a b=>⟨a,b⟩)
  .cases hs
end U
open Go Go.SM Go.Proofs
namespace Go.SM
theorem gC{E:Env}{w0:W0}{G:Goal}{Q:Exit->Act->World->Prop}{k:Nat}{c:Code}{A:List Value}{F:Tr Value}{H:AS}{V:Ren}{a:Act}{w:World}
    (hN:vJ E.P) (hC:xH E.P (E.gl []) E.call) (hm:E.P.follows .mixedOrders=true) (hh:(tre E k c [] A F H).Holds G V) (hg:wV E.g V) (hH:HR w0 V H w) (hA:Facts V A) (hF:FS V E.n F a)
    (hJ:∀ (j:Nat) (e:AExit) (tp:Tpl) (V1:Ren) (a:Act) (w:World),(E.ft e=some (j,tp)\/E.ft2 e=some (j,tp))->HR w0 V1 tp.heap w->FS V1 E.n tp.frame a->G.J j V1->Q e.conc a w)
    (hW:∀ (r:Nat) (s:LSpec) (c:Code),E.lt r=some s\/E.bt r=some s->G.W s.j c->tW E w0 G s c)
    (hO:∀ j i V1 V2,G.O j i V1 V2->wV E.g V2)
    (hO2:∀ (r:Nat) (s:LSpec),E.lt r=some s\/E.bt r=some s->∀ (i:Nat) (e:AExit) (tp:Tpl) (B:List Value),s.outs[i]?=some (e,tp,B)->∀ (V1 V2:Ren),G.O s.j i V1 V2->Facts V2 B)
    (hCT:∀ f s,E.ct f=some s->yT E.P G f s):c.wp E.P Q a w :=
 (pP hN hC hm hJ hW hO hO2 hCT k).1 c [] A F H V [] a w hh hg (by rw[List.append_nil];exact hH) (by rw[List.append_nil];exact hA) (by rw[List.append_nil];exact hF)
end Go.SM
namespace U
def aZ5:Blk:={ cells:=List.replicate 52 (.chan none),elem:=76,ro:=false,live:=true }
def vM:Blk:={ cells:=[],elem:=5,ro:=true,live:=true,seq:=some (x 17) }
def xB:Blk:={ cells:=[.iface 89 (.pointer (some ⟨74,0,none⟩))],elem:=86,ro:=true,live:=true }
def aR0(i:Nat):Blk:={ cells:=[],elem:=5,ro:=false,live:=true,seq:=some (x i) }
def aSS(i:Nat):Value :=
 if [1,7].contains i then .string .empty else if i=11 then .nilFunc else if i=12 then .nilIface else if [15,34,35,40,43].contains i then .bool false
 else if [13,16,20,27,28,29,30,31,32,37,42,44,47,48,49,50].contains i then .slice none 0 0 else if i=45 then .chan none else if i=51 then .pointer none else Z 0
def aoF(upd:List (Nat × Value)):List Value:=(List.range 52).map fun i=>match upd.find? fun p=>Nat.beq p.1 i with
 |some p=>p.2
 |none=>aSS i
def a0F:List (Nat × Value):=[(16,sL 1 (Z 0) (Z 0) (Z 1536)),(20,sL 2 (Z 0) (Z 0) (Z 512))]
def HZ(upd:List (Nat × Value)):List (Nat × Blk):=[(0,{ cells:=aoF (upd++a0F),elem:=76,ro:=false,live:=true }),(1,aR0 3),(2,aR0 4),(73,xB)]
def t40:Tpl:={ m:=90,F:=[(0,pt 0)],H:=[(0,aZ5),(73,xB)],G:=[73] }
def ai2:Tpl:={ m:=90,F:=[(0,pt 0),(2,.bool true)],H:=HZ [],G:=[73] }
def ajW:Tpl:={ m:=90,F:=[(2,pt 0)],H:=HZ [],G:=[73] }
def aq1:List (Nat × Nat):=[(0,0),(73,0),(74,0)]
def auM:CSpec:={ j:=40,n:=1,tin:=t40,outs:=[(.bool true,ai2,aq1)] }
def al9:CSpec:={ j:=28,n:=1,tin:=t40,outs:=[(.tuple #[],ajW,aq1)] }
def t14:Tpl:={ m:=90,F:=[(0,sL 16 (Z 0) (x 18) (x 72))],H:=[(16,vM),(73,xB)],G:=[73] }
def ad9:Tpl:={ m:=90,F:=[(2,pt 0)],H:=HZ [(11,.func (.func 47) #[] #[]),(13,sL 16 (Z 0) (x 18) (x 72))]++[(16,vM)],G:=[73] }
def jX:CSpec:={ j:=14,n:=1,tin:=t14,outs:=[(pt 0,ad9,[(16,0),(17,2),(18,1),(72,1),(73,0),(74,0)])] }
def aZY:AExit->Option (Nat × Tpl):=fun e=>match e with
 | .normal=>some (0,ai2)
 | .ret=>some (0,ai2)
 |_=>none
def aZL:AExit->Option (Nat × Tpl):=fun e=>match e with
 | .normal=>some (0,ajW)
 | .ret=>some (0,ajW)
 |_=>none
def aZB:AExit->Option (Nat × Tpl):=fun e=>match e with
 | .normal=>some (0,ad9)
 | .ret=>some (0,ad9)
 |_=>none
def ctI(g:Nat)(s:CSpec):FuncId->Option CSpec:=fun f=>if f=g then some s else none
def E40:Env:={ EG 40 (fun _=>none) (fun _=>false) (fun _=>none) (fun _=>none) aZY (fun _=>none) with al:=fun n=>if n=1 then some [0,2,1,3,4,5] else none }
def E28:Env:=EG 28 (ctI 40 auM) (fun n=>Nat.beq n 0) (fun _=>none) (fun _=>none) aZL (fun _=>none)
def E14:Env:=EG 14 (ctI 28 al9) (fun n=>Nat.beq n 2) (fun _=>none) (fun _=>none) aZB (fun _=>none)
def aBU:Tre:=tre E40 2000 (body 40) [] [] t40.frame t40.heap
def axP:Tre:=tre E28 2000 (body 28) [] [] t40.frame t40.heap
def aE0:Tre:=tre E14 2000 (body 14) [] [] t14.frame t14.heap
abbrev auV:SgT:=[bm 0,bm 73]
def aQ:Tre:=(.fork (lf 0 90 92 (rgs E40.n ai2) (bm 74::(4,.ltm (.lit (List.replicate 512 0)))::(3,.ltm (.lit (List.replicate 1536 0)))::(2,.new 90)::(1,.new 91)::auV) [])
 (lf 0 90 92 (rgs E40.n ai2) (bm 74::(4,.ltm (.lit (List.replicate 512 0)))::(3,.ltm (.lit (List.replicate 1536 0)))::(2,.new 91)::(1,.new 90)::auV) []))
theorem aeB:aBU=aQ:=by kernel_rfl
def K9:Tre:=(.call 40 90 90 (rgs auM.n auM.tin) (SgT.enc (bm 74::auV)) (List.map TB.enc []) (.cons (rgs 0 ai2++rgV (.bool true)) (lf 0 90 180 (rgs E28.n ajW) (bm 74::lj 4 94::lj 3 93::bj 2 92::bj 1 91::auV) [])
 .nil))
theorem abH:axP=K9:=by kernel_rfl
abbrev aTS:SgT:=[bj 0 90,bm 73]
def K7:Tre:=(.call 28 90 91 (rgs al9.n al9.tin) (SgT.enc (bm 74::aTS)) (List.map TB.enc []) (.cons (rgs 0 ajW++rgV (.tuple #[])) (lf 0 90 181 (rgs E14.n ad9) (lm 17::bm 74::lj 4 95::lj 3 94::bj 2 93::bj 1 92::im 72::im 18::bm 16::aTS) [])
 .nil))
theorem adM:aE0=K7:=by kernel_rfl
end U
open Go Go.SM Go.Proofs
namespace Go.SM
theorem aoL{G:Goal}{V:Ren}{n j m h:Nat}{rs A:List TB}{σ:SgT}{ts:Tre}(op:List Nat)(hn:V.length=n)(hk:wR m σ []=true)
    (hop:op.all (fun i=>(idns σ).any (Nat.beq i)&&Nat.blt i n)=true) (H:∀ γ,(V++γ).length=h->∀ V1,V1.length=m->zF (V++γ) A->zF V1 rs->(∀ i∈op,gV V1 i=gV V i)->wA (V++γ) V1 σ->G.CL j V1/\ts.HoldsC G j 0 (V++γ) V1) :
    (Tre.call j m h rs σ.enc (A.map TB.enc) ts).Holds G V:=by
 subst hn
 intro γ hγ hf V1 hI hr
 refine H γ hγ V1 hI.len hf.toP hr (fun i hi=>?_) (hI.toP hk)
 have:=List.all_eq_true.1 hop i hi
 rw[Bool.and_eq_true]at this
 obtain⟨x,hx,he⟩:=List.any_eq_true.1 this.1
 have:=Nat.eq_of_beq_eq_true he
 subst this
 rw[hI.idns hk i hx]
 simp only[gV]
 rw[List.getElem?_append_left (Nat.le_of_ble_eq_true (by assumption:_/\_).2)]
theorem cG{G:Goal}{V:Ren}{n j m h:Nat}{rs A:List TB}{σ:SgT}{ts:Tre}(op:List Nat)(hn:V.length=n)(H:∀ γ,(V++γ).length=h->∀ V1,V1.length=m->zF (V++γ) A->zF V1 rs->(∀ i∈op,gV V1 i=gV V i)->wA (V++γ) V1 σ->G.CL j V1/\ts.HoldsC G j 0 (V++γ) V1)(hk:wR m σ []=true:=by kernel_rfl)(hop:op.all (fun i=>(idns σ).any (Nat.beq i)&&Nat.blt i n)=true:=by kernel_rfl):(Tre.call j m h rs σ.enc (A.map TB.enc) ts).Holds G V:=aoL op hn hk hop H
end Go.SM
namespace U
def PZ(γ:Ren):Prop:=gL γ 3=List.replicate 1536 0/\gL γ 4=List.replicate 512 0
def ZQ(V γ:Ren):Prop:=PZ γ/\γ[0]?=V[0]?/\γ[73]?=V[73]?/\γ[74]?=V[74]?
def GZ(V:Ren):Goal where
 J:=fun _ γ=>ZQ V γ
 L:=fun _ _=>False
 O:=fun _ _ _ _=>False
 W:=fun _ _=>False
 CL:=fun _ γ=>Ln γ
 CO:=fun _ _ γ J1=>Ln J1/\ZQ γ J1
def avD(V γ:Ren):Prop:=PZ γ/\γ[16]?=V[16]?/\gL γ 17=gL V 17/\gI γ 18=gI V 18/\gI γ 72=gI V 72/\γ[73]?=V[73]?/\γ[74]?=V[74]?
def aOS(V:Ren):Goal where
 J:=fun _ γ=>avD V γ
 L:=fun _ _=>False
 O:=fun _ _ _ _=>False
 W:=fun _ _=>False
 CL:=fun _ γ=>Ln γ
 CO:=fun _ _ γ J1=>Ln J1/\ZQ γ J1
def T0(V:Ren):List UInt8:=(gL V 17).take (gI V 18).toNat
structure PT(V:Ren):Prop where
 n:Ln V
 i18:0<=gI V 18/\gI V 18<=1048576
 l17:gI V 18<=(gL V 17).length
theorem aQP{V:Ren}(p:PT V):((T0 V).length:Int)=gI V 18:=by
 have:=p.i18;have:=p.l17;unfold T0;rw[List.length_take];omega
theorem aaE{V γ:Ren}(p:PT V)(hn:Ln γ)(e3:gL γ 3=List.replicate 1536 0)(e4:gL γ 4=List.replicate 512 0)(e6:gI γ 6=0)(e7:gI γ 7=0)(e8:gI γ 8=0)(e9:gI γ 9=0)(e10:gI γ 10=0)(e11:gB γ 11=true↔false=true)(e17:gL γ 17=gL V 17)(e18:gI γ 18=gI V 18)(e19:gI γ 19=0)
    (e75:gI γ 75=0) (e76:gI γ 76=0) (e77:gI γ 77=0) (e78:gI γ 78=0):DY (T0 V) [] γ:=by
 have x18:=p.i18;have xl:=p.l17
 have hr:zH γ=T0 V:=by
  unfold zH zY uJ T0;rw[e6,e7,e17,e18,e19];simp
 have hl:=aQP p
 have pr:PR γ:=⟨hn,by rw[e4];simp,by omega,by omega,by rw[e18,e17];exact xl,by omega,fun h=>by cases e11.1 h⟩
 exact⟨⟨pr,by rw[e3];simp,by omega,by omega,by omega,by rw[hr];omega⟩,by rw[hr];omega,⟨by omega,by rw[e77];rfl⟩,by omega,.inl ⟨e10,rfl,hr,by unfold win;rw[e75];simp,e8⟩⟩
theorem cC{R:List UInt8}{e e':Int}{R1 R1':List UInt8}(h:Mk 0 R e R1)(h':Mk 0 R e' R1'):e=e'/\R1=R1':=by
 rcases h with⟨h,_⟩|⟨_,b,hb,hc⟩
 .exact (h rfl).elim
 rcases h' with⟨h',_⟩|⟨_,b',hb',hc'⟩
 .exact (h' rfl).elim
 have pre:∀ {b:List UInt8} {R1:List UInt8},R=b++R1->b <+: R:=fun h=>⟨_,h.symm⟩
 rcases hc with⟨rfl,rfl⟩|⟨rfl,rfl⟩|⟨rfl,rfl⟩|⟨rfl,rfl,n1,n2,n3⟩<;>rcases hc' with⟨rfl,rfl⟩|⟨rfl,rfl⟩|⟨rfl,rfl⟩|⟨rfl,rfl,m1,m2,m3⟩<;>first
  |exact⟨rfl,List.append_cancel_left (hb.symm.trans hb')⟩
  |(exfalso;rw[hb]at hb';simp at hb';done)
  |exact absurd (pre hb) m1
  |exact absurd (pre hb) m2
  |exact absurd (pre hb) m3
  |exact absurd (pre hb') n1
  |exact absurd (pre hb') n2
  |exact absurd (pre hb') n3
theorem aoS{V:Ren}(hn:Ln V):aQ.Holds (GZ V) V:=by
 unfold aQ;have hβ:=hn.1;refine (fO (lG [] hβ ?_) (lG [] hβ ?_))
 .intro δ0 J0 hl0 hA hr0 hid0 hI;simp +decide only[DD,aL hβ]at hI;obtain⟨i74,i4,i3,i0,i73⟩:=hI;exact⟨⟨i3,i4⟩,i0,i73,i74⟩
 .intro δ0 J0 hl0 hA hr0 hid0 hI;simp +decide only[DD,aL hβ]at hI;obtain⟨i74,i4,i3,i0,i73⟩:=hI;exact⟨⟨i3,i4⟩,i0,i73,i74⟩
theorem akJ{V:Ren}(hn:Ln V):K9.Holds (GZ V) V:=by
 unfold K9;have hβ:=hn.1;refine (cO [] hβ ?_)
 .intro J0 hl0 hA hr0 hid0 hI;simp only[DD]at hI;obtain⟨_,_,i73⟩:=hI;have hL0:(GZ V).CL 40 J0:=hn.of i73 hl0;refine⟨hL0,(aC ?_ aN)⟩
  .intro V1 hq1 hO1;obtain⟨hn1,z⟩:=hO1;have hb1:=zE hβ hn1.1;simp only[Nat.reduceAdd]at hb1;refine (lO [] hb1 ?_)
   .intro J1 hl1 hA hr1 hid1 hI;simp +decide only[DD,aA hβ]at hI;obtain⟨j74,j4,j3,_,_,j0,j73⟩:=hI;exact⟨⟨j3.trans z.1.1,j4.trans z.1.2⟩,j0,j73,j74⟩
theorem aoH{V:Ren}(hn:Ln V):K7.Holds (aOS V) V:=by
 unfold K7;have hβ:=hn.1;refine (cG [] hβ ?_)
 .intro δ0 hδ0 J0 hl0 hA hr0 hid0 hI;simp +decide only[DD,aL hβ]at hI;obtain⟨_,_,i73⟩:=hI;have hL0:(aOS V).CL 28 J0:=hn.of i73 hl0;refine⟨hL0,(aC ?_ aN)⟩
  .intro V1 hq1 hO1;obtain⟨hn1,z⟩:=hO1;have hb1:=zE hδ0 hn1.1;simp only[Nat.reduceAdd]at hb1;refine (lO [] hb1 ?_)
   .intro J1 hl1 hA hr1 hid1 hI;simp +decide only[DD,aL hβ,aA hδ0]at hI;obtain⟨j17,j74,j4,j3,_,_,j72,j18,j16,_,j73⟩:=hI;exact⟨⟨j3.trans z.1.1,j4.trans z.1.2⟩,j16,j17,j18,j72,j73,j74⟩
theorem aMC{V γ:Ren}(q:ZQ V γ):∀ p∈aq1,SmK V γ p:=by
 intro x hx;have hx:x∈[(0,0),(73,0),(74,0)]:=hx;simp only[List.mem_cons,List.not_mem_nil,or_false]at hx;rcases hx with rfl|rfl|rfl
 .exact q.2.1
 .exact q.2.2.1
 .exact q.2.2.2
theorem aR5{G:Goal}(hCL:∀ V,G.CL 40 V->Ln V)(hCO:∀ V V1,G.CL 40 V->Ln V1->ZQ V V1->G.CO 40 0 V V1):yT Tryd.prog G 40 auM:=by
 refine zU (E:=E40) (Gt:=GZ) (fn:=wK 40) (c:=body 40) (s:=auM) zQ zS follows (by kernel_rfl) (by kernel_rfl) (by kernel_rfl) (by kernel_rfl) (by kernel_rfl) (by kernel_rfl) ?_ ?_ ?_ (fun V w0 r s c h=>by rcases h with h|h<;>cases h) (fun V j i V1 V2 h=>h.elim) (fun V r s h=>by rcases h with h|h<;>cases h) (fun V=>t8)
 .intro e j tp h;have h:=h.resolve_right fun h=>by cases h
  cases e with
  |normal=>cases h;exact⟨(fun id h=>by cases h),.bool true,by kernel_rfl,_,rfl⟩
  |ret=>cases h;exact⟨(fun id h=>by cases h),.bool true,by kernel_rfl,_,rfl⟩
  |exit id=>cases h
 .intro V hcl hlen hr;have p:=hCL V hcl;refine⟨p.2,[],2000,Facts.nil _,?_⟩;show (aBU).Holds _ V;rw[aeB];exact aoS p
 .intro V j v tp sm V1 hcl hout hlen _ hJ;have p:=hCL V hcl;have q:ZQ V V1:=hJ;match j,hout with
  |0,hout =>
   cases hout;exact⟨hCO V V1 hcl (p.of q.2.2.1 hlen) q,aMC q⟩
theorem wX{G:Goal}{g:Nat}{s:CSpec}(h:yT Tryd.prog G g s):∀ f s',ctI g s f=some s'->yT Tryd.prog G f s':=by
 intro f s' hs;unfold ctI at hs;split at hs
 .rename_i hf;subst hf;cases hs;exact h
 .cases hs
theorem aUV{G:Goal}(hCL:∀ V,G.CL 28 V->Ln V)(hCO:∀ V V1,G.CL 28 V->Ln V1->ZQ V V1->G.CO 28 0 V V1):yT Tryd.prog G 28 al9:=by
 refine zU (E:=E28) (Gt:=GZ) (fn:=wK 28) (c:=body 28) (s:=al9) zQ zS follows (by kernel_rfl) (by kernel_rfl) (by kernel_rfl) (by kernel_rfl) (by kernel_rfl) (by kernel_rfl) ?_ ?_ ?_ (fun V w0 r s c h=>by rcases h with h|h<;>cases h) (fun V j i V1 V2 h=>h.elim) (fun V r s h=>by rcases h with h|h<;>cases h) (fun V=>wX (aR5 (fun _ h=>h) (fun _ _ _ a b=>⟨a,b⟩)))
 .intro e j tp h;have h:=h.resolve_right fun h=>by cases h
  cases e with
  |normal=>cases h;exact⟨(fun id h=>by cases h),.tuple #[],by kernel_rfl,_,rfl⟩
  |ret=>cases h;exact⟨(fun id h=>by cases h),.tuple #[],by kernel_rfl,_,rfl⟩
  |exit id=>cases h
 .intro V hcl hlen hr;have p:=hCL V hcl;refine⟨p.2,[],2000,Facts.nil _,?_⟩;show (axP).Holds _ V;rw[abH];exact akJ p
 .intro V j v tp sm V1 hcl hout hlen _ hJ;have p:=hCL V hcl;have q:ZQ V V1:=hJ;match j,hout with
  |0,hout =>
   cases hout;exact⟨hCO V V1 hcl (p.of q.2.2.1 hlen) q,aMC q⟩
theorem ak1{G:Goal}(hCL:∀ V,G.CL 14 V->Ln V)(hCO:∀ V V1,G.CL 14 V->Ln V1->avD V V1->G.CO 14 0 V V1):yT Tryd.prog G 14 jX:=by
 refine zU (E:=E14) (Gt:=aOS) (fn:=wK 14) (c:=body 14) (s:=jX) zQ zS follows (by kernel_rfl) (by kernel_rfl) (by kernel_rfl) (by kernel_rfl) (by kernel_rfl) (by kernel_rfl) ?_ ?_ ?_ (fun V w0 r s c h=>by rcases h with h|h<;>cases h) (fun V j i V1 V2 h=>h.elim) (fun V r s h=>by rcases h with h|h<;>cases h) (fun V=>wX (aUV (fun _ h=>h) (fun _ _ _ a b=>⟨a,b⟩)))
 .intro e j tp h;have h:=h.resolve_right fun h=>by cases h
  cases e with
  |normal=>cases h;exact⟨(fun id h=>by cases h),pt 0,by kernel_rfl,_,rfl⟩
  |ret=>cases h;exact⟨(fun id h=>by cases h),pt 0,by kernel_rfl,_,rfl⟩
  |exit id=>cases h
 .intro V hcl hlen hr;have p:=hCL V hcl;refine⟨p.2,[],2000,Facts.nil _,?_⟩;show (aE0).Holds _ V;rw[adM];exact aoH p
 .intro V j v tp sm V1 hcl hout hlen _ hJ;have p:=hCL V hcl;have q:avD V V1:=hJ;match j,hout with
  |0,hout =>
   cases hout;refine⟨hCO V V1 hcl (p.of q.2.2.2.2.2.1 hlen) q,fun x hx=>?_⟩;have hx:x∈[(16,0),(17,2),(18,1),(72,1),(73,0),(74,0)]:=hx;obtain⟨_,q1,q2,q3,q4,q5,q6⟩:=q;simp only[List.mem_cons,List.not_mem_nil,or_false]at hx;rcases hx with rfl|rfl|rfl|rfl|rfl|rfl
   .exact q1
   .exact q2
   .exact q3
   .exact q4
   .exact q5
   .exact q6
def fv(k:Value):Value:=.agg (k::List.replicate 8 (.chan none)).toArray
def kJ:Blk:={ cells:=[],elem:=3,ro:=false,live:=true,seq:=some (nd1 28 (x 33)) }
def wF:Value:=sL 30 (Z 0) (x 31) (x 32)
def nV:Value:=sL 16 (x 20) (x 21) (x 22)
def t6N:Tpl:={ m:=90,F:=[(0,nV),(4,.slice none 0 0),(5,I 23 0 1125899906842624)],H:=[(16,vM),(73,xB)],G:=[73] }
def t6S:Tpl:={ m:=90,F:=[(0,nV),(4,wF),(5,I 23 0 1125899906842624)],H:=[(16,vM),(73,xB),(30,kJ)],G:=[73] }
def t6f:Tpl:={ m:=90,F:=[(0,nV),(2,.slice none 0 0),(3,.bool false)],H:=[(16,vM),(73,xB)],G:=[73] }
def ft6(t:Tpl):AExit->Option (Nat × Tpl):=fun e=>match e with
 | .normal=>some (0,t6S)
 | .exit 0=>some (1,t)
 | .ret=>some (2,t6f)
 |_=>none
def Q0:Code:=(findLoop 3 100 (body 6)).getD .skip
def E6(t:Tpl):Env:=EG 6 (fun _=>none) (fun _=>false) (fun _=>none) (fun _=>none) (ft6 t) (fun _=>none)
def asW(t:Tpl)(A:List TB):Tre:=tre (E6 t) 2000 Q0 [] (A.map TB.enc) t.frame t.heap
def arX:Blk:={ cells:=[],elem:=3,ro:=false,live:=true,seq:=some (nd1 28 (x 33)) }
def qZ:Tpl:={ m:=90,F:=[(6,wF),(7,I 31 0 1125899906842624),(8,I 23 0 1125899906842624),(3,.slice none 0 0)],H:=[(30,arX),(73,xB)],G:=[73] }
def vY:Tpl:={ m:=90,F:=[(6,wF),(7,I 31 0 1125899906842624),(8,I 23 0 1125899906842624),(3,xE)],H:=[(30,arX),(73,xB),(79,Y8)],G:=[73] }
def aZQ(t:Tpl):AExit->Option (Nat × Tpl):=fun e=>match e with
 | .normal=>some (0,vY)
 | .exit 0=>some (1,t)
 |_=>none
def jS:Code:=(findLoop 3 100 (body 11)).getD .skip
def E11(t:Tpl):Env:=EG 11 (fun _=>none) (fun _=>false) (fun _=>none) (fun _=>none) (aZQ t) (fun _=>none)
def aaC(t:Tpl)(A:List TB):Tre:=tre (E11 t) 2000 jS [] (A.map TB.enc) t.frame t.heap
abbrev aOI:List TB:=[(.lt (v 23) (v 31))]
abbrev aRU:=.lt (v 23) (ln 33)::aOI
abbrev auR:=.lt (sn 33 (v 23)) 128::aRU
abbrev aU5:=nl (sn 33 (v 23)) 128::aRU
abbrev aw6:=.lt (sn 33 (v 23)) 2048::aU5
abbrev aUX:=nl (sn 33 (v 23)) 2048::aU5
abbrev avQ:=.lt (sn 33 (v 23)) 65536::aUX
abbrev avY:=nl (sn 33 (v 23)) 65536::aUX
abbrev aX6:List TB:=[(nl (v 23) (v 31))]
abbrev aRI:SgT:=[im 32,im 31,bm 30,bm 73]
abbrev aaO:SgT:=(79,.new 92)::(23,.itm (v 23+1))::aRI
abbrev aWS:SgT:=im 23::aRI
def fH:Tre:=(.fork (nd 90 aOI ((.lt (v 23) (ln 33)))
 (.fork (nd 93 auR ((nl 1125899906842624 (v 23+1)))
 (lf 0 90 93 (rgs (E11 qZ).n vY) ((82,.ltm (.app (.one (.wrap .u8 (sn 33 (v 23)))) (.var 91)))::bm 74::nm 33::(81,.itm (lb 91+1))::ik 80 1::aaO) ((nl 1125899906842624 (v 23+1))::auR)))
 (.fork (nd 93 aw6 ((nl 1125899906842624 (v 23+1)))
 (lf 0 90 93 (rgs (E11 qZ).n vY) ((82,.ltm (.app (.app (.one (.wrap .u8 (.op .or 192 (.op .shr (sn 33 (v 23)) 6)))) (.one (.op .or 128 (.op .and (sn 33 (v 23)) 63)))) (.var 91)))::bm 74::nm 33::(81,.itm (lb 91+2))::ik 80 2::aaO) ((nl 1125899906842624 (v 23+1))::aw6)))
 (.fork (nd 93 avQ ((nl 1125899906842624 (v 23+1)))
 (lf 0 90 93 (rgs (E11 qZ).n vY) ((82,.ltm (.app (.app (.one (.wrap .u8 (.op .or 224 (.op .shr (sn 33 (v 23)) 12)))) (.app (.one (.op .or 128 (.op .and (.op .shr (sn 33 (v 23)) 6) 63))) (.one (.op .or 128 (.op .and (sn 33 (v 23)) 63))))) (.var 91)))::bm 74::nm 33::(81,.itm (lb 91+3))::ik 80 3::aaO) ((nl 1125899906842624 (v 23+1))::avQ)))
 (nd 93 avY ((nl 1125899906842624 (v 23+1)))
 (lf 0 90 93 (rgs (E11 qZ).n vY) ((82,.ltm (.app (.app (.one (.op .or 240 (.op .shr (sn 33 (v 23)) 18))) (.app (.one (.op .or 128 (.op .and (.op .shr (sn 33 (v 23)) 12) 63))) (.app (.one (.op .or 128 (.op .and (.op .shr (sn 33 (v 23)) 6) 63))) (.one (.op .or 128 (.op .and (sn 33 (v 23)) 63)))))) (.var 91)))::bm 74::nm 33::(81,.itm (lb 91+4))::ik 80 4::aaO) ((nl 1125899906842624 (v 23+1))::avY)))))))
 (lf 1 90 90 (rgs (E11 qZ).n qZ) (bm 74::nm 33::aWS) aX6))
theorem Q6:aaC qZ []=fH:=by kernel_rfl
abbrev aSJ:=nl (lb 82) (v 81)::auR
abbrev azW:=nl 70368744177664 (.len (.sub (.var 82) 0 (v 80))+1)::aSJ
abbrev aJ3:=nl (lb 82) (v 81)::aw6
abbrev aHW:=nl 70368744177664 (.len (.sub (.var 82) 0 (v 80))+2)::aJ3
abbrev aB8:=nl (lb 82) (v 81)::avQ
abbrev aGQ:=nl 70368744177664 (.len (.sub (.var 82) 0 (v 80))+3)::aB8
abbrev aFH:=nl (lb 82) (v 81)::avY
abbrev azI:=nl 70368744177664 (.len (.sub (.var 82) 0 (v 80))+4)::aFH
def fL:Tre:=(.fork (nd 90 aOI ((.lt (v 23) (ln 33)))
 (.fork (nd 90 auR ((nl (lb 82) (v 81)))
 (nd 90 aSJ ((nl 70368744177664 (.len (.sub (.var 82) 0 (v 80))+1)))
 (nd 93 azW ((nl 1125899906842624 (v 23+1)))
 (lf 0 90 93 (rgs (E11 vY).n vY) ((82,.ltm (.app (.app (.sub (.var 82) 0 (v 80)) (.one (.wrap .u8 (sn 33 (v 23))))) (.var 91)))::bm 74::nm 33::(81,.itm (.len (.sub (.var 82) 0 (v 80))+1+lb 91))::(80,.itm (.len (.sub (.var 82) 0 (v 80))+1))::aaO) ((nl 1125899906842624 (v 23+1))::azW)))))
 (.fork (nd 90 aw6 ((nl (lb 82) (v 81)))
 (nd 90 aJ3 ((nl 70368744177664 (.len (.sub (.var 82) 0 (v 80))+2)))
 (nd 93 aHW ((nl 1125899906842624 (v 23+1)))
 (lf 0 90 93 (rgs (E11 vY).n vY) ((82,.ltm (.app (.app (.sub (.var 82) 0 (v 80)) (.app (.one (.wrap .u8 (.op .or 192 (.op .shr (sn 33 (v 23)) 6)))) (.one (.op .or 128 (.op .and (sn 33 (v 23)) 63))))) (.var 91)))::bm 74::nm 33::(81,.itm (.len (.sub (.var 82) 0 (v 80))+2+lb 91))::(80,.itm (.len (.sub (.var 82) 0 (v 80))+2))::aaO) ((nl 1125899906842624 (v 23+1))::aHW)))))
 (.fork (nd 90 avQ ((nl (lb 82) (v 81)))
 (nd 90 aB8 ((nl 70368744177664 (.len (.sub (.var 82) 0 (v 80))+3)))
 (nd 93 aGQ ((nl 1125899906842624 (v 23+1)))
 (lf 0 90 93 (rgs (E11 vY).n vY) ((82,.ltm (.app (.app (.sub (.var 82) 0 (v 80)) (.app (.one (.wrap .u8 (.op .or 224 (.op .shr (sn 33 (v 23)) 12)))) (.app (.one (.op .or 128 (.op .and (.op .shr (sn 33 (v 23)) 6) 63))) (.one (.op .or 128 (.op .and (sn 33 (v 23)) 63)))))) (.var 91)))::bm 74::nm 33::(81,.itm (.len (.sub (.var 82) 0 (v 80))+3+lb 91))::(80,.itm (.len (.sub (.var 82) 0 (v 80))+3))::aaO) ((nl 1125899906842624 (v 23+1))::aGQ)))))
 (nd 90 avY ((nl (lb 82) (v 81)))
 (nd 90 aFH ((nl 70368744177664 (.len (.sub (.var 82) 0 (v 80))+4)))
 (nd 93 azI ((nl 1125899906842624 (v 23+1)))
 (lf 0 90 93 (rgs (E11 vY).n vY) ((82,.ltm (.app (.app (.sub (.var 82) 0 (v 80)) (.app (.one (.op .or 240 (.op .shr (sn 33 (v 23)) 18))) (.app (.one (.op .or 128 (.op .and (.op .shr (sn 33 (v 23)) 12) 63))) (.app (.one (.op .or 128 (.op .and (.op .shr (sn 33 (v 23)) 6) 63))) (.one (.op .or 128 (.op .and (sn 33 (v 23)) 63))))))) (.var 91)))::bm 74::nm 33::(81,.itm (.len (.sub (.var 82) 0 (v 80))+4+lb 91))::(80,.itm (.len (.sub (.var 82) 0 (v 80))+4))::aaO) ((nl 1125899906842624 (v 23+1))::azI)))))))))
 (lf 1 90 90 (rgs (E11 vY).n vY) (lm 82::bm 74::nm 33::im 81::im 80::bm 79::aWS) aX6))
theorem lM:aaC vY []=fL:=by kernel_rfl
structure PE(V:Ren):Prop where
 n:Ln V
 i23:0<=gI V 23/\gI V 23<=gI V 31
 i31:gI V 31<=2147483647
 len:gI V 31<=(gN V 33).length
 el:∀ k:Int,0<=k->k<gI V 31->0<=(gN V 33).getD k.toNat 0/\(gN V 33).getD k.toNat 0<=1114111
def vE(V:Ren):Int:=(gN V 33).getD (gI V 23).toNat 0
theorem PE.hv{V:Ren}(p:PE V)(h:gI V 23<gI V 31):0<=(gN V 33).getD (gI V 23).toNat 0/\(gN V 33).getD (gI V 23).toNat 0<=1114111:=p.el _ p.i23.1 h
structure KE(V:Ren):Prop where
 a:0<=gI V 80/\gI V 80<=gI V 81
 b:gI V 81<=(gL V 82).length
 c:gI V 80<=4*gI V 23
def SmE(V γ:Ren):Prop:=γ[73]?=V[73]?/\γ[30]?=V[30]?/\gN γ 33=gN V 33/\gI γ 31=gI V 31
def OE(γ:Ren):List UInt8:=(gL γ 82).take (gI γ 80).toNat
def GE(O:Ren->List UInt8)(E:Ren->Ren->Prop)(V:Ren):Goal where
 J:=fun j γ=>match j with
  |0=>SmE V γ/\gI V 23<gI V 31/\gI γ 23=gI V 23+1/\OE γ=O V++enc1 (vE V)/\gI γ 80=((O V++enc1 (vE V)).length:Int)/\gI γ 80<=gI γ 81/\gI γ 81<=(gL γ 82).length
  |1=>SmE V γ/\¬ gI V 23<gI V 31/\E V γ
  |_=>False
 L:=fun _ _=>False
 O:=fun _ _ _ _=>False
 W:=fun _ _=>False
def aoC(V γ:Ren):Prop:=γ[79]?=V[79]?/\gL γ 82=gL V 82/\gI γ 80=gI V 80/\gI γ 81=gI V 81
theorem aSX{x:Int}(h:0<=x/\x<32):IntKind.u8.wrap (IOp.fn .or 192 x)=IntKind.u8.wrap (x+192):=by
 obtain⟨n,rfl⟩:=Int.eq_ofNat_of_zero_le h.1;have hn:n<32:=by omega
 have:∀ n:Fin 32,IntKind.u8.wrap (IOp.fn .or 192 ((n.1:Nat):Int))=IntKind.u8.wrap (((n.1:Nat):Int)+192):=by decide
 exact this ⟨n,hn⟩
theorem aSV{x:Int}(h:0<=x/\x<16):IntKind.u8.wrap (IOp.fn .or 224 x)=IntKind.u8.wrap (x+224):=by
 obtain⟨n,rfl⟩:=Int.eq_ofNat_of_zero_le h.1;have hn:n<16:=by omega
 have:∀ n:Fin 16,IntKind.u8.wrap (IOp.fn .or 224 ((n.1:Nat):Int))=IntKind.u8.wrap (((n.1:Nat):Int)+224):=by decide
 exact this ⟨n,hn⟩
theorem aUB{x:Int}(h:0<=x/\x<8):IOp.fn .or 240 x=x+240:=by
 obtain⟨n,rfl⟩:=Int.eq_ofNat_of_zero_le h.1;have hn:n<8:=by omega
 have:∀ n:Fin 8,IOp.fn .or 240 ((n.1:Nat):Int)=((n.1:Nat):Int)+240:=by decide
 exact this ⟨n,hn⟩
theorem dA(a:Int):IOp.fn .or 128 (ia a 63)=ia a 63+128:=by
 have h:ia a 63<=63:=aKQ a 63;have h0:0<=ia a 63:=Int.natCast_nonneg _;generalize ia a 63=x at h h0;obtain⟨n,rfl⟩:=Int.eq_ofNat_of_zero_le h0;have hn:n<64:=by omega
 have:∀ n:Fin 64,IOp.fn .or 128 ((n.1:Nat):Int)=((n.1:Nat):Int)+128:=by decide
 exact this ⟨n,hn⟩
theorem aqH{v:Int}{k m:Nat}(h0:0<=v)(h:v<m*2 ^ k):0<=sr v k/\sr v k<m:=by
 show 0<=v.fdiv (2 ^ ((k:Int)).toNat)/\v.fdiv (2 ^ ((k:Int)).toNat)<m;have e:((k:Int)).toNat=k:=by omega
 rw[e];obtain⟨n,rfl⟩:=Int.eq_ofNat_of_zero_le h0;have hp:(0:Int)<=2 ^ k:=by have:=Int.pow_pos (n:=2) (m:=k) (by omega);omega
 rw[Int.fdiv_eq_ediv_of_nonneg _ hp];have hpp:(0:Int)<2 ^ k:=Int.pow_pos (by omega);exact⟨Int.ediv_nonneg (by omega) hp,(Int.ediv_lt_iff_lt_mul hpp).2 h⟩
theorem eb1{v:Int}(h:v<128):[UInt8.ofNat (IntKind.u8.wrap v).toNat]=enc1 v:=by rw[acQ (by omega)]
theorem eb2{v:Int}(h0:0<=v)(h:¬ v<128)(h2:v<2048):[UInt8.ofNat (IntKind.u8.wrap (IOp.fn .or 192 (IOp.fn .shr v 6))).toNat]++[UInt8.ofNat (IOp.fn .or 128 (IOp.fn .and v 63)).toNat]=enc1 v:=by
 rw[ac1 (by omega) (by omega),aSX (show 0<=sr v 6/\sr v 6<32 from aqH (k:=6) (m:=32) h0 (by omega)),dA v];rfl
theorem eb3{v:Int}(h0:0<=v)(h:¬ v<2048)(h2:v<65536):[UInt8.ofNat (IntKind.u8.wrap (IOp.fn .or 224 (IOp.fn .shr v 12))).toNat]++([UInt8.ofNat (IOp.fn .or 128 (IOp.fn .and (IOp.fn .shr v 6) 63)).toNat]++[UInt8.ofNat (IOp.fn .or 128 (IOp.fn .and v 63)).toNat])=enc1 v:=by
 rw[ae5 (by omega) (by omega) (by omega),aSV (show 0<=sr v 12/\sr v 12<16 from aqH (k:=12) (m:=16) h0 (by omega)),dA v,dA (sr v 6)];rfl
theorem eb4{v:Int}(h0:0<=v)(h:¬ v<65536)(h2:v<=1114111):[UInt8.ofNat (IOp.fn .or 240 (IOp.fn .shr v 18)).toNat]++([UInt8.ofNat (IOp.fn .or 128 (IOp.fn .and (IOp.fn .shr v 12) 63)).toNat]++([UInt8.ofNat (IOp.fn .or 128 (IOp.fn .and (IOp.fn .shr v 6) 63)).toNat]++[UInt8.ofNat (IOp.fn .or 128 (IOp.fn .and v 63)).toNat]))=enc1 v:=by
 rw[adW (by omega) (by omega) (by omega),aUB (show 0<=sr v 18/\sr v 18<8 from aqH (k:=18) (m:=8) h0 (by omega)),dA v,dA (sr v 6),dA (sr v 12)];rfl
theorem lH{O X Z:List UInt8}{V γ:Ren}(s:SmE V γ)(h:gI γ 23=gI V 23+1)(hl:gI V 23<gI V 31)(ee:X=enc1 (vE V))(h82:gL γ 82=O++(X++Z))(h80:gI γ 80=((O++X).length:Int))(h81:gI γ 81<=(gL γ 82).length/\gI γ 80<=gI γ 81) :
    SmE V γ/\gI V 23<gI V 31/\gI γ 23=gI V 23+1/\OE γ=O++enc1 (vE V)/\gI γ 80=((O++enc1 (vE V)).length:Int)/\gI γ 80<=gI γ 81/\gI γ 81<=(gL γ 82).length:=by
 subst ee
 refine⟨s,hl,h,?_,h80,h81.2,h81.1⟩
 unfold OE
 rw[h82,h80,Int.toNat_natCast,<-List.append_assoc,List.take_left]
end U
