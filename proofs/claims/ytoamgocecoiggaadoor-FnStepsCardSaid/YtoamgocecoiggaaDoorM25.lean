-- the statement of this claim: see YtoamgocecoiggaaDoorRs
import Derived.Test.YtoamgocecoiggaaDoorM24
set_option linter.unusedVariables false
set_option linter.unusedSimpArgs false
set_option maxRecDepth 100000
noncomputable section
open Go Go.SM Go.Proofs
namespace U
theorem ah0{V:Ren}(p:PE V):fH.Holds (GE (fun _=>[]) (fun _ _=>True) V) V:=by
 unfold fH;have hβ:=p.n.1;have p23:=p.i23;have p31:=p.i31;have pl:=p.len;refine (fO (nO hβ ?_ (fO (nO hβ ?_ (lG [] hβ ?_)) (fO (nO hβ ?_ (lG [] hβ ?_)) (fO (nO hβ ?_ (lG [] hβ ?_)) (nO hβ ?_ (lG [] hβ ?_)))))) (lO [] hβ ?_));iterate 2 (focus (intro hA;simp only[DD]at hA ⊢;omega))
 .intro δ0 J0 hl0 hA hr0 hid0 hI;simp +decide only[DD,aL hβ]at hA hI;obtain⟨a0,a1,a2,a3⟩:=hA;obtain⟨i82,_,i33,i81,i80,_,_,i31,i30,i73⟩:=hI;have hv:=p.hv ‹_›;have ee:=eb1 (v:=vE V) (by unfold vE;omega);exact lH (O:=[]) ⟨i73,i30,i33,i31⟩ (by omega) (by assumption) ee i82 (by rw[i80];rfl) (by rw[i81,i82,i80];constructor<;>(try simp)<;>(try omega))
 .intro hA;simp only[DD]at hA ⊢;omega
 .intro δ0 J0 hl0 hA hr0 hid0 hI;simp +decide only[DD,aL hβ]at hA hI;obtain⟨a0,a1,a2,a3,a4⟩:=hA;obtain⟨i82,_,i33,i81,i80,_,_,i31,i30,i73⟩:=hI;have hv:=p.hv ‹_›;have ee:=eb2 (v:=vE V) hv.1 (by unfold vE;omega) (by unfold vE;omega);exact lH (O:=[]) ⟨i73,i30,i33,i31⟩ (by omega) (by assumption) ee i82 (by rw[i80];rfl) (by rw[i81,i82,i80];constructor<;>(try simp)<;>(try omega))
 .intro hA;simp only[DD]at hA ⊢;omega
 .intro δ0 J0 hl0 hA hr0 hid0 hI;simp +decide only[DD,aL hβ]at hA hI;obtain⟨a0,a1,a2,a3,a4,a5⟩:=hA;obtain⟨i82,_,i33,i81,i80,_,_,i31,i30,i73⟩:=hI;have hv:=p.hv ‹_›;have ee:=eb3 (v:=vE V) hv.1 (by unfold vE;omega) (by unfold vE;omega);exact lH (O:=[]) ⟨i73,i30,i33,i31⟩ (by omega) (by assumption) ee i82 (by rw[i80];rfl) (by rw[i81,i82,i80];constructor<;>(try simp)<;>(try omega))
 .intro hA;simp only[DD]at hA ⊢;omega
 .intro δ0 J0 hl0 hA hr0 hid0 hI;simp +decide only[DD,aL hβ]at hA hI;obtain⟨a0,a1,a2,a3,a4,a5⟩:=hA;obtain⟨i82,_,i33,i81,i80,_,_,i31,i30,i73⟩:=hI;have hv:=p.hv ‹_›;have ee:=eb4 (v:=vE V) hv.1 (by unfold vE;omega) hv.2;exact lH (O:=[]) ⟨i73,i30,i33,i31⟩ (by omega) (by assumption) ee i82 (by rw[i80];rfl) (by rw[i81,i82,i80];constructor<;>(try simp)<;>(try omega))
 .intro J0 hl0 hA hr0 hid0 hI;simp only[DD]at hA hI;obtain⟨_,i33,_,_,i31,i30,i73⟩:=hI;exact⟨⟨i73,i30,i33,i31⟩,by omega,trivial⟩
theorem eK{V:Ren}(p:PE V)(q:KE V):fL.Holds (GE OE (fun a b=>aoC a b) V) V:=by
 unfold fL;have hβ:=p.n.1;have p23:=p.i23;have p31:=p.i31;have pl:=p.len;have qa:=q.a;have qb:=q.b;have qc:=q.c;have ol:(OE V).length=(gI V 80).toNat:=by unfold OE;simp;omega
 have ol2:(List.drop (Int.toNat 0) (List.take (gI V 80).toNat (gL V 82))).length<=(gI V 80).toNat:=by simp;omega
 refine (fO (nO hβ ?_ (fO (nO hβ ?_ (nO hβ ?_ (nO hβ ?_ (lG [] hβ ?_)))) (fO (nO hβ ?_ (nO hβ ?_ (nO hβ ?_ (lG [] hβ ?_)))) (fO (nO hβ ?_ (nO hβ ?_ (nO hβ ?_ (lG [] hβ ?_)))) (nO hβ ?_ (nO hβ ?_ (nO hβ ?_ (lG [] hβ ?_)))))))) (lO [] hβ ?_));iterate 4 (focus (intro hA;simp only[DD]at hA ⊢;omega))
 .intro δ0 J0 hl0 hA hr0 hid0 hI;simp +decide only[DD,aL hβ]at hA hI;obtain⟨a0,a1,a2,a3,a4,a5⟩:=hA;obtain⟨i82,_,i33,i81,i80,_,_,i31,i30,i73⟩:=hI;have hv:=p.hv ‹_›;have ee:=eb1 (v:=vE V) (by unfold vE;omega);exact lH (O:=OE V) ⟨i73,i30,i33,i31⟩ (by omega) (by assumption) ee (i82.trans (List.append_assoc _ _ _)) (by rw[i80];unfold OE;simp;try omega) (by rw[i81,i82,i80];constructor<;>(try simp)<;>(try omega))
 iterate 3 (focus (intro hA;simp only[DD]at hA ⊢;omega))
 .intro δ0 J0 hl0 hA hr0 hid0 hI;simp +decide only[DD,aL hβ]at hA hI;obtain⟨a0,a1,a2,a3,a4,a5,a6⟩:=hA;obtain⟨i82,_,i33,i81,i80,_,_,i31,i30,i73⟩:=hI;have hv:=p.hv ‹_›;have ee:=eb2 (v:=vE V) hv.1 (by unfold vE;omega) (by unfold vE;omega);exact lH (O:=OE V) ⟨i73,i30,i33,i31⟩ (by omega) (by assumption) ee (i82.trans (List.append_assoc _ _ _)) (by rw[i80];unfold OE;simp;try omega) (by rw[i81,i82,i80];constructor<;>(try simp)<;>(try omega))
 iterate 3 (focus (intro hA;simp only[DD]at hA ⊢;omega))
 .intro δ0 J0 hl0 hA hr0 hid0 hI;simp +decide only[DD,aL hβ]at hA hI;obtain⟨a0,a1,a2,a3,a4,a5,a6,a7⟩:=hA;obtain⟨i82,_,i33,i81,i80,_,_,i31,i30,i73⟩:=hI;have hv:=p.hv ‹_›;have ee:=eb3 (v:=vE V) hv.1 (by unfold vE;omega) (by unfold vE;omega);exact lH (O:=OE V) ⟨i73,i30,i33,i31⟩ (by omega) (by assumption) ee (i82.trans (List.append_assoc _ _ _)) (by rw[i80];unfold OE;simp;try omega) (by rw[i81,i82,i80];constructor<;>(try simp)<;>(try omega))
 iterate 3 (focus (intro hA;simp only[DD]at hA ⊢;omega))
 .intro δ0 J0 hl0 hA hr0 hid0 hI;simp +decide only[DD,aL hβ]at hA hI;obtain⟨a0,a1,a2,a3,a4,a5,a6,a7⟩:=hA;obtain⟨i82,_,i33,i81,i80,_,_,i31,i30,i73⟩:=hI;have hv:=p.hv ‹_›;have ee:=eb4 (v:=vE V) hv.1 (by unfold vE;omega) hv.2;exact lH (O:=OE V) ⟨i73,i30,i33,i31⟩ (by omega) (by assumption) ee (i82.trans (List.append_assoc _ _ _)) (by rw[i80];unfold OE;simp;try omega) (by rw[i81,i82,i80];constructor<;>(try simp)<;>(try omega))
 .intro J0 hl0 hA hr0 hid0 hI;simp only[DD]at hA hI;obtain⟨i82,_,i33,i81,i80,i79,_,_,i31,i30,i73⟩:=hI;exact⟨⟨i73,i30,i33,i31⟩,by omega,i79,i82,i80,i81⟩
def zZ(V:Ren):List Int:=((gN V 33).take (gI V 31).toNat).drop (gI V 23).toNat
theorem uD{V:Ren}(p:PE V)(h:gI V 23<gI V 31):zZ V=vE V::((gN V 33).take (gI V 31).toNat).drop (gI V 23+1).toNat:=by
 have:=p.i23;have:=p.len;unfold zZ vE;have hl:(gI V 23).toNat<((gN V 33).take (gI V 31).toNat).length:=by rw[List.length_take];omega
 rw[List.drop_eq_getElem_cons hl,show (gI V 23+1).toNat=(gI V 23).toNat+1 from by omega];congr 1;rw[List.getElem_take,List.getD_eq_getElem?_getD,List.getElem?_eq_getElem (by omega)];rfl
theorem wO{V:Ren}(h:¬ gI V 23<gI V 31)(p:PE V):zZ V=[]:=by
 have:=p.i23;unfold zZ;rw[List.drop_eq_nil_iff,List.length_take];omega
structure OutE(O:List UInt8)(γ:Ren):Prop where
 b:OE γ=O
 l:gI γ 80=(O.length:Int)
 c:gI γ 80<=gI γ 81
 d:gI γ 81<=(gL γ 82).length
theorem af5{V γ:Ren}(p:PE V)(hn:γ.length=90)(s:SmE V γ)(h:gI V 23<gI V 31)(h':gI γ 23=gI V 23+1):PE γ:=by
 obtain⟨s1,s2,s3,s4⟩:=s;have:=p.i23;exact⟨p.n.of s1 hn,by omega,by rw[s4];exact p.i31,by rw[s3,s4];exact p.len,by rw[s3,s4];exact p.el⟩
theorem SmE.trans{a b c:Ren}(h:SmE a b)(g:SmE b c):SmE a c:=⟨g.1.trans h.1,g.2.1.trans h.2.1,g.2.2.1.trans h.2.2.1,g.2.2.2.trans h.2.2.2⟩
theorem acH{w0:W0}{Q:Exit->Act->World->Prop}:∀(m:Nat)(O:List UInt8)(V:Ren)(a:Act)(w:World),(gI V 31-gI V 23).toNat<=m->PE V->OutE O V->gI V 80<=4*gI V 23->HR w0 V vY.heap w->FS V (ntmps 11) vY.frame a ->
    (∀ V1 a' w',Ln V1->SmE V V1->OutE (O++encs (zZ V)) V1->HR w0 V1 vY.heap w'->FS V1 (ntmps 11) vY.frame a'->Q (.exit 0) a' w')->wpL Tryd.prog jS Q a w:=by
 intro m
 induction m with
 |zero =>
  intro O V a w hm p o h4 hH hF h1
  have hO:OE V=O:=o.b
  have h5:=o.l
  refine zR (yC (E:=E11 vY) (G:=GE OE (fun a b=>aoC a b) V) zQ zS follows (by show (aaC vY []).Holds _ _;rw[lM];exact eK p ⟨⟨by omega,o.c⟩,o.d,h4⟩) p.n.2 hH (Facts.nil _) hF ?_ (fun r s c h=>by rcases h with h|h<;>cases h) (fun j i V1 V2 h=>h.elim) (fun r s h=>by rcases h with h|h<;>cases h) (fun f s h=>by cases h))
  intro j e tp V1 a' w' hft q1 q2 q3
  have hl:V1.length=tp.m:=by rw[q1.len];exact zK _ _
  cases e with
  |normal=>cases hft;obtain⟨_,h,_⟩:=q3;omega
  |ret=>cases hft
  |exit id =>
   match id,hft with
   |0,hft =>
    cases hft
    obtain⟨s,h,e1,e2,e3,e4⟩:=q3
    exact h1 V1 a' w' (p.n.of s.1 hl) s (by rw[wO h p];simp[encs];exact⟨by unfold OE;rw[e2,e3];exact o.b,by rw[e3];exact o.l,by rw[e3,e4];exact o.c,by rw[e4,e2];exact o.d⟩) q1 q2
 |succ m ih =>
  intro O V a w hm p o h4 hH hF h1
  have h5:=o.l
  refine zR (yC (E:=E11 vY) (G:=GE OE (fun a b=>aoC a b) V) zQ zS follows (by show (aaC vY []).Holds _ _;rw[lM];exact eK p ⟨⟨by omega,o.c⟩,o.d,h4⟩) p.n.2 hH (Facts.nil _) hF ?_ (fun r s c h=>by rcases h with h|h<;>cases h) (fun j i V1 V2 h=>h.elim) (fun r s h=>by rcases h with h|h<;>cases h) (fun f s h=>by cases h))
  intro j e tp V1 a' w' hft q1 q2 q3
  have hl:V1.length=tp.m:=by rw[q1.len];exact zK _ _
  cases e with
  |normal =>
   cases hft
   obtain⟨s,h,h23,e1,e2,e3,e4⟩:=q3
   have s3:=s.2.2.1;have s4:=s.2.2.2
   rw[o.b]at e1 e2
   have hb:=iV (vE V)
   rw[List.length_append]at e2
   refine ih (O++enc1 (vE V)) V1 a' w' (by rw[s4];omega) (af5 p hl s h h23) ⟨e1,by rw[e2,List.length_append],e3,e4⟩ (by omega) q1 q2 ?_
   intro V2 a2 w2 hn2 s2 o2 r1 r2
   refine h1 V2 a2 w2 hn2 (s.trans s2) ?_ r1 r2
   rw[uD p h]
   have:zZ V1=((gN V 33).take (gI V 31).toNat).drop (gI V 23+1).toNat:=by unfold zZ;rw[s3,s4,h23]
   rw[this]at o2
   simpa [encs,List.append_assoc] using o2
  |ret=>cases hft
  |exit id =>
   match id,hft with
   |0,hft =>
    cases hft
    obtain⟨s,h,e1,e2,e3,e4⟩:=q3
    exact h1 V1 a' w' (p.n.of s.1 hl) s (by rw[wO h p];simp[encs];exact⟨by unfold OE;rw[e2,e3];exact o.b,by rw[e3];exact o.l,by rw[e3,e4];exact o.c,by rw[e4,e2];exact o.d⟩) q1 q2
theorem adI{w0:W0}{Q:Exit->Act->World->Prop}(V:Ren)(a:Act)(w:World)(p:PE V)(hH:HR w0 V qZ.heap w)(hF:FS V (ntmps 11) qZ.frame a)
    (h0:∀ V1 a' w',Ln V1->SmE V V1->zZ V=[]->HR w0 V1 qZ.heap w'->FS V1 (ntmps 11) qZ.frame a'->Q (.exit 0) a' w')
    (h1:∀ V1 a' w',Ln V1->SmE V V1->OutE (encs (zZ V)) V1->zZ V≠[]->HR w0 V1 vY.heap w'->FS V1 (ntmps 11) vY.frame a'->Q (.exit 0) a' w'):wpL Tryd.prog jS Q a w:=by
 refine zR (yC (E:=E11 qZ) (G:=GE (fun _=>[]) (fun _ _=>True) V) zQ zS follows (by show (aaC qZ []).Holds _ _;rw[Q6];exact ah0 p) p.n.2 hH (Facts.nil _) hF ?_ (fun r s c h=>by rcases h with h|h<;>cases h) (fun j i V1 V2 h=>h.elim) (fun r s h=>by rcases h with h|h<;>cases h) (fun f s h=>by cases h))
 intro j e tp V1 a' w' hft q1 q2 q3
 have hl:V1.length=tp.m:=by rw[q1.len];exact zK _ _
 cases e with
 |normal =>
  cases hft
  obtain⟨s,h,h23,e1,e2,e3,e4⟩:=q3
  have s3:=s.2.2.1;have s4:=s.2.2.2
  have hb:=iV (vE V)
  rw[List.nil_append]at e1 e2
  have:=p.i23
  refine acH _ (enc1 (vE V)) V1 a' w' (Nat.le_refl _) (af5 p hl s h h23) ⟨e1,e2,e3,e4⟩ (by omega) q1 q2 ?_
  intro V2 a2 w2 hn2 s2 o2 r1 r2
  refine h1 V2 a2 w2 hn2 (s.trans s2) ?_ (by rw[uD p h];simp) r1 r2
  rw[uD p h]
  have:zZ V1=((gN V 33).take (gI V 31).toNat).drop (gI V 23+1).toNat:=by unfold zZ;rw[s3,s4,h23]
  rw[this]at o2
  simpa [encs,List.append_assoc] using o2
 |ret=>cases hft
 |exit id =>
  match id,hft with
  |0,hft =>
   cases hft
   obtain⟨s,h,_⟩:=q3
   exact h0 V1 a' w' (p.n.of s.1 hl) s (wO h p) q1 q2
def t11:Tpl:={ m:=90,F:=[(0,wF)],H:=[(30,arX),(73,xB)],G:=[73] }
def alK:Tpl:={ m:=90,F:=[(6,wF),(2,.slice none 0 0)],H:=[(30,arX),(73,xB)],G:=[73] }
def ak3:Tpl:={ m:=90,F:=[(6,wF),(2,xE)],H:=[(30,arX),(73,xB),(79,Y8)],G:=[73] }
def aPO:List (Nat × Nat):=[(30,0),(31,1),(33,5),(73,0)]
def asF:CSpec:={ j:=11,n:=1,tin:=t11,outs:=[(.slice none 0 0,alK,aPO),(xE,ak3,aPO)] }
def aI6:LSpec:={ j:=3,tin:=qZ,outs:=[(.exit 0,qZ,[]),(.exit 0,vY,[])] }
def atX:Nat->Option LSpec:=fun n=>if n=3 then some aI6 else none
def aXX:AExit->Option (Nat × Tpl):=fun e=>match e with
 | .normal=>some (0,alK)
 | .ret=>some (0,alK)
 |_=>none
def aU4:AExit->Option (Nat × Tpl):=fun e=>match e with
 | .normal=>some (1,ak3)
 | .ret=>some (1,ak3)
 |_=>none
def aeW:Env:=EG 11 (fun _=>none) (fun _=>false) (fun _=>none) atX aXX aU4
def anA:Tre:=tre aeW 2000 (body 11) [] [] t11.frame t11.heap
def NL(V:Ren):List Int:=(gN V 33).take (gI V 31).toNat
structure PL(V:Ren):Prop where
 n:Ln V
 i31:0<=gI V 31/\gI V 31<=2147483647
 len:gI V 31<=(gN V 33).length
 el:∀ k:Int,0<=k->k<gI V 31->0<=(gN V 33).getD k.toNat 0/\(gN V 33).getD k.toNat 0<=1114111
def aN8(V:Ren):Goal where
 J:=fun j γ=>Ln γ/\SmE V γ/\match j with
  |0=>NL V=[]
  |1=>OutE (encs (NL V)) γ/\NL V≠[]
  |_=>False
 L:=fun _ γ=>PE γ/\SmE V γ/\gI γ 23=0
 O:=fun _ i γ J1=>Ln J1/\SmE γ J1/\match i with
  |0=>zZ γ=[]
  |1=>OutE (encs (zZ γ)) J1/\zZ γ≠[]
  |_=>False
 W:=fun _ c=>c=.loop jS
theorem afO{V γ:Ren}(s:SmE V γ)(h:gI γ 23=0):zZ γ=NL V:=by
 obtain⟨_,_,s3,s4⟩:=s;unfold zZ NL;rw[h,s3,s4];rfl
abbrev ahA:Code:=.loop jS
abbrev aND:SgT:=[im 32,im 31,bm 30,bm 73]
def aW:Tre:=(.loop 3 90 90 (rgs aeW.n aI6.tin) ahA (SgT.enc (bm 74::nm 33::ik 23 0::aND)) (List.map TB.enc []) (.cons (rgs aeW.n qZ) (lf 0 90 90 (rgs aeW.n alK) (bm 74::nm 33::aND) [])
 (.cons (rgs aeW.n vY) (lf 1 90 90 (rgs aeW.n ak3) (lm 82::bm 74::nm 33::im 81::im 80::bm 79::aND) [])
 .nil)))
theorem adP:anA=aW:=by kernel_rfl
theorem asM{V:Ren}(p:PL V):aW.Holds (aN8 V) V:=by
 unfold aW;have hβ:=p.n.1;refine (pO [] hβ rfl ?_)
 .intro J0 hl0 hA hr0 hid0 hI;simp only[DD]at hI;obtain⟨_,i33,i23,_,i31,i30,i73⟩:=hI;have hn1:Ln J0:=p.n.of i73 hl0;have s0:SmE V J0:=⟨i73,i30,i33,i31⟩
  have p31:=p.i31;have hL0:(aN8 V).L 3 J0:=⟨⟨hn1,by omega,by omega,by rw[i31,i33];exact p.len,by rw[i31,i33];exact p.el⟩,s0,i23⟩
  refine⟨hL0,(oC ?_ (oC ?_ oN))⟩
  .intro V1 hq1 hO1;obtain⟨hn2,s1,hz⟩:=hO1;have hb1:=hn2.1;refine (lO [] hb1 ?_)
   .intro J1 hl1 hA hr1 hid1 hI;simp only[DD]at hI;obtain⟨_,j33,_,j31,j30,j73⟩:=hI;have s2:SmE V1 J1:=⟨j73,j30,j33,j31⟩
    exact⟨hn2.of j73 hl1,(s0.trans s1).trans s2,by rw[<-afO s0 i23];exact hz⟩
  .intro V1 hq1 hO1;obtain⟨hn2,s1,hz⟩:=hO1;have hb1:=hn2.1;refine (lO [] hb1 ?_)
   .intro J1 hl1 hA hr1 hid1 hI;simp only[DD]at hI;obtain⟨j82,_,j33,j81,j80,_,_,j31,j30,j73⟩:=hI;have s2:SmE V1 J1:=⟨j73,j30,j33,j31⟩
    refine⟨hn2.of j73 hl1,(s0.trans s1).trans s2,?_⟩;rw[<-afO s0 i23];obtain⟨⟨o1,o2,o3,o4⟩,hne⟩:=hz;exact⟨⟨by unfold OE at *;rw[j80,j82];exact o1,by rw[j80];exact o2,by rw[j80,j81];exact o3,by rw[j81,j82];exact o4⟩,hne⟩
theorem aXD{G:Goal}(hCL:∀ V,G.CL 11 V->PL V)(h0:∀ V V1,G.CL 11 V->Ln V1->SmE V V1->NL V=[]->G.CO 11 0 V V1)(h1:∀ V V1,G.CL 11 V->Ln V1->SmE V V1->OutE (encs (NL V)) V1->NL V≠[]->G.CO 11 1 V V1):yT Tryd.prog G 11 asF:=by
 refine zU (E:=aeW) (Gt:=aN8) (fn:=wK 11) (c:=body 11) (s:=asF) zQ zS follows (by kernel_rfl) (by kernel_rfl) (by kernel_rfl) (by kernel_rfl) (by kernel_rfl) (by kernel_rfl) ?_ ?_ ?_ ?_ (fun V j i V1 V2 h=>h.1.2) ?_ (fun V f s h=>by cases h)
 .intro e j tp h;rcases h with h|h
  .cases e with
   |normal=>cases h;exact⟨(fun id h=>by cases h),.slice none 0 0,by kernel_rfl,_,rfl⟩
   |ret=>cases h;exact⟨(fun id h=>by cases h),.slice none 0 0,by kernel_rfl,_,rfl⟩
   |exit id=>cases h
  .cases e with
   |normal=>cases h;exact⟨(fun id h=>by cases h),xE,by kernel_rfl,_,rfl⟩
   |ret=>cases h;exact⟨(fun id h=>by cases h),xE,by kernel_rfl,_,rfl⟩
   |exit id=>cases h
 .intro V hcl hlen hr;have p:=hCL V hcl;refine⟨p.n.2,[],2000,Facts.nil _,?_⟩;show (anA).Holds _ V;rw[adP];exact asM p
 .intro V j v tp sm V1 hcl hout hlen _ hJ;have p:=hCL V hcl;have sms:SmE V V1->∀ p∈aPO,SmK V V1 p:=by
   intro q x hx;have hx:x∈[(30,0),(31,1),(33,5),(73,0)]:=hx;obtain⟨q1,q2,q3,q4⟩:=q;simp only[List.mem_cons,List.not_mem_nil,or_false]at hx;rcases hx with rfl|rfl|rfl|rfl
   .exact q2
   .exact q4
   .exact q3
   .exact q1
  match j,hout with
  |0,hout =>
   cases hout;obtain⟨hn,s,z⟩:=hJ;exact⟨h0 V V1 hcl hn s z,sms s⟩
  |1,hout =>
   cases hout;obtain⟨hn,s,z,z2⟩:=hJ;exact⟨h1 V V1 hcl hn s z z2,sms s⟩
 .intro V w0 r s c hs hw;rcases hs with hs|hs
  .have hs:atX r=some s:=hs;unfold atX at hs;split at hs
   .cases hs;have hc:c=ahA:=hw;subst hc;intro Q b a w hH hF hl hQ;refine xU (adI b a w hl.1 hH hF ?_ ?_)
    .intro V1 a' w' hn1 s1 hr q1 q2;exact hQ 0 (.exit 0) qZ [] rfl V1 a' w' q1 q2 ⟨hn1,s1,hr⟩
    .intro V1 a' w' hn1 s1 ho hr q1 q2;exact hQ 1 (.exit 0) vY [] rfl V1 a' w' q1 q2 ⟨hn1,s1,ho,hr⟩
   .cases hs
  .cases hs
 .intro V r s hs i e tp B hi V1 V2 _;refine yO ?_;rcases hs with hs|hs
  .have hs:atX r=some s:=hs;unfold atX at hs;split at hs
   .cases hs;match i,hi with
    |0,hi=>cases hi;rfl
    |1,hi=>cases hi;rfl
   .cases hs
  .cases hs
def aZP:Blk:={ cells:=[],elem:=3,ro:=false,live:=true,seq:=some (nd1 28 (x 37)) }
def aVV:Value:=sL 34 (Z 0) (x 35) (x 36)
def i23:Value:=I 23 0 1125899906842624
def t7N:Tpl:={ m:=90,F:=[(0,nV),(1,sB (x 85)),(6,.slice none 0 0),(7,i23)],H:=[(16,vM),(73,xB)],G:=[73] }
def t7S:Tpl:={ m:=90,F:=[(0,nV),(1,sB (x 85)),(6,wF),(7,i23)],H:=[(16,vM),(73,xB),(30,kJ)],G:=[73] }
def ft7(t:Tpl):AExit->Option (Nat × Tpl):=fun e=>match e with
 | .normal=>some (0,t7S)
 | .exit 0=>some (1,t)
 |_=>none
def ahJ:Code:=(findLoop 5 100 (body 7)).getD .skip
def E7(t:Tpl):Env:=EG 7 (fun _=>none) (fun _=>false) (fun _=>none) (fun _=>none) (ft7 t) (fun _=>none)
def ajP(t:Tpl)(A:List TB):Tre:=tre (E7 t) 2000 ahJ [] (A.map TB.enc) t.frame t.heap
def kM:Tpl:={ m:=90,F:=[(0,nV),(6,wF),(10,.slice none 0 0),(11,i23)],H:=[(16,vM),(73,xB),(30,kJ)],G:=[73] }
def u6:Tpl:={ m:=90,F:=[(0,nV),(6,wF),(10,aVV),(11,i23)],H:=[(16,vM),(73,xB),(30,kJ),(34,aZP)],G:=[73] }
def t7f:Tpl:={ m:=90,F:=[(0,nV),(4,.slice none 0 0),(5,.bool false)],H:=[(16,vM),(73,xB)],G:=[73] }
def aY3(t:Tpl):AExit->Option (Nat × Tpl):=fun e=>match e with
 | .normal=>some (0,u6)
 | .exit 2=>some (1,t)
 | .ret=>some (2,t7f)
 |_=>none
def N2:Code:=(findLoop 13 100 (body 7)).getD .skip
def E7c(t:Tpl):Env:=EG 7 (fun _=>none) (fun _=>false) (fun _=>none) (fun _=>none) (aY3 t) (fun _=>none)
def aa6(t:Tpl)(A:List TB):Tre:=tre (E7c t) 2000 N2 [] (A.map TB.enc) t.frame t.heap
theorem aQS:∀ n:Fin 256,(ia ((n.1:Nat):Int) 128=0↔n.1<128)/\(ia ((n.1:Nat):Int) 224=192↔192<=n.1/\n.1<224)/\(ia ((n.1:Nat):Int) 240=224↔224<=n.1/\n.1<240)/\(ia ((n.1:Nat):Int) 248=240↔240<=n.1/\n.1<248)/\(n.1<128->ia ((n.1:Nat):Int) 127=n.1) /\
    ia ((n.1:Nat):Int) 31=n.1%32/\ia ((n.1:Nat):Int) 15=n.1%16/\ia ((n.1:Nat):Int) 7=n.1%8/\ia ((n.1:Nat):Int) 63=n.1%64:=by decide
theorem cl{x:Int}(h:0<=x/\x<=255):(ia x 128=0↔x<128)/\(ia x 224=192↔192<=x/\x<224)/\(ia x 240=224↔224<=x/\x<240)/\(ia x 248=240↔240<=x/\x<248)/\(x<128->ia x 127=x)/\ia x 31=x%32/\ia x 15=x%16/\ia x 7=x%8/\ia x 63=x%64:=by
 obtain⟨n,rfl⟩:=Int.eq_ofNat_of_zero_le h.1;have hn:n<256:=by omega
 obtain⟨a,b,c,d,e,f,g,i,j⟩:=aQS ⟨n,hn⟩;refine⟨a.trans ?_,b.trans ?_,c.trans ?_,d.trans ?_,fun h=>e ?_,f,g,i,j⟩<;>(simp only[];omega)
theorem dU{a c:Int}(h:0<=a):IOp.fn .or (sl a 6) (ia c 63)=sl a 6+ia c 63:=by
 obtain⟨n,rfl⟩:=Int.eq_ofNat_of_zero_le h;have h2:Nat.land c.toNat (63:Int).toNat<2 ^ 6:=Nat.lt_of_le_of_lt Nat.and_le_right (by decide);show ((Nat.lor (((n:Int)*2 ^ (6:Int).toNat)).toNat ((Nat.land c.toNat (63:Int).toNat:Nat):Int).toNat:Nat):Int)=(n:Int)*2 ^ (6:Int).toNat+((Nat.land c.toNat (63:Int).toNat:Nat):Int);generalize Nat.land c.toNat (63:Int).toNat=m at h2;have e1:((n:Int)*2 ^ (6:Int).toNat).toNat=n <<< 6:=by
  rw[Nat.shiftLeft_eq];show ((n:Int)*64).toNat=n*64;omega
 rw[e1,Int.toNat_natCast];have:=Nat.shiftLeft_add_eq_or_of_lt h2 n;show ((n <<< 6 ||| m:Nat):Int)=_;rw[<-this,Nat.shiftLeft_eq];show ((n*64+m:Nat):Int)=(n:Int)*64+m;omega
theorem ia0(a b:Int):0<=ia a b:=Int.natCast_nonneg _
theorem sl0{a:Int}(b:Int)(h:0<=a):0<=sl a b:=Int.mul_nonneg h (by have:=Int.pow_pos (n:=2) (m:=b.toNat) (by omega);omega)
theorem sl6(a:Int):sl a 6=a*64:=rfl
def Byt(b:Int->Int):Prop:=∀ k,0<=b k/\b k<=255
abbrev oi(a b:Int):Int:=IOp.fn .or a b
theorem st1{n:Int}{b:Int->Int}(hb:Byt b)(h:b 0<128)(hn:1<=n):yE n b=.ok (b 0) 1:=by
 obtain⟨a1,a2,a3,a4,a5,_⟩:=cl (hb 0);unfold yE;rw[if_pos (a1.2 h),if_neg (by omega),a5 h]
theorem v2{b:Int->Int}(hb:Byt b):oi (sl (ia (b 0) 31) 6) (ia (b 1) 63)=sl (ia (b 0) 31) 6+ia (b 1) 63:=dU (ia0 _ _)
theorem v3{b:Int->Int}(hb:Byt b):oi (sl (oi (sl (ia (b 0) 15) 6) (ia (b 1) 63)) 6) (ia (b 2) 63)=sl (sl (ia (b 0) 15) 6+ia (b 1) 63) 6+ia (b 2) 63:=by
 unfold oi;rw[dU (ia0 (b 0) 15),dU];have:=sl0 6 (ia0 (b 0) 15);have:=ia0 (b 1) 63;omega
theorem v4{b:Int->Int}(hb:Byt b):oi (sl (oi (sl (oi (sl (ia (b 0) 7) 6) (ia (b 1) 63)) 6) (ia (b 2) 63)) 6) (ia (b 3) 63)=sl (sl (sl (ia (b 0) 7) 6+ia (b 1) 63) 6+ia (b 2) 63) 6+ia (b 3) 63:=by
 unfold oi;have h1:=sl0 6 (ia0 (b 0) 7);have h2:=ia0 (b 1) 63;have h3:0<=sl (ia (b 0) 7) 6+ia (b 1) 63:=by omega
 have h4:=sl0 6 h3;have h5:=ia0 (b 2) 63;rw[dU (ia0 (b 0) 7),dU h3,dU];omega
theorem adX{n:Int}{b:Int->Int}(hb:Byt b)(h1:192<=b 0)(h2:b 0<224):yE n b=(if n<2 then .more
    else if ia (b 1) 192=128 then if sl (ia (b 0) 31) 6+ia (b 1) 63<128 then .bad else .ok (sl (ia (b 0) 31) 6+ia (b 1) 63) 2
    else .bad):=by
 obtain⟨a1,a2,a3,a4,a5,_⟩:=cl (hb 0)
 unfold yE
 rw[if_neg (fun h=>by have:=a1.1 h;omega),if_pos (a2.2 ⟨h1,h2⟩)]
theorem abJ{n:Int}{b:Int->Int}(hb:Byt b)(h1:224<=b 0)(h2:b 0<240):yE n b=(if n<3 then .more
    else if ia (b 1) 192=128 then
     if ia (b 2) 192=128 then
      if sl (sl (ia (b 0) 15) 6+ia (b 1) 63) 6+ia (b 2) 63<2048 then .bad
      else if ¬ sl (sl (ia (b 0) 15) 6+ia (b 1) 63) 6+ia (b 2) 63<55296/\¬ 57343<sl (sl (ia (b 0) 15) 6+ia (b 1) 63) 6+ia (b 2) 63 then .bad
      else .ok (sl (sl (ia (b 0) 15) 6+ia (b 1) 63) 6+ia (b 2) 63) 3
     else .bad
    else .bad):=by
 obtain⟨a1,a2,a3,a4,a5,_⟩:=cl (hb 0)
 unfold yE
 rw[if_neg (fun h=>by have:=a1.1 h;omega),if_neg (fun h=>by have:=a2.1 h;omega),if_pos (a3.2 ⟨h1,h2⟩)]
theorem aeU{n:Int}{b:Int->Int}(hb:Byt b)(h1:240<=b 0)(h2:b 0<248):yE n b=(if n<4 then .more
    else if ia (b 1) 192=128 then
     if ia (b 2) 192=128 then
      if ia (b 3) 192=128 then
       if sl (sl (sl (ia (b 0) 7) 6+ia (b 1) 63) 6+ia (b 2) 63) 6+ia (b 3) 63<65536 then .bad
       else if (¬ sl (sl (sl (ia (b 0) 7) 6+ia (b 1) 63) 6+ia (b 2) 63) 6+ia (b 3) 63<55296/\¬ 57343<sl (sl (sl (ia (b 0) 7) 6+ia (b 1) 63) 6+ia (b 2) 63) 6+ia (b 3) 63)\/1114111<sl (sl (sl (ia (b 0) 7) 6+ia (b 1) 63) 6+ia (b 2) 63) 6+ia (b 3) 63 then .bad
       else .ok (sl (sl (sl (ia (b 0) 7) 6+ia (b 1) 63) 6+ia (b 2) 63) 6+ia (b 3) 63) 4
      else .bad
     else .bad
    else .bad):=by
 obtain⟨a1,a2,a3,a4,a5,_⟩:=cl (hb 0)
 unfold yE
 rw[if_neg (fun h=>by have:=a1.1 h;omega),if_neg (fun h=>by have:=a2.1 h;omega),if_neg (fun h=>by have:=a3.1 h;omega),if_pos (a4.2 ⟨h1,h2⟩)]
theorem st2{n:Int}{b:Int->Int}(hb:Byt b)(h1:194<=b 0)(h2:b 0<224)(hn:2<=n)(c1:ia (b 1) 192=128):yE n b=.ok (oi (sl (ia (b 0) 31) 6) (ia (b 1) 63)) 2:=by
 rw[adX hb (by omega) h2,v2 hb,if_neg (by omega),if_pos c1,if_neg];have:=ia0 (b 1) 63;obtain⟨_,_,_,_,_,a6,_⟩:=cl (hb 0);rw[sl6,a6];omega
theorem st3{n:Int}{b:Int->Int}(hb:Byt b)(h1:224<=b 0)(h2:b 0<240)(hn:3<=n)(c1:ia (b 1) 192=128)(c2:ia (b 2) 192=128)
    (h:¬ oi (sl (oi (sl (ia (b 0) 15) 6) (ia (b 1) 63)) 6) (ia (b 2) 63)<2048/\¬ (¬ oi (sl (oi (sl (ia (b 0) 15) 6) (ia (b 1) 63)) 6) (ia (b 2) 63)<55296/\oi (sl (oi (sl (ia (b 0) 15) 6) (ia (b 1) 63)) 6) (ia (b 2) 63)<57344)) :
    yE n b=.ok (oi (sl (oi (sl (ia (b 0) 15) 6) (ia (b 1) 63)) 6) (ia (b 2) 63)) 3:=by
 rw[v3 hb]at h ⊢
 rw[abJ hb h1 h2,if_neg (by omega),if_pos c1,if_pos c2,if_neg h.1,if_neg (fun g=>h.2 ⟨g.1,by omega⟩)]
theorem st4{n:Int}{b:Int->Int}(hb:Byt b)(h1:240<=b 0)(h2:b 0<245)(hn:4<=n)(c1:ia (b 1) 192=128)(c2:ia (b 2) 192=128)(c3:ia (b 3) 192=128)
    (h:¬ oi (sl (oi (sl (oi (sl (ia (b 0) 7) 6) (ia (b 1) 63)) 6) (ia (b 2) 63)) 6) (ia (b 3) 63)<65536/\¬ 1114111<oi (sl (oi (sl (oi (sl (ia (b 0) 7) 6) (ia (b 1) 63)) 6) (ia (b 2) 63)) 6) (ia (b 3) 63)) :
    yE n b=.ok (oi (sl (oi (sl (oi (sl (ia (b 0) 7) 6) (ia (b 1) 63)) 6) (ia (b 2) 63)) 6) (ia (b 3) 63)) 4:=by
 rw[v4 hb]at h ⊢
 rw[aeU hb h1 (by omega),if_neg (by omega),if_pos c1,if_pos c2,if_pos c3,if_neg h.1,if_neg (fun g=>by omega)]
def Nok(d:Dc):Prop:=∀ v w,d≠.ok v w
theorem Nok.more:Nok .more:=fun _ _ h=>by cases h
theorem Nok.bad:Nok .bad:=fun _ _ h=>by cases h
theorem nk2{n:Int}{b:Int->Int}(hb:Byt b)(h1:192<=b 0)(h2:b 0<224)(h:n<2\/¬ ia (b 1) 192=128\/b 0<194):Nok (yE n b):=by
 rw[adX hb h1 h2];split
 .exact .more
 .split
  .split
   .exact .bad
   .rename_i h3;exfalso;obtain⟨_,_,_,_,_,a6,_⟩:=cl (hb 0);obtain⟨_,_,_,_,_,_,_,_,a9⟩:=cl (hb 1);rw[sl6,a6,a9]at h3;rcases h with h|h|h
    .omega
    .exact h (by assumption)
    .omega
  .exact .bad
theorem nk3{n:Int}{b:Int->Int}(hb:Byt b)(h1:224<=b 0)(h2:b 0<240)
    (h:n<3\/¬ ia (b 1) 192=128\/¬ ia (b 2) 192=128\/oi (sl (oi (sl (ia (b 0) 15) 6) (ia (b 1) 63)) 6) (ia (b 2) 63)<2048\/(¬ oi (sl (oi (sl (ia (b 0) 15) 6) (ia (b 1) 63)) 6) (ia (b 2) 63)<55296/\oi (sl (oi (sl (ia (b 0) 15) 6) (ia (b 1) 63)) 6) (ia (b 2) 63)<57344)):Nok (yE n b):=by
 rw[v3 hb]at h
 rw[abJ hb h1 h2]
 split
 .exact .more
 .split
  .split
   .split
    .exact .bad
    .split
     .exact .bad
     .rename_i g1 g2 g3 g4 g5
      exfalso
      rcases h with h|h|h|h|h
      .exact g1 h
      .exact h g2
      .exact h g3
      .exact g4 h
      .exact g5 ⟨h.1,by omega⟩
   .exact .bad
  .exact .bad
theorem nk4{n:Int}{b:Int->Int}(hb:Byt b)(h1:240<=b 0)(h2:b 0<248)
    (h:n<4\/¬ ia (b 1) 192=128\/¬ ia (b 2) 192=128\/¬ ia (b 3) 192=128\/oi (sl (oi (sl (oi (sl (ia (b 0) 7) 6) (ia (b 1) 63)) 6) (ia (b 2) 63)) 6) (ia (b 3) 63)<65536\/1114111<oi (sl (oi (sl (oi (sl (ia (b 0) 7) 6) (ia (b 1) 63)) 6) (ia (b 2) 63)) 6) (ia (b 3) 63)):Nok (yE n b):=by
 rw[v4 hb]at h
 rw[aeU hb h1 h2]
 split
 .exact .more
 .split
  .split
   .split
    .split
     .exact .bad
     .split
      .exact .bad
      .rename_i g1 g2 g3 g4 g5 g6
       exfalso
       rcases h with h|h|h|h|h|h
       .exact g1 h
       .exact h g2
       .exact h g3
       .exact h g4
       .exact g5 h
       .exact g6 (.inr h)
    .exact .bad
   .exact .bad
  .exact .bad
theorem nk0{n:Int}{b:Int->Int}(hb:Byt b)(h1:¬ b 0<128)(h:b 0<194\/245<=b 0):Nok (yE n b):=by
 obtain⟨a1,a2,a3,a4,a5,a6,a7,a8,a9⟩:=cl (hb 0);by_cases h3:192<=b 0/\b 0<224
 .exact nk2 hb h3.1 h3.2 (.inr (.inr (by omega)))
 by_cases h4:245<=b 0/\b 0<248
 .by_cases g:ia (b 1) 192=128/\ia (b 2) 192=128/\ia (b 3) 192=128
  .refine nk4 hb (by omega) h4.2 (.inr (.inr (.inr (.inr (.inr ?_)))));rw[v4 hb,sl6,sl6,sl6,a8];have:=ia0 (b 1) 63;have:=ia0 (b 2) 63;have:=ia0 (b 3) 63;omega
  .refine nk4 hb (by omega) h4.2 (.inr ?_);by_cases g1:ia (b 1) 192=128
   .by_cases g2:ia (b 2) 192=128
    .exact .inr (.inr (.inl fun g3=>g ⟨g1,g2,g3⟩))
    .exact .inr (.inl g2)
   .exact .inl g1
 unfold yE;rw[if_neg (fun h=>h1 (a1.1 h)),if_neg (fun h=>h3 (a2.1 h)),if_neg (fun h=>by have:=a3.1 h;omega),if_neg (fun h=>by have:=a4.1 h;omega)];exact .bad
theorem nk1{n:Int}{b:Int->Int}(hb:Byt b)(h1:b 0<128)(h:n<1):Nok (yE n b):=by
 obtain⟨a1,_⟩:=cl (hb 0);unfold yE;rw[if_pos (a1.2 h1),if_pos h];exact .more
structure P6(V:Ren):Prop where
 n:Ln V
 i20:0<=gI V 20
 i21:0<=gI V 21/\gI V 21<=2147483647
 le:gI V 20+gI V 21<=(gL V 17).length
 i23:0<=gI V 23/\gI V 23<=gI V 21
structure K6(V:Ren):Prop where
 a:0<=gI V 31/\gI V 31<=gI V 32
 b:gI V 32<=(gN V 33).length
 c:gI V 31<=gI V 23
def R6(V:Ren):List UInt8:=((gL V 17).take (gI V 20+gI V 21).toNat).drop (gI V 20+gI V 23).toNat
def ub(V:Ren)(k:Int):Int:=(((gL V 17).getD (gI V 20+(gI V 23+k)).toNat 0).toNat:Int)
theorem ub0(V:Ren):(((gL V 17).getD (gI V 20+gI V 23).toNat 0).toNat:Int)=ub V 0:=by unfold ub;rw[Int.add_zero]
theorem ubk(V:Ren)(k:Int):(((gL V 17).getD (gI V 20+(gI V 23+k)).toNat 0).toNat:Int)=ub V k:=rfl
theorem yB(V:Ren):Byt (ub V):=fun k=>⟨Int.natCast_nonneg _,by have:=UInt8.toNat_lt ((gL V 17).getD (gI V 20+(gI V 23+k)).toNat 0);unfold ub;omega⟩
theorem mO{V:Ren}(p:P6 V):((R6 V).length:Int)=gI V 21-gI V 23:=by
 have:=p.i20;have:=p.i21;have:=p.le;have:=p.i23;unfold R6;rw[List.length_drop,List.length_take];omega
theorem aL5{V:Ren}(p:P6 V)(h:gI V 23<gI V 21):d1 1 (R6 V)=yE (gI V 21-gI V 23) (ub V):=by
 have:=p.i20;have:=p.i21;have:=p.le;have:=p.i23;unfold d1;rw[mO p,dO (b:=ub V) (by omega)]
 .rfl
 .intro k h0 hk;unfold bt ub R6;simp only[List.getD_eq_getElem?_getD];rw[List.getElem?_drop,List.getElem?_take,if_pos (by omega),show (gI V 20+gI V 23).toNat+k.toNat=(gI V 20+(gI V 23+k)).toNat from by omega]
def SmD(V γ:Ren):Prop:=γ[73]?=V[73]?/\γ[16]?=V[16]?/\gL γ 17=gL V 17/\gI γ 20=gI V 20/\gI γ 21=gI V 21/\gI γ 22=gI V 22
theorem SmD.trans{a b c:Ren}(h:SmD a b)(g:SmD b c):SmD a c:=⟨g.1.trans h.1,g.2.1.trans h.2.1,g.2.2.1.trans h.2.2.1,g.2.2.2.1.trans h.2.2.2.1,g.2.2.2.2.1.trans h.2.2.2.2.1,g.2.2.2.2.2.trans h.2.2.2.2.2⟩
def O6(γ:Ren):List Int:=(gN γ 33).take (gI γ 31).toNat
def dX(V γ:Ren):Prop:=γ[30]?=V[30]?/\gN γ 33=gN V 33/\gI γ 31=gI V 31/\gI γ 32=gI V 32
def Gd6(O:Ren->List Int)(E:Ren->Ren->Prop)(V:Ren):Goal where
 J:=fun j γ=>match j with
  |0=>SmD V γ/\gI V 23<gI V 21/\∃ v w,d1 1 (R6 V)=.ok v w/\gI γ 23=gI V 23+w/\1<=w/\w<=gI V 21-gI V 23/\O6 γ=O V++[v]/\gI γ 31=((O V++[v]).length:Int)/\gI γ 31<=gI γ 32/\gI γ 32<=(gN γ 33).length
  |1=>SmD V γ/\¬ gI V 23<gI V 21/\E V γ
  |2=>SmD V γ/\gI V 23<gI V 21/\Nok (d1 1 (R6 V))
  |_=>False
 L:=fun _ _=>False
 O:=fun _ _ _ _=>False
 W:=fun _ _=>False
theorem W6{O Z:List Int}{v w:Int}{V γ:Ren}(p:P6 V)(s:SmD V γ)(hl:gI V 23<gI V 21)(hd:yE (gI V 21-gI V 23) (ub V)=.ok v w)(h23:gI γ 23=gI V 23+w)(hw:1<=w/\w<=gI V 21-gI V 23)(h33:gN γ 33=O++([v]++Z))(h31:gI γ 31=((O++[v]).length:Int))(h32:gI γ 32<=(gN γ 33).length/\gI γ 31<=gI γ 32) :
    SmD V γ/\gI V 23<gI V 21/\∃ v w,d1 1 (R6 V)=.ok v w/\gI γ 23=gI V 23+w/\1<=w/\w<=gI V 21-gI V 23/\O6 γ=O++[v]/\gI γ 31=((O++[v]).length:Int)/\gI γ 31<=gI γ 32/\gI γ 32<=(gN γ 33).length:=by
 refine⟨s,hl,v,w,by rw[aL5 p hl];exact hd,h23,hw.1,hw.2,?_,h31,h32.2,h32.1⟩
 unfold O6
 rw[h33,h31,Int.toNat_natCast,<-List.append_assoc,List.take_left]
theorem wG{V γ:Ren}(p:P6 V)(s:SmD V γ)(hl:gI V 23<gI V 21)(h:Nok (yE (gI V 21-gI V 23) (ub V))):SmD V γ/\gI V 23<gI V 21/\Nok (d1 1 (R6 V)):=⟨s,hl,by rw[aL5 p hl];exact h⟩
abbrev aQQ:List TB:=[(.lt (v 23) (v 21))]
abbrev aTZ:=.lt (v 20+v 23) (lb 17)::aQQ
abbrev aT1:=.lt (sb 17 (v 20+v 23)) 128::aTZ
abbrev aTA:=.lt (v 21) (v 23+1)::aT1
abbrev aw9:=nl (v 21) (v 23+1)::aT1
abbrev aUU:=nl (sb 17 (v 20+v 23)) 128::aTZ
abbrev aR6:=nl (sb 17 (v 20+v 23)) 194::.lt (sb 17 (v 20+v 23)) 224::aUU
abbrev aRR:=.lt (v 21) (v 23+2)::aR6
abbrev aPD:=nl (v 21) (v 23+2)::aR6
abbrev aOT:=.lt (v 23+1) (v 21)::aPD
abbrev aL1:=.lt (v 20+(v 23+1)) (lb 17)::aOT
abbrev ayI:=nq (.op .and (sb 17 (v 20+(v 23+1))) 192) 128::aL1
abbrev agV:=.eq (.op .and (sb 17 (v 20+(v 23+1))) 192) 128::aL1
abbrev aLZ:=.not (.and (nl (sb 17 (v 20+v 23)) 194) (.lt (sb 17 (v 20+v 23)) 224))::aUU
abbrev aDX:=nl (sb 17 (v 20+v 23)) 224::.lt (sb 17 (v 20+v 23)) 240::aLZ
abbrev aFW:=.lt (v 21) (v 23+3)::aDX
abbrev an3:=nl (v 21) (v 23+3)::aDX
abbrev amE:=.lt (v 23+1) (v 21)::an3
abbrev aCA:=.lt (v 20+(v 23+1)) (lb 17)::amE
abbrev aL8:=nq (.op .and (sb 17 (v 20+(v 23+1))) 192) 128::aCA
abbrev alL:=.eq (.op .and (sb 17 (v 20+(v 23+1))) 192) 128::aCA
abbrev aj7:=.lt (v 23+2) (v 21)::alL
abbrev aB2:=.lt (v 20+(v 23+2)) (lb 17)::aj7
abbrev aJK:=nq (.op .and (sb 17 (v 20+(v 23+2))) 192) 128::aB2
abbrev aDW:=.eq (.op .and (sb 17 (v 20+(v 23+2))) 192) 128::aB2
abbrev aD5:=.or (.lt (.op .or (.op .shl (.op .or (.op .shl (.op .and (sb 17 (v 20+v 23)) 15) 6) (.op .and (sb 17 (v 20+(v 23+1))) 63)) 6) (.op .and (sb 17 (v 20+(v 23+2))) 63)) 2048) (.and (nl (.op .or (.op .shl (.op .or (.op .shl (.op .and (sb 17 (v 20+v 23)) 15) 6) (.op .and (sb 17 (v 20+(v 23+1))) 63)) 6) (.op .and (sb 17 (v 20+(v 23+2))) 63)) 55296) (.lt (.op .or (.op .shl (.op .or (.op .shl (.op .and (sb 17 (v 20+v 23)) 15) 6) (.op .and (sb 17 (v 20+(v 23+1))) 63)) 6) (.op .and (sb 17 (v 20+(v 23+2))) 63)) 57344))::aDW
abbrev agW:=nl (.op .or (.op .shl (.op .or (.op .shl (.op .and (sb 17 (v 20+v 23)) 15) 6) (.op .and (sb 17 (v 20+(v 23+1))) 63)) 6) (.op .and (sb 17 (v 20+(v 23+2))) 63)) 2048::.not (.and (nl (.op .or (.op .shl (.op .or (.op .shl (.op .and (sb 17 (v 20+v 23)) 15) 6) (.op .and (sb 17 (v 20+(v 23+1))) 63)) 6) (.op .and (sb 17 (v 20+(v 23+2))) 63)) 55296) (.lt (.op .or (.op .shl (.op .or (.op .shl (.op .and (sb 17 (v 20+v 23)) 15) 6) (.op .and (sb 17 (v 20+(v 23+1))) 63)) 6) (.op .and (sb 17 (v 20+(v 23+2))) 63)) 57344))::aDW
abbrev aKU:=.not (.and (nl (sb 17 (v 20+v 23)) 224) (.lt (sb 17 (v 20+v 23)) 240))::aLZ
abbrev aC8:=nl (sb 17 (v 20+v 23)) 240::.lt (sb 17 (v 20+v 23)) 245::aKU
abbrev aAD:=.lt (v 21) (v 23+4)::aC8
abbrev aqS:=nl (v 21) (v 23+4)::aC8
abbrev atD:=.lt (v 23+1) (v 21)::aqS
abbrev azF:=.lt (v 20+(v 23+1)) (lb 17)::atD
abbrev aHH:=nq (.op .and (sb 17 (v 20+(v 23+1))) 192) 128::azF
abbrev asJ:=.eq (.op .and (sb 17 (v 20+(v 23+1))) 192) 128::azF
abbrev arK:=.lt (v 23+2) (v 21)::asJ
abbrev aCI:=.lt (v 20+(v 23+2)) (lb 17)::arK
abbrev aF5:=nq (.op .and (sb 17 (v 20+(v 23+2))) 192) 128::aCI
abbrev amZ:=.eq (.op .and (sb 17 (v 20+(v 23+2))) 192) 128::aCI
abbrev al4:=.lt (v 23+3) (v 21)::amZ
abbrev aAU:=.lt (v 20+(v 23+3)) (lb 17)::al4
abbrev aGA:=nq (.op .and (sb 17 (v 20+(v 23+3))) 192) 128::aAU
abbrev ayW:=.eq (.op .and (sb 17 (v 20+(v 23+3))) 192) 128::aAU
abbrev ayS:=.or (.lt (.op .or (.op .shl (.op .or (.op .shl (.op .or (.op .shl (.op .and (sb 17 (v 20+v 23)) 7) 6) (.op .and (sb 17 (v 20+(v 23+1))) 63)) 6) (.op .and (sb 17 (v 20+(v 23+2))) 63)) 6) (.op .and (sb 17 (v 20+(v 23+3))) 63)) 65536) (.lt 1114111 (.op .or (.op .shl (.op .or (.op .shl (.op .or (.op .shl (.op .and (sb 17 (v 20+v 23)) 7) 6) (.op .and (sb 17 (v 20+(v 23+1))) 63)) 6) (.op .and (sb 17 (v 20+(v 23+2))) 63)) 6) (.op .and (sb 17 (v 20+(v 23+3))) 63)))::ayW
abbrev ag5:=nl (.op .or (.op .shl (.op .or (.op .shl (.op .or (.op .shl (.op .and (sb 17 (v 20+v 23)) 7) 6) (.op .and (sb 17 (v 20+(v 23+1))) 63)) 6) (.op .and (sb 17 (v 20+(v 23+2))) 63)) 6) (.op .and (sb 17 (v 20+(v 23+3))) 63)) 65536::nl 1114111 (.op .or (.op .shl (.op .or (.op .shl (.op .or (.op .shl (.op .and (sb 17 (v 20+v 23)) 7) 6) (.op .and (sb 17 (v 20+(v 23+1))) 63)) 6) (.op .and (sb 17 (v 20+(v 23+2))) 63)) 6) (.op .and (sb 17 (v 20+(v 23+3))) 63))::ayW
abbrev aJQ:=.not (.and (nl (sb 17 (v 20+v 23)) 240) (.lt (sb 17 (v 20+v 23)) 245))::aKU
abbrev aMG:List TB:=[(nl (v 23) (v 21))]
abbrev aoZ:SgT:=[im 22,im 21,im 20,bm 16,bm 73]
abbrev uO:SgT:=bm 74::lm 17::aoZ
abbrev awZ:SgT:=(32,.itm (ln 91+1))::ik 31 1::(30,.new 92)::aoZ
def cT:Tre:=(.fork (nd 90 aQQ ((.lt (v 20+v 23) (lb 17)))
 (.fork (.fork (lf 2 90 90 (rgs (E6 t6N).n t6f) uO aTA)
 (nd 93 aw9 ((nl 1125899906842624 (v 23+1)))
 (lf 0 90 93 (rgs (E6 t6N).n t6S) ((33,.ntm (.app (.one (sb 17 (v 20+v 23))) (.var 91)))::bm 74::lm 17::(23,.itm (v 23+1))::awZ) ((nl 1125899906842624 (v 23+1))::aw9))))
 (.fork (.fork (lf 2 90 90 (rgs (E6 t6N).n t6f) uO aRR)
 (nd 90 aPD ((.lt (v 23+1) (v 21)))
 (nd 90 aOT ((.lt (v 20+(v 23+1)) (lb 17)))
 (.fork (lf 2 90 90 (rgs (E6 t6N).n t6f) uO ayI)
 (nd 93 agV ((nl 1125899906842624 (v 23+2)))
 (lf 0 90 93 (rgs (E6 t6N).n t6S) ((33,.ntm (.app (.one (.op .or (.op .shl (.op .and (sb 17 (v 20+v 23)) 31) 6) (.op .and (sb 17 (v 20+(v 23+1))) 63))) (.var 91)))::bm 74::lm 17::(23,.itm (v 23+2))::awZ) ((nl 1125899906842624 (v 23+2))::agV)))))))
 (.fork (.fork (lf 2 90 90 (rgs (E6 t6N).n t6f) uO aFW)
 (nd 90 an3 ((.lt (v 23+1) (v 21)))
 (nd 90 amE ((.lt (v 20+(v 23+1)) (lb 17)))
 (.fork (lf 2 90 90 (rgs (E6 t6N).n t6f) uO aL8)
 (nd 90 alL ((.lt (v 23+2) (v 21)))
 (nd 90 aj7 ((.lt (v 20+(v 23+2)) (lb 17)))
 (.fork (lf 2 90 90 (rgs (E6 t6N).n t6f) uO aJK)
 (.fork (lf 2 90 90 (rgs (E6 t6N).n t6f) uO aD5)
 (nd 93 agW ((nl 1125899906842624 (v 23+3)))
 (lf 0 90 93 (rgs (E6 t6N).n t6S) ((33,.ntm (.app (.one (.op .or (.op .shl (.op .or (.op .shl (.op .and (sb 17 (v 20+v 23)) 15) 6) (.op .and (sb 17 (v 20+(v 23+1))) 63)) 6) (.op .and (sb 17 (v 20+(v 23+2))) 63))) (.var 91)))::bm 74::lm 17::(23,.itm (v 23+3))::awZ) ((nl 1125899906842624 (v 23+3))::agW)))))))))))
 (.fork (.fork (lf 2 90 90 (rgs (E6 t6N).n t6f) uO aAD)
 (nd 90 aqS ((.lt (v 23+1) (v 21)))
 (nd 90 atD ((.lt (v 20+(v 23+1)) (lb 17)))
 (.fork (lf 2 90 90 (rgs (E6 t6N).n t6f) uO aHH)
 (nd 90 asJ ((.lt (v 23+2) (v 21)))
 (nd 90 arK ((.lt (v 20+(v 23+2)) (lb 17)))
 (.fork (lf 2 90 90 (rgs (E6 t6N).n t6f) uO aF5)
 (nd 90 amZ ((.lt (v 23+3) (v 21)))
 (nd 90 al4 ((.lt (v 20+(v 23+3)) (lb 17)))
 (.fork (lf 2 90 90 (rgs (E6 t6N).n t6f) uO aGA)
 (.fork (lf 2 90 90 (rgs (E6 t6N).n t6f) uO ayS)
 (nd 93 ag5 ((nl 1125899906842624 (v 23+4)))
 (lf 0 90 93 (rgs (E6 t6N).n t6S) ((33,.ntm (.app (.one (.op .or (.op .shl (.op .or (.op .shl (.op .or (.op .shl (.op .and (sb 17 (v 20+v 23)) 7) 6) (.op .and (sb 17 (v 20+(v 23+1))) 63)) 6) (.op .and (sb 17 (v 20+(v 23+2))) 63)) 6) (.op .and (sb 17 (v 20+(v 23+3))) 63))) (.var 91)))::bm 74::lm 17::(23,.itm (v 23+4))::awZ) ((nl 1125899906842624 (v 23+4))::ag5))))))))))))))
 (lf 2 90 90 (rgs (E6 t6N).n t6f) uO aJQ))))))
 (lf 1 90 90 (rgs (E6 t6N).n t6N) (bm 74::lm 17::im 23::aoZ) aMG))
theorem adB:asW t6N []=cT:=by kernel_rfl
abbrev aCQ:=nl (ln 33) (v 32)::aw9
abbrev aC0:=nl 4398046511104 (.lenN (.sub (.var 33) 0 (v 31))+1)::aCQ
abbrev aBN:=nl (ln 33) (v 32)::agV
abbrev aJR:=nl 4398046511104 (.lenN (.sub (.var 33) 0 (v 31))+1)::aBN
abbrev aKV:=nl (ln 33) (v 32)::agW
abbrev aF1:=nl 4398046511104 (.lenN (.sub (.var 33) 0 (v 31))+1)::aKV
abbrev azJ:=nl (ln 33) (v 32)::ag5
abbrev ay8:=nl 4398046511104 (.lenN (.sub (.var 33) 0 (v 31))+1)::azJ
abbrev awE:SgT:=(32,.itm (.lenN (.sub (.var 33) 0 (v 31))+1+ln 91))::(31,.itm (.lenN (.sub (.var 33) 0 (v 31))+1))::(30,.new 92)::aoZ
def bC:Tre:=(.fork (nd 90 aQQ ((.lt (v 20+v 23) (lb 17)))
 (.fork (.fork (lf 2 90 90 (rgs (E6 t6S).n t6f) uO aTA)
 (nd 90 aw9 ((nl (ln 33) (v 32)))
 (nd 90 aCQ ((nl 4398046511104 (.lenN (.sub (.var 33) 0 (v 31))+1)))
 (nd 93 aC0 ((nl 1125899906842624 (v 23+1)))
 (lf 0 90 93 (rgs (E6 t6S).n t6S) ((33,.ntm (.app (.app (.sub (.var 33) 0 (v 31)) (.one (sb 17 (v 20+v 23)))) (.var 91)))::bm 74::lm 17::(23,.itm (v 23+1))::awE) ((nl 1125899906842624 (v 23+1))::aC0))))))
 (.fork (.fork (lf 2 90 90 (rgs (E6 t6S).n t6f) uO aRR)
 (nd 90 aPD ((.lt (v 23+1) (v 21)))
 (nd 90 aOT ((.lt (v 20+(v 23+1)) (lb 17)))
 (.fork (lf 2 90 90 (rgs (E6 t6S).n t6f) uO ayI)
 (nd 90 agV ((nl (ln 33) (v 32)))
 (nd 90 aBN ((nl 4398046511104 (.lenN (.sub (.var 33) 0 (v 31))+1)))
 (nd 93 aJR ((nl 1125899906842624 (v 23+2)))
 (lf 0 90 93 (rgs (E6 t6S).n t6S) ((33,.ntm (.app (.app (.sub (.var 33) 0 (v 31)) (.one (.op .or (.op .shl (.op .and (sb 17 (v 20+v 23)) 31) 6) (.op .and (sb 17 (v 20+(v 23+1))) 63)))) (.var 91)))::bm 74::lm 17::(23,.itm (v 23+2))::awE) ((nl 1125899906842624 (v 23+2))::aJR)))))))))
 (.fork (.fork (lf 2 90 90 (rgs (E6 t6S).n t6f) uO aFW)
 (nd 90 an3 ((.lt (v 23+1) (v 21)))
 (nd 90 amE ((.lt (v 20+(v 23+1)) (lb 17)))
 (.fork (lf 2 90 90 (rgs (E6 t6S).n t6f) uO aL8)
 (nd 90 alL ((.lt (v 23+2) (v 21)))
 (nd 90 aj7 ((.lt (v 20+(v 23+2)) (lb 17)))
 (.fork (lf 2 90 90 (rgs (E6 t6S).n t6f) uO aJK)
 (.fork (lf 2 90 90 (rgs (E6 t6S).n t6f) uO aD5)
 (nd 90 agW ((nl (ln 33) (v 32)))
 (nd 90 aKV ((nl 4398046511104 (.lenN (.sub (.var 33) 0 (v 31))+1)))
 (nd 93 aF1 ((nl 1125899906842624 (v 23+3)))
 (lf 0 90 93 (rgs (E6 t6S).n t6S) ((33,.ntm (.app (.app (.sub (.var 33) 0 (v 31)) (.one (.op .or (.op .shl (.op .or (.op .shl (.op .and (sb 17 (v 20+v 23)) 15) 6) (.op .and (sb 17 (v 20+(v 23+1))) 63)) 6) (.op .and (sb 17 (v 20+(v 23+2))) 63)))) (.var 91)))::bm 74::lm 17::(23,.itm (v 23+3))::awE) ((nl 1125899906842624 (v 23+3))::aF1)))))))))))))
 (.fork (.fork (lf 2 90 90 (rgs (E6 t6S).n t6f) uO aAD)
 (nd 90 aqS ((.lt (v 23+1) (v 21)))
 (nd 90 atD ((.lt (v 20+(v 23+1)) (lb 17)))
 (.fork (lf 2 90 90 (rgs (E6 t6S).n t6f) uO aHH)
 (nd 90 asJ ((.lt (v 23+2) (v 21)))
 (nd 90 arK ((.lt (v 20+(v 23+2)) (lb 17)))
 (.fork (lf 2 90 90 (rgs (E6 t6S).n t6f) uO aF5)
 (nd 90 amZ ((.lt (v 23+3) (v 21)))
 (nd 90 al4 ((.lt (v 20+(v 23+3)) (lb 17)))
 (.fork (lf 2 90 90 (rgs (E6 t6S).n t6f) uO aGA)
 (.fork (lf 2 90 90 (rgs (E6 t6S).n t6f) uO ayS)
 (nd 90 ag5 ((nl (ln 33) (v 32)))
 (nd 90 azJ ((nl 4398046511104 (.lenN (.sub (.var 33) 0 (v 31))+1)))
 (nd 93 ay8 ((nl 1125899906842624 (v 23+4)))
 (lf 0 90 93 (rgs (E6 t6S).n t6S) ((33,.ntm (.app (.app (.sub (.var 33) 0 (v 31)) (.one (.op .or (.op .shl (.op .or (.op .shl (.op .or (.op .shl (.op .and (sb 17 (v 20+v 23)) 7) 6) (.op .and (sb 17 (v 20+(v 23+1))) 63)) 6) (.op .and (sb 17 (v 20+(v 23+2))) 63)) 6) (.op .and (sb 17 (v 20+(v 23+3))) 63)))) (.var 91)))::bm 74::lm 17::(23,.itm (v 23+4))::awE) ((nl 1125899906842624 (v 23+4))::ay8))))))))))))))))
 (lf 2 90 90 (rgs (E6 t6S).n t6f) uO aJQ))))))
 (lf 1 90 90 (rgs (E6 t6S).n t6S) (nm 33::bm 74::lm 17::im 23::im 32::im 31::bm 30::aoZ) aMG))
theorem fV:asW t6S []=bC:=by kernel_rfl
end U
