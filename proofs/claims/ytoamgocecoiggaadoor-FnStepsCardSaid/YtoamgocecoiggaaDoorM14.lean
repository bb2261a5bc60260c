-- the statement of this claim: see YtoamgocecoiggaaDoorRs
import Derived.Test.YtoamgocecoiggaaDoorM13
set_option linter.unusedVariables false
set_option linter.unusedSimpArgs false
set_option maxRecDepth 100000
noncomputable section
namespace Go.SM
noncomputable section
def frm:List (Nat × Value)->Tr Value
 |[]=>.e
 |(t,v)::l=>(frm l).set DF t v
theorem A1{n:Nat}(hn:n<=2 ^ 12):∀(l:List (Nat × Value))(t:Nat),t<n->(∀ p∈l,p.1<n)->(frm l).get DF t=(l.find? fun p=>Nat.beq p.1 t).map (·.2)
 |[],t,_,_=>rfl
 |(s,v)::l,t,ht,h=>by
  have hs:s<n:=h (s,v) (List.mem_cons_self ..);unfold frm;by_cases hst:s=t
  .subst hst;rw[Tr.get_set,List.find?_cons];simp
  .rw[Tr.get_set_ne v s t DF _ (uK 12 s t (by omega) (by omega) hst),A1 hn l t ht (fun p hp=>h p (List.mem_cons_of_mem _ hp)),List.find?_cons];have:Nat.beq s t=false:=by cases h:Nat.beq s t with
    |true=>exact absurd (Nat.eq_of_beq_eq_true h) hst
    |false=>rfl
   simp[this]
structure Tpl where
 m:Nat
 F:List (Nat × Value)
 H:List (Nat × Blk)
 G:List Nat:=[]
def sg0:List Nat->Sg
 |[]=>[]
 |i::l=>(i,.blk i)::sg0 l
theorem mS{V:Ren}:∀ {l:List Nat},(∀ i∈l,i<V.length)->(sg0 l).Valid V
 |[],_=>fun i b hb=>by cases hb
 |j::l,h=>fun i b hb=>by
  rcases Sg.get_cons hb with⟨rfl,rfl⟩|hb
  .have hj:=h i (by simp);exact⟨V[i],V[i],List.getElem?_eq_getElem hj,rfl⟩
  .exact mS (fun k hk=>h k (by simp[hk])) i b hb
def vS(m:Nat):List (Nat × Blk)->AS
 |[]=>{ heap:=.e,size:=m }
 |(i,b)::l=>{ heap:=(vS m l).heap.set D i b,size:=m }
theorem zK(m:Nat)(l:List (Nat × Blk)):(vS m l).size=m:=by cases l<;>rfl
theorem wJ{m:Nat}(hm:m<=2 ^ 20):∀(l:List (Nat × Blk))(B:Nat)(b:Blk),(∀ p∈l,p.1<m)->(vS m l).get B=some b->(B,b)∈l
 |[],B,b,_,h=>by
  unfold AS.get vS at h;split at h
  .rw[Tr.get_e]at h;cases h
  .cases h
 |(i,c)::l,B,b,hl,h=>by
  have hi:i<m:=hl (i,c) (List.mem_cons_self ..);unfold AS.get at h;rw[zK]at h;split at h
  .rename_i hB;simp only[vS]at h;by_cases hiB:i=B
   .subst hiB;rw[Tr.get_set]at h;cases h;exact List.mem_cons_self ..
   .rw[Tr.get_set_ne c i B D _ (uK 20 i B (by omega) (by omega) hiB)]at h;refine List.mem_cons_of_mem _ (wJ hm l B b (fun p hp=>hl p (List.mem_cons_of_mem _ hp)) ?_);unfold AS.get;rw[zK,if_pos hB];exact h
  .cases h
def gZ(m n:Nat)(A:List Value)(F:Tr Value):List (Nat × Value)->Sg->Option Sg
 |[],σ=>some σ
 |(t,p)::l,σ =>
  if Nat.blt t n then
   match mV m A 6 σ p (ung A (yW n F t)) with
   |some σ=>gZ m n A F l σ
   |none=>none
  else none
theorem rV{V:Ren}{m n:Nat}{A:List Value}{F:Tr Value}{a:Act}(hA:Facts V A)(hF:FS V n F a):∀ {l:List (Nat × Value)} {σ σ':Sg},gZ m n A F l σ=some σ'->σ.Valid V ->
    σ.le σ'/\σ'.Valid V/\∀ σ2 V1,σ'.le σ2->Inst V σ2 m V1->∀ t p u,(t,p)∈l->a.tmps[t]?=some u->t<n/\VR V1 p u
 |[],σ,σ',h,hv=>by cases h;exact⟨Sg.le.refl _,hv,fun _ _ _ _ t p u hm=>by cases hm⟩
 |(t,p)::l,σ,σ',h,hv=>by
  simp only[gZ]at h;split at h;rotate_left
  .cases h
  rename_i ht;have ht:t<n:=Nat.le_of_ble_eq_true ht;split at h;rotate_left
  .cases h
  rename_i σ1 h1;have hlt:t<a.tmps.size:=by rw[hF.size];exact ht
  have hu:=(hF.slot t a.tmps[t] (Array.getElem?_eq_getElem hlt)).ung hA;obtain⟨a1,a2,a3⟩:=S8 hA 6 h1 hv hu;obtain⟨b1,b2,b3⟩:=rV hA hF h a2;refine⟨a1.trans b1,b2,fun σ2 V1 hle hI t' p' u' hm hu'=>?_⟩;rcases List.mem_cons.1 hm with e|hm
  .cases e;rw[Array.getElem?_eq_getElem hlt]at hu';cases hu';exact⟨ht,a3 σ2 V1 (b1.trans hle) hI⟩
  .exact b3 σ2 V1 hle hI t' p' u' hm hu'
def mVs(m:Nat)(A:List Value):List Value->List Value->Sg->Option Sg
 |[],[],σ=>some σ
 |p::ps,v::vs,σ =>
  match mV m A 6 σ p v with
  |some σ=>mVs m A ps vs σ
  |none=>none
 |_,_,_=>none
theorem dB{V:Ren}{m:Nat}{A:List Value}(hA:Facts V A):∀ {ps vs us:List Value} {σ σ':Sg},mVs m A ps vs σ=some σ'->σ.Valid V->VRs V vs us ->
    σ.le σ'/\σ'.Valid V/\∀ σ2 V1,σ'.le σ2->Inst V σ2 m V1->VRs V1 ps us
 |[],[],us,σ,σ',h,hv,hr=>by
  cases h;have:us=[]:=List.eq_nil_of_length_eq_zero hr.1;subst this;exact⟨Sg.le.refl _,hv,fun _ _ _ _=>VRs.nil _⟩
 |p::ps,v::vs,us,σ,σ',h,hv,hr=>by
  simp only[mVs]at h;split at h;rotate_left
  .cases h
  rename_i σ1 h1;obtain⟨u,us',rfl,q1,q2⟩:=hr.cons_inv;obtain⟨a1,a2,a3⟩:=S8 hA 6 h1 hv q1;obtain⟨b1,b2,b3⟩:=dB hA h a2 q2;exact⟨a1.trans b1,b2,fun σ2 V1 hle hI=>VRs.cons (a3 σ2 V1 (b1.trans hle) hI) (b3 σ2 V1 hle hI)⟩
 |[],_::_,_,_,_,h,_,_=>by simp[mVs]at h
 |_::_,[],_,_,_,h,_,_=>by simp[mVs]at h
def aWE:Value->Bool
 | .int .u8 n=>decide (0<=n)&&decide (n<=255)
 |_=>false
def aOH:Value->UInt8
 | .int _ n=>UInt8.ofNat n.toNat
 |_=>0
def aNX(vs:List Value):Option Value:=if Nat.ble 64 vs.length&&vs.all aWE then some (.string ⟨(vs.map aOH).toArray⟩) else none
theorem ae4{V:Ren}{vs us:List Value}{e:Value}(h:VRs V vs us)(hl:aNX vs=some e):∃ t:TL,e=t.enc/\t.ok V.length=true/\us=bv (t.den V)/\(t.den V).length=vs.length:=by
 unfold aNX at hl;split at hl;rotate_left
 .cases hl
 rename_i hc;rw[Bool.and_eq_true]at hc;cases hl;refine⟨.lit (vs.map aOH),by simp[TL.enc],rfl,?_,by simp[TL.den]⟩;apply List.ext_getElem?;intro i;simp only[TL.den,bv,List.getElem?_map];rcases Nat.lt_or_ge i vs.length with hi|hi
 .have hu:i<us.length:=by rw[h.1];exact hi
  have hv:=h.2 i _ _ (List.getElem?_eq_getElem hi) (List.getElem?_eq_getElem hu);have hb:=List.all_eq_true.1 hc.2 vs[i] (List.getElem_mem hi);rw[List.getElem?_eq_getElem hi,List.getElem?_eq_getElem hu];simp only[Option.map_some,Option.some.injEq];unfold aWE at hb;split at hb
  .rename_i n hn;rw[Bool.and_eq_true,decide_eq_true_eq,decide_eq_true_eq]at hb;rw[hn]at hv ⊢;rw[hv.eq_of_ground rfl];simp only[aOH,UInt8.toNat_ofNat',Value.int.injEq,true_and];rw[Nat.mod_eq_of_lt (by omega)];omega
  .cases hb
 .rw[List.getElem?_eq_none hi,List.getElem?_eq_none (by rw[h.1];exact hi)];rfl
def amY(vs:List Value):Option Value:=match aNX vs with
 |some e=>some e
 |none=>eY vs
theorem P0{V:Ren}{vs us:List Value}{e:Value}(h:VRs V vs us)(ho:amY vs=some e):∃ t:TL,e=t.enc/\t.ok V.length=true/\us=bv (t.den V)/\(t.den V).length=vs.length:=by
 unfold amY at ho;split at ho
 .rename_i e' he;cases ho;exact ae4 h he
 .exact sM h ho
def axB(m:Nat)(A:List Value)(H:AS)(σ:Sg)(i:Nat)(p:Blk):Option Sg :=
 match σ.get i with
 |some (.blk B) =>
  match H.get B with
  |none=>none
  |some b =>
   if b.live&&p.live&&Nat.blt i m&&(p.ro || !b.ro)&&Nat.beq p.elem b.elem then
    match p.seq with
    |none=>if b.seq.isNone then mVs m A p.cells b.cells σ else none
    |some (.map (some j)) =>
     if p.cells.isEmpty&&Nat.blt j m then
      match b.sq with
      |some e=>uQ σ j (.ltm e)
      |none=>if b.seq.isNone then (match amY b.cells with
       |some e=>uQ σ j (.ltm e)
       |none=>none) else none
     else none
    |some (.func (.yield 28) ⟨[.map (some j)]⟩ ⟨[]⟩) =>
     if p.cells.isEmpty&&Nat.blt j m then
      match b.seq with
      |some (.func (.yield 28) ⟨[e]⟩ ⟨[]⟩)=>uQ σ j (.ntm e)
      |some _=>none
      |none=>match eX b.cells with
       |some e=>uQ σ j (.ntm e)
       |none=>none
     else none
    |some (.func (.yield 29) ⟨[.map (some j)]⟩ ⟨[]⟩) =>
     if p.cells.isEmpty&&Nat.blt j m then
      match b.seq with
      |some (.func (.yield 29) ⟨[e]⟩ ⟨[]⟩)=>uQ σ j (.ntm e)
      |_=>none
     else none
    |some _=>none
   else none
 |_=>none
theorem adL{w0:W0}{V:Ren}{H:AS}{w:World}{m:Nat}{A:List Value}(hA:Facts V A)(h:HR w0 V H w){σ σ':Sg}{i:Nat}{p:Blk}(hm:axB m A H σ i p=some σ')(hv:σ.Valid V) :
    σ.le σ'/\σ'.Valid V/\∃ B b,σ.get i=some (.blk B)/\H.get B=some b/\b.live=true/\(p.ro=false->b.ro=false)/\∀ σ2 V1,σ'.le σ2->Inst V σ2 m V1 ->
     ∃ (c s:Nat) (C:Array Value) (fr:Nat × Nat),Go.SM.hm V1 i=some (c,s)/\HC w c C p fr/\(∀ h,V1[i]?=some h->h.top=C.size)/\p.cells.length+s<=C.size/\(p.ro=false->∀ i,i<C.size->¬ (fr.1<=i/\i<fr.2)) /\
      (∀ i v,p.cells[i]?=some v->∃ u,C[i+s]?=some u/\VR V1 v u)/\((p.ro=false->¬ w0.keep c)/\xR V1 p C s):=by
 unfold axB at hm
 split at hm
 rotate_left
 .cases hm
 rename_i B hB
 split at hm
 .cases hm
 rename_i b hg
 split at hm
 rotate_left
 .cases hm
 rename_i hc
 simp only[Bool.and_eq_true,Bool.or_eq_true,Bool.not_eq_true']at hc
 obtain⟨⟨⟨⟨c1,c2⟩,c3⟩,c4⟩,c5⟩:=hc
 have him:i<m:=Nat.le_of_ble_eq_true c3
 have hel:=Nat.eq_of_beq_eq_true c5
 have hro:p.ro=false->b.ro=false:=fun e=>by rcases c4 with h1|h1;rw[e]at h1;cases h1;exact h1
 obtain⟨c,s,C,fr,hβ,⟨el,hw,hel2⟩,htop,hsz,hfr,hcl,hbase,hsq⟩:=h.blk B b hg c1
 have home:∀ {σ2:Sg} {V1:Ren},σ.le σ2->Inst V σ2 m V1->Go.SM.hm V1 i=some (c,s)/\∀ h,V1[i]?=some h->h.top=C.size:=by
  intro σ2 V1 hle hI;have e:=hI.blk (hle _ _ hB) him;refine⟨?_,fun q hq=>htop q (by rw[<-e];exact hq)⟩;unfold Go.SM.hm at hβ ⊢;rw[e];exact hβ
 have hHC:HC w c C p fr:=⟨el,hw,fun e=>by rw[hel2 (hro e),hel]⟩
 have pre:∀ (l:List Value),VRs V b.cells l->l=(C.toList.drop s).take b.cells.length->True:=fun _ _ _=>trivial
 have cellsOf:∃ us:List Value,VRs V b.cells us/\(∀ k u,us[k]?=some u->C[k+s]?=some u)/\us=(C.toList.drop s).take b.cells.length:=by
  refine⟨(C.toList.drop s).take b.cells.length,⟨by rw[List.length_take,List.length_drop,Array.length_toList];omega,fun k v u hv' hu'=>?_⟩,fun k u hk=>?_,rfl⟩
  ·have hk : k < b.cells.length := by
     rcases Nat.lt_or_ge k b.cells.length with hl|hl
     .exact hl
     .rw[List.getElem?_eq_none hl]at hv';cases hv'
   rw[List.getElem?_take_of_lt hk,List.getElem?_drop,Array.getElem?_toList]at hu';obtain⟨u2,hu2,hr⟩:=hcl k v hv';rw[Nat.add_comm k s,hu']at hu2;cases hu2;exact hr
  ·have hk' : k < b.cells.length := by
     rcases Nat.lt_or_ge k ((C.toList.drop s).take b.cells.length).length with hl|hl
     .rw[List.length_take]at hl;omega
     .rw[List.getElem?_eq_none hl]at hk;cases hk
   rw[List.getElem?_take_of_lt hk',List.getElem?_drop,Array.getElem?_toList]at hk;rw[Nat.add_comm];exact hk
 obtain⟨us,hus,hget,huse⟩:=cellsOf
 split at hm
 .rename_i hps
  split at hm
  rotate_left
  .cases hm
  obtain⟨a1,a2,a3⟩:=dB hA hm hv hus
  refine⟨a1,a2,B,b,hB,hg,c1,hro,fun σ2 V1 hle hI=>?_⟩
  obtain⟨e1,e2⟩:=home (a1.trans hle) hI
  have hr:=a3 σ2 V1 hle hI
  refine⟨c,s,C,fr,e1,hHC,e2,?_,fun e=>hfr (hro e),fun k v hk=>?_,fun e=>hbase (hro e),xR.none hps⟩
  .rw[<-hr.1,hus.1];exact hsz
  .obtain⟨u,hu,hvu⟩:=hr.get hk
   exact⟨u,hget k u hu,hvu⟩
 .rename_i j hps
  split at hm
  rotate_left
  .cases hm
  rename_i hc2
  rw[Bool.and_eq_true]at hc2
  have hpc:p.cells=[]:=by simpa using hc2.1
  have hjm:j<m:=Nat.le_of_ble_eq_true hc2.2
  have fin:∀ {e:Value} {t:TL} {pr po:List Value},uQ σ j (.ltm e)=some σ'->e=t.enc->t.ok V.length=true->pr.length=s->C.toList=pr++bv (t.den V)++po ->
      σ.le σ'/\σ'.Valid V/\∃ B b,σ.get i=some (.blk B)/\H.get B=some b/\b.live=true/\(p.ro=false->b.ro=false)/\∀ σ2 V1,σ'.le σ2->Inst V σ2 m V1 ->
       ∃ (c s:Nat) (C:Array Value) (fr:Nat × Nat),Go.SM.hm V1 i=some (c,s)/\HC w c C p fr/\(∀ h,V1[i]?=some h->h.top=C.size)/\p.cells.length+s<=C.size/\(p.ro=false->∀ i,i<C.size->¬ (fr.1<=i/\i<fr.2)) /\
        (∀ i v,p.cells[i]?=some v->∃ u,C[i+s]?=some u/\VR V1 v u)/\((p.ro=false->¬ w0.keep c)/\xR V1 p C s):=by
   intro e t pr po hb he hok hpr hC
   subst he
   obtain⟨a1,a2,a3⟩:=yZ hb hv ⟨_,t,rfl,hok,rfl⟩
   refine⟨a1,a2,B,b,hB,hg,c1,hro,fun σ2 V1 hle hI=>?_⟩
   obtain⟨e1,e2⟩:=home (a1.trans hle) hI
   obtain⟨q1,q2⟩:=hI.ltm (hle _ _ a3) hjm
   refine⟨c,s,C,fr,e1,hHC,e2,by rw[hpc];simp;omega,fun e=>hfr (hro e),fun k v hk=>by rw[hpc]at hk;simp at hk,fun e=>hbase (hro e),?_⟩
   intro x hx
   rw[hps]at hx
   cases hx
   exact .inl ⟨.var j,pr,po,rfl,q2,hpr,by rw[q1];exact hC⟩
  split at hm
  .rename_i e hbs
   obtain⟨t,pr,po,he,hok,hpr,hC⟩:=hsq.get hbs
   exact fin hm he hok hpr hC
  .split at hm
   rotate_left
   .cases hm
   split at hm
   .rename_i e ho
    obtain⟨t,he,hok,hut,hlen⟩:=P0 hus ho
    refine fin (pr:=C.toList.take s) (po:=(C.toList.drop s).drop b.cells.length) hm he hok (by rw[List.length_take,Array.length_toList];omega) ?_
    rw[<-hut,huse,List.append_assoc,List.take_append_drop,List.take_append_drop]
   .cases hm
 .rename_i j hps
  split at hm
  rotate_left
  .cases hm
  rename_i hc2
  rw[Bool.and_eq_true]at hc2
  have hpc:p.cells=[]:=by simpa using hc2.1
  have hjm:j<m:=Nat.le_of_ble_eq_true hc2.2
  have fin:∀ {e:Value} {t:TN} {pr po:List Value},uQ σ j (.ntm e)=some σ'->e=t.enc->t.ok V.length=true->pr.length=s->C.toList=pr++nv (t.den V)++po->(∀ x∈t.den V,0<=x/\x<=4194303) ->
      σ.le σ'/\σ'.Valid V/\∃ B b,σ.get i=some (.blk B)/\H.get B=some b/\b.live=true/\(p.ro=false->b.ro=false)/\∀ σ2 V1,σ'.le σ2->Inst V σ2 m V1 ->
       ∃ (c s:Nat) (C:Array Value) (fr:Nat × Nat),Go.SM.hm V1 i=some (c,s)/\HC w c C p fr/\(∀ h,V1[i]?=some h->h.top=C.size)/\p.cells.length+s<=C.size/\(p.ro=false->∀ i,i<C.size->¬ (fr.1<=i/\i<fr.2)) /\
        (∀ i v,p.cells[i]?=some v->∃ u,C[i+s]?=some u/\VR V1 v u)/\((p.ro=false->¬ w0.keep c)/\xR V1 p C s):=by
   intro e t pr po hb he hok hpr hC hrg
   subst he
   obtain⟨a1,a2,a3⟩:=yZ hb hv ⟨_,t,rfl,hok,rfl⟩
   refine⟨a1,a2,B,b,hB,hg,c1,hro,fun σ2 V1 hle hI=>?_⟩
   obtain⟨e1,e2⟩:=home (a1.trans hle) hI
   obtain⟨q1,q2⟩:=hI.ntm (hle _ _ a3) hjm
   refine⟨c,s,C,fr,e1,hHC,e2,by rw[hpc];simp;omega,fun e=>hfr (hro e),fun k v hk=>by rw[hpc]at hk;simp at hk,fun e=>hbase (hro e),?_⟩
   intro x hx
   rw[hps]at hx
   cases hx
   exact .inr ⟨28,.var j,pr,po,.inl rfl,rfl,q2,hpr,by rw[q1];exact hC,by rw[q1];exact hrg⟩
  split at hm
  .rename_i e hbs
   obtain⟨t,pr,po,he,hok,hpr,hC,hrg⟩:=hsq.getN hbs
   exact fin hm he hok hpr hC hrg
  .cases hm
  .split at hm
   .rename_i e ho
    obtain⟨t,he,hok,hut,hlen,hrg⟩:=sH hus ho
    refine fin (pr:=C.toList.take s) (po:=(C.toList.drop s).drop b.cells.length) hm he hok (by rw[List.length_take,Array.length_toList];omega) ?_ hrg
    rw[<-hut,huse,List.append_assoc,List.take_append_drop,List.take_append_drop]
   .cases hm
 .rename_i j hps
  split at hm
  rotate_left
  .cases hm
  rename_i hc2
  rw[Bool.and_eq_true]at hc2
  have hpc:p.cells=[]:=by simpa using hc2.1
  have hjm:j<m:=Nat.le_of_ble_eq_true hc2.2
  split at hm
  .rename_i e hbs
   obtain⟨t,pr,po,he,hok,hpr,hC,hrg⟩:=hsq.getM hbs
   subst he
   obtain⟨a1,a2,a3⟩:=yZ hm hv ⟨_,t,rfl,hok,rfl⟩
   refine⟨a1,a2,B,b,hB,hg,c1,hro,fun σ2 V1 hle hI=>?_⟩
   obtain⟨e1,e2⟩:=home (a1.trans hle) hI
   obtain⟨q1,q2⟩:=hI.ntm (hle _ _ a3) hjm
   refine⟨c,s,C,fr,e1,hHC,e2,by rw[hpc];simp;omega,fun e=>hfr (hro e),fun k v hk=>by rw[hpc]at hk;simp at hk,fun e=>hbase (hro e),?_⟩
   intro x hx
   rw[hps]at hx
   cases hx
   exact .inr ⟨29,.var j,pr,po,.inr rfl,rfl,q2,hpr,by rw[q1];exact hC,by rw[q1];exact hrg⟩
  .cases hm
 .cases hm
def agL(m:Nat)(A:List Value)(H:AS):List (Nat × Blk)->Sg->Option Sg
 |[],σ=>some σ
 |(i,p)::l,σ =>
  match axB m A H σ i p with
  |some σ=>agL m A H l σ
  |none=>none
def afI(σ:Sg)(l:List (Nat × Blk)):Bool :=
 l.all fun p=>l.all fun q=>Nat.beq p.1 q.1 || (p.2.ro&&q.2.ro) || (match σ.get p.1,σ.get q.1 with
  |some (.blk B),some (.blk C)=>!(Nat.beq B C)
  |_,_=>false)
def sN(tp:Tpl)(n:Nat)(A:List Value)(F:Tr Value)(H:AS):Option Sg :=
 if Nat.ble tp.m 1048576&&(tp.H.all fun p=>Nat.blt p.1 tp.m)&&(tp.F.all fun p=>Nat.blt p.1 n)&&(tp.G.all fun i=>Nat.blt i H.size) then
  match gZ tp.m n A F tp.F (sg0 tp.G) with
  |some σ =>
   match agL tp.m A H tp.H σ with
   |some σ=>if afI σ tp.H then some σ else none
   |none=>none
  |none=>none
 else none
def Tpl.heap(tp:Tpl):AS:=vS tp.m tp.H
def Tpl.frame(tp:Tpl):Tr Value:=frm tp.F
theorem qV{w0:W0}{V:Ren}{H:AS}{w:World}{m:Nat}{A:List Value}(hA:Facts V A)(h:HR w0 V H w):∀ {l:List (Nat × Blk)} {σ σ':Sg},agL m A H l σ=some σ'->σ.Valid V ->
    σ.le σ'/\σ'.Valid V/\∀ i p,(i,p)∈l->∃ B b,σ'.get i=some (.blk B)/\H.get B=some b/\b.live=true/\(p.ro=false->b.ro=false)/\∀ σ2 V1,σ'.le σ2->Inst V σ2 m V1 ->
     ∃ (c s:Nat) (C:Array Value) (fr:Nat × Nat),Go.SM.hm V1 i=some (c,s)/\HC w c C p fr/\(∀ h,V1[i]?=some h->h.top=C.size)/\p.cells.length+s<=C.size/\(p.ro=false->∀ i,i<C.size->¬ (fr.1<=i/\i<fr.2)) /\
      (∀ i v,p.cells[i]?=some v->∃ u,C[i+s]?=some u/\VR V1 v u)/\((p.ro=false->¬ w0.keep c)/\xR V1 p C s)
 |[],σ,σ',hm,hv=>by cases hm;exact⟨Sg.le.refl _,hv,fun i p hp=>by cases hp⟩
 |(i,p)::l,σ,σ',hm,hv=>by
  simp only[agL]at hm;split at hm;rotate_left
  .cases hm
  rename_i σ1 h1;obtain⟨a1,a2,B,b,a3,a4,a5,a6,a7⟩:=adL hA h h1 hv;obtain⟨b1,b2,b3⟩:=qV hA h hm a2;refine⟨a1.trans b1,b2,fun i' p' hp=>?_⟩;rcases List.mem_cons.1 hp with e|hp
  .cases e;exact⟨B,b,b1 _ _ (a1 _ _ a3),a4,a5,a6,fun σ2 V1 hle hI=>a7 σ2 V1 (b1.trans hle) hI⟩
  .exact b3 i' p' hp
theorem vX{w0:W0}{V:Ren}{H:AS}{w:World}{n:Nat}{A:List Value}{F:Tr Value}{a:Act}{tp:Tpl}{σ:Sg}(hA:Facts V A)(h:HR w0 V H w)(hF:FS V n F a)(hm:sN tp n A F H=some σ) :
    ∃ V1,Inst V σ tp.m V1/\HR w0 V1 tp.heap w/\FS V1 n tp.frame a:=by
 unfold sN at hm
 split at hm
 rotate_left
 .cases hm
 rename_i hc
 simp only[Bool.and_eq_true,List.all_eq_true]at hc
 obtain⟨⟨⟨hc1,hc2⟩,hc3⟩,hc4⟩:=hc
 have hc4:∀ i∈tp.G,i<V.length:=fun i hi=>by rw[h.len];exact Nat.le_of_ble_eq_true (hc4 i hi)
 have hc1:tp.m<=2 ^ 20:=Nat.le_of_ble_eq_true hc1
 have hc2:∀ p∈tp.H,p.1<tp.m:=fun p hp=>Nat.le_of_ble_eq_true (hc2 p hp)
 have hc3:∀ p∈tp.F,p.1<n:=fun p hp=>Nat.le_of_ble_eq_true (hc3 p hp)
 split at hm
 rotate_left
 .cases hm
 rename_i σ1 h1
 split at hm
 rotate_left
 .cases hm
 rename_i σ2 h2
 split at hm
 rotate_left
 .cases hm
 rename_i hap
 cases hm
 obtain⟨a1,a2,a3⟩:=rV hA hF h1 (mS hc4)
 obtain⟨b1,b2,b3⟩:=qV hA h h2 a2
 obtain⟨V1,hI⟩:=b2.inst tp.m
 refine⟨V1,hI,⟨by rw[hI.len];exact (zK _ _).symm,by show (vS tp.m tp.H).size<=_;rw[zK];exact hc1,?_,?_,h.below⟩,⟨hF.size,hF.small,fun t u hu=>.inl ?_,hF.nodef⟩⟩
 .intro i p hg hl
  have hmem:=wJ hc1 tp.H i p hc2 hg
  obtain⟨B,b,_,_,_,_,q⟩:=b3 i p hmem
  exact q σ V1 (Sg.le.refl _) hI
 .intro i j p q hg hg' hl hl' hro hne
  have hmem:=wJ hc1 tp.H i p hc2 hg
  have hmem':=wJ hc1 tp.H j q hc2 hg'
  obtain⟨B,b,e1,e2,e3,e4,_⟩:=b3 i p hmem
  obtain⟨C,c,f1,f2,f3,f4,_⟩:=b3 j q hmem'
  unfold afI at hap
  rw[List.all_eq_true]at hap
  have:=hap (i,p) hmem
  rw[List.all_eq_true]at this
  have:=this (j,q) hmem'
  simp only[Bool.or_eq_true,Bool.and_eq_true]at this
  rcases this with (this|this)|this
  .exact absurd (Nat.eq_of_beq_eq_true this) hne
  .rw[hro]at this;cases this.1
  .rw[e1,f1]at this
   have hBC:B≠C:=by
    intro e;subst e;simp at this
   have g1:=hI.blk e1 (hc2 _ hmem)
   have g2:=hI.blk f1 (hc2 _ hmem')
   have:=h.inj B C b c e2 f2 e3 f3 (e4 hro) hBC
   unfold Go.SM.hm at this ⊢
   rw[g1,g2];exact this
 ·have htn : t < n := by
    have:t<a.tmps.size:=by
     rcases Nat.lt_or_ge t a.tmps.size with hl|hl
     .exact hl
     .rw[Array.getElem?_eq_none hl]at hu;cases hu
    rw[hF.size]at this;exact this
  unfold yW;rw[if_pos htn];show VR V1 (match (frm tp.F).get DF t with
   |some v=>v
   |none=>.tuple #[]) u
  rw[A1 hF.small tp.F t htn hc3];cases hf:tp.F.find? (fun p=>Nat.beq p.1 t) with
  |none=>exact .any u
  |some p =>
   have h1':=List.find?_some hf;have h2':=List.mem_of_find?_eq_some hf;have h3:p.1=t:=Nat.eq_of_beq_eq_true h1';exact (a3 σ V1 b1 hI t p.2 u (by rw[<-h3];exact h2') hu).2
end
noncomputable section
def gI(V:Ren)(i:Nat):Int:=(TI.var i).den V
def gL(V:Ren)(i:Nat):List UInt8:=(TL.var i).den V
def gB(V:Ren)(i:Nat):Bool:=(TB.var i).den V
def gN(V:Ren)(i:Nat):List Int:=(TN.var i).den V
def gV(V:Ren)(i:Nat):Option Value:=V[i]?.map (·.v)
theorem xT(V:Ren)(i:Nat):(TI.var i).den V=gI V i:=rfl
theorem ak0(V:Ren)(i:Nat):(TL.var i).den V=gL V i:=rfl
theorem xW(V:Ren)(n:Int):(TI.lit n).den V=n:=by simp[TI.den]
theorem aOO(V:Ren)(o:IOp)(a b:TI):(TI.op o a b).den V=o.fn (a.den V) (b.den V):=by simp[TI.den]
theorem auC(V:Ren)(k:IntKind)(a:TI):(TI.wrap k a).den V=k.wrap (a.den V):=by simp[TI.den]
theorem av9(V:Ren)(l:TL):(TI.len l).den V=((l.den V).length:Int):=by simp[TI.den]
theorem av5(V:Ren)(l:TL)(i:TI):(TI.sel l i).den V=(((l.den V).getD (i.den V).toNat 0).toNat:Int):=by simp[TI.den]
theorem arZ(V:Ren)(i:Nat):(TN.var i).den V=gN V i:=rfl
theorem aoJ(V:Ren)(l:TN):(TI.lenN l).den V=((l.den V).length:Int):=by simp[TI.den]
theorem an9(V:Ren)(l:TN)(i:TI):(TI.selN l i).den V=(l.den V).getD (i.den V).toNat 0:=by simp[TI.den]
theorem ajM(V:Ren):TN.nil.den V=[]:=by simp[TN.den]
theorem apF(V:Ren)(v:TI):(TN.one v).den V=[v.den V]:=by simp[TN.den]
theorem aq7(V:Ren)(l m:TN):(TN.app l m).den V=l.den V++m.den V:=by simp[TN.den]
theorem alD(V:Ren)(l:TN)(a b:TI):(TN.sub l a b).den V=((l.den V).take (b.den V).toNat).drop (a.den V).toNat:=by simp[TN.den]
theorem ar1(V:Ren)(l:List UInt8):(TL.lit l).den V=l:=by simp[TL.den]
theorem apK(V:Ren)(l:TL)(i v:TI):(TL.set l i v).den V=(l.den V).set (i.den V).toNat (UInt8.ofNat (v.den V).toNat):=by simp[TL.den]
theorem alA(V:Ren)(l m:TL):(TL.app l m).den V=l.den V++m.den V:=by simp[TL.den]
theorem akE(V:Ren)(v:TI):(TL.one v).den V=[UInt8.ofNat (v.den V).toNat]:=by simp[TL.den]
theorem atJ(V:Ren)(l:TL)(a b:TI):(TL.sub l a b).den V=((l.den V).take (b.den V).toNat).drop (a.den V).toNat:=by simp[TL.den]
theorem alJ(V:Ren)(l:TL)(i:TI)(m:TL):(TL.put l i m).den V=putAt (l.den V) (i.den V).toNat (m.den V):=by simp[TL.den]
def TB.P(V:Ren):TB->Prop
 | .lit b=>b=true
 | .var i=>gB V i=true
 | .lt a b=>a.den V<b.den V
 | .le a b=>a.den V<=b.den V
 | .eq a b=>a.den V=b.den V
 | .eqL a b=>a.den V=b.den V
 | .not a=>¬ a.P V
 | .and a b=>a.P V/\b.P V
 | .or a b=>a.P V\/b.P V
 | .ite c a b=>(c.P V/\a.P V)\/(¬ c.P V/\b.P V)
 | .pred i x y z l m=>ahE V[i]? [x.den V,y.den V,z.den V] [l.den V,m.den V]=true
theorem TB.P_iff(V:Ren):∀(t:TB),t.den V=true↔t.P V
 | .lit b=>by simp[TB.den,TB.P]
 | .var i=>Iff.rfl
 | .lt a b=>by simp[TB.den,TB.P]
 | .le a b=>by simp[TB.den,TB.P]
 | .eq a b=>by simp[TB.den,TB.P]
 | .eqL a b=>by simp[TB.den,TB.P]
 | .not a=>by have:=TB.P_iff V a;simp only[TB.den,TB.P];rw[<-this];simp
 | .and a b=>by have h1:=TB.P_iff V a;have h2:=TB.P_iff V b;simp only[TB.den,TB.P];rw[<-h1,<-h2];simp
 | .or a b=>by have h1:=TB.P_iff V a;have h2:=TB.P_iff V b;simp only[TB.den,TB.P];rw[<-h1,<-h2];simp
 | .ite c a b=>by
  have h1:=TB.P_iff V a;have h2:=TB.P_iff V b;have h3:=TB.P_iff V c;simp only[TB.den,TB.P];rw[<-h1,<-h2,<-h3];cases c.den V<;>simp
 | .pred i x y z l m=>by simp[TB.den,TB.P]
def zF(V:Ren):List TB->Prop
 |[]=>True
 |t::l=>t.P V/\zF V l
theorem Facts.toP{V:Ren}:∀ {l:List TB},Facts V (l.map TB.enc)->zF V l
 |[],_=>trivial
 |t::l,h=>by
  obtain⟨t',h1,h2,h3⟩:=h t.enc (by simp);have:=TB.inj _ _ h1;subst this;exact⟨(TB.P_iff V _).1 h3,Facts.toP fun a ha=>h a (by simp at ha ⊢;exact .inr ha)⟩
theorem zF.append{V:Ren}:∀ {l l':List TB},zF V l->zF V l'->zF V (l++l')
 |[],_,_,h=>h
 |_::_,_,h,h'=>⟨h.1,zF.append h.2 h'⟩
theorem zF.flat{V:Ren}{α:Type}{f:α->List TB}:∀ {l:List α},(∀ a∈l,zF V (f a))->zF V (l.flatMap f)
 |[],_=>trivial
 |a::l,h=>by
  rw[List.flatMap_cons];exact zF.append (h a (by simp)) (zF.flat fun b hb=>h b (by simp[hb]))
def atI:Value->Option TI
 | .map (some i)=>some (.var i)
 | .int .i64 z=>some (.lit z)
 |_=>none
theorem fA{v:Value}{t:TI}(h:atI v=some t):v=t.enc:=by
 unfold atI at h;split at h<;>first|(cases h;rfl)|cases h
def rgV:Value->List TB
 | .func (.yield 0) ⟨[.int kp z,.map (some i),.int .i64 lo,.int .i64 hi]⟩ ⟨[]⟩=>[.le (.lit lo) (.var i),.le (.var i) (.lit hi)]
 | .func (.yield 2) ⟨[.map (some i),.int .i64 hi]⟩ ⟨[]⟩=>[.le (.len (.var i)) (.lit hi)]
 | .func (.yield 4) ⟨[.int .i64 (.ofNat B),o,n,c]⟩ ⟨[]⟩=>(match atI o,atI n,atI c with
  |some o,some n,some c=>[.le (.lit 0) o,.le (.lit 0) n,.le n c]
  |_,_,_=>[])
 |_=>[]
theorem mF{V:Ren}{v u:Value}(h:VR V v u):zF V (rgV v):=by
 unfold rgV;split
 .rename_i kp z i lo hi;by_cases hz:z=0
  .subst hz;obtain⟨t,h1,_,_,h4,h5⟩:=yK (k:=kp) (e:=.map (some i)) (lo:=lo) (hi:=hi) h (by simp[asI]);have:t=.var i:=TI.inj t (.var i) h1.symm;subst this;exact⟨by simpa [TB.P,TI.den] using h4,by simpa [TB.P,TI.den] using h5,trivial⟩
  .exfalso;generalize hv:(Value.func (.yield 0) ⟨[.int kp z,.map (some i),.int .i64 lo,.int .i64 hi]⟩ ⟨[]⟩)=v at h;cases h<;>simp at hv
   .exact hz hv.1.2
   .rename_i h0 _ _ _ _;rw[<-hv.1]at h0;cases h0
 .rename_i i hi;obtain⟨t,h1,_,_,h4⟩:=wP (e:=.map (some i)) (hi:=hi) h (by simp[asS]);have:t=.var i:=TL.inj t (.var i) h1.symm;subst this;exact⟨by simpa [TB.P,TI.den] using h4,trivial⟩
 .rename_i B o n c;split
  .rename_i o' n' c' e1 e2 e3;rw[fA e1,fA e2,fA e3]at h;obtain⟨o2,n2,c2,b,s,e1,e2,e3,hk,_⟩:=yR (B:=B) (o:=o'.enc) (n:=n'.enc) (c:=c'.enc) h (by simp[asL]);rw[<-TI.inj _ _ e1,<-TI.inj _ _ e2,<-TI.inj _ _ e3]at hk;refine⟨?_,?_,?_,trivial⟩
   .simpa [TB.P,TI.den] using hk.o0
   .simpa [TB.P,TI.den] using hk.n0
   .simpa [TB.P,TI.den] using hk.nc
  .trivial
 .trivial
def rgs(n:Nat)(tp:Tpl):List TB :=
 (tp.F.flatMap fun p=>match yW n tp.frame p.1 with
  | .map none=>[]
  | .func (.yield 5) _ _=>[]
  |v=>if Nat.blt p.1 n then rgV v else []) ++
 tp.H.flatMap fun p=>match tp.heap.get p.1 with
  |some b=>if b.live then b.cells.flatMap rgV else []
  |none=>[]
theorem yS{w0:W0}{V:Ren}{n:Nat}{tp:Tpl}{w:World}{a:Act}(h:HR w0 V tp.heap w)(hF:FS V n tp.frame a):zF V (rgs n tp):=by
 refine zF.append (zF.flat fun p hp=>?_) (zF.flat fun p hp=>?_)
 .split
  .trivial
  .trivial
  .rename_i v h1 h2;split
   .rename_i ht;have ht:p.1<a.tmps.size:=by rw[hF.size];exact Nat.le_of_ble_eq_true ht
    rcases hF.slot p.1 _ (Array.getElem?_eq_getElem ht) with hs|hs|hs
    .exact mF hs
    .exact absurd hs.1 h1
    .obtain⟨g,x,e,_⟩:=hs;exact absurd e (h2 _ _)
   .trivial
 .split
  .rename_i b hb;split
   .rename_i hl;obtain⟨c,s,C,fr,_,_,_,_,_,hcl,_⟩:=h.blk _ _ hb hl;refine zF.flat fun v hv=>?_;obtain⟨k,hk⟩:=List.mem_iff_getElem?.1 hv;obtain⟨u,_,hu⟩:=hcl k v hk;exact mF hu
   .trivial
  .trivial
end
noncomputable section
abbrev Ks:=Nat->Option Bd
def avO(γ V:Ren)(i:Nat):Bd->Prop
 | .blk B=>∃ q,γ[B]?=some q/\V[i]?=some q
 | .itm e=>∃ t:TI,e=t.enc/\t.ok γ.length=true/\gI V i=t.den γ
 | .ltm e=>∃ t:TL,e=t.enc/\t.ok γ.length=true/\gL V i=t.den γ
 | .btm e=>∃ t:TB,e=t.enc/\t.ok γ.length=true/\gB V i=t.den γ
 | .val v=>∃ u,VR γ v u/\gV V i=some u
 | .ntm e=>∃ t:TN,e=t.enc/\t.ok γ.length=true/\gN V i=t.den γ
def J0(γ V:Ren)(κ:Ks):Prop:=∀ i b,κ i=some b->avO γ V i b
def SmK(V V2:Ren)(p:Nat × Nat):Prop:=match p.2 with
 |0=>V2[p.1]?=V[p.1]?
 |1=>gI V2 p.1=gI V p.1
 |2=>gL V2 p.1=gL V p.1
 |3=>gB V2 p.1=gB V p.1
 |5=>gN V2 p.1=gN V p.1
 |_=>gV V2 p.1=gV V p.1
def Bd.kind:Bd->Nat
 | .blk _=>0
 | .itm _=>1
 | .ltm _=>2
 | .btm _=>3
 | .val _=>4
 | .ntm _=>5
theorem avO.of{γ V V2:Ren}{i k:Nat}{b:Bd}(h:aaU γ b V[i]?)(hk:b.kind=k)(hs:SmK V V2 (i,k)):avO γ V2 i b:=by
 subst hk;cases b with
 |blk B=>obtain⟨q,h1,h2⟩:=h;exact⟨q,h1,hs.trans h2⟩
 |itm e=>obtain⟨t,h1,h2,h3⟩:=h;exact⟨t,h1,h2,(show gI V2 i=gI V i from hs).trans (by simp[gI,TI.den,h3,kR])⟩
 |ltm e=>obtain⟨t,h1,h2,h3⟩:=h;exact⟨t,h1,h2,(show gL V2 i=gL V i from hs).trans (by simp[gL,TL.den,h3,pG])⟩
 |btm e=>obtain⟨t,h1,h2,h3⟩:=h;exact⟨t,h1,h2,(show gB V2 i=gB V i from hs).trans (by simp[gB,TB.den,h3,auN])⟩
 |ntm e=>obtain⟨t,h1,h2,h3⟩:=h;exact⟨t,h1,h2,(show gN V2 i=gN V i from hs).trans (by simp[gN,TN.den,h3,w8])⟩
 |val v=>obtain⟨_,u,h1,h2,h3⟩:=h;exact⟨u,h1,(show gV V2 i=gV V i from hs).trans (by simp[gV,h3])⟩
def muK(κ:Ks)(h B:Nat):Nat:=match κ B with
 |some (.blk B')=>B'
 |_=>h+B
def av1(κ:Ks)(h i:Nat):Option Value:=match κ i with
 |some (.itm e)=>some e
 |some _=>none
 |none=>some (.map (some (h+i)))
def at6(κ:Ks)(h i:Nat):Option Value:=match κ i with
 |some (.ltm e)=>some e
 |some _=>none
 |none=>some (.map (some (h+i)))
def au4(κ:Ks)(h i:Nat):Option Value:=match κ i with
 |some (.ntm e)=>some e
 |some _=>none
 |none=>some (.map (some (h+i)))
def aNT(κ:Ks)(h i:Nat):Option Value:=match κ i with
 |some (.btm e)=>some e
 |some _=>none
 |none=>some (.map (some (h+i)))
def as6(κ:Ks)(h:Nat):Value->Option Value
 | .map (some i)=>av1 κ h i
 | .int .i64 z=>some (.int .i64 z)
 |_=>none
def mkI(kp:IntKind)(e lo hi:Value):Value:=match e with
 | .int .i64 z=>.int kp z
 |e=>.func (.yield 0) ⟨[.int kp 0,e,lo,hi]⟩ ⟨[]⟩
def atP(f:Value->Option Value):List Value->Option (List Value)
 |[]=>some []
 |v::vs=>match f v,atP f vs with
  |some v,some vs=>some (v::vs)
  |_,_=>none
theorem jL{f:Value->Option Value}:∀ {l l':List Value},atP f l=some l'->l'.length=l.length/\∀(i:Nat)(v v':Value),l[i]?=some v->l'[i]?=some v'->f v=some v'
 |[],l',hr=>by cases hr;exact⟨rfl,fun i v v' hi=>by simp at hi⟩
 |v::vs,l',hr=>by
  unfold atP at hr;split at hr
  .rename_i v1 vs1 h1 h2;cases hr;obtain⟨e1,e2⟩:=jL h2;refine⟨by simp[e1],fun i x y hx hy=>?_⟩;cases i with
   |zero=>simp at hx hy;subst hx;subst hy;exact h1
   |succ i=>exact e2 i x y (by simpa using hx) (by simpa using hy)
  .cases hr
def kQ(κ:Ks)(h:Nat):Nat->Value->Option Value
 |0,_=>none
 |k+1,p=>match p with
  | .tuple ⟨[]⟩=>some (.tuple ⟨[]⟩)
  | .chan none=>some (.chan none)
  | .map (some c)=>if Nat.beq (c%3) 1 then (match κ (c/3) with
   |some (.val v)=>some v
   |some _=>none
   |none=>some (.map (some (3*(h+c/3)+1)))) else none
  | .func (.yield 0) ⟨[.int kp z,.map (some i),.int .i64 lo,.int .i64 hi]⟩ ⟨[]⟩=>(match av1 κ h i with
   |some e=>some (mkI kp e (.int .i64 lo) (.int .i64 hi))
   |none=>none)
  | .func (.yield 1) ⟨[.map (some i)]⟩ ⟨[]⟩=>(match aNT κ h i with
   |some e=>some (bV e)
   |none=>none)
  | .func (.yield 2) ⟨[.map (some i),.int .i64 hi]⟩ ⟨[]⟩=>(match at6 κ h i with
   |some e=>some (.func (.yield 2) ⟨[e,.int .i64 hi]⟩ ⟨[]⟩)
   |none=>none)
  | .func (.yield 4) ⟨[.int .i64 (.ofNat B),o,n,c]⟩ ⟨[]⟩ =>
   (match as6 κ h o,as6 κ h n,as6 κ h c with
   |some o,some n,some c=>some (.func (.yield 4) ⟨[.int .i64 (.ofNat (muK κ h B)),o,n,c]⟩ ⟨[]⟩)
   |_,_,_=>none)
  | .pointer (some ⟨B,o,none⟩)=>some (.pointer (some ⟨muK κ h B,o,none⟩))
  | .slice (some ⟨B,o,none⟩) n c=>some (.slice (some ⟨muK κ h B,o,none⟩) n c)
  | .iface t p=>(match kQ κ h k p with
   |some p=>some (.iface t p)
   |none=>none)
  | .tuple ⟨v::vs⟩=>(match atP (kQ κ h k) (v::vs) with
   |some l=>some (.tuple ⟨l⟩)
   |none=>none)
  | .agg ⟨vs⟩=>(match atP (kQ κ h k) vs with
   |some l=>some (.agg ⟨l⟩)
   |none=>none)
  |p=>if zL p then some p else none
theorem tI{α:Type}(γ V:List α)(i:Nat):(γ++V)[γ.length+i]?=V[i]?:=by
 rw[List.getElem?_append_right (by omega)];congr 1;omega
theorem afW{V γ:Ren}{κ:Ks}(hκ:J0 γ V κ)(B:Nat):(γ++V)[muK κ γ.length B]?=V[B]?:=by
 unfold muK;split
 .rename_i B' hB;obtain⟨q,h1,h2⟩:=hκ _ _ hB
  rw [List.getElem?_append_left (by rcases Nat.lt_or_ge B' γ.length with hl | hl
                                    .exact hl
                                    .rw[List.getElem?_eq_none hl]at h1;cases h1),h1,h2]
 .exact tI γ V B
theorem cS{V γ:Ren}{κ:Ks}(hκ:J0 γ V κ){B:Nat}{p:Nat × Nat}(h:Go.SM.hm V B=some p):Go.SM.hm (γ++V) (muK κ γ.length B)=some p:=by
 unfold Go.SM.hm at h ⊢;rw[afW hκ];exact h
section
variable {V γ:Ren} {κ:Ks}
theorem jC{i:Nat}(h:decide (i<V.length)=true):decide (γ.length+i<(γ++V).length)=true:=by
 simp only[decide_eq_true_eq,List.length_append]at *;omega
theorem fB(hκ:J0 γ V κ){i:Nat}{e:Value}(h:av1 κ γ.length i=some e)(hok:(TI.var i).ok V.length=true) :
    ∃ t':TI,e=t'.enc/\t'.ok (γ++V).length=true/\t'.den (γ++V)=(TI.var i).den V:=by
 unfold av1 at h
 split at h
 .rename_i e' he
  cases h
  obtain⟨t,rfl,t1,t2⟩:=hκ _ _ he
  exact⟨t,rfl,TI.ok_app _ _ (by simp) t t1,by rw[TI.den_app γ V t t1];exact t2.symm⟩
 .cases h
 .cases h
  exact⟨.var (γ.length+i),rfl,jC hok,by simp only[TI.den,tI]⟩
theorem iO(hκ:J0 γ V κ){i:Nat}{e:Value}(h:at6 κ γ.length i=some e)(hok:(TL.var i).ok V.length=true) :
    ∃ t':TL,e=t'.enc/\t'.ok (γ++V).length=true/\t'.den (γ++V)=(TL.var i).den V:=by
 unfold at6 at h
 split at h
 .rename_i e' he
  cases h
  obtain⟨t,rfl,t1,t2⟩:=hκ _ _ he
  exact⟨t,rfl,TL.ok_app _ _ (by simp) t t1,by rw[TL.den_app γ V t t1];exact t2.symm⟩
 .cases h
 .cases h
  exact⟨.var (γ.length+i),rfl,jC hok,by simp only[TL.den,tI]⟩
theorem aeQ(hκ:J0 γ V κ){i:Nat}{e:Value}(h:au4 κ γ.length i=some e)(hok:(TN.var i).ok V.length=true) :
    ∃ t':TN,e=t'.enc/\t'.ok (γ++V).length=true/\t'.den (γ++V)=(TN.var i).den V:=by
 unfold au4 at h
 split at h
 .rename_i e' he
  cases h
  obtain⟨t,rfl,t1,t2⟩:=hκ _ _ he
  exact⟨t,rfl,TN.ok_app _ _ (by simp) t t1,by rw[TN.den_app γ V t t1];exact t2.symm⟩
 .cases h
 .cases h
  exact⟨.var (γ.length+i),rfl,jC hok,by simp only[TN.den,tI]⟩
theorem abG(hκ:J0 γ V κ){i:Nat}{e:Value}(h:aNT κ γ.length i=some e)(hok:(TB.var i).ok V.length=true) :
    ∃ t':TB,e=t'.enc/\t'.ok (γ++V).length=true/\t'.den (γ++V)=(TB.var i).den V:=by
 unfold aNT at h
 split at h
 .rename_i e' he
  cases h
  obtain⟨t,rfl,t1,t2⟩:=hκ _ _ he
  exact⟨t,rfl,TB.ok_app _ _ (by simp) t t1,by rw[TB.den_app γ V t t1];exact t2.symm⟩
 .cases h
 .cases h
  exact⟨.var (γ.length+i),rfl,jC hok,by simp only[TB.den,tI]⟩
theorem oV(hκ:J0 γ V κ){v v':Value}{t:TI}(h:as6 κ γ.length v=some v')(ht:v=t.enc)(hok:t.ok V.length=true) :
    ∃ t':TI,v'=t'.enc/\t'.ok (γ++V).length=true/\t'.den (γ++V)=t.den V:=by
 unfold as6 at h
 split at h
 .rename_i i
  have:t=.var i:=TI.inj t (.var i) ht.symm
  subst this
  exact fB hκ h hok
 .rename_i z
  cases h
  have:t=.lit z:=TI.inj t (.lit z) ht.symm
  subst this
  exact⟨.lit z,rfl,rfl,by simp[TI.den]⟩
 .cases h
theorem aPU{δ:Ren}{kp:IntKind}{t:TI}{lo hi:Int}(ok:t.ok δ.length=true)(h1:lo<=t.den δ)(h2:t.den δ<=hi):VR δ (mkI kp t.enc (.int .i64 lo) (.int .i64 hi)) (.int kp (t.den δ)):=by
 unfold mkI;split
 .rename_i z hz;have:t=.lit z:=TI.inj t (.lit z) hz;subst this;simp only[TI.den];exact .int kp z
 .exact .symI kp t lo hi ok h1 h2
theorem adG(hκ:J0 γ V κ):∀(k:Nat){p p' u:Value},kQ κ γ.length k p=some p'->VR V p u->VR (γ++V) p' u:=by
 intro k;induction k with
 |zero=>intro p p' u h;cases h
 |succ k ih =>
  intro p p' u h hv;unfold kQ at h;split at h
  .cases h;exact .any _
  .cases h;cases hv with
   |any1 u h=>exact .any1 u h
  .rename_i c;split at h;rotate_left
   .cases h
   rename_i hc;have hc:=Nat.eq_of_beq_eq_true hc;obtain⟨j,rfl⟩:∃ j,c=3*j+1:=⟨c/3,by omega⟩
   rw[show (3*j+1)/3=j from by omega]at h;generalize hz:(Value.map (some (3*j+1)))=z at hv;cases hv<;>try cases hz
   .exfalso;have e:=Option.some.inj (Value.map.inj hz);omega
   .rename_i j' h' e1 e2;have e:=Option.some.inj (Value.map.inj hz);have:j=j':=by omega
    subst this;split at h
    .rename_i v hv;cases h;obtain⟨u,g1,g3⟩:=hκ _ _ hv;simp only[gV,e1,Option.map_some,Option.some.injEq]at g3;subst g3;exact g1.mono
    .cases h
    .cases h;exact .opq1 _ h' (by rw[tI];exact e1) e2
   .exfalso;have e:=Option.some.inj (Value.map.inj hz);omega
   .exfalso;have e:=Option.some.inj (Value.map.inj hz);omega
   .exfalso;have e:=Option.some.inj (Value.map.inj hz);omega
  .rename_i kp z i lo hi;split at h;rotate_left
   .cases h
   rename_i e he;cases h;by_cases hz:z=0
   .subst hz;obtain⟨t,h1,h2,rfl,h4,h5⟩:=yK (k:=kp) (e:=.map (some i)) (lo:=lo) (hi:=hi) hv (by simp[asI]);have:t=.var i:=TI.inj t (.var i) h1.symm;subst this;obtain⟨t',rfl,t1,t2⟩:=fB hκ he h2;rw[<-t2]at h4 h5 ⊢;exact aPU t1 h4 h5
   .exfalso;generalize hv':(Value.func (.yield 0) ⟨[.int kp z,.map (some i),.int .i64 lo,.int .i64 hi]⟩ ⟨[]⟩)=v at hv;cases hv<;>simp at hv'
    .exact hz hv'.1.2
    .rename_i h0 _ _ _ _;rw[<-hv'.1]at h0;cases h0
  .rename_i i;split at h;rotate_left
   .cases h
   rename_i e he;cases h;obtain⟨t,h1,h2,rfl⟩:=xJ (e:=.map (some i)) hv (by simp[asB]);have:t=.var i:=TB.inj t (.var i) h1.symm;subst this;obtain⟨t',rfl,t1,t2⟩:=abG hκ he h2;rw[<-t2];exact aaB t' t1
  .rename_i i hi;split at h;rotate_left
   .cases h
   rename_i e he;cases h;obtain⟨t,h1,h2,rfl,h4⟩:=wP (e:=.map (some i)) (hi:=hi) hv (by simp[asS]);have:t=.var i:=TL.inj t (.var i) h1.symm;subst this;obtain⟨t',rfl,t1,t2⟩:=iO hκ he h2;rw[<-t2]at h4 ⊢;exact .symS t' hi t1 h4
  .rename_i B o n c;split at h;rotate_left
   .cases h
   rename_i o' n' c' e1 e2 e3;cases h;obtain⟨to,tn,tc,b,s,rfl,rfl,rfl,hk,rfl⟩:=yR (B:=B) (o:=o) (n:=n) (c:=c) hv (by simp[asL]);obtain⟨o2,rfl,o3,o4⟩:=oV hκ e1 rfl hk.oko;obtain⟨n2,rfl,n3,n4⟩:=oV hκ e2 rfl hk.okn;obtain⟨c2,rfl,c3,c4⟩:=oV hκ e3 rfl hk.okc;have:=VR.symL (V:=γ++V) (muK κ γ.length B) o2 n2 c2 b s (cS hκ hk.home) o3 n3 c3 (by rw[o4];exact hk.o0) (by rw[n4];exact hk.n0) (by rw[n4,c4];exact hk.nc) (by rw[n4,c4];exact⟨hk.nb,hk.cb⟩);rw[o4,n4,c4]at this;exact this
  .rename_i B o;cases h;cases hv with
   |ptr _ _ b s hb=>exact .ptr _ _ b s (cS hκ hb)
  .rename_i B o n c;cases h;cases hv with
   |sl _ _ b s _ _ hb=>exact .sl _ _ b s _ _ (cS hκ hb)
  .rename_i t p;split at h;rotate_left
   .cases h
   rename_i p2 hp2;cases h;cases hv with
   |iface _ _ u h=>exact .iface _ _ _ (ih hp2 h)
  .rename_i v vs;split at h;rotate_left
   .cases h
   rename_i l hl;cases h;obtain⟨l1,l2⟩:=jL hl;cases hv with
   |tuple _ a' h1 h2 =>
    refine .tuple _ a' (by show l.length=a'.size;rw[l1];exact h1) fun i x y hx hy=>?_;have hx':l[i]?=some x:=by simpa using hx
    have hlt:i<(v::vs).length:=by
     rw[<-l1];rcases Nat.lt_or_ge i l.length with hl|hl
     .exact hl
     .rw[List.getElem?_eq_none hl]at hx';cases hx'
    exact ih (l2 i _ x (List.getElem?_eq_getElem hlt) hx') (h2 i _ y (by rw[<-Array.getElem?_toList];exact List.getElem?_eq_getElem hlt) hy)
  .rename_i vs;split at h;rotate_left
   .cases h
   rename_i l hl;cases h;obtain⟨l1,l2⟩:=jL hl;cases hv with
   |agg _ a' h1 h2 =>
    refine .agg _ a' (by show l.length=a'.size;rw[l1];exact h1) fun i x y hx hy=>?_;have hx':l[i]?=some x:=by simpa using hx
    have hlt:i<vs.length:=by
     rw[<-l1];rcases Nat.lt_or_ge i l.length with hl|hl
     .exact hl
     .rw[List.getElem?_eq_none hl]at hx';cases hx'
    exact ih (l2 i _ x (List.getElem?_eq_getElem hlt) hx') (h2 i _ y (by rw[<-Array.getElem?_toList];exact List.getElem?_eq_getElem hlt) hy)
  .split at h
   .rename_i hg;cases h;have:=hv.eq_of_ground hg;subst this;exact VR.of_ground hg
   .cases h
end
end
noncomputable section
theorem AS.get_put'{H:AS}{B B':Nat}{b:Blk}(hb:H.size<=2 ^ 20)(hB:B<H.size):(H.put B b).get B'=if B=B' then some b else H.get B':=by
 unfold AS.get AS.put;split
 .rename_i h2;have h2:B'<H.size:=h2;split
  .rename_i e;subst e;exact Tr.get_set b B D H.heap
  .rename_i e;exact Tr.get_set_ne b B B' D H.heap (uK 20 B B' (by omega) (by omega) e)
 .rename_i h2;have h2:¬ B'<H.size:=h2;rw[if_neg (by omega)]
def cF(σ:Sg)(i:Nat):Option Nat:=match σ.get i with
 |some (.blk B)=>some B
 |_=>none
def uN(σ:Sg):List (Nat × Blk)->AS->AS
 |[],H=>H
 |(i,p)::l,H=>match p.ro,cF σ i with
  |false,some B=>uN σ l (if B<H.size then H.put B dY else H)
  |_,_=>uN σ l H
theorem qA(σ:Sg):∀(l:List (Nat × Blk))(H:AS),(uN σ l H).size=H.size
 |[],H=>rfl
 |(i,p)::l,H=>by
  unfold uN;split
  .rw[qA σ l];split<;>rfl
  .rw[qA σ l]
theorem qM{σ:Sg}:∀ {l:List (Nat × Blk)} {H:AS},H.size<=2 ^ 20->∀ {B:Nat} {b:Blk},(uN σ l H).get B=some b->b.live=true ->
    H.get B=some b/\∀ i p,(i,p)∈l->p.ro=false->cF σ i≠some B
 |[],H,_,B,b,h,_=>⟨h,fun i p hp=>by cases hp⟩
 |(j,q)::l,H,hs,B,b,h,hl=>by
  unfold uN at h;split at h
  .rename_i C hro hC;obtain⟨h1,h2⟩:=qM (by split<;>exact hs) h hl;have hne:C≠B:=by
    intro e;subst e;split at h1
    .rename_i hC2;rw[AS.get_put' hs hC2,if_pos rfl]at h1;cases h1;cases hl
    .rename_i hC2;exact hC2 (AS.get_lt h1)
   refine⟨?_,fun i p hp hr=>?_⟩
   .split at h1
    .rename_i hC2;rw[AS.get_put' hs hC2,if_neg hne]at h1;exact h1
    .exact h1
   .rcases List.mem_cons.1 hp with e|hp
    .cases e;rw[hC];intro e;exact hne (Option.some.inj e)
    .exact h2 i p hp hr
  .rename_i hn;obtain⟨h1,h2⟩:=qM hs h hl;refine⟨h1,fun i p hp hr=>?_⟩;rcases List.mem_cons.1 hp with e|hp
   .cases e;intro e;exact hn B hr e
   .exact h2 i p hp hr
def anN(κ:Ks)(h:Nat):List Value->Option (List Value)
 |[]=>some []
 |v::vs=>match kQ κ h 6 v,anN κ h vs with
  |some v,some vs=>some (v::vs)
  |_,_=>none
def arG(κ:Ks)(h:Nat)(b:Blk):Option Blk :=
 match anN κ h b.cells with
 |none=>none
 |some cs=>match b.seq with
  |none=>some { b with cells:=cs }
  |some (.map (some j))=>(match at6 κ h j with
   |some e=>some { b with cells:=cs,seq:=some e }
   |none=>none)
  |some (.func (.yield 28) ⟨[.map (some j)]⟩ ⟨[]⟩)=>(match au4 κ h j with
   |some e=>some { b with cells:=cs,seq:=some (nd1 28 e) }
   |none=>none)
  |some _=>none
def oL(κ:Ks)(h:Nat):List (Nat × Blk)->AS->Option AS
 |[],H=>some H
 |(k,b)::l,H =>
  if b.ro then oL κ h l H
  else match arG κ h b with
   |none=>none
   |some b=>if muK κ h k<H.size then oL κ h l (H.put (muK κ h k) b) else none
theorem qQ{κ:Ks}{h:Nat}:∀ {l:List (Nat × Blk)} {H H':AS},oL κ h l H=some H'->H'.size=H.size
 |[],H,H',hp=>by cases hp;rfl
 |(k,b)::l,H,H',hp=>by
  unfold oL at hp;split at hp
  .exact qQ hp
  .split at hp
   .cases hp
   .split at hp
    .rw[qQ hp];rfl
    .cases hp
theorem oH{κ:Ks}{h:Nat}:∀ {l:List (Nat × Blk)} {H H':AS},H.size<=2 ^ 20->oL κ h l H=some H'->∀ {B:Nat} {b:Blk},H'.get B=some b ->
    (∃ k b0,(k,b0)∈l/\b0.ro=false/\muK κ h k=B/\arG κ h b0=some b)\/H.get B=some b
 |[],H,H',_,hp,B,b,hg=>by cases hp;exact .inr hg
 |(k,b0)::l,H,H',hs,hp,B,b,hg=>by
  unfold oL at hp;split at hp
  .rcases oH hs hp hg with⟨k',b',h1,h2⟩|h1
   .exact .inl ⟨k',b',by simp[h1],h2⟩
   .exact .inr h1
  .rename_i hro;split at hp
   .cases hp
   .rename_i b1 hb1;split at hp
    .rename_i hk;rcases oH (H:=H.put (muK κ h k) b1) hs hp hg with⟨k',b',h1,h2⟩|h1
     .exact .inl ⟨k',b',by simp[h1],h2⟩
     .rw[AS.get_put' hs hk]at h1;split at h1
      .rename_i e;cases h1;exact .inl ⟨k,b0,by simp,by simpa using hro,e,hb1⟩
      .exact .inr h1
    .cases hp
end
end Go.SM
