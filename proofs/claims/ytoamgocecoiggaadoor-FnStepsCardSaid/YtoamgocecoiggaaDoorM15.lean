-- the statement of this claim: see YtoamgocecoiggaaDoorRs
import Derived.Test.YtoamgocecoiggaaDoorM14
set_option linter.unusedVariables false
set_option linter.unusedSimpArgs false
set_option maxRecDepth 100000
noncomputable section
namespace Go.SM
noncomputable section
def jO(m:Nat):List (Nat × Blk)->Bool
 |[]=>true
 |p::l=>Nat.blt p.1 m&&(!(l.any fun q=>Nat.beq q.1 p.1)&&jO m l)
theorem wU{m:Nat}(hm:m<=2 ^ 20):∀ {l:List (Nat × Blk)},jO m l=true->∀ {k:Nat} {b:Blk},(k,b)∈l->(vS m l).get k=some b
 |(i,c)::l,hk,k,b,hp=>by
  simp only[jO,Bool.and_eq_true,Bool.not_eq_true']at hk;obtain⟨h1,h2,h3⟩:=hk;have h1:i<m:=Nat.le_of_ble_eq_true h1;have e:vS m ((i,c)::l)=(vS m l).put i c:=by unfold AS.put;simp only[vS,zK]
  rw[e,AS.get_put' (by rw[zK];exact hm) (by rw[zK];exact h1)];rcases List.mem_cons.1 hp with e|hp
  .cases e;rw[if_pos rfl]
  ·have hne : i ≠ k := by
     intro e;subst e;have:(l.any fun q=>Nat.beq q.1 i)=true:=List.any_eq_true.2 ⟨(i,b),hp,Nat.beq_refl i⟩;rw[h2]at this;cases this
   rw[if_neg hne];exact wU hm h3 hp
theorem aa7{κ:Ks}{h:Nat}:∀ {l l':List Value},anN κ h l=some l'->l'.length=l.length/\∀(i:Nat)(v':Value),l'[i]?=some v'->∃ v,l[i]?=some v/\kQ κ h 6 v=some v'
 |[],l',hr=>by cases hr;exact⟨rfl,fun i v' hi=>by simp at hi⟩
 |v::vs,l',hr=>by
  unfold anN at hr;split at hr
  .rename_i v1 vs1 h1 h2;cases hr;obtain⟨e1,e2⟩:=aa7 h2;refine⟨by simp[e1],fun i v' hi=>?_⟩;cases i with
   |zero=>simp at hi;subst hi;exact⟨v,rfl,h1⟩
   |succ i=>simpa using e2 i v' (by simpa using hi)
  .cases hr
theorem avW{κ:Ks}{h:Nat}{b b':Blk}(hr:arG κ h b=some b'):b'.ro=b.ro/\b'.live=b.live/\b'.elem=b.elem/\anN κ h b.cells=some b'.cells /\
    (∀ e',b'.seq=some e'->(∃ j,b.seq=some (.map (some j))/\at6 κ h j=some e')\/∃ j e2,b.seq=some (nd1 28 (.map (some j)))/\au4 κ h j=some e2/\e'=nd1 28 e2):=by
 unfold arG at hr
 split at hr
 .cases hr
 rename_i cs hcs
 split at hr
 .rename_i hs
  cases hr
  exact⟨rfl,rfl,rfl,hcs,fun e' he=>by simp only at he;rw[hs]at he;cases he⟩
 .rename_i j hs
  split at hr
  rotate_left
  .cases hr
  rename_i e hren
  cases hr
  exact⟨rfl,rfl,rfl,hcs,fun e' he=>by cases he;exact .inl ⟨j,hs,hren⟩⟩
 .rename_i j hs
  split at hr
  rotate_left
  .cases hr
  rename_i e hren
  cases hr
  exact⟨rfl,rfl,rfl,hcs,fun e' he=>by cases he;exact .inr ⟨j,e,hs,hren,rfl⟩⟩
 .cases hr
def W0.call(w0:W0)(w:World)(V:Ren)(σ:Sg)(l:List (Nat × Blk)):W0 where
 w:=w
 keep:=fun c=>c<w.heap.size/\∀ i p B,(i,p)∈l->p.ro=false->cF σ i=some B->(Go.SM.hm V B).map (·.1)≠some c
 lt:=fun k h=>h.1
def M7(H:AS)(σ:Sg)(l:List (Nat × Blk)):Prop:=∀ i p,(i,p)∈l->∃ B b,cF σ i=some B/\H.get B=some b/\b.live=true/\(p.ro=false->b.ro=false)
theorem HR.enter{w0:W0}{V V1:Ren}{H:AS}{w:World}{σ:Sg}{tin:Tpl}(hI:Inst V σ tin.m V1)(hk:∀ p∈tin.H,p.1<tin.m)(hm:tin.m<=2 ^ 20)(h:HR w0 V1 tin.heap w)(hM:M7 H σ tin.H):HR (w0.call w V σ tin.H) V1 tin.heap w:=by
 refine⟨h.len,h.big,fun B b hg hl=>?_,h.inj,Kept.refl _⟩;obtain⟨c,s,C,fr,h1,h2,h3,h4,h5,h6,h7,h8⟩:=h.blk B b hg hl;refine⟨c,s,C,fr,h1,h2,h3,h4,h5,h6,fun hro hkeep=>?_,h8⟩;have hmem:=wJ hm tin.H B b hk hg;obtain⟨B',b',e1,e2,_⟩:=hM B b hmem;refine hkeep.2 B b B' hmem hro e1 ?_;have e1':σ.get B=some (.blk B'):=by
  unfold cF at e1;split at e1
  .rename_i x hx;cases e1;exact hx
  .cases e1
 have:=hI.blk e1' (hk _ hmem);unfold Go.SM.hm at h1 ⊢;rw[<-this];cases hb:V1[B]? with
 |none=>rw[hb]at h1;cases h1
 |some q=>rw[hb]at h1;cases h1;rfl
def qD(σ:Sg)(same:List (Nat × Nat)):Ks:=fun k=>match same.find? fun p=>Nat.beq p.1 k with
 |some (_,d)=>(match σ.get k with
  |some b=>if Nat.beq b.kind d then some b else none
  |none=>none)
 |none=>none
def aa2(σ:Sg)(same:List (Nat × Nat))(tin tp:Tpl)(H:AS):Option AS :=
 if Nat.ble (H.size+tp.m) 1048576&&(jO tp.m tp.H&&((tp.H.all fun p=>p.2.live)&&((same.all fun k=>Nat.blt k.1 tin.m)&&(List.range tp.m).all fun i=>(H.heap.get D (H.size+i)).isNone))) then
  oL (qD σ same) H.size tp.H { uN σ tin.H H with size:=H.size+tp.m }
 else none
theorem tQ{σ:Sg}:∀ {l:List (Nat × Blk)} {H:AS} {B:Nat},H.size<=B->B<2 ^ 20->(uN σ l H).heap.get D B=H.heap.get D B
 |[],H,B,_,_=>rfl
 |(i,p)::l,H,B,h,hB=>by
  unfold uN;split
  .rename_i C _ _;rw[tQ (by split<;>exact h) hB];split
   .rename_i hC;exact Tr.get_set_ne dY C B D H.heap (uK 20 C B (by omega) hB (by omega))
   .rfl
  .exact tQ h hB
theorem HR.leave{w0:W0}{V V1 V2:Ren}{H H3:AS}{w w':World}{σ:Sg}{same:List (Nat × Nat)}{tin tp:Tpl}(h:HR w0 V H w)(hI:Inst V σ tin.m V1)(hM:M7 H σ tin.H)
    (hsame:∀ p∈same,SmK V1 V2 p) (h2:HR (w0.call w V σ tin.H) V2 tp.heap w') (hc:aa2 σ same tin tp H=some H3) :
    HR w0 (V++V2) H3 w'/\∀ {v u v':Value},kQ (qD σ same) H.size 6 v=some v'->VR V2 v u->VR (V++V2) v' u:=by
 unfold aa2 at hc
 split at hc
 rotate_left
 .cases hc
 rename_i hchk
 simp only[Bool.and_eq_true]at hchk
 obtain⟨c1,c2,c3,c4,c5⟩:=hchk
 have c1:H.size+tp.m<=2 ^ 20:=Nat.le_of_ble_eq_true c1
 have hlen:=h.len
 have hm2:V2.length=tp.m:=by rw[h2.len];exact zK _ _
 have hκ:J0 V V2 (qD σ same):=by
  intro i b hi;unfold qD at hi;split at hi
  .rename_i d hf;split at hi
   .rename_i b' hb';split at hi
    .rename_i hd;cases hi;have h1:=List.find?_some hf;have h2:=List.mem_of_find?_eq_some hf;have h3:_=i:=Nat.eq_of_beq_eq_true h1;simp only at h3;subst h3;exact avO.of (hI.get _ _ hb' (Nat.le_of_ble_eq_true (List.all_eq_true.1 c4 _ h2))) (Nat.eq_of_beq_eq_true hd) (hsame _ h2)
    .cases hi
   .cases hi
  .cases hi
 have hget:∀ k,(V++V2)[muK (qD σ same) H.size k]?=V2[k]?:=fun k=>by rw[<-hlen];exact afW hκ k
 have hren:∀ {v u v':Value},kQ (qD σ same) H.size 6 v=some v'->VR V2 v u->VR (V++V2) v' u:=by
  intro v u v' hv hr;rw[<-hlen]at hv;exact adG hκ 6 hv hr
 refine⟨?_,hren⟩
 have hs3:H3.size=H.size+tp.m:=qQ hc
 have src:∀ {B:Nat} {b:Blk},H3.get B=some b->b.live=true ->
     (∃ k b0,(k,b0)∈tp.H/\b0.ro=false/\b0.live=true/\muK (qD σ same) H.size k=B/\arG (qD σ same) H.size b0=some b) \/
     (H.get B=some b/\∀ i p,(i,p)∈tin.H->p.ro=false->cF σ i≠some B):=by
  intro B b hg hl
  rcases oH (by show H.size+tp.m<=_;exact c1) hc hg with⟨k,b0,e1,e2,e3,e4⟩|hg
  .exact .inl ⟨k,b0,e1,e2,List.all_eq_true.1 c3 _ e1,e3,e4⟩
  .right
   have hlt:=AS.get_lt hg
   have hlt:B<H.size+tp.m:=hlt
   rcases Nat.lt_or_ge B H.size with hB|hB
   .refine qM h.big ?_ hl
    unfold AS.get at hg ⊢
    rw[qA,if_pos hB]
    rw[if_pos (by exact hlt)]at hg
    exact hg
   .exfalso
    unfold AS.get at hg
    rw[if_pos (by exact hlt)]at hg
    have hg:(uN σ tin.H H).heap.get D B=some b:=hg
    rw[tQ hB (by omega)]at hg
    have:=List.all_eq_true.1 c5 (B-H.size) (List.mem_range.2 (by omega))
    rw[show H.size+(B-H.size)=B from by omega,hg]at this
    cases this
 have kept:∀ {B:Nat} {b:Blk} {c s:Nat} {C:Array Value} {fr:Nat × Nat},H.get B=some b->b.live=true->(∀ i p,(i,p)∈tin.H->p.ro=false->cF σ i≠some B)->Go.SM.hm V B=some (c,s)->HC w c C b fr ->
     (w0.call w V σ tin.H).keep c:=by
  intro B b c s C fr hg hl hn hb hC
  obtain⟨e,he,_⟩:=hC
  refine⟨?_,fun i p B' hp hro hw hh=>?_⟩
  .rcases Nat.lt_or_ge c w.heap.size with hlt|hlt
   .exact hlt
   .rw[Array.getElem?_eq_none hlt]at he;cases he
  .obtain⟨B2,b2,m1,m2,m3,m4⟩:=hM i p hp
   rw[hw]at m1
   cases m1
   have hne:B'≠B:=fun e=>hn i p hp hro (by rw[hw,e])
   have:=h.inj B' B b2 b m2 hg m3 hl (m4 hro) hne
   rw[hh,hb]at this
   exact this rfl
 have sub:∀ c,w0.keep c->(w0.call w V σ tin.H).keep c:=by
  intro c hk;refine⟨Nat.lt_of_lt_of_le (w0.lt c hk) h.below.size,fun i p B hp hro hw hh=>?_⟩;obtain⟨B2,b2,m1,m2,m3,m4⟩:=hM i p hp;rw[hw]at m1;cases m1;obtain⟨c',s,C,fr,q1,_,_,_,_,_,q2,_⟩:=h.blk B b2 m2 m3;rw[q1]at hh;cases hh;exact q2 (m4 hro) hk
 refine⟨by rw[List.length_append,hs3,hm2,hlen],by rw[hs3];exact c1,?_,?_,?_⟩
 .intro B b hg hl
  rcases src hg hl with⟨k,b0,e1,e2,e3,rfl,e4⟩|⟨hg',hn⟩
  .obtain⟨r1,r2,r3,r4,r5⟩:=avW e4
   obtain⟨c,s,C,fr,q1,⟨el,q2,q3⟩,q4,q5,q6,q7,q8,q9⟩:=h2.blk k b0 (wU (by omega) c2 e1) e3
   obtain⟨l1,l2⟩:=aa7 r4
   refine⟨c,s,C,fr,by rw[<-hlen];exact cS hκ q1,⟨el,q2,fun hro=>by rw[q3 (by rw[<-r1];exact hro),r3]⟩,fun x hx=>q4 x (by rw[<-hget];exact hx),by rw[l1];exact q5,fun hro=>q6 (by rw[<-r1];exact hro),fun i v hi=>?_,fun hro hk=>q8 (by rw[<-r1];exact hro) (sub c hk),?_⟩
   .obtain⟨v0,hv0,hv1⟩:=l2 i v hi
    obtain⟨u,hu,hvu⟩:=q7 i v0 hv0
    exact⟨u,hu,hren hv1 hvu⟩
   .intro e' he'
    rcases r5 e' he' with⟨j,hj,hj2⟩|⟨j,e2,hj,hj2,rfl⟩
    .rcases q9 _ hj with⟨t,pr,po,t1,t2,t3,t4⟩|⟨g,t,pr,po,tg,t1,_⟩
     .have:t=.var j:=TL.inj t (.var j) t1.symm
      subst this
      rw[<-hlen]at hj2
      obtain⟨t',rfl,t5,t6⟩:=iO hκ hj2 t2
      exact .inl ⟨t',pr,po,rfl,t5,t3,by rw[t6];exact t4⟩
     .rcases tg with rfl|rfl<;>cases t1
    .rcases q9 _ hj with⟨t,pr,po,t1,_⟩|⟨g,t,pr,po,tg,t1,t2,t3,t4,t4'⟩
     .have:=TL.notN t
      rw[<-t1]at this
      cases this
     .have:t=.var j:=TN.inj t (.var j) (pJ t1).2.symm
      subst this
      rw[<-hlen]at hj2
      obtain⟨t',rfl,t5,t6⟩:=aeQ hκ hj2 t2
      have hg28:g=28:=by
       simp only[nd1,Value.func.injEq,Fn.yield.injEq]at t1;exact t1.1.symm
      subst hg28
      exact .inr ⟨28,t',pr,po,.inl rfl,rfl,t5,t3,by rw[t6];exact t4,by rw[t6];exact t4'⟩
  .obtain⟨c,s,C,fr,q1,q2,q4,q5,q6,q7,q8,q9⟩:=h.blk B b hg' hl
   have hk:=kept hg' hl hn q1 q2
   obtain⟨el,q2,q3⟩:=q2
   have hBl:B<V.length:=by rw[hlen];exact AS.get_lt hg'
   refine⟨c,s,C,fr,zV q1,⟨el,by rw[h2.below.block c hk];exact q2,q3⟩,fun x hx=>q4 x (by rw[List.getElem?_append_left hBl]at hx;exact hx),q5,q6,fun i v hi=>?_,q8,q9.mono⟩
   obtain⟨u,hu,hvu⟩:=q7 i v hi
   exact⟨u,hu,hvu.mono⟩
 .intro B B' b b' hg hg' hl hl' hro hne
  have hmB:∀ {B:Nat} {b:Blk},H.get B=some b->Go.SM.hm (V++V2) B=Go.SM.hm V B:=by
   intro B b hg;unfold Go.SM.hm;rw[List.getElem?_append_left (by rw[hlen];exact AS.get_lt hg)]
  have hmk:∀ k,Go.SM.hm (V++V2) (muK (qD σ same) H.size k)=Go.SM.hm V2 k:=by
   intro k;unfold Go.SM.hm;rw[hget]
  have mix:∀ {k:Nat} {b0:Blk} {B:Nat} {b:Blk},(k,b0)∈tp.H->b0.ro=false->b0.live=true->H.get B=some b->b.live=true->(∀ i p,(i,p)∈tin.H->p.ro=false->cF σ i≠some B) ->
      (Go.SM.hm V2 k).map (·.1)≠(Go.SM.hm V B).map (·.1):=by
   intro k b0 B b e1 e2 e3 hg hl hn he
   obtain⟨c,s,C,fr,q1,_,_,_,_,_,q8,_⟩:=h2.blk k b0 (wU (by omega) c2 e1) e3
   obtain⟨c',s',C',fr',p1,p2,_⟩:=h.blk B b hg hl
   rw[q1,p1]at he
   have:c=c':=by simpa using he
   subst this
   exact q8 e2 (kept hg hl hn p1 p2)
  rcases src hg hl with⟨k,b0,e1,e2,e3,rfl,e4⟩|⟨hg1,hn⟩<;>rcases src hg' hl' with⟨k',b0',f1,f2,f3,rfl,f4⟩|⟨hg1',hn'⟩
  .rw[hmk,hmk]
   exact h2.inj k k' b0 b0' (wU (by omega) c2 e1) (wU (by omega) c2 f1) e3 f3 e2 (fun e=>hne (by rw[e]))
  .rw[hmk,hmB hg1']
   exact mix e1 e2 e3 hg1' hl' hn'
  .rw[hmk,hmB hg1]
   exact fun e=>mix f1 f2 f3 hg1 hl hn e.symm
  .rw[hmB hg1,hmB hg1']
   exact h.inj B B' b b' hg1 hg1' hl hl' hro hne
 .refine⟨h2.below.os.trans h.below.os,h2.below.tape.trans h.below.tape,h2.below.output.trans h.below.output,Nat.le_trans h.below.size h2.below.size,fun k hk=>?_⟩
  exact (h2.below.block k (sub k hk)).trans (h.below.block k hk)
end
end Go.SM
