-- the statement of this claim: see YtoamgocecoiggaaDoorRs
import Derived.Laws.Append
import Derived.Lib.Strings
import Derived.Lib.ConvBytes
import Derived.Laws.BytesString
import Derived.Test.YtoamgocecoiggaaDoorM1
set_option linter.unusedVariables false
set_option linter.unusedSimpArgs false
set_option maxRecDepth 100000
noncomputable section
namespace Go.SM
noncomputable section
theorem HR.allocG{w0:W0}{V:Ren}{H H':AS}{w w':World}(h:HR w0 V H w){vs:List Value}{C:Array Value}{fr:Nat × Nat}{e:TypeId}{B:Nat}
    (hn:N5 H vs e=some (B,H')) (hw:w'.heap=w.heap.push (.cells C e fr)) (hbel:Kept w0 w') (hsz:vs.length<=C.size) (hfr:∀ i,i<C.size->¬ (fr.1<=i/\i<fr.2))
    (hv:∀ (i:Nat) (v:Value),vs[i]?=some v->∃ u,C[i]?=some u/\VR V v u) :
    HR w0 (V++[⟨w.heap.size,0,C.size,undef,yD⟩]) H' w'/\hm (V++[⟨w.heap.size,0,C.size,undef,yD⟩]) B=some (w.heap.size,0)/\(V++[⟨w.heap.size,0,C.size,undef,yD⟩])[B]?=some ⟨w.heap.size,0,C.size,undef,yD⟩:=by
 obtain⟨rfl,hs',hlt,hgB,hgX⟩:=AS.new_get hn
 obtain⟨hB,hB'⟩:=pK (h:=⟨w.heap.size,0,C.size,undef,yD⟩) h.len
 have hold:∀ (X:Nat) (p:Nat × Nat),hm V X=some p->hm (V++[⟨w.heap.size,0,C.size,undef,yD⟩]) X=some p:=fun X p hp=>zV hp
 have hheap:∀ k,k<w.heap.size->w'.heap[k]?=w.heap[k]?:=fun k hk=>by rw[hw,Array.getElem?_push,if_neg (by omega)]
 refine⟨⟨by simp[h.len,hs'],by omega,?_,?_,hbel⟩,hB,hB'⟩
 .intro X b hg hl
  by_cases hX:X=H.size
  .subst hX
   rw[hgB]at hg;cases hg
   refine⟨w.heap.size,0,C,fr,hB,⟨_,by rw[hw];simp,fun _=>rfl⟩,fun q hq=>by rw[hB']at hq;cases hq;rfl,by simpa using hsz,fun _=>hfr,?_,fun _=>h.below.fresh,xR.none rfl⟩
   intro i v hiv
   obtain⟨u,hu,huv⟩:=hv i v hiv
   exact⟨u,hu,huv.mono⟩
  .rw[hgX X hX]at hg
   obtain⟨c,s,C2,fr2,hβ,⟨el2,hw2,hel2⟩,h0,h1,h2,h3,h4⟩:=h.blk X b hg hl
   have hc:=h.home_lt hg hl hβ
   refine⟨c,s,C2,fr2,hold _ _ hβ,⟨_,by rw[hheap _ hc];exact hw2,hel2⟩,?_,h1,h2,?_,h4.1,h4.2.mono⟩
   .intro q hq
    have hlt':=h.lt_len hg
    rw[List.getElem?_append_left hlt']at hq
    exact h0 q hq
   .intro i v hiv
    obtain⟨u,hu,huv⟩:=h3 i v hiv
    exact⟨u,hu,huv.mono⟩
 .intro X Y b b' hg hg' hl hl' hro hne
  by_cases hX:X=H.size
  .subst hX
   have hY:Y≠H.size:=fun e=>hne e.symm
   rw[hgX Y hY]at hg'
   obtain⟨c,s,C2,fr2,hβ,_⟩:=h.blk Y b' hg' hl'
   have hc:=h.home_lt hg' hl' hβ
   rw[hB,hold _ _ hβ]
   simp only[Option.map_some,ne_eq,Option.some.injEq]
   omega
  .rw[hgX X hX]at hg
   obtain⟨c,s,C2,fr2,hβ,_⟩:=h.blk X b hg hl
   have hc:=h.home_lt hg hl hβ
   by_cases hY:Y=H.size
   .subst hY
    rw[hB,hold _ _ hβ]
    simp only[Option.map_some,ne_eq,Option.some.injEq]
    omega
   .rw[hgX Y hY]at hg'
    obtain⟨c',s',C',fr',hβ',_⟩:=h.blk Y b' hg' hl'
    rw[hold _ _ hβ,hold _ _ hβ',<-hβ,<-hβ']
    exact h.inj X Y b b' hg hg' hl hl' hro hne
def lW(H:AS)(B:Nat):Option AS :=
 match H.get B with
 |some b=>some (H.put B { b with live:=false })
 |none=>none
theorem HR.kill{w0:W0}{V:Ren}{H H':AS}{w:World}(h:HR w0 V H w){B:Nat}(hk:lW H B=some H'):HR w0 V H' w/\H'.size=H.size/\(∀ X b,H'.get X=some b->b.live=true->X≠B/\H.get X=some b):=by
 unfold lW at hk;split at hk
 .rename_i b hg;simp only[Option.some.injEq]at hk;subst hk;have key:∀ X b',(H.put B { b with live:=false }).get X=some b'->b'.live=true->X≠B/\H.get X=some b':=by
   intro X b' hX hl;by_cases hB:B=X
   .subst hB;rw[AS.get_put_same hg]at hX;cases hX;simp at hl
   .rw[AS.get_put_ne h.big hg hB]at hX;exact⟨fun e=>hB e.symm,hX⟩
  refine⟨⟨h.len,h.big,fun X b' hX hl=>h.blk X b' (key X b' hX hl).2 hl,fun X Y b1 b2 h1 h2 l1 l2 r1 hne=>h.inj X Y b1 b2 (key X b1 h1 l1).2 (key Y b2 h2 l2).2 l1 l2 r1 hne,h.below⟩,rfl,key⟩
 .cases hk
def mT(P:Program)(t:TypeId)(H:AS)(x v:Value):Option AS :=
 match x,P.info? t with
 | .pointer (some ⟨B,o,none⟩),some i=>if nC v&&decide (v.cells.toList.length=i.size) then rJ B v.cells.toList o H else none
 |_,_=>none
theorem HR.storeVar{P:Program}{w0:W0}{V:Ren}{H H':AS}{w:World}(h:HR w0 V H w){t:TypeId}{x x' v u:Value}(hx:VR V x x')(hv:VR V v u)(hs:mT P t H x v=some H') :
    ∃ w',(Instr.storeAt t x' u).run P w=.ok () w'/\HR w0 V H' w':=by
 unfold mT at hs
 split at hs
 .rename_i B o i hi
  split at hs
  .rename_i hc
   simp only[Bool.and_eq_true,decide_eq_true_eq]at hc
   cases hx with
   |ptr B o b s hβ =>
    have hcells:=hv.cells hc.1
    obtain⟨w',hrun,hr⟩:=HR.storeFrom (P:=P) hβ o _ _ 0 H H' w h (by rw[Nat.add_zero];exact hs) hcells
    refine⟨w',?_,hr⟩
    have hsz:u.cells.size=i.size:=by rw[<-Array.length_toList,hcells.1,hc.2]
    simp only[Instr.storeAt,Instr.sureAddr,Sem.run_bind,Sem.run_pure,Result.andThen_ok,Go.storeVar,yA hi]
    rw[if_neg (by simp[hsz])]
    exact hrun
  .cases hs
 .cases hs
theorem dN{P:Program}{w0:W0}(c:Nat)(hc0:¬ w0.keep c):∀(us:List Value)(j:Nat)(w:World)(C:Array Value)(e:TypeId)(fr:Nat × Nat)(p:Nat),w.heap[c]?=some (.cells C e fr) ->
    p+j+us.length<=C.size->(∀ i,i<C.size->¬ (fr.1<=i/\i<fr.2))->us.all one=true->Kept w0 w ->
    ∃ (w':World) (C':Array Value),(storeCells ⟨c,p,none⟩ us j).run P w=.ok () w'/\w'.heap[c]?=some (.cells C' e fr)/\C'.size=C.size/\(∀ i,i<p+j->C'[i]?=C[i]?) /\
     (∀ (k:Nat) (v:Value),us[k]?=some v->C'[p+j+k]?=some v)/\(∀ x,x≠c->w'.heap[x]?=w.heap[x]?)/\Kept w0 w'
 |[],j,w,C,e,fr,p,hw,_,_,_,hb=>⟨w,C,rfl,hw,rfl,fun _ _=>rfl,fun k v hk=>by simp at hk,fun _ _=>rfl,hb⟩
 |u::us,j,w,C,e,fr,p,hw,hsz,hfr,hone,hb=>by
  have hi:p+j<C.size:=by simp at hsz;omega
  have hwc:w.cell? ⟨c,p+j,none⟩=some C[p+j]:=by rw[sK hw];exact Array.getElem?_eq_getElem hi
  have hfz:w.frozen? ⟨c,p+j,none⟩=false:=by
   unfold World.frozen?;rw[hw];have:=hfr (p+j) hi;simp only[Bool.and_eq_false_imp,decide_eq_true_eq,decide_eq_false_iff_not];intro h1 h2;exact this ⟨h1,h2⟩
  have hheap:(w.setCell ⟨c,p+j,none⟩ u).heap[c]?=some (.cells (C.setIfInBounds (p+j) u) e fr):=by
   simp only[World.setCell,Array.getElem?_modify,if_true,hw];rfl
  simp only[List.all_cons,Bool.and_eq_true]at hone;obtain⟨w',C',h1,h2,h3,h4,h5,h6,h7⟩:=dN (P:=P) c hc0 us (j+1) (w.setCell ⟨c,p+j,none⟩ u) (C.setIfInBounds (p+j) u) e fr p hheap (by simp at hsz ⊢;omega) (by simpa using hfr) hone.2 (hb.setCell hc0 u);refine⟨w',C',?_,h2,by simpa using h3,?_,?_,?_,h7⟩
  .simp only[storeCells,store,wS];show Sem.run P (Sem.store .plain _ u _) w=_;have ho:=hone.1;cases u<;>first|(simp[one]at ho;done)|(simp only[Sem.run,hwc,hfz,Bool.false_eq_true,if_false];exact h1)
  .intro i hij;rw[h4 i (by omega),Array.getElem?_setIfInBounds_ne (by omega)]
  .intro k v hk;cases k with
   |zero =>
    simp only[List.getElem?_cons_zero,Option.some.injEq]at hk;subst hk;rw[Nat.add_zero,h4 (p+j) (by omega),Array.getElem?_setIfInBounds_self_of_lt hi]
   |succ k =>
    have:=h5 k v (by simpa using hk);rw[show p+j+(k+1)=p+(j+1)+k from by omega];exact this
  .intro x hx;rw[h6 x hx];exact RowKit.Below.heap_setCell _ _ _ _ hx
def tL(s:ByteArray):List Value:=s.data.toList.map fun b=>.int .u8 b.toNat
def av3(H:AS)(size:Nat)(lim:Option Nat)(x:Value):Option (Nat × List Value) :=
 match x with
 | .slice none n _=>if n=0 then some (0,[]) else none
 | .slice (some ⟨B,o,_⟩) n _=>let k:=(lim.map (min n)).getD n;(uC H B o (k*size)).map fun l=>(k,l)
 | .string s=>let k:=(lim.map (min s.size)).getD s.size;if size=1 then some (k,(tL s).take k) else none
 |_=>none
theorem pY(s:ByteArray)(k:Nat):((tL s).take k).all zL=true:=by
 rw[List.all_eq_true];intro v hv;have:=List.mem_of_mem_take hv;simp only[tL,List.mem_map]at this;obtain⟨b,_,rfl⟩:=this;rfl
theorem o9{P:Program}{w0:W0}{V:Ren}{H:AS}{w:World}(h:HR w0 V H w){size:Nat}{lim:Option Nat}{x x':Value}{n:Nat}{l:List Value}(hx:VR V x x')(hs:av3 H size lim x=some (n,l)) :
    ∃ N us,(Builtin.lenOf x').run P w=.ok N w/\n=(lim.map (min N)).getD N/\(Builtin.firstCells size n x').run P w=.ok us.toArray w/\VRs V l us/\l.length=n*size:=by
 unfold av3 at hs
 split at hs
 .rename_i k c
  split at hs
  .rename_i h0
   simp only[Option.some.injEq,Prod.mk.injEq]at hs
   obtain⟨rfl,rfl⟩:=hs
   subst h0
   cases hx
   exact⟨0,[],rfl,by cases lim<;>simp,rfl,VRs.nil V,by simp⟩
  .cases hs
 .rename_i B o sp k c
  simp only[Option.map_eq_some_iff,Prod.mk.injEq]at hs
  obtain⟨l',hl',rfl,rfl⟩:=hs
  have hlen:=(uB hl').1
  cases hx with
  |sl B o b s n c hβ =>
   obtain⟨us,h1,h2⟩:=h.loads (P:=P) hl' hβ
   exact⟨k,us,rfl,rfl,h1,h2,hlen⟩
  |slL B o n c c' z q hβ hcc ht =>
   obtain⟨us,h1,h2⟩:=h.loads (P:=P) hl' (vU hβ)
   exact⟨k,us,rfl,rfl,h1,h2,hlen⟩
 .rename_i s
  dsimp only at hs
  split at hs
  .rename_i hsz
   simp only[Option.some.injEq,Prod.mk.injEq]at hs
   obtain⟨rfl,rfl⟩:=hs
   subst hsz
   cases hx
   have hle:(lim.map (min s.size)).getD s.size<=s.size:=by cases lim<;>simp;omega
   refine⟨s.size,(tL s).take ((lim.map (min s.size)).getD s.size),rfl,rfl,?_,VRs.refl (pY s _),?_⟩
   .simp only[Builtin.firstCells]
    show Result.ok _ w=_
    congr 1
    apply Array.ext'
    simp only[Array.toList_map,tL]
    rw[<-List.map_take]
    congr 1
    rw[Lib.extract_data];simp
   .rw[List.length_take]
    simp only[tL,List.length_map,Array.length_toList]
    have:s.data.size=s.size:=rfl
    omega
  .cases hs
 .cases hs
def nY(H:AS)(e size k:Nat)(cells:List Value):Option (Value × AS) :=
 (N5 H cells e).map fun (B,H')=>(.slice (some ⟨B,0,some size⟩) k k,H')
def bM(P:Program)(H:AS)(ts:Array TypeId)(s x:Value):Option (Value × AS) :=
 match ts[0]?,ts[1]? with
 |some t,some t2 =>
  match P.underlying t,P.underlying t2 with
  |some (.slice e),some d2 =>
   match P.info? e with
   |none=>none
   |some i =>
    match d2,av3 H i.size none x,pX P e with
    | .int _,_,_=>none
    |_,some (m,news),some z =>
     if news.all fW&&decide (z.length=i.size) then
      match s with
      | .slice none n c =>
       if n=0/\c=0 then
        if m=0 then some (s,H)
        else if 0<i.bytes/\2*m*i.bytes<=2 ^ 47/\m<2 ^ 47 then nY H e i.size m news else none
       else none
      | .slice (some ⟨B,o,sp⟩) n c =>
       if n+m<=c then (rJ B news (o+n*i.size) H).map fun H'=>(.slice (some ⟨B,o,sp⟩) (n+m) c,H')
       else if 0<i.bytes/\2*(n+m)*i.bytes<=2 ^ 47/\n+m<2 ^ 47 then
        match uC H B o (n*i.size) with
        |none=>none
        |some old =>
         match sp with
         |none=>nY H e i.size (n+m) (old++news)
         |some z =>
          match H.get B,lW H B with
          |some b,some H1=>if z=i.size/\b.elem=e/\b.live=true/\b.ro=false then nY H1 e i.size (n+m) (old++news) else none
          |_,_=>none
       else none
      |_=>none
     else none
    |_,_,_=>none
  |_,_=>none
 |_,_=>none
def uY:TypeDesc->Bool
 | .int _=>true
 |_=>false
theorem run_append_fits{P:Program}{w:World}{ts:Array TypeId}{ty t t2 e:TypeId}{i:TypeInfo}{d2:TypeDesc}{base:Option Addr}{n c N:Nat}{x':Value}{us:List Value}
    (h0:ts[0]?=some t) (h1:ts[1]?=some t2) (hu:P.underlying t=some (.slice e)) (hu2:P.underlying t2=some d2) (hd:uY d2=false) (hi:P.info? e=some i)
    (hN:(Builtin.lenOf x').run P w=.ok N w) (hus:(Builtin.firstCells i.size N x').run P w=.ok us.toArray w) (hfit:n+N<=c) :
    (Builtin.append_ ts ty #[.slice base n c,x']).run P w =
        (do
         match base with
         |some a=>do storeCells (a.add (n*i.size)) us;pure (.slice base (n+N) c)
         |none=>pure (.slice base (n+N) c):Sem Value).run P w:=by
 cases d2<;>first
  |(simp[uY]at hd;done)
  | (simp only [Builtin.append_, h0, h1, List.getElem?_toArray, List.getElem?_cons_zero, List.getElem?_cons_succ, Sem.run_bind, run_underlying hu, Result.andThen_ok, yA hi, run_underlying hu2, Sem.run_pure,
      Bool.false_eq_true,if_false,hN,hfit,if_true,Bool.not_false,hus]
     cases base<;>rfl)
theorem mC{P:Program}{w:World}{ts:Array TypeId}{ty t t2 e:TypeId}{i:TypeInfo}{d2:TypeDesc}{base:Option Addr}{n c N:Nat}{x' z:Value}{us os:List Value}
    (h0:ts[0]?=some t) (h1:ts[1]?=some t2) (hu:P.underlying t=some (.slice e)) (hu2:P.underlying t2=some d2) (hd:uY d2=false) (hi:P.info? e=some i)
    (hN:(Builtin.lenOf x').run P w=.ok N w) (hus:(Builtin.firstCells i.size N x').run P w.drew=.ok us.toArray w.drew) (hos:(Builtin.firstCells i.size n (.slice base n c)).run P w.drew=.ok os.toArray w.drew)
    (hz:(zeroValue e).run P w.drew=.ok z w.drew) (hfit:¬ n+N<=c) (hb:i.bytes≠0) (hcap:¬ Builtin.nextslicecap (n+N) c*i.bytes > 2 ^ 48) :
    ∃ newCap,n+N<=newCap/\(Builtin.append_ ts ty #[.slice base n c,x']).run P w =
     .ok (.slice (some ⟨w.heap.size,0,none⟩) (n+N) newCap) (w.drew.alloc (.cells (os.toArray++us.toArray++Builtin.zeroCells z.cells (newCap-(n+N))) e)):=by
 refine⟨(Question.appendCap (n+N) c e).cut (w.tape w.drawn (.appendCap (n+N) c e)),by simp only[Question.cut];omega,?_⟩
 have hch:(choose (.appendCap (n+N) c e)).run P w=.ok ((Question.appendCap (n+N) c e).cut (w.tape w.drawn (.appendCap (n+N) c e))) w.drew:=rfl
 generalize (Question.appendCap (n+N) c e).cut (w.tape w.drawn (.appendCap (n+N) c e))=K at hch
 have hroom:∀ (m:Nat) (w:World),(askRoom m).run P w=.ok () w:=by
  intro m w;unfold askRoom;split<;>rfl
 cases d2<;>first
  |(simp[uY]at hd;done)
  | (simp only [Builtin.append_, h0, h1, List.getElem?_toArray, List.getElem?_cons_zero, List.getElem?_cons_succ, Sem.run_bind, run_underlying hu, Result.andThen_ok, yA hi, run_underlying hu2, Sem.run_pure,
      Bool.false_eq_true,if_false,hN,hfit,Bool.not_false,if_true,tM hi,hb,false_or,and_false,hcap,hch,hroom,hos,hus,hz]
     rfl)
end
noncomputable section
theorem HR.drew{w0:W0}{V:Ren}{H:AS}{w:World}(h:HR w0 V H w):HR w0 V H w.drew:=⟨h.len,h.big,h.blk,h.inj,h.below.drew⟩
theorem gQ(z:Array Value)(n:Nat):(Builtin.zeroCells z n).size=n*z.size:=by simp[Builtin.zeroCells]
theorem ai6{α:Type}{a b c:Array α}{l:List α}{i:Nat}{v:α}(hl:(a++b).toList=l)(h:l[i]?=some v):(a++b++c)[i]?=some v:=by
 have hlt:i<(a++b).size:=by
  rcases Nat.lt_or_ge i (a++b).size with hl'|hl'
  .exact hl'
  .rw[<-hl]at h;rw[List.getElem?_eq_none (by simpa using hl')]at h;cases h
 rw[Array.getElem?_append_left hlt,<-Array.getElem?_toList,hl];exact h
theorem qY{P:Program}{w0:W0}{V:Ren}{H1 H':AS}{w:World}{ts:Array TypeId}{ty t t2 e:TypeId}{i:TypeInfo}{d2:TypeDesc}{base:Option Addr}{n c N:Nat}{x' v:Value}{z us os news old:List Value}
    (h:HR w0 V H1 w) (h0:ts[0]?=some t) (h1:ts[1]?=some t2) (hu:P.underlying t=some (.slice e)) (hu2:P.underlying t2=some d2) (hd:uY d2=false) (hi:P.info? e=some i)
    (hN:(Builtin.lenOf x').run P w=.ok N w) (hus:(Builtin.firstCells i.size N x').run P w.drew=.ok us.toArray w.drew) (hos:(Builtin.firstCells i.size n (.slice base n c)).run P w.drew=.ok os.toArray w.drew)
    (hz:pX P e=some z) (hzl:z.length=i.size) (hfit:¬ n+N<=c) (hb:0<i.bytes) (hlim:2*(n+N)*i.bytes<=2 ^ 47)
    (hvn:VRs V news us) (hvo:VRs V old os) (hln:news.length=N*i.size) (hlo:old.length=n*i.size) (hg:nY H1 e i.size (n+N) (old++news)=some (v,H')) :
    ∃ (γ:Ren) (u:Value) (w':World),(Builtin.append_ ts ty #[.slice base n c,x']).run P w=.ok u w'/\HR w0 (V++γ) H' w'/\VR (V++γ) v u:=by
 obtain⟨z',hz',rfl,hzg⟩:=sA (w:=w.drew) hz
 have hcap:¬ Builtin.nextslicecap (n+N) c*i.bytes > 2 ^ 48:=by
  have:=nextslicecap_le (need:=n+N) (old:=c) (by omega);have h2:=Nat.mul_le_mul_right i.bytes this;omega
 obtain⟨newCap,hnc,hrun⟩:=mC h0 h1 hu hu2 hd hi hN hus hos hz' hfit (by omega) hcap
 unfold nY at hg
 simp only[Option.map_eq_some_iff,Prod.mk.injEq]at hg
 obtain⟨⟨B,H2⟩,hn,rfl,rfl⟩:=hg
 have hzs:z'.cells.size=i.size:=by simpa using hzl
 have hsz:(os.toArray++us.toArray++Builtin.zeroCells z'.cells (newCap-(n+N))).size=newCap*i.size:=by
  have e1:us.length=N*i.size:=by rw[hvn.1,hln]
  have e2:os.length=n*i.size:=by rw[hvo.1,hlo]
  simp only[Array.size_append,List.size_toArray,e1,e2,gQ,hzs];rw[<-Nat.add_mul,<-Nat.add_mul];congr 1;omega
 have hall:VRs V (old++news) (os++us):=by
  refine⟨by simp[hvn.1,hvo.1],fun k x y hx hy=>?_⟩;rcases Nat.lt_or_ge k old.length with hk|hk
  .rw[List.getElem?_append_left hk]at hx;rw[List.getElem?_append_left (by rw[hvo.1];exact hk)]at hy;exact hvo.2 k x y hx hy
  .rw[List.getElem?_append_right hk]at hx;rw[List.getElem?_append_right (by rw[hvo.1];exact hk),hvo.1]at hy;exact hvn.2 _ x y hx hy
 obtain⟨g1,g2,g3⟩:=h.drew.allocG hn (w':=w.drew.alloc (.cells (os.toArray++us.toArray++Builtin.zeroCells z'.cells (newCap-(n+N))) e)) (C:=os.toArray++us.toArray++Builtin.zeroCells z'.cells (newCap-(n+N))) (fr:=(0,0)) rfl
  (h.drew.below.alloc _) (by
   rw[hsz,List.length_append,hln,hlo,<-Nat.add_mul];exact Nat.mul_le_mul_right _ hnc) (fun k _ hk=>by omega) (by
   intro k x hx;obtain⟨y,hy,hxy⟩:=hall.get hx;exact⟨y,ai6 (by simp) hy,hxy⟩)
 refine⟨_,_,_,hrun,g1,?_⟩
 have:=VR.slL (V:=V++[⟨w.drew.heap.size,0,(os.toArray++us.toArray++Builtin.zeroCells z'.cells (newCap-(n+N))).size,undef,yD⟩]) B 0 (n+N) (n+N) newCap i.size _ g3 hnc (by rw[hsz];simp)
 exact this
theorem HR.rehome{P:Program}{w0:W0}{V:Ren}{H H1 H':AS}{w:World}(h:HR w0 V H w){B B' o:Nat}{b:Blk}{q:Hm}{news us old:List Value}
    (hg:H.get B=some b) (hl:b.live=true) (hro:b.ro=false) (hq:V[B]?=some q) (hk:lW H B=some H1) (hold:uC H B o old.length=some old) (hv:VRs V news us) (hone:us.all one=true)
    (hsz:o+q.s+old.length+us.length<=q.top) (hn:N5 H1 (old++news) b.elem=some (B',H')) :
    ∃ w',(storeCells ⟨q.b,o+q.s+old.length,none⟩ us).run P w=.ok () w'/\HR w0 (V++[⟨q.b,o+q.s,q.top,undef,yD⟩]) H' w'/\(V++[⟨q.b,o+q.s,q.top,undef,yD⟩])[B']?=some ⟨q.b,o+q.s,q.top,undef,yD⟩:=by
 obtain⟨hk1,hk2,hk3⟩:=h.kill hk
 obtain⟨rfl,hs',hlt,hgB,hgX⟩:=AS.new_get hn
 obtain⟨c,s,C,fr,hβ,⟨el1,hw,hel1⟩,htop,hsz',hfr,hcells,hbase⟩:=h.blk B b hg hl
 have e0:=hel1 hro
 subst e0
 have hβ':=vU hq
 rw[hβ']at hβ
 simp only[Option.some.injEq,Prod.mk.injEq]at hβ
 obtain⟨rfl,rfl⟩:=hβ
 have htop':=htop q hq
 obtain⟨w',C',h1,h2,h3,h4,h5,h6,h7⟩:=dN (P:=P) (w0:=w0) q.b (hbase.1 hro) us 0 w C b.elem fr (o+q.s+old.length) hw (by omega) (hfr hro) hone h.below
 have hlen:V.length=H1.size:=hk1.len
 obtain⟨hB,hB'⟩:=pK (h:=⟨q.b,o+q.s,q.top,undef,yD⟩) hlen
 have holdAt:=(uB hold).2
 refine⟨w',h1,⟨by simp[hlen,hs'],by omega,?_,?_,h7⟩,hB'⟩
 .intro X b' hgX' hl'
  by_cases hX:X=H1.size
  .subst hX
   rw[hgB]at hgX';cases hgX'
   refine⟨q.b,o+q.s,C',fr,hB,⟨_,h2,fun _=>rfl⟩,fun p hp=>by rw[hB']at hp;cases hp;simp[h3,htop'],?_,fun _=>by rw[h3];exact hfr hro,?_,fun _=>hbase.1 hro,xR.none rfl⟩
   .rw[List.length_append,h3,<-htop',<-hv.1];omega
   .intro k x hx
    rcases Nat.lt_or_ge k old.length with hk'|hk'
    .rw[List.getElem?_append_left hk']at hx
     have hx':=holdAt k x hx
     unfold oO at hx'
     rw[hg]at hx'
     simp only[hl,if_true]at hx'
     obtain⟨u,hu,hxu⟩:=hcells _ _ hx'
     refine⟨u,?_,hxu.mono⟩
     rw[h4 (k+(o+q.s)) (by omega)]
     rw[<-hu];congr 1;omega
    .rw[List.getElem?_append_right hk']at hx
     obtain⟨u,hu,hxu⟩:=hv.get hx
     refine⟨u,?_,hxu.mono⟩
     have:=h5 _ _ hu
     rw[<-this];congr 1;omega
  .rw[hgX X hX]at hgX'
   obtain⟨hXB,hgH⟩:=hk3 X b' hgX' hl'
   obtain⟨c,s,C2,fr2,hB2,⟨el2,hw2,hel2⟩,r0,r1,r2,r3,r4⟩:=h.blk X b' hgH hl'
   have hne:=h.inj B X b b' hg hgH hl hl' hro (fun e=>hXB e.symm)
   rw[hβ',hB2]at hne
   simp only[Option.map_some,ne_eq,Option.some.injEq]at hne
   refine⟨c,s,C2,fr2,zV hB2,⟨_,by rw[h6 c (fun e=>hne e.symm)];exact hw2,hel2⟩,?_,r1,r2,?_,r4.1,r4.2.mono⟩
   .intro p hp
    rw[List.getElem?_append_left (h.lt_len hgH)]at hp
    exact r0 p hp
   .intro k x hx
    obtain⟨u,hu,hxu⟩:=r3 k x hx
    exact⟨u,hu,hxu.mono⟩
 .intro X Y b1 b2 g1 g2 l1 l2 r1 hne
  have key:∀ Z bz,H'.get Z=some bz->bz.live=true->Z≠H1.size->Z≠B/\H.get Z=some bz/\∃ p,hm V Z=some p:=by
   intro Z bz hz hlz hZ;rw[hgX Z hZ]at hz;obtain⟨a1,a2⟩:=hk3 Z bz hz hlz;obtain⟨c,s,_,_,hBz,_⟩:=h.blk Z bz a2 hlz;exact⟨a1,a2,_,hBz⟩
  by_cases hX:X=H1.size
  .subst hX
   obtain⟨y1,y2,p,y3⟩:=key Y b2 g2 l2 (fun e=>hne e.symm)
   have:=h.inj B Y b b2 hg y2 hl l2 hro (fun e=>y1 e.symm)
   rw[hB,zV y3,<-y3]
   rw[hβ']at this
   exact this
  .obtain⟨x1,x2,p,x3⟩:=key X b1 g1 l1 hX
   by_cases hY:Y=H1.size
   .subst hY
    have:=h.inj X B b1 b x2 hg l1 hl r1 x1
    rw[hB,zV x3,<-x3]
    rw[hβ']at this
    exact this
   .obtain⟨y1,y2,p',y3⟩:=key Y b2 g2 l2 hY
    rw[zV x3,zV y3,<-x3,<-y3]
    exact h.inj X Y b1 b2 x2 y2 l1 l2 r1 hne
theorem VRs.one_conc{V:Ren}:∀ {vs us:List Value},VRs V vs us->vs.all fW=true->us.all one=true
 |[],us,h,_=>by
  have:us=[]:=List.eq_nil_of_length_eq_zero h.1;subst this;rfl
 |v::vs,us,h,ho=>by
  obtain⟨u,us',rfl,h1,h2⟩:=h.cons_inv;simp only[List.all_cons,Bool.and_eq_true]at ho ⊢;exact⟨h1.one_conc ho.1,VRs.one_conc h2 ho.2⟩
theorem HR.appendOp{P:Program}{w0:W0}{V:Ren}{H H':AS}{w:World}(h:HR w0 V H w){ts:Array TypeId}{ty:TypeId}{s s' x x' v:Value}(hs:VR V s s')(hx:VR V x x')(ha:bM P H ts s x=some (v,H')) :
    Made P w0 V H' w (Builtin.append_ ts ty #[s',x']) v:=by
 unfold bM at ha
 split at ha
 rotate_left
 .cases ha
 rename_i t t2 h0 h1
 split at ha
 rotate_left
 .cases ha
 rename_i e d2 hu hu2
 split at ha
 .cases ha
 rename_i i hi
 split at ha
 .cases ha
 rotate_left
 .cases ha
 rename_i m news z hd2 hsrc hz
 obtain⟨d2,hu2,hd⟩:∃ d,P.underlying t2=some d/\uY d=false:=⟨_,hu2,by
  unfold uY;split
  .rename_i k _;exact (hd2 _ rfl).elim
  .rfl⟩
 split at ha
 rotate_left
 .cases ha
 rename_i hc
 simp only[Bool.and_eq_true,decide_eq_true_eq]at hc
 obtain⟨hone,hzl⟩:=hc
 obtain⟨N,us,hN,hm,hus,hvn,hln⟩:=o9 (P:=P) h hx hsrc
 simp only[Option.map_none,Option.getD_none]at hm
 subst hm
 obtain⟨N',us2,hN',hm',hus',hvn',_⟩:=o9 (P:=P) h.drew hx hsrc
 have huone:=hvn.one_conc hone
 split at ha
 .
  rename_i n c
  cases hs
  split at ha
  rotate_left
  .cases ha
  rename_i h00
  obtain⟨rfl,rfl⟩:=h00
  split at ha
  .rename_i hm0
   subst hm0
   simp only[Option.some.injEq,Prod.mk.injEq]at ha
   obtain⟨rfl,rfl⟩:=ha
   refine⟨[],.slice none 0 0,w,?_,by rw[List.append_nil];exact h,by rw[List.append_nil];exact .sl0 0 0⟩
   rw[run_append_fits (n:=0) (c:=0) h0 h1 hu hu2 hd hi hN hus (by omega)]
   rfl
  .split at ha
   rotate_left
   .cases ha
   rename_i hm0 hb
   obtain⟨hb1,hb2,hb3⟩:=hb
   have:=qY (P:=P) (ty:=ty) (base:=none) (n:=0) (c:=0) (os:=[]) (old:=[]) h h0 h1 hu hu2 hd hi hN hus' rfl hz hzl (by omega) hb1 (by rw[Nat.zero_add];exact hb2) hvn' (VRs.nil V) hln (by simp) (by simpa using ha)
   exact⟨this⟩
 .rename_i B o sp n c
  split at ha
  .
   rename_i hfit
   simp only[Option.map_eq_some_iff,Prod.mk.injEq]at ha
   obtain⟨H2,hst,rfl,rfl⟩:=ha
   cases hs with
   |sl B o b s n c hβ =>
    obtain⟨w',hrun,hr⟩:=HR.storeFrom (P:=P) hβ (o+n*i.size) news us 0 H H2 w h hst hvn
    refine⟨[],.slice (some ⟨b,o+s,none⟩) (n+m) c,w',?_,by rw[List.append_nil];exact hr,by rw[List.append_nil];exact .sl _ _ _ _ _ _ hβ⟩
    rw[run_append_fits h0 h1 hu hu2 hd hi hN hus hfit]
    have e:(⟨b,o+s,none⟩:Addr).add (n*i.size)=⟨b,o+n*i.size+s,none⟩:=by rw[wS];congr 1;omega
    simp only[e,Sem.run_bind,hrun,Result.andThen_ok]
    rfl
   |slL B o n c c' zz q hβ hcc htop =>
    obtain⟨w',hrun,hr⟩:=HR.storeFrom (P:=P) (vU hβ) (o+n*i.size) news us 0 H H2 w h hst hvn
    refine⟨[],.slice (some ⟨q.b,o+q.s,none⟩) (n+m) c',w',?_,by rw[List.append_nil];exact hr,by rw[List.append_nil];exact .slL _ _ _ _ _ _ _ hβ hcc htop⟩
    rw[run_append_fits h0 h1 hu hu2 hd hi hN hus (by omega)]
    have e:(⟨q.b,o+q.s,none⟩:Addr).add (n*i.size)=⟨q.b,o+n*i.size+q.s,none⟩:=by rw[wS];congr 1;omega
    simp only[e,Sem.run_bind,hrun,Result.andThen_ok]
    rfl
  .rename_i hfit
   split at ha
   rotate_left
   .cases ha
   rename_i hb
   obtain⟨hb1,hb2,hb3⟩:=hb
   split at ha
   .cases ha
   rename_i old hold
   have hlo:=(uB hold).1
   split at ha
   .
    cases hs with
    |sl B o b s n c hβ =>
     obtain⟨os,hos,hvo⟩:=h.drew.loads (P:=P) hold hβ
     exact⟨qY (P:=P) (ty:=ty) h h0 h1 hu hu2 hd hi hN hus' hos hz hzl hfit hb1 hb2 hvn' hvo hln hlo ha⟩
   .rename_i zz
    split at ha
    rotate_left
    .cases ha
    rename_i b H1 hg hk
    split at ha
    rotate_left
    .cases ha
    rename_i hbk
    obtain⟨rfl,hel,hlive,hro⟩:=hbk
    cases hs with
    |slL B o n c c' zz q hβ hcc htop =>
     by_cases hfit':n+m<=c'
     .
      unfold nY at ha
      simp only[Option.map_eq_some_iff,Prod.mk.injEq]at ha
      obtain⟨⟨B',H2⟩,hn,rfl,rfl⟩:=ha
      have hmul:(n+m)*i.size<=c'*i.size:=Nat.mul_le_mul_right _ hfit'
      rw[Nat.add_mul]at hmul
      subst hel
      obtain⟨w',hrun,hr,hB'⟩:=h.rehome (P:=P) hg hlive hro hβ hk (by rw[hlo];exact hold) hvn huone (by rw[hlo,hvn.1,hln];omega) hn
      refine⟨_,.slice (some ⟨q.b,o+q.s,none⟩) (n+m) c',w',?_,hr,?_⟩
      .rw[run_append_fits h0 h1 hu hu2 hd hi hN hus hfit']
       have e:(⟨q.b,o+q.s,none⟩:Addr).add (n*i.size)=⟨q.b,o+q.s+old.length,none⟩:=by rw[wS,hlo]
       simp only[e,Sem.run_bind,hrun,Result.andThen_ok]
       rfl
      .have:=VR.slL (V:=V++[⟨q.b,o+q.s,q.top,undef,yD⟩]) B' 0 (n+m) (n+m) c' i.size _ hB' hfit' (by simp only;omega)
       simpa using this
     .obtain⟨os,hos,hvo⟩:=h.drew.loads (P:=P) hold (vU hβ)
      exact⟨qY (P:=P) (ty:=ty) (h.kill hk).1 h0 h1 hu hu2 hd hi hN hus' hos hz hzl hfit' hb1 hb2 hvn' hvo hln hlo ha⟩
 .cases ha
end
noncomputable section
def am5(P:Program)(H:AS)(ts:Array TypeId)(d x:Value):Option (Value × AS) :=
 match ts[0]? with
 |none=>none
 |some t =>
  match P.underlying t,d with
  |some (.slice e),.slice b dl _ =>
   match P.info? e with
   |none=>none
   |some i =>
    match av3 H i.size (some dl) x with
    |none=>none
    |some (n,l) =>
     match b with
     |none=>some (goInt n,H)
     |some ⟨B,o,_⟩=>if l.all fW then (rJ B l o H).map fun H'=>(goInt n,H') else none
  |_,_=>none
theorem HR.copyOp{P:Program}{w0:W0}{V:Ren}{H H':AS}{w:World}(h:HR w0 V H w){ts:Array TypeId}{ty:TypeId}{d d' x x' v:Value}(hd:VR V d d')(hx:VR V x x')(ha:am5 P H ts d x=some (v,H')) :
    Made P w0 V H' w (Builtin.copy_ ts ty #[d',x']) v:=by
 unfold am5 at ha
 split at ha
 .cases ha
 rename_i t h0
 split at ha
 rotate_left
 .cases ha
 rename_i e b dl dc hu
 split at ha
 .cases ha
 rename_i i hi
 split at ha
 .cases ha
 rename_i n l hsrc
 obtain⟨N,us,hN,hm,hus,hvn,hln⟩:=o9 (P:=P) h hx hsrc
 simp only[Option.map_some,Option.getD_some]at hm
 have hmin:Nat.min N dl=n:=by rw[hm]
 split at ha
 .simp only[Option.some.injEq,Prod.mk.injEq]at ha
  obtain⟨rfl,rfl⟩:=ha
  cases hd
  refine⟨[],goInt n,w,?_,by rw[List.append_nil];exact h,by exact .int _ _⟩
  simp only[Builtin.copy_,h0,List.getElem?_toArray,List.getElem?_cons_zero,List.getElem?_cons_succ,Sem.run_bind,run_underlying hu,Result.andThen_ok,hN,yA hi,hmin,hus,Sem.run_pure]
 .rename_i B o sp
  split at ha
  rotate_left
  .cases ha
  rename_i hone
  simp only[Option.map_eq_some_iff,Prod.mk.injEq]at ha
  obtain⟨H2,hst,rfl,rfl⟩:=ha
  cases hd with
  |sl B o b s n' c hβ =>
   obtain⟨w',hrun,hr⟩:=HR.storeFrom (P:=P) hβ o l us 0 H H2 w h hst hvn
   refine⟨[],goInt n,w',?_,by rw[List.append_nil];exact hr,by exact .int _ _⟩
   simp only[Builtin.copy_,h0,List.getElem?_toArray,List.getElem?_cons_zero,List.getElem?_cons_succ,Sem.run_bind,run_underlying hu,Result.andThen_ok,hN,yA hi,hmin,hus,Sem.run_pure,hrun]
  |slL B o n' c c' zz q hβ hcc htop =>
   obtain⟨w',hrun,hr⟩:=HR.storeFrom (P:=P) (vU hβ) o l us 0 H H2 w h hst hvn
   refine⟨[],goInt n,w',?_,by rw[List.append_nil];exact hr,by exact .int _ _⟩
   simp only[Builtin.copy_,h0,List.getElem?_toArray,List.getElem?_cons_zero,List.getElem?_cons_succ,Sem.run_bind,run_underlying hu,Result.andThen_ok,hN,yA hi,hmin,hus,Sem.run_pure,hrun]
def bytesOf:List Value->Option (List Int)
 |[]=>some []
 | .int .u8 n::l=>(bytesOf l).map (n::·)
 |_=>none
theorem iU:∀ {l:List Value} {ns:List Int},bytesOf l=some ns->l=ns.map (Value.int .u8)
 |[],ns,h=>by simp only[bytesOf,Option.some.injEq]at h;subst h;rfl
 |v::l,ns,h=>by
  cases v<;>try (simp[bytesOf]at h;done)
  rename_i k n;cases k<;>try (simp[bytesOf]at h;done)
  simp only[bytesOf,Option.map_eq_some_iff]at h;obtain⟨r,hr,rfl⟩:=h;rw[iU hr];rfl
theorem VRs.bytes{V:Ren}{l us:List Value}{ns:List Int}(h:VRs V l us)(hl:l=ns.map (Value.int .u8)):us=ns.map (Value.int .u8):=by
 subst hl;apply List.ext_getElem?;intro k;rcases Nat.lt_or_ge k us.length with hk|hk
 .have hk':k<(ns.map (Value.int .u8)).length:=by rw[<-h.1];exact hk
  have:=h.2 k _ _ (List.getElem?_eq_getElem hk') (List.getElem?_eq_getElem hk);rw[List.getElem?_eq_getElem hk',List.getElem?_eq_getElem hk];congr 1;apply VR.eq_of_ground this;simp[zL]
 .rw[List.getElem?_eq_none hk,List.getElem?_eq_none (by rw[<-h.1];exact hk)]
theorem oQ(ns:List Int):∀(s:ByteArray),(ns.foldl (fun r n=>r.push (UInt8.ofNat n.toNat)) s)=⟨(s.data.toList++ns.map fun n=>UInt8.ofNat n.toNat).toArray⟩:=by
 induction ns with
 |nil=>intro s;simp
 |cons n ns ih =>
  intro s;rw[List.foldl_cons,ih];simp[ByteArray.push]
def strOf(ns:List Int):ByteArray:=⟨(ns.map fun n=>UInt8.ofNat n.toNat).toArray⟩
def mQ(H:AS)(x:Value):Option Value :=
 match x with
 | .slice none _ _=>some (.string .empty)
 | .slice (some ⟨B,o,_⟩) n _ =>
  match uC H B o n with
  |some l=>(bytesOf l).map fun ns=>.string (strOf ns)
  |none=>none
 |_=>none
theorem HR.bytesStr{P:Program}{w0:W0}{V:Ren}{H:AS}{w:World}(h:HR w0 V H w){x x' v:Value}(hx:VR V x x')(ha:mQ H x=some v):(Conv.bytesToString x').run P w=.ok v w/\∃ s,v=.string s:=by
 unfold mQ at ha;split at ha
 .simp only[Option.some.injEq]at ha;subst ha;cases hx;exact⟨rfl,_,rfl⟩
 .rename_i B o sp n c;split at ha
  .rename_i l hl;simp only[Option.map_eq_some_iff]at ha;obtain⟨ns,hns,rfl⟩:=ha;have hle:=iU hns;cases hx with
   |sl B o b s n c hβ =>
    obtain⟨us,h1,h2⟩:=h.loads (P:=P) hl hβ;rw[h2.bytes hle]at h1;refine⟨?_,_,rfl⟩;rw[run_bytesToString w _ _ _ ns h1,oQ];rfl
   |slL B o n c c' z q hβ hcc htop =>
    obtain⟨us,h1,h2⟩:=h.loads (P:=P) hl (vU hβ);rw[h2.bytes hle]at h1;refine⟨?_,_,rfl⟩;rw[run_bytesToString w _ _ _ ns h1,oQ];rfl
  .cases ha
 .cases ha
def mX(H:AS)(e:TypeId)(s:ByteArray):Option (Value × AS) :=
 (N5 H (tL s) e).map fun (B,H')=>(.slice (some ⟨B,0,some 1⟩) s.size s.size,H')
theorem HR.strBytes{P:Program}{w0:W0}{V:Ren}{H H':AS}{w:World}(h:HR w0 V H w){src dst e:TypeId}{s:ByteArray}{u:TypeDesc}{v:Value}
    (hs:P.underlying src=some u) (hd:P.underlying dst=some (.slice e)) (he:P.underlying e=some (.int .u8)) (ha:mX H e s=some (v,H')):Made P w0 V H' w (convert src dst (.string s)) v:=by
 unfold mX at ha
 simp only[Option.map_eq_some_iff,Prod.mk.injEq]at ha
 obtain⟨⟨B,H1⟩,hn,rfl,rfl⟩:=ha
 have hcap:s.size<=grownCap w s.size 0 e:=by
  unfold grownCap;simp only[Question.cut];omega
 have hsz:(Lib.bytesCells w e s).size=grownCap w s.size 0 e:=by
  simp only[Lib.bytesCells,Array.size_append,Array.size_map,Array.size_replicate];have:s.data.size=s.size:=rfl;omega
 have hbel:Kept w0 (Lib.bytesWorld w e s):=by
  have h1:=(h.below.drew.alloc (.cells (Lib.bytesCells w e s) e))
  refine⟨h1.os,h1.tape,h1.output,by rw[Lib.bytesWorld_size];have:=h.below.size;omega,?_⟩;intro b hb;rw[Lib.bytesWorld_at_old w e s b (by have:=h.below.size;have:=w0.lt b hb;omega)];exact h.below.block b hb
 have hheap:(Lib.bytesWorld w e s).heap=w.heap.push (.cells (Lib.bytesCells w e s) e ((Lib.bytesCells w e s).size,(Lib.bytesCells w e s).size+1)):=by
  apply Array.ext_getElem?;intro i;rw[Array.getElem?_push];split
  .rename_i hi;subst hi;rw[Lib.bytesWorld_at_new]
  .rename_i hi;rcases Nat.lt_or_ge i w.heap.size with hlt|hge
   .exact Lib.bytesWorld_at_old w e s i hlt
   .rw[Array.getElem?_eq_none (by rw[Lib.bytesWorld_size];omega),Array.getElem?_eq_none hge]
 obtain⟨g1,g2,g3⟩:=h.allocG hn hheap hbel (by rw[hsz];simp only[tL,List.length_map,Array.length_toList];exact hcap) (fun i hi hc=>by omega) (by
  intro i x hx;have hi:i<s.size:=by
   rcases Nat.lt_or_ge i (tL s).length with hl|hl
   .simpa [tL] using hl
   .rw[List.getElem?_eq_none hl]at hx;cases hx
  refine⟨x,?_,VR.of_ground (List.all_eq_true.1 (by have:=pY s (tL s).length;rwa[List.take_length]at this) x (List.mem_of_getElem? hx))⟩;unfold Lib.bytesCells;rw[Array.getElem?_append_left (by simpa using hi),<-Array.getElem?_toList,Array.toList_map];exact hx)
 refine⟨⟨_,_,_,Lib.run_convert_string_bytes w src dst e s hs hd he,g1,?_⟩⟩
 have:=VR.slL (V:=V++[⟨w.heap.size,0,(Lib.bytesCells w e s).size,undef,yD⟩]) B 0 s.size s.size (grownCap w s.size 0 e) 1 _ g3 hcap (by rw[hsz];simp)
 exact this
end
noncomputable section
def sT(P:Program)(t:TypeId)(a b:Value):Option Bool :=
 match P.underlying t,a,b with
 |some (.pointer _),.pointer none,.pointer (some _)=>some false
 |some (.pointer _),.pointer (some _),.pointer none=>some false
 |some (.pointer e),.pointer (some ⟨B,o,none⟩),.pointer (some ⟨B',o',none⟩) =>
  match P.info? e with
  |some i=>if B=B'/\i.size≠0 then some (decide (o=o')) else none
  |none=>none
 |some (.slice _),.slice none _ _,.slice (some _) _ _=>some false
 |some (.slice _),.slice (some _) _ _,.slice none _ _=>some false
 |some (.interface _),.nilIface,.iface _ _=>some false
 |some (.interface _),.iface _ _,.nilIface=>some false
 |some (.interface _),.iface tx (.pointer (some ⟨B,o,none⟩)),.iface ty (.pointer (some ⟨B',o',none⟩)) =>
  if tx=ty then
   match P.info? tx,P.underlying tx with
   |some j,some (.pointer e) =>
    match P.info? e with
    |some i=>if j.comparable=true/\B=B'/\i.size≠0 then some (decide (o=o')) else none
    |none=>none
   |_,_=>none
  else some false
 |some (.func _ _ _),.nilFunc,.func fn _ _=>if noY fn then some false else none
 |some (.func _ _ _),.func fn _ _,.nilFunc=>if noY fn then some false else none
 |_,_,_=>none
theorem awU(b o o' s:Nat):((⟨b,o+s,none⟩:Addr) == ⟨b,o'+s,none⟩)=decide (o=o'):=by
 by_cases h:o=o'
 .subst h;simp
 .rw[decide_eq_false h,beq_eq_false_iff_ne];intro hc;simp only[Addr.mk.injEq,and_true,true_and]at hc;omega
theorem M4{P:Program}{w:World}(b o o' s:Nat):(sameAddr ⟨b,o+s,none⟩ ⟨b,o'+s,none⟩).run P w=.ok (decide (o=o')) w:=by
 unfold sameAddr;simp only[beq_self_eq_true,if_true,awU];rfl
theorem P2{P:Program}{w:World}{t e:TypeId}{i:TypeInfo}(d b o o' s:Nat)(ht:P.underlying t=some (.pointer e))(hi:P.info? e=some i)(h0:i.size≠0) :
    (Op.equalIn (d+1) t (.pointer (some ⟨b,o+s,none⟩)) (.pointer (some ⟨b,o'+s,none⟩))).run P w=.ok (decide (o=o')) w:=by
 rw[Op.equalIn]
 simp only[Sem.run_bind,run_underlying ht,Result.andThen_ok,yA hi,ne_eq,h0,not_false_eq_true,if_true,M4]
theorem fY{P:Program}{w:World}{V:Ren}{t:TypeId}{a b a' b':Value}{r:Bool}(d:Nat)(ha:VR V a a')(hb:VR V b b')(h:sT P t a b=some r) :
    (Op.equalIn (d+1+1) t a' b').run P w=.ok r w:=by
 unfold sT at h
 split at h<;>rename_i ht
 .cases h;cases ha;cases hb
  rw[Op.equalIn];simp only[Sem.run_bind,run_underlying ht,Result.andThen_ok];rfl
 .cases h;cases ha;cases hb
  rw[Op.equalIn];simp only[Sem.run_bind,run_underlying ht,Result.andThen_ok];rfl
 .rename_i B o B' o'
  split at h
  .rename_i i hi
   split at h
   .rename_i hc
    obtain⟨rfl,h0⟩:=hc
    cases h
    cases ha with
    |ptr B o b s h1 =>
     cases hb with
     |ptr B o' b' s' h2 =>
      rw[h1]at h2;cases h2
      exact P2 _ b o o' s ht hi h0
   .cases h
  .cases h
 .cases h;cases ha;cases hb<;>(rw[Op.equalIn];simp only[Sem.run_bind,run_underlying ht,Result.andThen_ok];rfl)
 .cases h;cases hb;cases ha<;>(rw[Op.equalIn];simp only[Sem.run_bind,run_underlying ht,Result.andThen_ok];rfl)
 .cases h;cases ha;cases hb
  rw[Op.equalIn];simp only[Sem.run_bind,run_underlying ht,Result.andThen_ok];rfl
 .cases h;cases ha;cases hb
  rw[Op.equalIn];simp only[Sem.run_bind,run_underlying ht,Result.andThen_ok];rfl
 .rename_i tx B o ty B' o'
  split at h
  .rename_i hty
   subst hty
   split at h
   .rename_i j e hj hte
    split at h
    .rename_i i hi
     split at h
     .rename_i hc
      obtain⟨hcmp,rfl,h0⟩:=hc
      cases h
      cases ha with
      |iface _ _ _ ha =>
       cases hb with
       |iface _ _ _ hb =>
        cases ha with
        |ptr B o b s h1 =>
         cases hb with
         |ptr B o' b' s' h2 =>
          rw[h1]at h2;cases h2
          have:=P2 (P:=P) (w:=w) d b o o' s hte hi h0
          rw[Op.equalIn]
          simp only[Sem.run_bind,run_underlying ht,Result.andThen_ok,tM hj,hcmp,ne_eq,not_true_eq_false,if_false,Bool.not_true,Bool.false_eq_true,this]
     .cases h
    .cases h
   .cases h
  .rename_i hty
   cases h
   cases ha with
   |iface _ _ _ ha =>
    cases hb with
    |iface _ _ _ hb =>
     rw[Op.equalIn]
     simp only[Sem.run_bind,run_underlying ht,Result.andThen_ok,ne_eq,hty,not_false_eq_true,if_true]
     rfl
 .split at h
  .rename_i hy
   cases h;cases ha;cases hb<;>first|(cases hy;done)|(rw[Op.equalIn];simp only[Sem.run_bind,run_underlying ht,Result.andThen_ok];rfl)
  .cases h
 .split at h
  .rename_i hy
   cases h;cases hb;cases ha<;>first|(cases hy;done)|(rw[Op.equalIn];simp only[Sem.run_bind,run_underlying ht,Result.andThen_ok];rfl)
  .cases h
 .cases h
theorem U0{P:Program}{w:World}{V:Ren}{t:TypeId}{a b a' b':Value}{r:Bool}(ha:VR V a a')(hb:VR V b b')(h:sT P t a b=some r) :
    (Op.equal t a' b').run P w=.ok r w:=fY 9998 ha hb h
end
end Go.SM
