-- the statement of this claim: see YtoamgocecoiggaaDoorRs
import Derived.Test.YtoamgocecoiggaaDoorM5
set_option linter.unusedVariables false
set_option linter.unusedSimpArgs false
set_option maxRecDepth 100000
noncomputable section
namespace Go.SM
noncomputable section
theorem vR{P:Program}{w:World}{ts:Array TypeId}{ty t t2 e:TypeId}{i:TypeInfo}{d2:TypeDesc}{base:Option Addr}{n c N:Nat}{x' z:Value}{us os:List Value}
    (h0:ts[0]?=some t) (h1:ts[1]?=some t2) (hu:P.underlying t=some (.slice e)) (hu2:P.underlying t2=some d2) (hd:uY d2=false) (hi:P.info? e=some i)
    (hN:(Builtin.lenOf x').run P w=.ok N w) (hus:(Builtin.firstCells i.size N x').run P w.drew=.ok us.toArray w.drew) (hos:(Builtin.firstCells i.size n (.slice base n c)).run P w.drew=.ok os.toArray w.drew)
    (hz:(zeroValue e).run P w.drew=.ok z w.drew) (hfit:¬ n+N<=c) (hb:i.bytes≠0) (hcap:¬ Builtin.nextslicecap (n+N) c*i.bytes > 2 ^ 48) (h63:n+N<2 ^ 62) :
    ∃ newCap,n+N<=newCap/\newCap<2 ^ 63/\(Builtin.append_ ts ty #[.slice base n c,x']).run P w =
     .ok (.slice (some ⟨w.heap.size,0,none⟩) (n+N) newCap) (w.drew.alloc (.cells (os.toArray++us.toArray++Builtin.zeroCells z.cells (newCap-(n+N))) e)):=by
 refine⟨(Question.appendCap (n+N) c e).cut (w.tape w.drawn (.appendCap (n+N) c e)),by simp only[Question.cut];omega,?_,?_⟩
 .simp only[Question.cut]
  have:w.tape w.drawn (.appendCap (n+N) c e)%(2 ^ 63-(n+N))<2 ^ 63-(n+N):=Nat.mod_lt _ (by omega)
  omega
 have hch:(choose (.appendCap (n+N) c e)).run P w=.ok ((Question.appendCap (n+N) c e).cut (w.tape w.drawn (.appendCap (n+N) c e))) w.drew:=rfl
 generalize (Question.appendCap (n+N) c e).cut (w.tape w.drawn (.appendCap (n+N) c e))=K at hch
 have hroom:∀ (m:Nat) (w:World),(askRoom m).run P w=.ok () w:=by
  intro m w;unfold askRoom;split<;>rfl
 cases d2<;>first
  |(simp[uY]at hd;done)
  | (simp only [Builtin.append_, h0, h1, List.getElem?_toArray, List.getElem?_cons_zero, List.getElem?_cons_succ, Sem.run_bind, run_underlying hu, Result.andThen_ok, yA hi, run_underlying hu2, Sem.run_pure,
      Bool.false_eq_true,if_false,hN,hfit,Bool.not_false,if_true,tM hi,hb,false_or,and_false,hcap,hch,hroom,hos,hus,hz]
     rfl)
def afV(a b:Value):Value :=
 match a,b with
 | .string s,b=>if Nat.beq s.size 0 then b else nd2 21 (.string s) b
 |a,.string s=>if Nat.beq s.size 0 then a else nd2 21 a (.string s)
 |a,b=>nd2 21 a b
theorem U8(s t:TL):∃ r:TL,afV s.enc t.enc=r.enc/\(∀ n,s.ok n=true->t.ok n=true->r.ok n=true)/\∀ V,r.den V=s.den V++t.den V:=by
 generalize hs:s.enc=a;generalize ht:t.enc=b;have base:nd2 21 a b=(TL.app s t).enc:=by simp only[TL.enc,hs,ht]
 have nil:∀ {u:TL} {q:ByteArray},u.enc=.string q->Nat.beq q.size 0=true->∀ V,u.den V=[]:=by
  intro u q hu hq V;rw[aa4 hu];simp only[TL.den];have:=anG hq;subst this;rfl
 unfold afV;split
 .split
  .rename_i h0;exact⟨t,ht.symm,fun _ _ h=>h,fun V=>by rw[nil hs h0];rfl⟩
  .exact⟨.app s t,base,fun n h h'=>by simp[TL.ok,h,h'],fun _=>rfl⟩
 .split
  .rename_i h0;exact⟨s,hs.symm,fun _ h _=>h,fun V=>by rw[nil ht h0];simp⟩
  .exact⟨.app s t,base,fun n h h'=>by simp[TL.ok,h,h'],fun _=>rfl⟩
 .exact⟨.app s t,base,fun n h h'=>by simp[TL.ok,h,h'],fun _=>rfl⟩
def nL(A:List Value)(H:AS)(e:TypeId)(kill:Option Nat)(T:Value):Option (Value × AS) :=
 match H.new dY with
 |none=>none
 |some (K,H1) =>
  match (match kill with
   |none=>some H1
   |some B=>lW H1 B) with
  |none=>none
  |some H2 =>
   match H2.new { cells:=[],elem:=e,ro:=false,live:=true,seq:=some (nd2 21 T (.map (some K))) } with
   |none=>none
   |some (B',H3)=>if vH A (xX 20 T) (.int .i64 70368744177664)=true then some (sL B' (.int .i64 0) (xX 20 T) (yM (xX 20 T) (nd1 11 (.map (some K)))),H3) else none
def bQ(b:Blk):Option Value:=match b.seq with
 |some e=>if isN e then none else some e
 |none=>eY b.cells
theorem adZ{V:Ren}{b:Blk}{C:Array Value}{s:Nat}{q:Value}(hsq:xR V b C s)(hcl:∀(i:Nat)(v:Value),b.cells[i]?=some v->∃ u,C[i+s]?=some u/\VR V v u)(hsz:b.cells.length+s<=C.size)(hq:bQ b=some q) :
    ∃ (t:TL) (pre post:List Value),q=t.enc/\t.ok V.length=true/\pre.length=s/\C.toList=pre++bv (t.den V)++post:=by
 unfold bQ at hq
 split at hq
 .rename_i e he
  split at hq
  .cases hq
  .rename_i hn
   cases hq
   exact hsq.get (by unfold Blk.sq;rw[he];simp only;rw[if_neg hn])
 .rename_i hn
  have hget:∀ (k:Nat) (u:Value),((C.toList.drop s).take b.cells.length)[k]?=some u->C[k+s]?=some u:=by
   intro k u hk;rw[List.getElem?_take]at hk;split at hk
   .rw[List.getElem?_drop]at hk;rw[<-Array.getElem?_toList,Nat.add_comm];exact hk
   .cases hk
  have hus:VRs V b.cells ((C.toList.drop s).take b.cells.length):=by
   refine⟨by rw[List.length_take,List.length_drop,Array.length_toList];omega,fun k v u hv hu=>?_⟩;obtain⟨u',h1,h2⟩:=hcl k v hv;rw[hget k u hu]at h1;cases h1;exact h2
  obtain⟨t,he,hok,hut,hlen⟩:=sM hus hq
  refine⟨t,C.toList.take s,(C.toList.drop s).drop b.cells.length,he,hok,by rw[List.length_take,Array.length_toList];omega,?_⟩
  rw[<-hut,List.append_assoc,List.take_append_drop,List.take_append_drop]
def iC(P:Program)(A:List Value)(H:AS)(ts:Array TypeId)(s x:Value):Option (Value × AS) :=
 match ts[0]?,ts[1]? with
 |some t,some t2 =>
  match P.underlying t,P.underlying t2 with
  |some (.slice e),some d2 =>
   match P.info? e,pX P e,kG A H x with
   |some i,some [.int .u8 z],some src =>
    if uY d2=false/\i.size=1/\i.bytes=1/\z=0 then
     match s with
     | .slice none n c=>if n=0/\c=0/\nS A (.int .i64 0) (xX 20 src)=true then nL A H e none src else none
     |s =>
      match aqE s with
      |some (B,o,n,c) =>
       match H.get B with
       |some b =>
        match b.live,b.ro,bQ b with
        |true,false,some q=>if b.elem=e/\vH A (yM o c) (xX 2000 q)=true then nL A H e (some B) (afV (mK A q o (yM o n)) src) else none
        |_,_,_=>none
       |none=>none
      |none=>none
    else none
   |_,_,_=>none
  |_,_=>none
 |_,_=>none
theorem anB{z:Value}(hz:z.cells.toList=[.int .u8 0])(n:Nat):(Builtin.zeroCells z.cells n).toList=bv (List.replicate n 0):=by
 have:z.cells=#[.int .u8 0]:=by apply Array.ext';simpa using hz
 rw[this];simp only[Builtin.zeroCells,bv];simp only[Array.toList_map,Array.toList_range,List.map_replicate];rw[List.eq_replicate_iff];refine⟨by simp,fun b hb=>?_⟩;simp only[List.mem_map]at hb;obtain⟨i,_,rfl⟩:=hb;have:i%1=0:=Nat.mod_one i;simp[this]
theorem iM{V:Ren}{A:List Value}{T:TL}{K B' b s':Nat}{tail:List UInt8}{q:Hm}(hA:Facts V A)(hT:T.ok V.length=true)(hK:K=V.length)(hle:vH A (xX 20 T.enc) (.int .i64 70368744177664)=true)(hcap:(T.den V).length+tail.length<2 ^ 63)
    (hb:hm (V++[⟨0,0,0,.string ⟨tail.toArray⟩,yD⟩]++[q]) B'=some (b,s')) :
    VR (V++[⟨0,0,0,.string ⟨tail.toArray⟩,yD⟩]++[q]) (sL B' (.int .i64 0) (xX 20 T.enc) (yM (xX 20 T.enc) (nd1 11 (.map (some K))))) (.slice (some ⟨b,s',none⟩) (T.den V).length ((T.den V).length+tail.length)):=by
 subst hK
 obtain⟨r,e1,e2,e3⟩:=yL 20 T
 obtain⟨ra,a1,a2,a3⟩:=zX r (.len (.var V.length))
 rw[e1]at hle ⊢
 have hle:=zO (t:=.lit 70368744177664) hA hle
 rw[e3]at hle
 simp only[TI.den]at hle
 have a1':yM r.enc (nd1 11 (.map (some V.length)))=ra.enc:=a1
 rw[a1']
 have g1:(T.den (V++[⟨0,0,0,.string ⟨tail.toArray⟩,yD⟩]++[q]))=T.den V:=by rw[List.append_assoc];exact TL.den_app V _ T hT
 have hr:r.den (V++[⟨0,0,0,.string ⟨tail.toArray⟩,yD⟩]++[q])=(T.den V).length:=by rw[e3,g1]
 have hv:(TI.len (.var V.length)).den (V++[⟨0,0,0,.string ⟨tail.toArray⟩,yD⟩]++[q])=tail.length:=by
  simp only[TI.den,TL.den];rw[List.append_assoc,List.getElem?_append_right (Nat.le_refl _)];simp[pG]
 have hlen:(V++[(⟨0,0,0,.string ⟨tail.toArray⟩,yD⟩:Hm)]++[q]).length=V.length+2:=by simp
 have:=SlOk.vr (V:=V++[⟨0,0,0,.string ⟨tail.toArray⟩,yD⟩]++[q]) (B:=B') (o:=.lit 0) (n:=r) (c:=ra) (b:=b) (s:=s')
  ⟨hb,rfl,e2 _ (TL.ok_app _ _ (by simp) T hT),a2 _ (e2 _ (TL.ok_app _ _ (by simp) T hT)) (by rw[hlen];simp only[TI.ok,TL.ok];exact decide_eq_true (by omega)),by simp[TI.den],by rw[hr];omega,by rw[a3,hr,hv];omega,by rw[hr];omega,by rw[a3,hr,hv];omega⟩
 rw[a3,hr,hv]at this
 simp only[TI.den,Int.toNat_zero,Nat.zero_add,Int.toNat_natCast]at this
 have e4:(((T.den V).length:Int)+(tail.length:Int)).toNat=(T.den V).length+tail.length:=by omega
 rw[e4]at this
 exact this
theorem mW{V:Ren}{T:TL}{K:Nat}{tail:List UInt8}{e:TypeId}{C:Array Value}{s':Nat}{pre post:List Value}(hT:T.ok V.length=true)(hK:K=V.length)(hpre:pre.length=s')(hC:C.toList=pre++bv (T.den V++tail)++post) :
    xR (V++[⟨0,0,0,.string ⟨tail.toArray⟩,yD⟩]) { cells:=[],elem:=e,ro:=false,live:=true,seq:=some (nd2 21 T.enc (.map (some K))) } C s':=by
 subst hK
 intro x hx
 simp only[Option.some.injEq]at hx
 subst hx
 refine .inl ⟨.app T (.var V.length),pre,post,rfl,?_,hpre,?_⟩
 .simp only[TL.ok,Bool.and_eq_true]
  exact⟨TL.ok_app _ _ (by simp) T hT,by simp⟩
 ·have e1 : (TL.app T (.var V.length)).den (V ++ [⟨0, 0, 0, .string ⟨tail.toArray⟩, yD⟩]) = T.den V ++ tail := by
    simp only[TL.den,TL.den_app V _ T hT];rw[List.getElem?_append_right (Nat.le_refl _)];simp[pG]
  rw[e1];exact hC
theorem HR.appendS{P:Program}{w0:W0}{V:Ren}{H H':AS}{w:World}{A:List Value}(hA:Facts V A)(h:HR w0 V H w){ts:Array TypeId}{ty:TypeId}{s s' x x' v:Value}(hs:VR V s s')(hx:VR V x x')(ha:iC P A H ts s x=some (v,H')) :
    Made P w0 V H' w (Builtin.append_ ts ty #[s',x']) v:=by
 unfold iC at ha
 split at ha
 rotate_left
 .cases ha
 rename_i t t2 h0 h1
 split at ha
 rotate_left
 .cases ha
 rename_i e d2 hu hu2
 split at ha
 rotate_left
 .cases ha
 rename_i i z src hi hz hsrc
 split at ha
 rotate_left
 .cases ha
 rename_i hc
 obtain⟨hd,hsz,hby,hz0⟩:=hc
 subst hz0
 obtain⟨ts',rfl,hok,hN,hus⟩:=uV (P:=P) hA h hx hsrc
 obtain⟨_,_,_,hN',hus'⟩:=uV (P:=P) hA h.drew hx hsrc
 have hus1:=hus _ (Nat.le_refl _)
 rw[List.take_length]at hus1
 have hus2:(Builtin.firstCells i.size (ts'.den V).length x').run P w.drew=.ok (bv (ts'.den V)).toArray w.drew:=by
  obtain⟨t3,e3,_,hN3,hus3⟩:=uV (P:=P) hA h.drew hx hsrc;have:=TL.inj _ _ e3;subst this;have:=hus3 _ (Nat.le_refl _);rw[List.take_length]at this;rw[hsz];exact this
 have hus1':(Builtin.firstCells i.size (ts'.den V).length x').run P w=.ok (bv (ts'.den V)).toArray w:=by rw[hsz];exact hus1
 obtain⟨z',hz',hzl,_⟩:=sA (w:=w.drew) hz
 have grow:∀ {T:TL} {base:Option Addr} {n c:Nat} {X:List UInt8} {H0:AS} {kill:Option Nat},T.ok V.length=true->T.den V=X++ts'.den V->X.length=n->(∀ B,kill=some B->True) ->
     (Builtin.firstCells i.size n (.slice base n c)).run P w.drew=.ok (bv X).toArray w.drew->¬ n+(ts'.den V).length<=c->nL A H e kill T.enc=some (v,H')->(n+(ts'.den V).length<=2 ^ 46->Made P w0 V H' w (Builtin.append_ ts ty #[.slice base n c,x']) v):=by
  intro T base n c X H0 kill hT hTd hX _ hos hfit hnew h46
  unfold nL at hnew
  split at hnew
  .cases hnew
  rename_i K H1 hn1
  split at hnew
  .cases hnew
  rename_i H2 hk2
  split at hnew
  .cases hnew
  rename_i B' H3 hn3
  split at hnew
  rotate_left
  .cases hnew
  rename_i hle
  cases hnew
  have hcap:¬ Builtin.nextslicecap (n+(ts'.den V).length) c*i.bytes > 2 ^ 48:=by
   have:=nextslicecap_le (need:=n+(ts'.den V).length) (old:=c) (by omega);rw[hby];omega
  obtain⟨newCap,hnc,hnc63,hrun⟩:=vR (ty:=ty) h0 h1 hu hu2 hd hi hN hus2 hos hz' hfit (by rw[hby];decide) hcap (by omega)
  obtain⟨g1,g2,g3⟩:=h.drew.var hn1 ⟨0,0,0,.string ⟨(List.replicate (newCap-(n+(ts'.den V).length)) (0:UInt8)).toArray⟩,yD⟩
  have g4:HR w0 (V++[⟨0,0,0,.string ⟨(List.replicate (newCap-(n+(ts'.den V).length)) (0:UInt8)).toArray⟩,yD⟩]) H2 w.drew:=by
   split at hk2
   .cases hk2;exact g1
   .exact (g1.kill hk2).1
  have hCl:((bv X).toArray++(bv (ts'.den V)).toArray++Builtin.zeroCells z'.cells (newCap-(n+(ts'.den V).length))).toList=[]++bv (T.den V++List.replicate (newCap-(n+(ts'.den V).length)) (0:UInt8))++[]:=by
   simp only[Array.toList_append,anB hzl,hTd,nW];simp
  obtain⟨q1,q2⟩:=g4.newS (w':=w.drew.alloc (.cells ((bv X).toArray++(bv (ts'.den V)).toArray++Builtin.zeroCells z'.cells (newCap-(n+(ts'.den V).length))) e)) (fr:=(0,0)) hn3 rfl rfl (h.drew.below.alloc _) (fun k _ hk=>by omega) (mW hT g3 rfl hCl)
  refine⟨_,_,_,hrun,by rw[<-List.append_assoc];exact q1,?_⟩
  rw[<-List.append_assoc]
  have:=iM (A:=A) hA hT g3 hle (by rw[hTd,List.length_append,List.length_replicate,hX];omega) q2
  rw[hTd,List.length_append,List.length_replicate,hX]at this
  have e5:n+(ts'.den V).length+(newCap-(n+(ts'.den V).length))=newCap:=by omega
  rw[e5]at this
  exact this
 split at ha
 .rename_i n c
  split at ha
  rotate_left
  .cases ha
  rename_i hc
  obtain⟨rfl,rfl,hlt⟩:=hc
  cases hs
  obtain⟨r,e1,e2,e3⟩:=yL 20 ts'
  rw[e1]at hlt
  have hlt:=xM (s:=.lit 0) hA hlt
  rw[e3]at hlt
  simp only[TI.den]at hlt
  have ha':=ha
  have h46:(ts'.den V).length<=2 ^ 46:=by
   unfold nL at ha';split at ha'
   .cases ha'
   split at ha'
   .cases ha'
   split at ha'
   .cases ha'
   split at ha'
   .rename_i hle;rw[e1]at hle;have:=zO (t:=.lit 70368744177664) hA hle;rw[e3]at this;simp only[TI.den]at this;omega
   .cases ha'
  exact grow (T:=ts') (X:=[]) (n:=0) (c:=0) (kill:=none) (H0:=H) hok rfl rfl (fun _ _=>trivial) rfl (by omega) ha (by omega)
 .split at ha
  rotate_left
  .cases ha
  rename_i B o n c hq
  obtain⟨to,tn,tc,b,sh,rfl,rfl,rfl,hk,rfl⟩:=iY hs hq
  split at ha
  rotate_left
  .cases ha
  rename_i bl hg
  split at ha
  rotate_left
  .cases ha
  rename_i q hlive hro hseq
  split at ha
  rotate_left
  .cases ha
  rename_i hc
  obtain⟨hel0,hle0⟩:=hc
  obtain⟨c',s0,C,fr,hβ,⟨el,hw,hel⟩,htop,hsz',hfr,hcl,hbase,hsq⟩:=h.blk B bl hg hlive
  rw[hk.home]at hβ;cases hβ
  obtain rfl:=hel hro
  obtain⟨tl,pre,post,rfl,hokl,hpre,hC⟩:=adZ hsq hcl hsz' hseq
  obtain⟨rc,c1,c2,c3⟩:=zX to tc
  obtain⟨rl,l1,l2,l3⟩:=yL 2000 tl
  rw[c1,l1]at hle0
  have hle0:=zO hA hle0
  rw[c3,l3]at hle0
  obtain⟨ra,a1,a2,a3⟩:=zX to tn
  rw[a1]at ha
  obtain⟨rx,x1,x2,x3⟩:=rL A tl to ra
  rw[x1]at ha
  obtain⟨T,t1,t2',t3⟩:=U8 rx ts'
  rw[t1]at ha
  have o0:=hk.o0
  have n0:=hk.n0
  have nc:=hk.nc
  have hra:(ra.den V).toNat=(to.den V).toNat+(tn.den V).toNat:=by rw[a3];omega
  have hTok:T.ok V.length=true:=t2' _ (x2 _ hokl hk.oko (a2 _ hk.oko hk.okn)) hok
  have hX:(rx.den V).length=(tn.den V).toNat:=by rw[x3,List.length_drop,List.length_take,hra];omega
  have hTl:(T.den V).length=(tn.den V).toNat+(ts'.den V).length:=by rw[t3,List.length_append,hX]
  have ha':=ha
  have h46:(tn.den V).toNat+(ts'.den V).length<=2 ^ 46:=by
   unfold nL at ha';split at ha'
   .cases ha'
   split at ha'
   .cases ha'
   split at ha'
   .cases ha'
   split at ha'
   .rename_i hle;obtain⟨rT,u1,u2,u3⟩:=yL 20 T;rw[u1]at hle;have:=zO (t:=.lit 70368744177664) hA hle;rw[u3]at this;simp only[TI.den]at this;omega
   .cases ha'
  have hloads:(Builtin.firstCells i.size (tn.den V).toNat (.slice (some ⟨b,(to.den V).toNat+sh,none⟩) (tn.den V).toNat (tc.den V).toNat)).run P w.drew=.ok (bv (rx.den V)).toArray w.drew:=by
   simp only[Builtin.firstCells,hsz,Nat.mul_one];have hw2:w.drew.heap[b]?=some (.cells C bl.elem fr):=hw;rw[eQ hw2 hC hpre (by omega),x3,hra]
  by_cases hfit:(tn.den V).toNat+(ts'.den V).length<=(tc.den V).toNat
  .unfold nL at ha
   split at ha
   .cases ha
   rename_i K H1 hn1
   split at ha
   .cases ha
   rename_i H2 hk2
   split at ha
   .cases ha
   rename_i B' H3 hn3
   split at ha
   rotate_left
   .cases ha
   rename_i hle
   cases ha
   have hCs:C.size=pre.length+(tl.den V).length+post.length:=by
    have:=congrArg List.length hC;simp only[Array.length_toList,List.length_append,wQ]at this;exact this
   obtain⟨w',C',g1,g2,g3,g4,g5,g6⟩:=uG (P:=P) (w0:=w0) b (hbase hro) (bv (ts'.den V)) 0 ((to.den V).toNat+sh+(tn.den V).toNat) w C bl.elem fr hw (by rw[wQ];omega) (hfr hro) (asY _) h.below
   obtain⟨v1,v2,v3⟩:=h.var hn1 ⟨0,0,0,.string ⟨(((tl.den V).drop ((to.den V).toNat+(tn.den V).toNat+(ts'.den V).length)).take ((tc.den V).toNat-((tn.den V).toNat+(ts'.den V).length))).toArray⟩,yD⟩
   have hg1:H1.get B=some bl:=by
    obtain⟨rfl,_,_,_,hX1⟩:=AS.new_get hn1;rw[hX1 B (by have:=AS.get_lt hg;omega)];exact hg
   have hCl:C'.toList=(pre++bv ((tl.den V).take (to.den V).toNat))++bv (T.den V++((tl.den V).drop ((to.den V).toNat+(tn.den V).toNat+(ts'.den V).length)).take ((tc.den V).toNat-((tn.den V).toNat+(ts'.den V).length))) ++
       (bv ((tl.den V).drop ((to.den V).toNat+(tc.den V).toNat))++post):=by
    rw[g4,hC]
    have p1:(to.den V).toNat+sh+(tn.den V).toNat+0=pre.length+((to.den V).toNat+(tn.den V).toNat):=by omega
    rw[p1,List.append_assoc pre,List.take_append,List.take_of_length_le (by omega:pre.length<=_),Nat.add_sub_cancel_left,List.take_append_of_le_length (by rw[wQ];omega)]
    rw[wQ,Nat.add_assoc,List.drop_append,List.drop_of_length_le (by omega:pre.length<=_),Nat.add_sub_cancel_left,List.drop_append_of_le_length (by rw[wQ];omega)]
    have q1:(bv (tl.den V)).take ((to.den V).toNat+(tn.den V).toNat)=bv ((tl.den V).take (to.den V).toNat)++bv (rx.den V):=by
     rw[x3,hra,<-nW];have:(tl.den V).take (to.den V).toNat++((tl.den V).take ((to.den V).toNat+(tn.den V).toNat)).drop (to.den V).toNat=(tl.den V).take ((to.den V).toNat+(tn.den V).toNat):=by
      have e:=List.take_append_drop (to.den V).toNat ((tl.den V).take ((to.den V).toNat+(tn.den V).toNat));rw[List.take_take,Nat.min_eq_left (by omega)]at e;exact e
     rw[this];simp[bv,List.map_take]
    have q2:(bv (tl.den V)).drop ((to.den V).toNat+(tn.den V).toNat+(ts'.den V).length)=bv (((tl.den V).drop ((to.den V).toNat+(tn.den V).toNat+(ts'.den V).length)).take ((tc.den V).toNat-((tn.den V).toNat+(ts'.den V).length)))++bv ((tl.den V).drop ((to.den V).toNat+(tc.den V).toNat)):=by
     rw[<-nW];have:((tl.den V).drop ((to.den V).toNat+(tn.den V).toNat+(ts'.den V).length)).take ((tc.den V).toNat-((tn.den V).toNat+(ts'.den V).length))++(tl.den V).drop ((to.den V).toNat+(tc.den V).toNat)=(tl.den V).drop ((to.den V).toNat+(tn.den V).toNat+(ts'.den V).length):=by
      have e:=List.take_append_drop ((tc.den V).toNat-((tn.den V).toNat+(ts'.den V).length)) ((tl.den V).drop ((to.den V).toNat+(tn.den V).toNat+(ts'.den V).length));rw[List.drop_drop,show (to.den V).toNat+(tn.den V).toNat+(ts'.den V).length+((tc.den V).toNat-((tn.den V).toNat+(ts'.den V).length))=(to.den V).toNat+(tc.den V).toNat from by omega]at e;exact e
     rw[this];simp[bv,List.map_drop]
    rw[q1,q2,t3]
    simp only[nW,List.append_assoc,List.nil_append]
   obtain⟨q1,q2⟩:=v1.rehomeS (w':=w') hg1 hlive hro (zV hk.home) hk2 hn3 rfl hel0.symm hw g3 g2 g5 g6 (s':=(to.den V).toNat+sh) (by omega) (mW hTok v3 (by rw[List.length_append,wQ,List.length_take];omega) hCl)
   refine⟨_,.slice (some ⟨b,(to.den V).toNat+sh,none⟩) ((tn.den V).toNat+(ts'.den V).length) (tc.den V).toNat,w',?_,by rw[<-List.append_assoc];exact q1,?_⟩
   .rw[run_append_fits h0 h1 hu hu2 hd hi hN hus1' hfit]
    have e5:(⟨b,(to.den V).toNat+sh,none⟩:Addr).add ((tn.den V).toNat*i.size)=⟨b,(to.den V).toNat+sh+(tn.den V).toNat,none⟩:=by rw[wS,hsz,Nat.mul_one]
    simp only[e5,Sem.run_bind,g1,Result.andThen_ok]
    rfl
   .rw[<-List.append_assoc]
    have htl:(((tl.den V).drop ((to.den V).toNat+(tn.den V).toNat+(ts'.den V).length)).take ((tc.den V).toNat-((tn.den V).toNat+(ts'.den V).length))).length=(tc.den V).toNat-((tn.den V).toNat+(ts'.den V).length):=by
     rw[List.length_take,List.length_drop];omega
    have hcb:=hk.cb
    have:=iM (A:=A) hA hTok v3 hle (by rw[hTl,htl];omega) q2
    rw[hTl,htl]at this
    have e5:(tn.den V).toNat+(ts'.den V).length+((tc.den V).toNat-((tn.den V).toNat+(ts'.den V).length))=(tc.den V).toNat:=by omega
    rw[e5]at this
    exact this
  .exact grow (T:=T) (X:=rx.den V) (kill:=some B) (H0:=H) hTok (t3 V) hX (fun _ _=>trivial) hloads hfit ha h46
end
noncomputable section
def fZ(x src:Value):Value:=match asL x with
 |some (_,_,n,_)=>n
 |none=>xX 20 src
theorem adV{P:Program}{V:Ren}{w:World}{x x':Value}{t:TL}(hx:VR V x x')(hok:t.ok V.length=true)(hN:(Builtin.lenOf x').run P w=.ok (t.den V).length w) :
    ∃ r:TI,fZ x t.enc=r.enc/\r.ok V.length=true/\r.den V=(t.den V).length:=by
 unfold fZ
 split
 .rename_i B o n c he
  obtain⟨to,tn,tc,b,s,rfl,rfl,rfl,hk,rfl⟩:=yR hx he
  refine⟨tn,rfl,hk.okn,?_⟩
  have h:(Result.ok (tn.den V).toNat w:Result Nat)=.ok (t.den V).length w:=hN
  have n0:=hk.n0
  injection h with h
  omega
 .obtain⟨r,h1,h2,h3⟩:=yL 20 t
  exact⟨r,h1,h2 _ hok,h3 V⟩
def ac5(P:Program)(A:List Value)(H:AS)(ts:Array TypeId)(d x:Value):Option (Value × AS) :=
 match ts[0]?,asL d,kG A H x with
 |some t,some (B,o,dn,_),some src =>
  match P.underlying t with
  |some (.slice e) =>
   match P.info? e,H.get B with
   |some i,some b =>
    match b.live,b.ro,b.sq with
    |true,false,some q =>
     match (if vH A (fZ x src) dn=true then some (fZ x src,src) else if vH A dn (fZ x src)=true then some (dn,mK A src (.int .i64 0) dn) else none) with
     |some (n,T)=>if i.size=1/\vH A (yM o n) (xX 20 q)=true then some (sI .i64 n 0 1125899906842624,H.put B { b with cells:=[],seq:=some (nd3 24 q o T) }) else none
     |none=>none
    |_,_,_=>none
   |_,_=>none
  |_=>none
 |_,_,_=>none
theorem HR.copyS{P:Program}{w0:W0}{V:Ren}{H H':AS}{w:World}{A:List Value}(hA:Facts V A)(h:HR w0 V H w){ts:Array TypeId}{ty:TypeId}{d d' x x' v:Value}(hd:VR V d d')(hx:VR V x x')(ha:ac5 P A H ts d x=some (v,H')) :
    Made P w0 V H' w (Builtin.copy_ ts ty #[d',x']) v:=by
 unfold ac5 at ha
 split at ha
 rotate_left
 .cases ha
 rename_i t B o dn dc src h0 hq hsrc
 obtain⟨to,tn,tc,b,sh,rfl,rfl,rfl,hk,rfl⟩:=yR hd hq
 obtain⟨ts',rfl,hok,hN,hus⟩:=uV (P:=P) hA h hx hsrc
 split at ha
 rotate_left
 .cases ha
 rename_i e hu
 split at ha
 rotate_left
 .cases ha
 rename_i i bl hi hg
 split at ha
 rotate_left
 .cases ha
 rename_i q hlive hro hseq
 split at ha
 rotate_left
 .cases ha
 rename_i n T hnT
 split at ha
 rotate_left
 .cases ha
 rename_i hc
 obtain⟨hsz1,hle⟩:=hc
 cases ha
 have n0:=hk.n0
 have o0:=hk.o0
 have nb:=hk.nb
 obtain⟨r,e1,e2,e3⟩:=adV (P:=P) hx hok hN
 obtain⟨rn,rT,rfl,rfl,okn,okT,hn1,hT1,hT2⟩:∃ (rn:TI) (rT:TL),n=rn.enc/\T=rT.enc/\rn.ok V.length=true/\rT.ok V.length=true/\rn.den V=Nat.min (ts'.den V).length (tn.den V).toNat/\rT.den V=(ts'.den V).take (Nat.min (ts'.den V).length (tn.den V).toNat) /\
     Nat.min (ts'.den V).length (tn.den V).toNat<=(ts'.den V).length:=by
  split at hnT
  .rename_i h1
   cases hnT
   rw[e1]at h1
   have h1:=zO hA h1
   rw[e3]at h1
   have hm:Nat.min (ts'.den V).length (tn.den V).toNat=(ts'.den V).length:=Nat.min_eq_left (by omega)
   exact⟨r,ts',e1,rfl,e2,hok,by rw[e3,hm],by rw[hm,List.take_length],by rw[hm];exact Nat.le_refl _⟩
  .split at hnT
   .rename_i h1
    cases hnT
    rw[e1]at h1
    have h1:=zO hA h1
    rw[e3]at h1
    have hm:Nat.min (ts'.den V).length (tn.den V).toNat=(tn.den V).toNat:=Nat.min_eq_right (by omega)
    obtain⟨rs,s1,s2,s3⟩:=rL A ts' (.lit 0) tn
    exact⟨tn,rs,rfl,s1,hk.okn,s2 _ hok rfl hk.okn,by rw[hm];omega,by rw[s3,hm];simp[TI.den],by rw[hm];omega⟩
   .cases hnT
 obtain⟨c',s0,C,fr,hβ,⟨el,hw,hel⟩,htop,hsz',hfr,hcl,hbase,hsq⟩:=h.blk B bl hg hlive
 rw[hk.home]at hβ;cases hβ
 obtain rfl:=hel hro
 obtain⟨tl,pre,post,rfl,hokl,hpre,hC⟩:=hsq.get hseq
 obtain⟨rc,c1,c2,c3⟩:=zX to rn
 obtain⟨rl,l1,l2,l3⟩:=yL 20 tl
 rw[c1,l1]at hle
 have hle:=zO hA hle
 rw[c3,l3]at hle
 generalize hM:Nat.min (ts'.den V).length (tn.den V).toNat=M at hn1 hT1 hT2
 have hTl:(rT.den V).length=M:=by rw[hT1,List.length_take];omega
 have hCs:C.size=pre.length+(tl.den V).length+post.length:=by
  have:=congrArg List.length hC;simp only[Array.length_toList,List.length_append,wQ]at this;exact this
 obtain⟨w',C',g1,g2,g3,g4,g5,g6⟩:=uG (P:=P) (w0:=w0) b (hbase hro) (bv (rT.den V)) 0 ((to.den V).toNat+sh) w C bl.elem fr hw (by rw[wQ];omega) (hfr hro) (asY _) h.below
 have hM2:M<=(tn.den V).toNat:=by rw[<-hM];exact Nat.min_le_right _ _
 have hHR:HR w0 V (H.put B { bl with cells:=[],seq:=some (nd3 24 tl.enc to.enc rT.enc) }) w':=by
  refine h.upd hg hlive hro hk.home hw g3 g2 g5 g6 hlive hro rfl (by simp;omega) (fun i v hv=>by simp at hv) ?_;intro q hq;simp only[Option.some.injEq]at hq;subst hq;refine .inl ⟨.put tl to rT,pre,post,rfl,by simp[TL.ok,hokl,hk.oko,okT],hpre,?_⟩;rw[g4,hC];have p1:(to.den V).toNat+sh+0=pre.length+(to.den V).toNat:=by omega
  rw[p1,List.append_assoc pre,List.take_append,List.take_of_length_le (by omega:pre.length<=_),Nat.add_sub_cancel_left,List.take_append_of_le_length (by rw[wQ];omega)];rw[wQ,Nat.add_assoc,List.drop_append,List.drop_of_length_le (by omega:pre.length<=_),Nat.add_sub_cancel_left,List.drop_append_of_le_length (by rw[wQ];omega)];have:bv ((TL.put tl to rT).den V)=(bv (tl.den V)).take (to.den V).toNat++bv (rT.den V)++(bv (tl.den V)).drop ((to.den V).toNat+(rT.den V).length):=by
   simp only[TL.den,putAt,nW];simp[bv,List.map_take,List.map_drop]
  show _=pre++bv _++post;rw[this];simp
 refine⟨[],.int .i64 (rn.den V),w',?_,by rw[List.append_nil];exact hHR,by rw[List.append_nil];exact .symI .i64 rn 0 _ okn (by omega) (by omega)⟩
 have hf:=hus M (by omega)
 rw[<-hT1]at hf
 simp only[Builtin.copy_,h0,List.getElem?_toArray,List.getElem?_cons_zero,List.getElem?_cons_succ,Sem.run_bind,run_underlying hu,Result.andThen_ok,hN,yA hi,hM,hsz1,hf,Sem.run_pure,g1]
 rw[hn1];rfl
def N9(A:List Value)(H:AS)(x:Value):Option Value :=
 match asL x with
 |some _ =>
  match kG A H x with
  |some e=>some (sS e 1125899906842624)
  |none=>none
 |none=>none
theorem HR.bytesS{P:Program}{w0:W0}{V:Ren}{H:AS}{w:World}{A:List Value}(hA:Facts V A)(h:HR w0 V H w){x x' v:Value}(hx:VR V x x')(ha:N9 A H x=some v) :
    ∃ u,(Conv.bytesToString x').run P w=.ok u w/\VR V v u/\∃ a l c,x'=.slice a l c:=by
 unfold N9 at ha
 split at ha
 rotate_left
 .cases ha
 rename_i p hq
 obtain⟨B,o,n,c⟩:=p
 obtain⟨to,tn,tc,b,sh,rfl,rfl,rfl,hk,rfl⟩:=yR hx hq
 split at ha
 rotate_left
 .cases ha
 rename_i e hsrc
 obtain⟨ts',rfl,hok,hN,hus⟩:=uV (P:=P) hA h hx hsrc
 cases ha
 have hn:(ts'.den V).length=(tn.den V).toNat:=by
  have:(Result.ok (tn.den V).toNat w:Result Nat)=.ok (ts'.den V).length w:=hN;exact (Result.ok.inj this).1.symm
 have hf:=hus _ (Nat.le_refl _)
 rw[List.take_length]at hf
 simp only[Builtin.firstCells,Nat.mul_one]at hf
 refine⟨.string ⟨(ts'.den V).toArray⟩,?_,.symS ts' _ hok (by have:=hk.nb;have:=hk.n0;omega),_,_,_,rfl⟩
 have h1:(loadCells ⟨b,(to.den V).toNat+sh,none⟩ (tn.den V).toNat).run P w=.ok (((ts'.den V).map fun x=>((x.toNat:Nat):Int)).map (Value.int .u8)).toArray w:=by
  rw[hn]at hf;rw[hf];simp[bv]
 rw[run_bytesToString w _ _ _ _ h1,oQ]
 congr 2
 have:((fun n:Int=>UInt8.ofNat n.toNat) ∘ fun x:UInt8=>((x.toNat:Nat):Int))=id:=by funext x;simp
 simp[this]
def ak8(A:List Value)(H:AS)(e:TypeId)(x:Value):Option (Value × AS) :=
 match asS x with
 |some (l,_)=>nL A H e none l
 |none=>none
theorem HR.strS{P:Program}{w0:W0}{V:Ren}{H H':AS}{w:World}{A:List Value}(hA:Facts V A)(h:HR w0 V H w){src dst e:TypeId}{x x':Value}{u:TypeDesc}{v:Value}
    (hs:P.underlying src=some u) (hd:P.underlying dst=some (.slice e)) (he:P.underlying e=some (.int .u8)) (hx:VR V x x') (ha:ak8 A H e x=some (v,H')):Made P w0 V H' w (convert src dst x') v:=by
 unfold ak8 at ha
 split at ha
 rotate_left
 .cases ha
 rename_i l hi hq
 obtain⟨T,rfl,hT,rfl,hlen⟩:=wP hx hq
 unfold nL at ha
 split at ha
 .cases ha
 rename_i K H1 hn1
 simp only at ha
 split at ha
 .cases ha
 rename_i B' H3 hn3
 split at ha
 rotate_left
 .cases ha
 rename_i hle
 cases ha
 obtain⟨rT,u1,u2,u3⟩:=yL 20 T
 have hle':=hle
 rw[u1]at hle'
 have hle':=zO (t:=.lit 70368744177664) hA hle'
 rw[u3]at hle'
 simp only[TI.den]at hle'
 have hss:(⟨(T.den V).toArray⟩:ByteArray).size=(T.den V).length:=by show (T.den V).toArray.size=_;simp
 generalize hsd:(⟨(T.den V).toArray⟩:ByteArray)=s at hss
 have hsl:s.data.toList=T.den V:=by rw[<-hsd]
 have hcap:s.size<=grownCap w s.size 0 e/\grownCap w s.size 0 e<2 ^ 63:=by
  unfold grownCap;simp only[Question.cut];have:w.tape w.drawn (.appendCap s.size 0 e)%(2 ^ 63-s.size)<2 ^ 63-s.size:=Nat.mod_lt _ (by omega);omega
 have hbel:Kept w0 (Lib.bytesWorld w e s):=by
  have h1:=(h.below.drew.alloc (.cells (Lib.bytesCells w e s) e))
  refine⟨h1.os,h1.tape,h1.output,by rw[Lib.bytesWorld_size];have:=h.below.size;omega,?_⟩;intro b hb;rw[Lib.bytesWorld_at_old w e s b (by have:=h.below.size;have:=w0.lt b hb;omega)];exact h.below.block b hb
 have hheap:(Lib.bytesWorld w e s).heap=w.heap.push (.cells (Lib.bytesCells w e s) e ((Lib.bytesCells w e s).size,(Lib.bytesCells w e s).size+1)):=by
  apply Array.ext_getElem?;intro i;rw[Array.getElem?_push];split
  .rename_i hi;subst hi;rw[Lib.bytesWorld_at_new]
  .rename_i hi;rcases Nat.lt_or_ge i w.heap.size with hlt|hge
   .exact Lib.bytesWorld_at_old w e s i hlt
   .rw[Array.getElem?_eq_none (by rw[Lib.bytesWorld_size];omega),Array.getElem?_eq_none hge]
 obtain⟨g1,g2,g3⟩:=h.var hn1 ⟨0,0,0,.string ⟨(List.replicate (grownCap w s.size 0 e-s.size) (0:UInt8)).toArray⟩,yD⟩
 have hCl:(Lib.bytesCells w e s).toList=[]++bv (T.den V++List.replicate (grownCap w s.size 0 e-s.size) (0:UInt8))++[]:=by
  simp only[Lib.bytesCells,Array.toList_append,Array.toList_map,hsl,nW];simp[bv]
 obtain⟨q1,q2⟩:=g1.newS (w':=Lib.bytesWorld w e s) (fr:=((Lib.bytesCells w e s).size,(Lib.bytesCells w e s).size+1)) hn3 rfl hheap hbel (fun i hi hc=>by omega) (mW hT g3 rfl hCl)
 refine⟨_,_,_,Lib.run_convert_string_bytes w src dst e s hs hd he,by rw[<-List.append_assoc];exact q1,?_⟩
 rw[<-List.append_assoc]
 have:=iM (A:=A) hA hT g3 hle (by rw[List.length_replicate,<-hss];omega) q2
 rw[List.length_replicate,<-hss]at this
 have e5:s.size+(grownCap w s.size 0 e-s.size)=grownCap w s.size 0 e:=by omega
 rw[e5]at this
 exact this
end
end Go.SM
