-- the statement of this claim: see YtoamgocecoiggaaDoorRs
import Derived.Test.YtoamgocecoiggaaDoorM12
set_option linter.unusedVariables false
set_option linter.unusedSimpArgs false
set_option maxRecDepth 100000
noncomputable section
namespace Go.SM
noncomputable section
def Tr.map{α:Type}(f:α->α):Tr α->Tr α
 | .e=>.e
 | .l a=>.l (f a)
 | .n x y=>.n (x.map f) (y.map f)
theorem Tr.get_map{α:Type}(f:α->α)(k:Nat):∀(d:Nat)(t:Tr α),(t.map f).get d k=(t.get d k).map f
 |0,.e=>rfl
 |0,.l a=>rfl
 |0,.n x y=>rfl
 |d+1,.e=>rfl
 |d+1,.l a=>rfl
 |d+1,.n x y=>by
  simp only[Tr.map,Tr.get_n];split
  .exact Tr.get_map f k d y
  .exact Tr.get_map f k d x
def roAll(H:AS):AS:={ H with heap:=H.heap.map fun b=>{ b with ro:=true } }
theorem dI{H:AS}{B:Nat}{b:Blk}(h:(roAll H).get B=some b):∃ b0,H.get B=some b0/\b={ b0 with ro:=true }:=by
 unfold AS.get roAll at h;dsimp only at h;split at h
 .rename_i hlt;rw[Tr.get_map,Option.map_eq_some_iff]at h;obtain⟨b0,h1,h2⟩:=h;exact⟨b0,by unfold AS.get;rw[if_pos hlt];exact h1,h2.symm⟩
 .cases h
theorem HR.roAll{w0:W0}{V:Ren}{H:AS}{w:World}(h:HR w0 V H w):HR (W0.of w) V (roAll H) w:=by
 refine⟨h.len,h.big,?_,?_,Kept.refl _⟩
 .intro B b hg hl;obtain⟨b0,h0,rfl⟩:=dI hg;obtain⟨c,s,C,fr,h1,⟨el,h2,hel⟩,h3,h4,h5,h6,h7⟩:=h.blk B b0 h0 hl;exact⟨c,s,C,fr,h1,⟨el,h2,fun hc=>by cases hc⟩,h3,h4,(fun hc=>by cases hc),h6,(fun hc=>by cases hc),h7.2⟩
 .intro B B' b b' hg hg' hl hl' hro hne;obtain⟨b0,h0,rfl⟩:=dI hg;cases hro
theorem HR.back{w0:W0}{V:Ren}{H:AS}{w w':World}(h:HR w0 V H w)(hb:RowKit.Below w.heap.size w w'):HR w0 V H w':=by
 refine⟨h.len,h.big,?_,h.inj,h.below.trans hb⟩;intro B b hg hl;obtain⟨c,s,C,fr,h1,⟨el,h2,hel⟩,h3⟩:=h.blk B b hg hl;exact⟨c,s,C,fr,h1,⟨_,by rw[hb.block c (h.home_lt hg hl h1)];exact h2,hel⟩,h3⟩
def qG:List Value->Nat->Tr Value->Tr Value
 |[],_,F=>F
 |v::vs,i,F=>qG vs (i+1) (F.set DF i v)
theorem cD{n:Nat}(hn:n<=2 ^ 12)(t:Nat)(ht:t<n):∀(vs:List Value)(i:Nat)(F:Tr Value),i+vs.length<=n->(qG vs i F).get DF t=if i<=t/\t<i+vs.length then vs[t-i]? else F.get DF t
 |[],i,F,_=>by simp only[qG];rw[if_neg (by simp only[List.length_nil];omega)]
 |v::vs,i,F,h=>by
  simp only[List.length_cons]at h;simp only[qG];rw[cD hn t ht vs (i+1) _ (by omega)];by_cases h1:i+1<=t/\t<i+1+vs.length
  .rw[if_pos h1,if_pos (by simp only[List.length_cons];omega)];rw[show t-i=(t-(i+1))+1 from by omega,List.getElem?_cons_succ]
  .rw[if_neg h1];by_cases h2:i=t
   .subst h2;rw[Tr.get_set,if_pos (by simp only[List.length_cons];omega),Nat.sub_self];rfl
   .rw[if_neg (by simp only[List.length_cons];omega),Tr.get_set_ne v i t DF F (uK 12 i t (by omega) (by omega) h2)]
def aT(P:Program)(n:Nat)(R:Tr Value)(H:AS):ResultVar->Option Value
 | .tmp t=>some (ung [] (yW n R t))
 | .cell a t=>sZ P t H (ung [] (yW n R a))
def tP(P:Program)(n:Nat)(R:Tr Value)(H:AS):List ResultVar->Option (List Value)
 |[]=>some []
 |r::rs =>
  match aT P n R H r,tP P n R H rs with
  |some v,some vs=>some (v::vs)
  |_,_=>none
def rB(P:Program)(fn:Func)(n:Nat)(R:Tr Value)(H:AS):Option Value :=
 match tP P n R H fn.results.toList with
 |some [v]=>some v
 |some vs=>some (.tuple vs.toArray)
 |none=>none
theorem wW{P:Program}{w0:W0}{V:Ren}{H:AS}{w:World}{n:Nat}{R:Tr Value}{a:Act}(h:HR w0 V H w)(hF:FS V n R a):∀(rs:List ResultVar)(vs:List Value),tP P n R H rs=some vs ->
    ∃ us,(rs.mapM (m:=Sem) fun
     | .tmp t=>pure (a.tmps.getD t undef)
     | .cell x t=>do loadVar t (← asAddr (a.tmps.getD x undef))).run P w=.ok us w/\VRs V vs us
 |[],vs,hr=>by
  simp only[tP,Option.some.injEq]at hr;subst hr;exact⟨[],rfl,VRs.nil V⟩
 |r::rs,vs,hr=>by
  have hev:∀ t,VR V (ung [] (yW n R t)) (a.tmps.getD t undef):=fun t=>y9 (G:=⟨fun _=>none,[],fun _=>false,0⟩) ⟨⟨(fun _ _ h=>by cases h),Nat.zero_le _⟩,Facts.nil V⟩ hF.size (.tmp t) (fun t _=>hF.slot t);simp only[tP]at hr;split at hr
  .rename_i v vs' hv hvs;cases hr;obtain⟨us,h1,h2⟩:=wW h hF rs vs' hvs;cases r with
   |tmp t =>
    simp only[aT,Option.some.injEq]at hv;subst hv;refine⟨a.tmps.getD t undef::us,?_,VRs.cons (hev t) h2⟩;simp only[List.mapM_cons,Sem.run_bind,Sem.run_pure,Result.andThen_ok,h1]
   |cell x t =>
    simp only[aT]at hv;obtain⟨u,hu1,hu2⟩:=h.loadVar (P:=P) (hev x) hv;refine⟨u::us,?_,VRs.cons hu2 h2⟩;have e:(do loadVar t (← asAddr (a.tmps.getD x undef)):Sem Value).run P w=.ok u w:=by
     have hx:=hev x;have hq:∃ q,a.tmps.getD x undef=.pointer (some q):=by
      generalize ung [] (yW n R x)=y at hx hv;generalize a.tmps.getD x undef=z at hx;cases hx<;>first|exact⟨_,rfl⟩|(simp[sZ]at hv;done)
     obtain⟨q,hq⟩:=hq;rw[hq]at hu1 ⊢;exact hu1
    simp only[List.mapM_cons,Sem.run_bind]at e ⊢;simp only[e,Sem.run_pure,Result.andThen_ok,h1]
  .cases hr
def aD(v:Value):Bool:=zL v || match v with
 | .chan none=>true
 |_=>false
theorem O1{V V':Ren}{v u:Value}(hc:aD v=true)(h:VR V v u):VR V' v u:=by
 unfold aD at hc;rw[Bool.or_eq_true]at hc;rcases hc with hc|hc
 .rw[h.eq_of_ground hc];exact VR.of_ground hc
 .split at hc
  .cases h with
   |any1 u h=>exact .any1 u h
  .cases hc
def jI(v:Value):Bool:=zL v || match v with
 | .agg a=>a.toList.all aD
 |_=>false
theorem lV{V V':Ren}{v u:Value}(hc:jI v=true)(h:VR V v u):VR V' v u:=by
 unfold jI at hc;rw[Bool.or_eq_true]at hc;rcases hc with hc|hc
 .rw[h.eq_of_ground hc];exact VR.of_ground hc
 .split at hc
  .rename_i a;cases h with
   |agg _ a' h1 h2 =>
    refine .agg _ a' h1 fun i x y hx hy=>?_;have hg:aD x=true:=List.all_eq_true.1 hc x (by
     rw[<-Array.getElem?_toList]at hx;exact List.mem_of_getElem? hx)
    exact O1 hg (h2 i x y hx hy)
  .cases hc
def nK(m:Nat)(v:Value):Bool :=
 match v with
 | .func (.yield 0) ⟨[.int _ z,e,.int .i64 _,.int .i64 _]⟩ ⟨[]⟩=>decide (z=0)&&wfI 60 m e
 | .func (.yield 1) ⟨[e]⟩ ⟨[]⟩=>wfB 60 m e
 |_=>false
theorem oG{V γ:Ren}{m:Nat}{v u:Value}(hm:m<=V.length)(hc:nK m v=true)(h:VR (V++γ) v u):VR V v u:=by
 unfold nK at hc;split at hc
 .rename_i k z e lo hi;rw[Bool.and_eq_true]at hc;obtain⟨hz,hc⟩:=hc;have hz:=of_decide_eq_true hz;subst hz;obtain⟨t,rfl,ht⟩:=(yX 60 m e).1 hc;obtain⟨t',e1,o1,rfl,h1,h2⟩:=yK h rfl;have:=TI.inj _ _ e1;subst this;have ok:=TI.ok_app _ _ hm t ht;rw[TI.den_app V γ t ok]at h1 h2 ⊢;exact .symI k t lo hi ok h1 h2
 .rename_i e;obtain⟨t,rfl,ht⟩:=(yX 60 m e).2.2 hc;obtain⟨t',e1,o1,rfl⟩:=xJ h rfl;have:=TB.inj _ _ e1;subst this;have ok:=TB.ok_app _ _ hm t ht;rw[TB.den_app V γ t ok];exact .symB t ok
 .cases hc
def A9(m:Nat)(v:Value):Bool:=nK m v || match v with
 | .agg a=>a.toList.all fun v=>jI v || nK m v
 |_=>false
theorem N4{V γ:Ren}{m:Nat}{v u:Value}(hm:m<=V.length)(hc:A9 m v=true)(h:VR (V++γ) v u):VR V v u:=by
 unfold A9 at hc;rw[Bool.or_eq_true]at hc;rcases hc with hc|hc
 .exact oG hm hc h
 .split at hc
  .rename_i a;cases h with
   |agg _ a' h1 h2 =>
    refine .agg a a' h1 fun i x y hx hy=>?_;have hg:=List.all_eq_true.1 hc x (by
     rw[<-Array.getElem?_toList]at hx;exact List.mem_of_getElem? hx)
    rw[Bool.or_eq_true]at hg;rcases hg with hg|hg
    .exact lV hg (h2 i x y hx hy)
    .exact oG hm hg (h2 i x y hx hy)
  .cases hc
def rD(P:Program)(g:Nat->Option Nat)(pu ok:FuncId->Bool)(prim:yN)(fu:Nat):Nat->yN
 |0=>fun A f args H=>prim A f args H
 |k+1=>fun A f args H =>
  match prim A f args H with
  |some r=>some r
  |none =>
   if ok f then
    match P.funcs[f]? with
    |none=>none
    |some fn =>
     match fn.body with
     |none=>none
     |some c =>
      if args.length<=fn.ntmps/\fn.ntmps<=2 ^ 12 then
       match xY P pu { g:=g,A:=A,pu:=pu } (rD P g pu ok prim fu k) fn.ntmps fu c (qG args 0 .e) (if pu f then roAll H else H) with
       |some (.exit _,_,_)=>none
       |some (_,R,HE) =>
        match rB P fn fn.ntmps R HE with
        |some v=>if pu f then (if jI v || A9 H.size v then some (v,H) else none) else some (v,HE)
        |none=>none
       |none=>none
      else none
   else none
theorem fM{P:Program}{g:Nat->Option Nat}{pu ok:FuncId->Bool}{prim:yN}{fu:Nat}(hprim:∀ A f args H v H',pu f=true->prim A f args H=some (v,H')->H'=H) :
    ∀ (k:Nat) A f args H v H',pu f=true->rD P g pu ok prim fu k A f args H=some (v,H')->H'=H
 |0,A,f,args,H,v,H',hp,h=>hprim A f args H v H' hp h
 |k+1,A,f,args,H,v,H',hp,h=>by
  simp only[rD]at h;split at h
  .rename_i r hr;cases h;exact hprim A f args H v H' hp hr
  .split at h
   .split at h
    .cases h
    .split at h
     .cases h
     .split at h
      .split at h
       .cases h
       .split at h
        .split at h
         .cases h;rfl
         .cases h
        .cases h
       .cases h
      .cases h
   .cases h
def lF(P:Program)(pu ok:FuncId->Bool):Prop:=∀(f:FuncId)(fn:Func)(c:Code),ok f=true->P.funcs[f]?=some fn->fn.body=some c->codeOk P pu c=true
theorem lD{V:Ren}{n:Nat}(hn:n<=2 ^ 12){args:List Value}{args':Array Value}(ha:VRs V args args'.toList)(hl:args.length<=n) :
    FS V n (qG args 0 .e) { tmps:=args'++Array.replicate (n-args'.size) undef,defers:=[] }:=by
 have hsz:args'.size=args.length:=by rw[<-ha.1,Array.length_toList]
 refine⟨by simp[hsz];omega,hn,?_,rfl⟩
 intro t u hu
 left
 unfold yW
 split
 .rename_i ht
  rw[cD hn t ht args 0 .e (by omega)]
  by_cases h1:0<=t/\t<0+args.length
  .rw[if_pos h1,Nat.sub_zero,List.getElem?_eq_getElem (show t<args.length by omega)]
   have:args'.toList[t]?=some u:=by
    rw[Array.getElem?_toList];rw[Array.getElem?_append_left (by omega)]at hu;exact hu
   exact ha.2 t _ u (List.getElem?_eq_getElem (by omega)) this
  .rw[if_neg h1,Tr.get_e];exact .any _
 .exact .any _
theorem wY{P:Program}{pu ok:FuncId->Bool}{g:Nat->Option Nat}{prim:yN}{fu:Nat}(hN:vJ P)(hm:P.follows .mixedOrders=true)(hok:lF P pu ok)
    (hC:xH P { g:=g,A:=[],pu:=pu } prim):∀ (k:Nat),xH P { g:=g,A:=[],pu:=pu } (rD P g pu ok prim fu k)
 |0=>hC
 |k+1=>by
  refine⟨fM hC.1 (k+1),?_⟩;intro w0 V H w A f args args' v H' h hG ha hcall;simp only[rD]at hcall;split at hcall
  .rename_i r hr;cases hcall;exact hC.2 w0 V H w A f args args' v H' h hG ha hr
  .split at hcall;rotate_left
   .cases hcall
   rename_i hokf;split at hcall
   .cases hcall
   rename_i fn hfn;split at hcall
   .cases hcall
   rename_i c hbody;split at hcall;rotate_left
   .cases hcall
   rename_i hsz;have ih:=wY (fu:=fu) hN hm hok hC k;have hpure:=fM (P:=P) (g:=g) (ok:=ok) (fu:=fu) hC.1 k;have hCA:xH P { g:=g,A:=A,pu:=pu } (rD P g pu ok prim fu k):=ih;have run:∀ (wb:W0) (H0 HE:AS) (e:AExit) (R:Tr Value) (v:Value),HR wb V H0 w->xY P pu { g:=g,A:=A,pu:=pu } (rD P g pu ok prim fu k) fn.ntmps fu c (qG args 0 .e) H0=some (e,R,HE)->(∀ id,e≠.exit id) ->
       rB P fn fn.ntmps R HE=some v->Calls P f args' w fun e w'=>∃ (γ:Ren) (u:Value),e=.returned u/\HR wb (V++γ) HE w'/\VR (V++γ) v u:=by
    intro wb H0 HE e R v hH hrun hne hres
    refine calls_of_wp hfn hbody ?_
    refine lS hN hCA hpure hm fu c V (qG args 0 .e) H0 _ w e R HE _ (hok f fn c hokf hfn hbody) hH hG (lD hsz.2 ha hsz.1) hrun ?_
    intro γ a' w' h1 h2
    have hR:∃ u,(results fn a'.tmps).run P w'=.ok u w'/\VR (V++γ) v u:=by
     have arr:∀ vs us,tP P fn.ntmps R HE fn.results.toList=some vs->(fn.results.toList.mapM (m:=Sem) fun
         | .tmp t=>pure (a'.tmps.getD t undef)
         | .cell x t=>do loadVar t (← asAddr (a'.tmps.getD x undef))).run P w'=.ok us w'->(results fn a'.tmps).run P w'=.ok (if h:us.toArray.size=1 then us.toArray[0] else .tuple us.toArray) w':=by
      intro vs us _ hus
      unfold results
      simp only[Sem.run_bind,Array.mapM_eq_mapM_toList,Sem.run_map]
      erw[hus]
      rfl
     unfold rB at hres;split at hres
     .rename_i v1 hl;cases hres;obtain⟨us,g1,g2⟩:=wW h1 h2 _ _ hl;have g0:=arr _ _ hl g1;obtain⟨u,us',rfl,g3,g4⟩:=g2.cons_inv;obtain rfl:us'=[]:=List.eq_nil_of_length_eq_zero g4.1;exact⟨u,g0,g3⟩
     .rename_i vs hne1 hl;cases hres;obtain⟨us,g1,g2⟩:=wW h1 h2 _ _ hl;have g0:=arr _ _ hl g1;have hlen:¬ us.toArray.size=1:=by
       rw[List.size_toArray,g2.1];intro hc;obtain⟨x,hx⟩:=List.length_eq_one_iff.1 hc;exact hne1 x (by rw[hx])
      rw[dif_neg hlen]at g0;exact⟨_,g0,.tuple _ _ (by simp[g2.1]) (fun i x y hx hy=>g2.2 i x y (by simpa using hx) (by simpa using hy))⟩
     .cases hres
    obtain⟨u,hu1,hu2⟩:=hR
    cases e with
    |normal=>exact⟨h2.nodef,u,hu1,γ,u,rfl,h1,hu2⟩
    |ret=>exact⟨h2.nodef,u,hu1,γ,u,rfl,h1,hu2⟩
    |exit id=>exact (hne id rfl).elim
   split at hcall
   .cases hcall
   .rename_i e R HE hne hrun;split at hcall
    .rename_i v2 hres;by_cases hp:pu f=true
     .simp only[hp,if_true]at hcall hrun;split at hcall
      .rename_i hg;simp only[Option.some.injEq,Prod.mk.injEq]at hcall;obtain⟨rfl,rfl⟩:=hcall;refine (run (W0.of w) (roAll H) HE e R v2 h.roAll hrun hne hres).mono ?_;rintro e w' ⟨γ,u,rfl,h1,h2⟩;refine⟨[],_,rfl,by rw[List.append_nil];exact h.back h1.below.below,?_⟩;rw[List.append_nil];rw[Bool.or_eq_true]at hg;rcases hg with hg|hg
       .exact lV hg h2
       .exact N4 (by rw[h.len];exact Nat.le_refl _) hg h2
      .cases hcall
     .simp only[hp]at hcall hrun;simp only[Bool.false_eq_true,if_false,Option.some.injEq,Prod.mk.injEq]at hcall hrun;obtain⟨rfl,rfl⟩:=hcall;exact run w0 H HE e R v2 h hrun hne hres
    .cases hcall
   .cases hcall
end
noncomputable section
inductive Bd where
 |blk (B:Nat)
 |itm (e:Value)
 |ltm (e:Value)
 |btm (e:Value)
 |val (v:Value)
 |ntm (e:Value)
abbrev Sg:=List (Nat × Bd)
def Sg.get(σ:Sg)(i:Nat):Option Bd:=match σ with
 |[]=>none
 |(j,b)::σ=>if Nat.beq i j then some b else Sg.get σ i
def fnl:Nat->Value->Bool
 |0,_=>false
 |k+1,v=>match v with
  | .bool _ | .int _ _ | .float _ _ | .string _ | .pointer none | .slice none _ _ | .nilFunc | .nilIface=>true
  | .pointer (some ⟨_,_,none⟩)=>true
  | .slice (some ⟨_,_,none⟩) _ _=>true
  | .map (some c)=>Nat.beq (c%3) 1
  | .func (.yield m) _ _=>Nat.ble m 4
  | .func fn a c=>noY fn&&(a.isEmpty&&c.isEmpty)
  | .iface _ x=>fnl k x
  |_=>false
theorem VR.det{V:Ren}:∀(k:Nat){v u u':Value},fnl k v=true->VR V v u->VR V v u'->u=u':=by
 intro k;induction k with
 |zero=>intro v u u' h;cases h
 |succ k ih =>
  intro v u u' hf h h';cases h with
  |any=>simp[fnl]at hf
  |bool b=>cases h';rfl
  |int k n=>cases h';rfl
  |float k n=>cases h';rfl
  |string s=>cases h';rfl
  |ptr0=>cases h';rfl
  |ptr B o b s hb=>cases h' with
   |ptr _ _ b' s' hb'=>rw[hb]at hb';cases hb';rfl
  |sl0 n c=>cases h';rfl
  |sl B o b s n c hb=>cases h' with
   |sl _ _ b' s' _ _ hb'=>rw[hb]at hb';cases hb';rfl
  |slL=>simp[fnl]at hf
  |rng8=>simp[fnl]at hf
  |rng64=>simp[fnl]at hf
  |rint=>simp[fnl]at hf
  |rsl=>simp[fnl]at hf
  |any1=>simp[fnl]at hf
  |opq j h h1=>exfalso;simp only[fnl]at hf;have:=Nat.eq_of_beq_eq_true hf;omega
  |opq1 j h h1 h2 =>
   generalize hz:(Value.map (some (3*j+1)))=z at h';cases h'<;>try cases hz
   .exfalso;have e:=Option.some.inj (Value.map.inj hz);omega
   .rename_i j' h' e1 e2;have e:=Option.some.inj (Value.map.inj hz);have:j=j':=by omega
    subst this;rw[h1]at e1;cases e1;rfl
   .exfalso;have e:=Option.some.inj (Value.map.inj hz);omega
   .exfalso;have e:=Option.some.inj (Value.map.inj hz);omega
   .exfalso;have e:=Option.some.inj (Value.map.inj hz);omega
  |sAny j s h=>exfalso;simp only[fnl]at hf;have:=Nat.eq_of_beq_eq_true hf;omega
  |sNe j s h h'=>exfalso;simp only[fnl]at hf;have:=Nat.eq_of_beq_eq_true hf;omega
  |uNz n h=>exfalso;simp only[fnl]at hf;cases hf
  |symI k t lo hi h1 h2 h3 =>
   obtain⟨t',e,_,rfl,_⟩:=yK h' rfl;rw[TI.inj _ _ e]
  |symB t h1 =>
   obtain⟨t',e,_,rfl⟩:=xJ h' rfl;rw[TB.inj _ _ e]
  |symS t hi h1 h2 =>
   obtain⟨t',e,_,rfl,_⟩:=wP h' rfl;rw[TL.inj _ _ e]
  |symP B t b s hb h1 h2 =>
   obtain⟨t',b',s',e,hb',_,_,rfl⟩:=pI (B:=B) (o:=t.enc) h' (by simp[asP]);rw[hb]at hb';cases hb';rw[TI.inj _ _ e]
  |symL B o n c b s hb h1 h2 h3 h4 h5 h6 h7 =>
   obtain⟨o',n',c',b',s',e1,e2,e3,hk,rfl⟩:=yR (B:=B) (o:=o.enc) (n:=n.enc) (c:=c.enc) h' (by simp[asL]);have:=hk.home;rw[hb]at this;cases this;rw[TI.inj _ _ e1,TI.inj _ _ e2,TI.inj _ _ e3]
  |nilFunc=>cases h';rfl
  |nilIface=>cases h';rfl
  |func fn a c a' c' h0 h1 h2 h3 h4 =>
   have hg:(a.isEmpty&&c.isEmpty)=true:=by
    cases fn<;>simp[fnl,noY]at hf h0 ⊢ <;> exact hf
   have hgr:zL (.func fn a c)=true:=by simp[zL,h0];simpa using hg
   rw[(VR.func fn a c a' c' h0 h1 h2 h3 h4).eq_of_ground hgr,h'.eq_of_ground hgr]
  |iface t v u h =>
   cases h' with
   |iface _ _ u2 h2=>rw[ih (by simpa [fnl] using hf) h h2]
  |agg=>simp[fnl]at hf
  |tuple=>simp[fnl]at hf
def aaU(V:Ren):Bd->Option Hm->Prop
 | .ntm e,h=>∃ t:TN,e=t.enc/\t.ok V.length=true/\h=some ⟨0,0,0,.tuple (nv (t.den V)).toArray,yD⟩
 | .blk B,h=>∃ q,V[B]?=some q/\h=some q
 | .itm e,h=>∃ t:TI,e=t.enc/\t.ok V.length=true/\h=some ⟨0,0,0,.int .i64 (t.den V),yD⟩
 | .ltm e,h=>∃ t:TL,e=t.enc/\t.ok V.length=true/\h=some ⟨0,0,0,.string ⟨(t.den V).toArray⟩,yD⟩
 | .btm e,h=>∃ t:TB,e=t.enc/\t.ok V.length=true/\h=some ⟨0,0,0,.bool (t.den V),yD⟩
 | .val v,h=>fnl 5 v=true/\∃ u,VR V v u/\one u=true/\h=some ⟨0,0,0,u,yD⟩
structure Inst(V:Ren)(σ:Sg)(m:Nat)(V1:Ren):Prop where
 len:V1.length=m
 get:∀ i b,σ.get i=some b->i<m->aaU V b V1[i]?
def Sg.Valid(V:Ren)(σ:Sg):Prop:=∀ i b,σ.get i=some b->∃ h,aaU V b (some h)
theorem Sg.Valid.inst{V:Ren}{σ:Sg}(h:σ.Valid V)(m:Nat):∃ V1,Inst V σ m V1:=by
 classical
 refine⟨(List.range m).map fun i=>match σ.get i with
  |some b=>if hv:∃ q,aaU V b (some q) then hv.choose else ⟨0,0,0,undef,yD⟩
  |none=>⟨0,0,0,undef,yD⟩,by simp,?_⟩
 intro i b hi him;have hv:∃ q,aaU V b (some q):=h i b hi;rw[List.getElem?_map,List.getElem?_range him,Option.map_some,hi];simp only;rw[dif_pos hv];exact hv.choose_spec
def Bd.eq:Bd->Bd->Bool
 | .blk A,.blk B=>Nat.beq A B
 | .itm a,.itm b=>teq 90 a b
 | .ltm a,.ltm b=>teq 90 a b
 | .btm a,.btm b=>teq 90 a b
 | .ntm a,.ntm b=>teq 90 a b
 | .val a,.val b=>deq 60 a b
 |_,_=>false
theorem Bd.eq_eq{a b:Bd}(h:a.eq b=true):a=b:=by
 cases a<;>cases b<;>simp only[Bd.eq]at h<;>first
  |(cases h;done)
  |rw[Nat.eq_of_beq_eq_true h]
  |rw[xK _ _ _ h]
  |rw[lB _ _ _ h]
def uQ(σ:Sg)(i:Nat)(b:Bd):Option Sg:=match σ.get i with
 |none=>some ((i,b)::σ)
 |some b'=>if b'.eq b then some σ else none
def Sg.le(σ σ':Sg):Prop:=∀ i b,σ.get i=some b->σ'.get i=some b
theorem Sg.le.refl(σ:Sg):σ.le σ:=fun _ _ h=>h
theorem Sg.le.trans{a b c:Sg}(h:a.le b)(h2:b.le c):a.le c:=fun i x hx=>h2 i x (h i x hx)
theorem Sg.cons_le{σ:Sg}{i:Nat}{b:Bd}(h:σ.get i=none):σ.le ((i,b)::σ):=fun j x hx=>by
 have hji:j≠i:=fun e=>by subst e;rw[h]at hx;cases hx
 simp only[Sg.get];rw[if_neg (by intro e;exact hji (Nat.eq_of_beq_eq_true e))];exact hx
theorem Sg.get_cons_self(σ:Sg)(i:Nat)(b:Bd):Sg.get ((i,b)::σ) i=some b:=by
 simp only[Sg.get];rw[if_pos (Nat.beq_refl i)]
theorem Sg.get_cons{σ:Sg}{i j:Nat}{b x:Bd}(h:Sg.get ((i,b)::σ) j=some x):(j=i/\x=b)\/σ.get j=some x:=by
 simp only[Sg.get]at h;split at h
 .rename_i e;cases h;exact .inl ⟨Nat.eq_of_beq_eq_true e,rfl⟩
 .exact .inr h
theorem yZ{V:Ren}{σ σ':Sg}{i:Nat}{b:Bd}(h:uQ σ i b=some σ')(hv:σ.Valid V)(hb:∃ q,aaU V b (some q)):σ.le σ'/\σ'.Valid V/\σ'.get i=some b:=by
 unfold uQ at h;split at h
 .rename_i hn;cases h;refine⟨Sg.cons_le hn,fun j b' hj=>?_,Sg.get_cons_self _ _ _⟩;rcases Sg.get_cons hj with⟨rfl,rfl⟩|hj
  .exact hb
  .exact hv j b' hj
 .rename_i b' hb';split at h
  .rename_i e;cases h;have:=Bd.eq_eq e;subst this;exact⟨Sg.le.refl _,hv,hb'⟩
  .cases h
def mTm(m:Nat)(σ:Sg)(p e:Value):Option Sg :=
 match p with
 | .map (some i)=>if Nat.blt i m then uQ σ i (.itm e) else none
 | .int .i64 z=>if teq 3 (.int .i64 z) e then some σ else none
 |_=>none
def mV(m:Nat)(A:List Value):Nat->Sg->Value->Value->Option Sg
 |0,_,_,_=>none
 |k+1,σ,p,v =>
  match p with
  | .tuple ⟨[]⟩=>some σ
  | .chan none=>if fW v then some σ else none
  | .map (some c)=>if Nat.beq (c%3) 1&&(Nat.blt (c/3) m&&(fnl 5 v&&fW v)) then uQ σ (c/3) (.val v) else none
  | .func (.yield 0) ⟨[.int kp z,.map (some i),.int .i64 lo,.int .i64 hi]⟩ ⟨[]⟩ =>
   match asI v with
   |some (kv,e,lo',hi') =>
    if kp=kv/\z=0/\(lo<=lo'\/vH A (.int .i64 lo) e=true)/\(hi'<=hi\/vH A e (.int .i64 hi)=true)/\Nat.blt i m=true then uQ σ i (.itm e) else none
   |none=>none
  | .func (.yield 1) ⟨[.map (some i)]⟩ ⟨[]⟩ =>
   match asB v with
   |some e=>if Nat.blt i m=true then uQ σ i (.btm e) else none
   |none=>none
  | .func (.yield 2) ⟨[.map (some i),.int .i64 hi]⟩ ⟨[]⟩ =>
   match asS v with
   |some (e,hi')=>if hi'<=hi/\Nat.blt i m=true then uQ σ i (.ltm e) else none
   |none=>none
  | .func (.yield 4) ⟨[.int .i64 (.ofNat B),o,n,c]⟩ ⟨[]⟩ =>
   match aqE v with
   |some (B',o',n',c') =>
    if Nat.blt B m then
     match uQ σ B (.blk B') with
     |some σ=>match mTm m σ o o' with
      |some σ=>match mTm m σ n n' with
       |some σ=>mTm m σ c c'
       |none=>none
      |none=>none
     |none=>none
    else none
   |none=>none
  | .pointer (some ⟨B,o,none⟩) =>
   match v with
   | .pointer (some ⟨B',o',none⟩)=>if Nat.beq o o'&&Nat.blt B m then uQ σ B (.blk B') else none
   |_=>none
  | .iface t p =>
   match v with
   | .iface t' v=>if Nat.beq t t' then mV m A k σ p v else none
   |_=>none
  | .slice (some ⟨B,o,none⟩) n c =>
   match v with
   | .slice (some ⟨B',o',none⟩) n' c'=>if Nat.beq o o'&&(Nat.beq n n'&&(Nat.beq c c'&&Nat.blt B m)) then uQ σ B (.blk B') else none
   |_=>none
  |p=>if zL p&&deq 6 p v then some σ else none
theorem Inst.itm{V V1:Ren}{σ:Sg}{m i:Nat}{t:TI}(h:Inst V σ m V1)(hi:σ.get i=some (.itm t.enc))(him:i<m):(TI.var i).den V1=t.den V/\(TI.var i).ok V1.length=true:=by
 obtain⟨t',e,_,hh⟩:=h.get i _ hi him;rw[TI.inj _ _ e];refine⟨by simp only[TI.den,hh];rfl,by simp only[TI.ok,h.len];exact decide_eq_true him⟩
theorem Inst.ltm{V V1:Ren}{σ:Sg}{m i:Nat}{t:TL}(h:Inst V σ m V1)(hi:σ.get i=some (.ltm t.enc))(him:i<m):(TL.var i).den V1=t.den V/\(TL.var i).ok V1.length=true:=by
 obtain⟨t',e,_,hh⟩:=h.get i _ hi him;rw[TL.inj _ _ e];refine⟨by simp only[TL.den,hh,pG],by simp only[TL.ok,h.len];exact decide_eq_true him⟩
theorem Inst.btm{V V1:Ren}{σ:Sg}{m i:Nat}{t:TB}(h:Inst V σ m V1)(hi:σ.get i=some (.btm t.enc))(him:i<m):(TB.var i).den V1=t.den V/\(TB.var i).ok V1.length=true:=by
 obtain⟨t',e,_,hh⟩:=h.get i _ hi him;rw[TB.inj _ _ e];refine⟨by simp only[TB.den,hh];rfl,by simp only[TB.ok,h.len];exact decide_eq_true him⟩
theorem Inst.ntm{V V1:Ren}{σ:Sg}{m i:Nat}{t:TN}(h:Inst V σ m V1)(hi:σ.get i=some (.ntm t.enc))(him:i<m):(TN.var i).den V1=t.den V/\(TN.var i).ok V1.length=true:=by
 obtain⟨t',e,_,hh⟩:=h.get i _ hi him;rw[TN.inj _ _ e];refine⟨by simp only[TN.den,hh,w8],by simp only[TN.ok,h.len];exact decide_eq_true him⟩
theorem Inst.blk{V V1:Ren}{σ:Sg}{m i B:Nat}(h:Inst V σ m V1)(hi:σ.get i=some (.blk B))(him:i<m):V1[i]?=V[B]?:=by
 obtain⟨q,e,hh⟩:=h.get i _ hi him;rw[e,hh]
theorem amG{V:Ren}{B:Nat}{p:Nat × Nat}(h:hm V B=some p):∃ q,V[B]?=some q:=by
 unfold hm at h;cases hq:V[B]? with
 |none=>rw[hq]at h;cases h
 |some q=>exact⟨q,rfl⟩
theorem mZ{V:Ren}{m:Nat}{σ σ':Sg}{p:Value}{t:TI}(h:mTm m σ p t.enc=some σ')(hv:σ.Valid V)(ht:t.ok V.length=true) :
    σ.le σ'/\σ'.Valid V/\∀ σ2 V1,σ'.le σ2->Inst V σ2 m V1->∃ r:TI,p=r.enc/\r.ok V1.length=true/\r.den V1=t.den V:=by
 unfold mTm at h
 split at h
 .rename_i i
  split at h
  .rename_i hlt
   obtain⟨h1,h2,h3⟩:=yZ h hv ⟨_,t,rfl,ht,rfl⟩
   refine⟨h1,h2,fun σ2 V1 hle hI=>?_⟩
   obtain⟨a,b⟩:=hI.itm (hle _ _ h3) (Nat.le_of_ble_eq_true hlt)
   exact⟨.var i,rfl,b,a⟩
  .cases h
 .rename_i z
  split at h
  .rename_i he
   cases h
   refine⟨Sg.le.refl _,hv,fun σ2 V1 _ _=>?_⟩
   have:=xK _ _ _ he
   obtain⟨rfl,_⟩:=xN this.symm
   exact⟨.lit z,rfl,rfl,rfl⟩
  .cases h
 .cases h
theorem S8{V:Ren}{m:Nat}{A:List Value}(hA:Facts V A):∀(k:Nat){σ σ':Sg}{p v u:Value},mV m A k σ p v=some σ'->σ.Valid V->VR V v u ->
    σ.le σ'/\σ'.Valid V/\∀ σ2 V1,σ'.le σ2->Inst V σ2 m V1->VR V1 p u:=by
 intro k
 induction k with
 |zero=>intro σ σ' p v u h;cases h
 |succ k ih =>
  intro σ σ' p v u h hv hu
  unfold mV at h
  split at h
  .cases h;exact⟨Sg.le.refl _,hv,fun _ _ _ _=>.any u⟩
  .split at h
   .rename_i ho;cases h;exact⟨Sg.le.refl _,hv,fun _ _ _ _=>.any1 u (hu.one_conc ho)⟩
   .cases h
  .rename_i c
   split at h
   .rename_i hc
    simp only[Bool.and_eq_true]at hc
    obtain⟨c1,c2,c3,c4⟩:=hc
    have c1:=Nat.eq_of_beq_eq_true c1
    have c2:c/3<m:=Nat.le_of_ble_eq_true c2
    obtain⟨h1,h2,h3⟩:=yZ h hv ⟨_,c3,u,hu,hu.one_conc c4,rfl⟩
    refine⟨h1,h2,fun σ2 V1 hle hI=>?_⟩
    obtain⟨_,u',hu',ho',hh⟩:=hI.get _ _ (hle _ _ h3) c2
    have:=VR.det 5 c3 hu hu'
    subst this
    have e:c=3*(c/3)+1:=by omega
    rw[e]
    exact VR.opq1 (c/3) ⟨0,0,0,u,yD⟩ hh ho'
   .cases h
  .rename_i kp z i lo hi
   split at h
   .rename_i kv e lo' hi' he
    split at h
    .rename_i hc
     obtain⟨rfl,rfl,hlo,hhi,hlt⟩:=hc
     obtain⟨t,rfl,h1,rfl,h2,h3⟩:=yK hu he
     obtain⟨g1,g2,g3⟩:=yZ h hv ⟨_,t,rfl,h1,rfl⟩
     refine⟨g1,g2,fun σ2 V1 hle hI=>?_⟩
     obtain⟨a,b⟩:=hI.itm (hle _ _ g3) (Nat.le_of_ble_eq_true hlt)
     have l1:lo<=t.den V:=by
      rcases hlo with hlo|hlo
      .omega
      .exact zO (s:=.lit lo) hA hlo
     have l2:t.den V<=hi:=by
      rcases hhi with hhi|hhi
      .omega
      .exact zO (t:=.lit hi) hA hhi
     have:=VR.symI (V:=V1) kp (.var i) lo hi b (by rw[a];exact l1) (by rw[a];exact l2)
     rw[a]at this
     exact this
    .cases h
   .cases h
  .rename_i i
   split at h
   .rename_i e he
    split at h
    .rename_i hlt
     obtain⟨t,rfl,h1,rfl⟩:=xJ hu he
     obtain⟨g1,g2,g3⟩:=yZ h hv ⟨_,t,rfl,h1,rfl⟩
     refine⟨g1,g2,fun σ2 V1 hle hI=>?_⟩
     obtain⟨a,b⟩:=hI.btm (hle _ _ g3) (Nat.le_of_ble_eq_true hlt)
     have:=VR.symB (V:=V1) (.var i) b
     rw[a]at this
     exact this
    .cases h
   .cases h
  .rename_i i hi
   split at h
   .rename_i e hi' he
    split at h
    .rename_i hc
     obtain⟨hhi,hlt⟩:=hc
     obtain⟨t,rfl,h1,rfl,h2⟩:=wP hu he
     obtain⟨g1,g2,g3⟩:=yZ h hv ⟨_,t,rfl,h1,rfl⟩
     refine⟨g1,g2,fun σ2 V1 hle hI=>?_⟩
     obtain⟨a,b⟩:=hI.ltm (hle _ _ g3) (Nat.le_of_ble_eq_true hlt)
     have:=VR.symS (V:=V1) (.var i) hi b (by rw[a];omega)
     rw[a]at this
     exact this
    .cases h
   .cases h
  .rename_i B o n c
   split at h
   .rename_i B' o' n' c' he
    obtain⟨to,tn,tc,b,s,rfl,rfl,rfl,hk,rfl⟩:=iY hu he
    split at h
    rotate_left
    .cases h
    rename_i hlt
    split at h
    rotate_left
    .cases h
    rename_i σ1 hb1
    split at h
    rotate_left
    .cases h
    rename_i σ2 ho2
    split at h
    rotate_left
    .cases h
    rename_i σ3 hn3
    obtain⟨q,hq⟩:=amG hk.home
    obtain⟨a1,a2,a3⟩:=yZ hb1 hv ⟨q,q,hq,rfl⟩
    obtain⟨b1,b2,b3⟩:=mZ ho2 a2 hk.oko
    obtain⟨c1,c2,c3⟩:=mZ hn3 b2 hk.okn
    obtain⟨d1,d2,d3⟩:=mZ h c2 hk.okc
    refine⟨((a1.trans b1).trans c1).trans d1,d2,fun σ4 V1 hle hI=>?_⟩
    obtain⟨ro,rfl,o1,o2⟩:=b3 σ4 V1 ((c1.trans d1).trans hle) hI
    obtain⟨rn,rfl,n1,n2⟩:=c3 σ4 V1 (d1.trans hle) hI
    obtain⟨rc,rfl,r1,r2⟩:=d3 σ4 V1 hle hI
    have hB:=hI.blk (((b1.trans c1).trans d1).trans hle _ _ a3) (Nat.le_of_ble_eq_true hlt)
    have hhm:hm V1 B=some (b,s):=by
     have:=hk.home;unfold hm at this ⊢;rw[hB];exact this
    have:=SlOk.vr (V:=V1) (B:=B) (o:=ro) (n:=rn) (c:=rc) (b:=b) (s:=s) ⟨hhm,o1,n1,r1,by rw[o2];exact hk.o0,by rw[n2];exact hk.n0,by rw[n2,r2];exact hk.nc,by rw[n2];exact hk.nb,by rw[r2];exact hk.cb⟩
    rw[o2,n2,r2]at this
    exact this
   .cases h
  .rename_i B o
   split at h
   .rename_i B' o'
    split at h
    .rename_i hc
     rw[Bool.and_eq_true]at hc
     have ho:=Nat.eq_of_beq_eq_true hc.1
     subst ho
     cases hu with
     |ptr _ _ b s hb =>
      obtain⟨q,hq⟩:=amG hb
      obtain⟨a1,a2,a3⟩:=yZ h hv ⟨q,q,hq,rfl⟩
      refine⟨a1,a2,fun σ4 V1 hle hI=>?_⟩
      have hB:=hI.blk (hle _ _ a3) (Nat.le_of_ble_eq_true hc.2)
      refine .ptr B o b s ?_
      unfold hm at hb ⊢
      rw[hB];exact hb
    .cases h
   .cases h
  .rename_i t p
   split at h
   .rename_i t' v'
    split at h
    .rename_i ht
     have ht:=Nat.eq_of_beq_eq_true ht
     subst ht
     cases hu with
     |iface _ _ u' hu' =>
      obtain⟨a1,a2,a3⟩:=ih h hv hu'
      exact⟨a1,a2,fun σ4 V1 hle hI=>.iface _ _ _ (a3 σ4 V1 hle hI)⟩
    .cases h
   .cases h
  .rename_i B o n c
   split at h
   .rename_i B' o' n' c'
    split at h
    .rename_i hc
     simp only[Bool.and_eq_true]at hc
     obtain⟨c1,c2,c3,c4⟩:=hc
     have ho:=Nat.eq_of_beq_eq_true c1
     have hn:=Nat.eq_of_beq_eq_true c2
     have hcc:=Nat.eq_of_beq_eq_true c3
     subst ho hn hcc
     cases hu with
     |sl _ _ b s _ _ hb =>
      obtain⟨q,hq⟩:=amG hb
      obtain⟨a1,a2,a3⟩:=yZ h hv ⟨q,q,hq,rfl⟩
      refine⟨a1,a2,fun σ4 V1 hle hI=>?_⟩
      have hB:=hI.blk (hle _ _ a3) (Nat.le_of_ble_eq_true c4)
      refine .sl B o b s n c ?_
      unfold hm at hb ⊢
      rw[hB];exact hb
    .cases h
   .cases h
  .split at h
   .rename_i hc
    rw[Bool.and_eq_true]at hc
    cases h
    have:=lB 6 _ _ hc.2
    subst this
    refine⟨Sg.le.refl _,hv,fun _ _ _ _=>?_⟩
    rw[hu.eq_of_ground hc.1]
    exact VR.of_ground hc.1
   .cases h
end
end Go.SM
