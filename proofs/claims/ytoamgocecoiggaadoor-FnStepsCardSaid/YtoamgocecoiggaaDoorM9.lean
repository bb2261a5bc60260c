-- the statement of this claim: see YtoamgocecoiggaaDoorRs
import Derived.Orders
import Derived.Test.YtoamgocecoiggaaDoorM8
set_option linter.unusedVariables false
set_option linter.unusedSimpArgs false
set_option maxRecDepth 100000
noncomputable section
namespace Go.SM
noncomputable section
inductive ARes where
 |val (v:Value) (H:AS)
 |call (f:FuncId) (args:List Value)
def qv(H:AS)(x:Option Value):Option ARes:=x.map fun v=>.val v H
def mv(x:Option (Value × AS)):Option ARes:=x.map fun p=>.val p.1 p.2
def bW(P:Program)(src dst:TypeId)(x:Value):Option Value :=
 if zL x then agr P (convert src dst x)
 else
  match P.underlying src,P.underlying dst,x with
  |some _,some (.int .i64),.complex .f32 lo hi=>if hi<2 ^ 63 then some (.complex .f64 lo hi) else none
  |some _,some (.int .u32),.complex .f64 lo hi=>if hi<2 ^ 32 then (if 1<=lo then some (.map (some 8)) else some (.chan none)) else none
  |_,_,_=>none
def ae1(P:Program)(H:AS)(same:Bool)(e:TypeId)(a:Addr)(n c:Nat):Option ARes :=
 match same,P.underlying e,H.get a.block with
 |true,some (.int .u8),some b=>if b.live && !b.ro then some (.val (.slice (some a) n c) (H.put a.block { b with ro:=true })) else none
 |_,_,_=>none
def hP(P:Program)(H:AS)(src dst:TypeId)(x:Value):Option ARes :=
 match P.underlying src,P.underlying dst,x with
 |some _,some (.slice e),.string s =>
  match P.underlying e with
  |some (.int .u8)=>mv (mX H e s)
  |_=>none
 |some (.slice e),some .string,.slice b n c =>
  match P.underlying e with
  |some (.int .u8)=>qv H (mQ H (.slice b n c))
  |_=>none
 |some (.slice _),some (.slice e),.slice (some a) n c=>ae1 P H (Nat.beq src dst) e a n c
 |_,_,x=>qv H (bW P src dst x)
def orO{α:Type}(a b:Option α):Option α:=match a with
 |some x=>some x
 |none=>b
theorem wH{α:Type}{a b:Option α}{x:α}(h:orO a b=some x):a=some x\/b=some x:=by
 unfold orO at h;split at h
 .exact .inl h
 .exact .inr h
def bH(P:Program)(A:List Value)(H:AS)(src dst:TypeId)(x:Value):Option ARes :=
 match P.underlying src,P.underlying dst with
 |some (.slice e),some .string =>
  match P.underlying e with
  |some (.int .u8)=>qv H (N9 A H x)
  |_=>none
 |some _,some (.slice e) =>
  match P.underlying e with
  |some (.int .u8)=>mv (ak8 A H e x)
  |_=>none
 |_,_=>qv H (bZ P A src dst x)
def gK(P:Program)(A:List Value)(H:AS)(src dst:TypeId)(x:Value):Option ARes:=orO (hP P H src dst x) (bH P A H src dst x)
def awQ(P:Program)(ts:Array TypeId)(x:Value):Option Value :=
 match ts[0]? with
 |none=>none
 |some t =>
  match P.underlying t,x with
  |some .string,.string s=>some (goInt s.size)
  |some (.slice _),.slice _ n _=>some (goInt n)
  |some (.array n _),_=>some (goInt n)
  |_,_=>none
def avJ(P:Program)(ts:Array TypeId)(x:Value):Option Value :=
 match ts[0]? with
 |none=>none
 |some t =>
  match P.underlying t,x with
  |some (.slice _),.slice none _ c=>some (goInt c)
  |some (.slice _),.slice (some ⟨_,_,none⟩) _ c=>some (goInt c)
  |some (.array n _),_=>some (goInt n)
  |_,_=>none
def uS(P:Program)(A:List Value)(H:AS)(b:Builtin)(ts:Array TypeId)(args:List Value):Option ARes :=
 match b,args with
 | .len,[x]=>qv H (orO (awQ P ts x) (afJ P ts x))
 | .cap,[x]=>qv H (orO (avJ P ts x) (ahD P ts x))
 | .append,[s,x]=>mv (orO (jT P A H ts s x) (orO (iC P A H ts s x) (orO (fU P A H ts s x) (bM P H ts s x))))
 | .copy,[d,x]=>mv (orO (am5 P H ts d x) (ac5 P A H ts d x))
 |_,_=>none
def akK(P:Program)(t:TypeId)(x:Value):Option Value :=
 match P.underlying t with
 |some (.interface _)=>none
 |some _=>some (.iface t x)
 |none=>none
def eR:Value->Option Value
 | .pointer (some a)=>some (.pointer (some a))
 | .iface t v=>some (.iface t v)
 | .func (.func f) a c=>some (.func (.func f) a c)
 |_=>none
def jJ(P:Program)(f:Value)(args:List Value):Option ARes :=
 match f with
 | .func (.func g) first captured =>
  match P.funcs[g]? with
  |some fn=>if fn.body.isSome then some (.call g (first.toList++args++captured.toList)) else none
  |none=>none
 |_=>none
def aop(P:Program)(A:List Value)(ρ:Operand->Value)(H:AS)(o:Oper):Option ARes :=
 match o.op with
 | .move x=>some (.val (ρ x) H)
 | .assign x=>some (.val (ρ x) H)
 | .pick c a b =>
  match ρ c with
  | .bool r=>some (.val (if r then ρ a else ρ b) H)
  |_=>none
 | .alloc e=>mv (adC P H e)
 | .box e x=>mv (aOM H e (ρ x))
 | .build t parts=>qv H (aeJ P t (parts.toList.map fun p=>(p.1,ρ p.2)))
 | .buildSlice t len parts=>mv (qW P H t len (parts.toList.map fun p=>(p.1,ρ p.2)))
 | .load t a=>qv H (orO (sZ P t H (ρ a)) (orO (ab3 P A t H (ρ a)) (adF P A t H (ρ a))))
 | .store t a x=>(orO (mT P t H (ρ a) (ρ x)) (aS P A t H (ρ a) (ρ x))).map fun H'=>.val undef H'
 | .nilCheck x=>qv H (eR (ρ x))
 | .binOp op t x y _=>qv H (aPR P A op t x y (ρ x) (ρ y))
 | .unOp op _ x=>qv H (aun P op (ρ x))
 | .convert src dst x=>gK P A H src dst (ρ x)
 | .makeInterface t x=>qv H (akK P t (ρ x))
 | .makeFunc fn first captured=>if noY fn=true then some (.val (.func fn (first.toList.map ρ).toArray (captured.toList.map ρ).toArray) H) else none
 | .makeSlice t l c=>mv (oW P H t (ρ l) (ρ c))
 | .slice t x lo hi mx=>match ρ x with
  | .string s=>if (lo.map ρ).all zL&&(hi.map ρ).all zL&&(mx.map ρ).all zL then qv H (agr P (Instr.sliceAt t (.string s) (lo.map ρ) (hi.map ρ) (mx.map ρ))) else none
  |x=>qv H (orO (abX P t x (lo.map ρ) (hi.map ρ) (mx.map ρ)) (E8 P A t x (lo.map ρ) (hi.map ρ) (mx.map ρ)))
 | .fieldAddr t x f=>qv H (rY P t f (ρ x))
 | .field t x f=>qv H (G0 P t f (ρ x))
 | .indexAddr t x ix=>qv H (orO (uF P t (ρ x) (ρ ix)) (orO (qR P A t (ρ x) (ρ ix)) (pA P A t (ρ x) (ρ ix))))
 | .index t x ix=>match ρ x with
  | .string s=>if zL (ρ ix) then qv H (agr P (Instr.index t (.string s) (ρ ix))) else qv H (jH P A t (.string s) (ρ ix))
  |x=>qv H (orO (rF P t x (ρ ix)) (jH P A t x (ρ ix)))
 | .extract x n=>qv H (qO n (ρ x))
 | .call c =>
  match c.callee with
  | .builtin b=>uS P A H b c.argTypes (c.args.toList.map ρ)
  | .value f=>jJ P (ρ f) (c.args.toList.map ρ)
  | .invoke _ _=>none
 |_=>none
def wB(P:Program)(w0:W0)(V:Ren)(w:World)(s:Sem Next):ARes->Prop
 | .val v H'=>∃ (γ:Ren) (n:Next) (w':World),s.run P w=.ok n w'/\HR w0 (V++γ) H' w'/\((∃ u,n=.value u/\VR (V++γ) v u)\/(n=.skip/\v=undef))
 | .call f args=>∃ us:Array Value,s.run P w=.ok (.enter f us) w/\VRs V args us.toList
theorem wB.quiet{P:Program}{w0:W0}{V:Ren}{H:AS}{w:World}(h:HR w0 V H w){x:Option Value}{s:Sem Value}(hx:∀ v,x=some v->∃ u,s.run P w=.ok u w/\VR V v u){r:ARes}(hr:qv H x=some r) :
    wB P w0 V w (do pure (.value (← s))) r:=by
 unfold qv at hr
 simp only[Option.map_eq_some_iff]at hr
 obtain⟨v,hv,rfl⟩:=hr
 obtain⟨u,h1,h2⟩:=hx v hv
 refine⟨[],.value u,w,?_,by rw[List.append_nil];exact h,.inl ⟨u,rfl,by rw[List.append_nil];exact h2⟩⟩
 simp only[Sem.run_bind,h1,Result.andThen_ok,Sem.run_pure]
theorem wB.made{P:Program}{w0:W0}{V:Ren}{w:World}{x:Option (Value × AS)}{s:Sem Value}(hx:∀ v H',x=some (v,H')->Made P w0 V H' w s v){r:ARes}(hr:mv x=some r) :
    wB P w0 V w (do pure (.value (← s))) r:=by
 unfold mv at hr
 simp only[Option.map_eq_some_iff]at hr
 obtain⟨⟨v,H'⟩,hv,rfl⟩:=hr
 obtain⟨γ,u,w',h1,h2,h3⟩:=(hx v H' hv).out
 refine⟨γ,.value u,w',?_,h2,.inl ⟨u,rfl,h3⟩⟩
 simp only[Sem.run_bind,h1,Result.andThen_ok,Sem.run_pure]
theorem VR.gr{P:Program}{w:World}{V:Ren}{s:Sem Value}:∀ v,agr P s=some v->∃ u,s.run P w=.ok u w/\VR V v u:=by
 intro v hv;obtain⟨h1,h2⟩:=nD hv w;exact⟨v,h1,VR.of_ground h2⟩
theorem VRo.map{V:Ren}{ρ ρ':Operand->Value}(hρ:∀ x,VR V (ρ x) (ρ' x))(o:Option Operand):VRo V (o.map ρ) (o.map ρ'):=by
 cases o with
 |none=>trivial
 |some x=>exact hρ x
theorem VRo.eq_of_ground{V:Ren}{x x':Option Value}(h:VRo V x x')(hg:x.all zL=true):x'=x:=by
 cases x<;>cases x'<;>first|rfl|exact h.elim|(congr 1;exact VR.eq_of_ground h (by simpa using hg))
theorem VRs.map{V:Ren}{ρ ρ':Operand->Value}(hρ:∀ x,VR V (ρ x) (ρ' x))(l:List Operand):VRs V (l.map ρ) (l.map ρ'):=by
 induction l with
 |nil=>exact VRs.nil V
 |cons a l ih=>exact VRs.cons (hρ a) ih
theorem VRs.append{V:Ren}{a b a' b':List Value}(h:VRs V a a')(h2:VRs V b b'):VRs V (a++b) (a'++b'):=by
 refine⟨by simp[h.1,h2.1],fun k x y hx hy=>?_⟩;rcases Nat.lt_or_ge k a.length with hk|hk
 .rw[List.getElem?_append_left hk]at hx;rw[List.getElem?_append_left (by rw[h.1];exact hk)]at hy;exact h.2 k x y hx hy
 .rw[List.getElem?_append_right hk]at hx;rw[List.getElem?_append_right (by rw[h.1];exact hk),h.1]at hy;exact h2.2 _ x y hx hy
theorem U9{P:Program}{w:World}{V:Ren}{src dst:TypeId}{x x' v:Value}(hx:VR V x x')(hv:bW P src dst x=some v):∃ u,(convert src dst x').run P w=.ok u w/\VR V v u:=by
 unfold bW at hv;split at hv
 .rename_i hg;have:=hx.eq_of_ground hg;subst this;exact VR.gr v hv
 .split at hv
  .rename_i lo hi hs hd _;split at hv
   .rename_i hlt;cases hv;cases hx with
    |rng8 _ _ n h1 h2 =>
     refine⟨.int .i64 n,?_,.rng64 _ _ n h1 h2⟩;simp only[convert,Sem.run_bind,run_underlying hs,run_underlying hd,Result.andThen_ok,Conv.intToInt];have:IntKind.i64.wrap n=n:=IntWalk.i64_in _ (by omega);rw[this];rfl
   .cases hv
  .rename_i lo hi hs hd _;split at hv;rotate_left
   .cases hv
   rename_i hlt;cases hx with
   |rng64 _ _ n h1 h2 =>
    have hw:IntKind.u32.wrap n=n:=IntWalk.u32_in _ (by omega);have hrun:(convert src dst (.int .i64 n)).run P w=.ok (.int .u32 n) w:=by
     simp only[convert,Sem.run_bind,run_underlying hs,run_underlying hd,Result.andThen_ok,Conv.intToInt];rw[hw];rfl
    split at hv
    .cases hv;exact⟨_,hrun,.uNz n (by omega)⟩
    .cases hv;exact⟨_,hrun,.any1 _ rfl⟩
  .cases hv
theorem HR.freeze{w0:W0}{V:Ren}{H:AS}{w:World}(h:HR w0 V H w){B:Nat}{b:Blk}(hg:H.get B=some b)(hlive:b.live=true)(hro:b.ro=false){c s:Nat}(hb:hm V B=some (c,s)) :
    ∃ (e:TypeId) (z:Nat),w.shape? c=some (e,z)/\HR w0 V (H.put B { b with ro:=true }) (w.freeze ⟨c,z,none⟩ 1):=by
 obtain⟨c',s',C,fr,hβ,⟨el,hw,hel⟩,htop,hsz,hfr,hcells,hbase⟩:=h.blk B b hg hlive
 rw[hb]at hβ;cases hβ
 refine⟨el,C.size,by unfold World.shape?;rw[hw],?_⟩
 have other:∀ k,k≠c->(w.freeze ⟨c,C.size,none⟩ 1).heap[k]?=w.heap[k]?:=by
  intro k hk;unfold World.freeze;rw[if_neg (by decide)];simp only[Array.getElem?_modify];rw[if_neg (fun e=>hk e.symm)]
 have same:∃ fr':Nat × Nat,(w.freeze ⟨c,C.size,none⟩ 1).heap[c]?=some (.cells C el fr'):=by
  unfold World.freeze;rw[if_neg (by decide)];simp only[Array.getElem?_modify,if_true,hw,Option.map_some];exact⟨_,rfl⟩
 obtain⟨fr',hw'⟩:=same
 have get':∀ X x,(H.put B { b with ro:=true }).get X=some x->∃ y,H.get X=some y/\y.live=x.live/\(x.ro=false->y=x/\X≠B):=by
  intro X x hx;by_cases hX:B=X
  .subst hX;rw[AS.get_put_same hg]at hx;cases hx;exact⟨b,hg,rfl,fun e=>by cases e⟩
  .rw[AS.get_put_ne h.big hg hX]at hx;exact⟨x,hx,rfl,fun _=>⟨rfl,fun e=>hX e.symm⟩⟩
 refine⟨h.len,h.big,?_,?_,?_⟩
 .intro B' b' hg' hl'
  by_cases hB:B=B'
  .subst hB
   rw[AS.get_put_same hg]at hg';cases hg'
   exact⟨c,s,C,fr',hb,⟨el,hw',fun e=>by cases e⟩,htop,hsz,(fun e=>by cases e),hcells,(fun e=>by cases e),hbase.2⟩
  .rw[AS.get_put_ne h.big hg hB]at hg'
   obtain⟨c2,s2,C2,fr2,hB2,⟨el2,hw2,hel2⟩,r⟩:=h.blk B' b' hg' hl'
   have hne:=h.inj B B' b b' hg hg' hlive hl' hro hB
   rw[hb,hB2]at hne
   have hne':c2≠c:=fun e=>hne (by simp[e])
   exact⟨c2,s2,C2,fr2,hB2,⟨el2,by rw[other _ hne'];exact hw2,hel2⟩,r⟩
 .intro B1 B2 b1 b2 hg1 hg2 hl1 hl2 hr1 hne
  obtain⟨y1,g1,e1,f1⟩:=get' B1 b1 hg1
  obtain⟨y2,g2,e2,_⟩:=get' B2 b2 hg2
  obtain⟨rfl,_⟩:=f1 hr1
  exact h.inj B1 B2 y1 y2 g1 g2 hl1 (by rw[e2];exact hl2) hr1 hne
 .have hb0:=hbase.1 hro
  have e:(w.freeze ⟨c,C.size,none⟩ 1).heap.size=w.heap.size:=by unfold World.freeze;rw[if_neg (by decide)];simp
  refine⟨?_,?_,?_,by rw[e];exact h.below.size,fun k hk=>by rw[other k (fun e=>hb0 (e ▸ hk))];exact h.below.block k hk⟩
  .rw[<-h.below.os];unfold World.freeze;rw[if_neg (by decide)]
  .rw[<-h.below.tape];unfold World.freeze;rw[if_neg (by decide)]
  .rw[<-h.below.output];unfold World.freeze;rw[if_neg (by decide)]
theorem T8{P:Program}{w0:W0}{V:Ren}{H:AS}{w:World}(h:HR w0 V H w){src dst e e0:TypeId}{a:Addr}{n c:Nat}{x':Value}(hs:P.underlying src=some (.slice e0))(hd:P.underlying dst=some (.slice e))(hx:VR V (.slice (some a) n c) x'){r:ARes}(hr:ae1 P H (Nat.beq src dst) e a n c=some r) :
    wB P w0 V w (do pure (.value (← convert src dst x'))) r:=by
 unfold ae1 at hr
 split at hr
 rotate_left
 .cases hr
 rename_i b hsame he hg
 have hsd:src=dst:=Nat.eq_of_beq_eq_true hsame
 subst hsd
 obtain rfl:e0=e:=by rw[hs]at hd;cases hd;rfl
 split at hr
 rotate_left
 .cases hr
 rename_i hc
 simp only[Bool.and_eq_true,Bool.not_eq_true']at hc
 cases hr
 have key:∀ (c' o' n' k':Nat) (s:Nat),hm V a.block=some (c',s)->x'=.slice (some ⟨c',o',none⟩) n' k'->wB P w0 V w (do pure (.value (← convert src src x'))) (.val (.slice (some a) n c) (H.put a.block { b with ro:=true })):=by
  intro c' o' n' k' s hb e1;subst e1;obtain⟨el,z,hsh,hH⟩:=h.freeze hg hc.1 hc.2 hb;refine⟨[],.value (.slice (some ⟨c',o',none⟩) n' k'),w.freeze ⟨c',z,none⟩ 1,?_,by rw[List.append_nil];exact hH,.inl ⟨_,rfl,by rw[List.append_nil];exact hx⟩⟩;simp[convert,run_underlying hs,run_underlying he,markStringish,hsh]
 cases hx with
 |sl B o b s n c hb=>exact key _ _ _ _ s hb rfl
 |slL B o n c c' z hh hB _ _=>exact key _ _ _ _ hh.s (by unfold hm;rw[hB];rfl) rfl
theorem O5{P:Program}{w0:W0}{V:Ren}{H:AS}{w:World}(h:HR w0 V H w){src dst:TypeId}{x x':Value}(hx:VR V x x'){r:ARes}(hr:hP P H src dst x=some r) :
    wB P w0 V w (do pure (.value (← convert src dst x'))) r:=by
 unfold hP at hr
 split at hr
 .rename_i d e s hs hd
  cases hx
  split at hr
  .rename_i he
   exact wB.made (fun v H' hv=>h.strBytes hs hd he hv) hr
  .cases hr
 .rename_i e b n c hs hd
  split at hr
  .rename_i he
   refine wB.quiet h (fun v hv=>?_) hr
   obtain⟨h1,s,rfl⟩:=h.bytesStr (P:=P) hx hv
   obtain⟨a,l,c',rfl⟩:∃ a l c',x'=.slice a l c':=by cases hx<;>exact⟨_,_,_,rfl⟩
   exact⟨_,by rw[run_convert_bytes_string w src dst e a l c' hs he hd];exact h1,VR.of_ground rfl⟩
  .cases hr
 .rename_i e0 e a n c hs hd
  exact T8 h hs hd hx hr
 .refine wB.quiet h (fun v hv=>?_) hr
  exact U9 hx hv
theorem ae2{P:Program}{w0:W0}{V:Ren}{H:AS}{w:World}{A:List Value}(hA:Facts V A)(h:HR w0 V H w){src dst:TypeId}{x x':Value}(hx:VR V x x'){r:ARes}(hr:gK P A H src dst x=some r) :
    wB P w0 V w (do pure (.value (← convert src dst x'))) r:=by
 unfold gK at hr
 rcases wH hr with hr|hr
 .exact O5 h hx hr
 unfold bH at hr
 split at hr
 .rename_i e hs hd
  split at hr
  .rename_i he
   refine wB.quiet h (fun v hv=>?_) hr
   obtain⟨u,h1,h2,a,l,c,rfl⟩:=h.bytesS (P:=P) hA hx hv
   exact⟨u,by rw[run_convert_bytes_string w src dst e a l c hs he hd];exact h1,h2⟩
  .cases hr
 .rename_i d e hs hd
  split at hr
  .rename_i he
   exact wB.made (fun v H' hv=>h.strS hA hs hd he hx hv) hr
  .cases hr
 .exact wB.quiet h (fun v hv=>P5 hA hx hv) hr
theorem ai4{P:Program}{w:World}{V:Ren}{ts:Array TypeId}{ty:TypeId}{x x' v:Value}(hx:VR V x x')(h:awQ P ts x=some v):∃ u,(Builtin.len_ ts ty #[x']).run P w=.ok u w/\VR V v u:=by
 unfold awQ at h;split at h
 .cases h
 .rename_i t h0;split at h
  .rename_i s ht;cases h;cases hx;refine⟨goInt s.size,?_,.int _ _⟩;simp only[Builtin.len_,h0,List.getElem?_toArray,List.getElem?_cons_zero,Sem.run_bind,run_underlying ht,Result.andThen_ok,Sem.run_pure]
  .rename_i b n c ht;cases h;refine⟨goInt n,?_,.int _ _⟩;cases hx<;>simp only[Builtin.len_,h0,List.getElem?_toArray,List.getElem?_cons_zero,Sem.run_bind,run_underlying ht,Result.andThen_ok,Sem.run_pure]
  .rename_i n e ht;cases h;refine⟨goInt n,?_,.int _ _⟩;simp only[Builtin.len_,h0,List.getElem?_toArray,List.getElem?_cons_zero,Sem.run_bind,run_underlying ht,Result.andThen_ok,Sem.run_pure]
  .cases h
theorem aiK{P:Program}{w:World}{V:Ren}{ts:Array TypeId}{ty:TypeId}{x x' v:Value}(hx:VR V x x')(h:avJ P ts x=some v):∃ u,(Builtin.cap_ ts ty #[x']).run P w=.ok u w/\VR V v u:=by
 unfold avJ at h;split at h
 .cases h
 .rename_i t h0;split at h
  .rename_i n c ht;cases h;cases hx;refine⟨goInt c,?_,.int _ _⟩;simp only[Builtin.cap_,h0,List.getElem?_toArray,List.getElem?_cons_zero,Sem.run_bind,run_underlying ht,Result.andThen_ok,Sem.run_pure]
  .rename_i n c ht;cases h;cases hx;refine⟨goInt c,?_,.int _ _⟩;simp only[Builtin.cap_,h0,List.getElem?_toArray,List.getElem?_cons_zero,Sem.run_bind,run_underlying ht,Result.andThen_ok,Sem.run_pure]
  .rename_i n e ht;cases h;refine⟨goInt n,?_,.int _ _⟩;simp only[Builtin.cap_,h0,List.getElem?_toArray,List.getElem?_cons_zero,Sem.run_bind,run_underlying ht,Result.andThen_ok,Sem.run_pure]
  .cases h
def vJ (P : Program) : Prop := ∀ (f : FuncId) (fn : Func), P.funcs[f]? = some fn → (fn.name == "runtime.NumGoroutine") = false
theorem aM{P:Program}{w:World}(hN:vJ P){f:FuncId}{fn:Func}{args:Array Value}(hf:P.funcs[f]?=some fn)(hb:fn.body.isSome=true) :
    (callFunc f args).run P w=.ok (.enter f args) w:=by
 unfold callFunc
 have hb':fn.body.isNone=false:=by cases h:fn.body<;>simp_all
 have hp:(program).run P w=.ok P w:=rfl
 simp only[Sem.run_bind,hp,Result.andThen_ok,hf,hN f fn hf,hb',Bool.false_eq_true,if_false,Sem.run_pure]
theorem D8{P:Program}{w0:W0}{V:Ren}{w:World}(hN:vJ P){f f':Value}{args args':List Value}(hf:VR V f f')(ha:VRs V args args'){r:ARes}(h:jJ P f args=some r) :
    wB P w0 V w (do let d ← Deferred.ofValue f' args'.toArray;invoke d.target d.args) r:=by
 unfold jJ at h
 split at h
 .rename_i g first captured
  split at h
  .rename_i fn hfn
   split at h
   .rename_i hb
    cases h
    cases hf with
    |func _ _ _ a' c' h0 h1 h2 h3 h4 =>
     refine⟨a'++args'.toArray++c',?_,?_⟩
     .simp only[Deferred.ofValue,Sem.run_bind,Sem.run_pure,Result.andThen_ok,invoke]
      exact aM hN hfn hb
     .have e1:VRs V first.toList a'.toList:=⟨by simp[h1],fun k x y hx hy=>h3 k x y (by simpa using hx) (by simpa using hy)⟩
      have e2:VRs V captured.toList c'.toList:=⟨by simp[h2],fun k x y hx hy=>h4 k x y (by simpa using hx) (by simpa using hy)⟩
      have:=(e1.append ha).append e2
      simpa using this
   .cases h
  .cases h
 .cases h
theorem eC{P:Program}{w0:W0}{V:Ren}{H:AS}{w:World}(h:HR w0 V H w){b:Builtin}{ts:Array TypeId}{ty:TypeId}{cs:Array Bool}{args args':List Value}(ha:VRs V args args'){r:ARes}{A:List Value}(hA:Facts V A)
    (hr:uS P A H b ts args=some r):wB P w0 V w (builtin b ts ty cs args'.toArray) r:=by
 unfold uS at hr
 split at hr
 .obtain⟨u,us,rfl,h1,h2⟩:=ha.cons_inv
  obtain rfl:us=[]:=List.eq_nil_of_length_eq_zero h2.1
  exact wB.quiet h (fun v hv=>(wH hv).elim (fun hv=>ai4 h1 hv) (fun hv=>ab0 h1 hv)) hr
 .obtain⟨u,us,rfl,h1,h2⟩:=ha.cons_inv
  obtain rfl:us=[]:=List.eq_nil_of_length_eq_zero h2.1
  exact wB.quiet h (fun v hv=>(wH hv).elim (fun hv=>aiK h1 hv) (fun hv=>abV h1 hv)) hr
 .obtain⟨u,us,rfl,h1,h2⟩:=ha.cons_inv
  obtain⟨u2,us2,rfl,h3,h4⟩:=h2.cons_inv
  obtain rfl:us2=[]:=List.eq_nil_of_length_eq_zero h4.1
  exact wB.made (fun v H' hv=>(wH hv).elim (fun hv=>h.appendN hA h1 h3 hv) (fun hv=>(wH hv).elim (fun hv=>h.appendS hA h1 h3 hv) (fun hv=>(wH hv).elim (fun hv=>h.append3 hA h1 h3 hv) (fun hv=>h.appendOp h1 h3 hv)))) hr
 .obtain⟨u,us,rfl,h1,h2⟩:=ha.cons_inv
  obtain⟨u2,us2,rfl,h3,h4⟩:=h2.cons_inv
  obtain rfl:us2=[]:=List.eq_nil_of_length_eq_zero h4.1
  exact wB.made (fun v H' hv=>(wH hv).elim (fun hv=>h.copyOp h1 h3 hv) (fun hv=>h.copyS hA h1 h3 hv)) hr
 .cases hr
theorem sJ{V:Ren}{ρ ρ':Operand->Value}(hρ:∀ x,VR V (ρ x) (ρ' x))(parts:Array (Nat × Operand)) :
    (parts.map fun (i,x)=>(i,ρ' x)).toList.length=(parts.toList.map fun p=>(p.1,ρ p.2)).length /\
    ∀ (k:Nat) (p p':Nat × Value),(parts.toList.map fun p=>(p.1,ρ p.2))[k]?=some p->(parts.map fun (i,x)=>(i,ρ' x)).toList[k]?=some p'->p'.1=p.1/\VR V p.2 p'.2:=by
 refine⟨by simp,fun k p p' h1 h2=>?_⟩
 rw[Array.toList_map]at h2
 rw[List.getElem?_map]at h1 h2
 cases hq:parts.toList[k]? with
 |none=>rw[hq]at h1;cases h1
 |some q =>
  rw[hq]at h1 h2
  simp only[Option.map_some,Option.some.injEq]at h1 h2
  subst h1 h2
  exact⟨rfl,hρ q.2⟩
theorem ajA{P:Program}{w0:W0}{V:Ren}{H:AS}{w:World}(hN:vJ P)(h:HR w0 V H w){ρ ρ':Operand->Value}(hρ:∀ x,VR V (ρ x) (ρ' x)){o:Oper}{r:ARes}{A:List Value}(hA:Facts V A)(hr:aop P A ρ H o=some r) :
    wB P w0 V w (execOp ρ' o) r:=by
 have same:∀ {x x':Value},VR V x x'->wB P w0 V w (pure (.value x')) (.val x H):=fun hx =>
  ⟨[],_,w,rfl,by rw[List.append_nil];exact h,.inl ⟨_,rfl,by rw[List.append_nil];exact hx⟩⟩
 obtain⟨dst,op,type,pos,after,guard⟩:=o
 unfold aop at hr
 unfold execOp
 dsimp only at hr ⊢
 split at hr
 .cases hr;exact same (hρ _)
 .cases hr;exact same (hρ _)
 .rename_i c a b
  split at hr
  .rename_i q hq
   cases hr
   have hc:=(hρ c).eq_of_ground (by rw[hq];rfl)
   rw[hq]at hc
   dsimp only
   rw[hc]
   simp only[asBool]
   have:=same (x:=if q then ρ a else ρ b) (x':=if q then ρ' a else ρ' b) (by cases q<;>simp[hρ])
   exact this
  .cases hr
 .exact wB.made (fun v H' hv=>h.allocOp hv) hr
 .exact wB.made (fun v H' hv=>h.boxOp (hρ _) hv) hr
 .exact wB.quiet h (fun v hv=>abD (sJ hρ _).1 (sJ hρ _).2 hv) hr
 .exact wB.made (fun v H' hv=>h.buildSliceOp (sJ hρ _).1 (sJ hρ _).2 hv) hr
 .exact wB.quiet h (fun v hv=>(wH hv).elim (fun hv=>h.loadVar (hρ _) hv) (fun hv=>(wH hv).elim (fun hv=>h.loadS hA (hρ _) hv) (fun hv=>h.load3 hA (hρ _) hv))) hr
 .simp only[Option.map_eq_some_iff]at hr
  obtain⟨H',hH,rfl⟩:=hr
  obtain⟨w',h1,h2⟩:=(wH hH).elim (fun hH=>h.storeVar (P:=P) (hρ _) (hρ _) hH) (fun hH=>h.storeS (P:=P) hA (hρ _) (hρ _) hH)
  refine⟨[],.skip,w',?_,by rw[List.append_nil];exact h2,.inr ⟨rfl,rfl⟩⟩
  simp only[Sem.run_bind,h1,Result.andThen_ok,Sem.run_pure]
 .rename_i x
  have hx:=hρ x
  unfold qv at hr
  simp only[Option.map_eq_some_iff]at hr
  obtain⟨v,hv,rfl⟩:=hr
  unfold eR at hv
  split at hv
  .rename_i a ha
   cases hv
   rw[ha]at hx
   dsimp only
   generalize ρ' x=y at hx ⊢
   cases hx with
   |ptr B o b s hβ=>exact same (.ptr B o b s hβ)
  .rename_i t u ha
   cases hv
   rw[ha]at hx
   dsimp only
   generalize ρ' x=y at hx ⊢
   cases hx with
   |iface _ _ _ hu=>exact same (.iface _ _ _ hu)
  .rename_i f a c ha
   cases hv
   rw[ha]at hx
   dsimp only
   generalize ρ' x=y at hx ⊢
   cases hx with
   |func _ _ _ a' c' h0 h1 h2 h3 h4=>exact same (.func _ _ _ a' c' h0 h1 h2 h3 h4)
  .cases hv
 .exact wB.quiet h (fun v hv=>ah4 hA (hρ _) (hρ _) hv) hr
 .exact wB.quiet h (fun v hv=>an0 (hρ _) hv) hr
 .exact ae2 hA h (hρ _) hr
 .refine wB.quiet h (fun v hv=>?_) hr
  rename_i t x
  unfold akK at hv
  split at hv
  .cases hv
  .rename_i d hni hd
   cases hv
   refine⟨.iface t (ρ' x),?_,.iface _ _ _ (hρ x)⟩
   simp only[Instr.makeInterface,Sem.run_bind,run_underlying hd,Result.andThen_ok]
   rfl
  .cases hv
 .rename_i fn first captured
  split at hr
  rotate_left
  .cases hr
  rename_i hny
  cases hr
  refine same (.func _ _ _ _ _ hny (by simp) (by simp) ?_ ?_)
  .intro i v u hv hu
   exact (VRs.map hρ first.toList).2 i v u (by simpa using hv) (by simpa using hu)
  .intro i v u hv hu
   exact (VRs.map hρ captured.toList).2 i v u (by simpa using hv) (by simpa using hu)
 .exact wB.made (fun v H' hv=>h.makeSliceOp (hρ _) (hρ _) hv) hr
 .rename_i t x lo hi mx
  split at hr
  .rename_i s hs
   split at hr
   .rename_i hg
    simp only[Bool.and_eq_true]at hg
    have hx:=(hρ x).eq_of_ground (by rw[hs];rfl)
    rw[hs]at hx
    rw[<-(VRo.map hρ lo).eq_of_ground hg.1.1,<-(VRo.map hρ hi).eq_of_ground hg.1.2,<-(VRo.map hρ mx).eq_of_ground hg.2,<-hx]at hr
    exact wB.quiet h VR.gr hr
   .cases hr
  .exact wB.quiet h (fun v hv=>(wH hv).elim (fun hv=>VR.slice_sound (hρ x) (VRo.map hρ lo) (VRo.map hρ hi) (VRo.map hρ mx) hv) (fun hv=>cJ hA (hρ x) (VRo.map hρ lo) (VRo.map hρ hi) (VRo.map hρ mx) hv)) hr
 .exact wB.quiet h (fun v hv=>VR.fieldAddr (hρ _) hv) hr
 .exact wB.quiet h (fun v hv=>VR.field (hρ _) hv) hr
 .exact wB.quiet h (fun v hv=>(wH hv).elim (fun hv=>VR.indexAddr (hρ _) (hρ _) hv) (fun hv=>(wH hv).elim (fun hv=>nX hA (hρ _) (hρ _) hv) (fun hv=>mB hA (hρ _) (hρ _) hv))) hr
 .rename_i t x ix
  split at hr
  .rename_i s hs
   split at hr
   .rename_i hg
    have hx:=(hρ x).eq_of_ground (by rw[hs];rfl)
    rw[hs]at hx
    rw[<-(hρ ix).eq_of_ground hg,<-hx]at hr
    exact wB.quiet h VR.gr hr
   .exact wB.quiet h (fun v hv=>nE hA (by rw[<-hs];exact hρ x) (hρ ix) hv) hr
  .exact wB.quiet h (fun v hv=>(wH hv).elim (fun hv=>VR.indexAgg (hρ _) (hρ _) hv) (fun hv=>nE hA (hρ _) (hρ _) hv)) hr
 .exact wB.quiet h (fun v hv=>VR.extract (hρ _) hv) hr
 .rename_i c
  have hargs:c.args.map ρ'=(c.args.toList.map ρ').toArray:=by apply Array.ext';simp
  unfold resolve
  split at hr
  .rename_i b hb
   simp only[hb]
   have:=eC (ty:=type) (cs:=c.args.map fun | .const _=>true|_=>false) h (VRs.map hρ c.args.toList) hA hr
   rw[<-hargs]at this
   exact this
  .rename_i f hf
   simp only[hf]
   have:=D8 (w0:=w0) (w:=w) hN (hρ f) (VRs.map hρ c.args.toList) hr
   rw[<-hargs]at this
   exact this
  .cases hr
 .cases hr
end
noncomputable section
def ap8:Nat->Option IOp
 |0=>some .add|1=>some .sub|2=>some .mul|3=>some .and|4=>some .or|5=>some .xor|6=>some .andNot|7=>some .shl|8=>some .shr|9=>some .quo|10=>some .rem|11=>some .fdiv
 |_=>none
theorem anO{n:Nat}{o:IOp}(h:ap8 n=some o):o.code=n:=by
 unfold ap8 at h;split at h<;>first|(cases h;rfl)|(cases h;done)
mutual
def wfI:Nat->Nat->Value->Bool
 |0,_,_=>false
 |k+1,n,e =>
  match e with
  | .int .i64 _=>true
  | .map (some i)=>decide (i<n)
  | .func (.yield 10) ⟨[.int _ z,a]⟩ ⟨[]⟩=>decide (z=0)&&wfI k n a
  | .func (.yield 11) ⟨[l]⟩ ⟨[]⟩=>wfL k n l
  | .func (.yield 12) ⟨[l,i]⟩ ⟨[]⟩=>wfL k n l&&wfI k n i
  | .func (.yield 13) ⟨[c,a,b]⟩ ⟨[]⟩=>wfB k n c&&(wfI k n a&&wfI k n b)
  | .func (.yield 14) ⟨[l]⟩ ⟨[]⟩=>wfN k n l
  | .func (.yield 15) ⟨[l,i]⟩ ⟨[]⟩=>wfN k n l&&wfI k n i
  | .func (.yield m) ⟨[a,b]⟩ ⟨[]⟩=>Nat.ble 100 m&&((ap8 (m-100)).isSome&&(wfI k n a&&wfI k n b))
  |_=>false
def wfN:Nat->Nat->Value->Bool
 |0,_,_=>false
 |k+1,n,e =>
  match e with
  | .bool false=>true
  | .map (some i)=>decide (i<n)
  | .func (.yield 25) ⟨[v]⟩ ⟨[]⟩=>wfI k n v
  | .func (.yield 26) ⟨[l,m]⟩ ⟨[]⟩=>wfN k n l&&wfN k n m
  | .func (.yield 27) ⟨[l,a,b]⟩ ⟨[]⟩=>wfN k n l&&(wfI k n a&&wfI k n b)
  |_=>false
def wfL:Nat->Nat->Value->Bool
 |0,_,_=>false
 |k+1,n,e =>
  match e with
  | .string _=>true
  | .map (some i)=>decide (i<n)
  | .func (.yield 20) ⟨[l,i,v]⟩ ⟨[]⟩=>wfL k n l&&(wfI k n i&&wfI k n v)
  | .func (.yield 21) ⟨[l,m]⟩ ⟨[]⟩=>wfL k n l&&wfL k n m
  | .func (.yield 22) ⟨[v]⟩ ⟨[]⟩=>wfI k n v
  | .func (.yield 23) ⟨[l,a,b]⟩ ⟨[]⟩=>wfL k n l&&(wfI k n a&&wfI k n b)
  | .func (.yield 24) ⟨[l,a,b]⟩ ⟨[]⟩=>wfL k n l&&(wfI k n a&&wfL k n b)
  |_=>false
def wfB:Nat->Nat->Value->Bool
 |0,_,_=>false
 |k+1,n,e =>
  match e with
  | .bool _=>true
  | .map (some i)=>decide (i<n)
  | .func (.yield 31) ⟨[a,b]⟩ ⟨[]⟩=>wfI k n a&&wfI k n b
  | .func (.yield 32) ⟨[a,b]⟩ ⟨[]⟩=>wfI k n a&&wfI k n b
  | .func (.yield 33) ⟨[a,b]⟩ ⟨[]⟩=>wfI k n a&&wfI k n b
  | .func (.yield 34) ⟨[a,b]⟩ ⟨[]⟩=>wfL k n a&&wfL k n b
  | .func (.yield 35) ⟨[a]⟩ ⟨[]⟩=>wfB k n a
  | .func (.yield 36) ⟨[a,b]⟩ ⟨[]⟩=>wfB k n a&&wfB k n b
  | .func (.yield 37) ⟨[a,b]⟩ ⟨[]⟩=>wfB k n a&&wfB k n b
  | .func (.yield 38) ⟨[c,a,b]⟩ ⟨[]⟩=>wfB k n c&&(wfB k n a&&wfB k n b)
  |_=>false
end
theorem m9:∀(k n:Nat)(e:Value),(wfI k n e=true->∃ t:TI,e=t.enc/\t.ok n=true)/\(wfL k n e=true->∃ t:TL,e=t.enc/\t.ok n=true)/\(wfB k n e=true->∃ t:TB,e=t.enc/\t.ok n=true)/\(wfN k n e=true->∃ t:TN,e=t.enc/\t.ok n=true):=by
 intro k;induction k with
 |zero=>intro n e;exact⟨fun h=>by simp[wfI]at h,fun h=>by simp[wfL]at h,fun h=>by simp[wfB]at h,fun h=>by simp[wfN]at h⟩
 |succ k ih =>
  intro n e;have I:=fun e=>(ih n e).1;have L:=fun e=>(ih n e).2.1;have B:=fun e=>(ih n e).2.2.1;have N:=fun e=>(ih n e).2.2.2;refine⟨fun h=>?_,fun h=>?_,fun h=>?_,fun h=>?_⟩
  .unfold wfI at h;split at h
   .exact⟨.lit _,rfl,rfl⟩
   .exact⟨.var _,rfl,h⟩
   .simp only[Bool.and_eq_true,decide_eq_true_eq]at h;obtain⟨rfl,h⟩:=h;obtain⟨t,rfl,ht⟩:=I _ h;exact⟨.wrap _ t,rfl,by simpa [TI.ok] using ht⟩
   .obtain⟨t,rfl,ht⟩:=L _ h;exact⟨.len t,rfl,by simpa [TI.ok] using ht⟩
   .rw[Bool.and_eq_true]at h;obtain⟨t,rfl,ht⟩:=L _ h.1;obtain⟨i,rfl,hi⟩:=I _ h.2;exact⟨.sel t i,rfl,by simp[TI.ok,ht,hi]⟩
   .simp only[Bool.and_eq_true]at h;obtain⟨c,rfl,hc⟩:=B _ h.1;obtain⟨a,rfl,ha⟩:=I _ h.2.1;obtain⟨b,rfl,hb⟩:=I _ h.2.2;exact⟨.ite c a b,rfl,by simp[TI.ok,hc,ha,hb]⟩
   .obtain⟨t,rfl,ht⟩:=N _ h;exact⟨.lenN t,rfl,by simpa [TI.ok] using ht⟩
   .rw[Bool.and_eq_true]at h;obtain⟨t,rfl,ht⟩:=N _ h.1;obtain⟨i,rfl,hi⟩:=I _ h.2;exact⟨.selN t i,rfl,by simp[TI.ok,ht,hi]⟩
   .simp only[Bool.and_eq_true]at h;obtain⟨h1,h2,h3,h4⟩:=h;obtain⟨o,ho⟩:=Option.isSome_iff_exists.1 h2;have hc:=anO ho;have h100:=Nat.le_of_ble_eq_true h1;obtain⟨a,rfl,ha⟩:=I _ h3;obtain⟨b,rfl,hb⟩:=I _ h4;refine⟨.op o a b,?_,by simp[TI.ok,ha,hb]⟩;simp only[TI.enc,nd2,hc];rw[Nat.add_sub_cancel' h100]
   .cases h
  .unfold wfL at h;split at h
   .rename_i s;exact⟨.lit s.data.toList,by simp[TL.enc],rfl⟩
   .exact⟨.var _,rfl,h⟩
   .simp only[Bool.and_eq_true]at h;obtain⟨l,rfl,hl⟩:=L _ h.1;obtain⟨a,rfl,ha⟩:=I _ h.2.1;obtain⟨b,rfl,hb⟩:=I _ h.2.2;exact⟨.set l a b,rfl,by simp[TL.ok,hl,ha,hb]⟩
   .simp only[Bool.and_eq_true]at h;obtain⟨l,rfl,hl⟩:=L _ h.1;obtain⟨a,rfl,ha⟩:=L _ h.2;exact⟨.app l a,rfl,by simp[TL.ok,hl,ha]⟩
   .obtain⟨l,rfl,hl⟩:=I _ h;exact⟨.one l,rfl,by simpa [TL.ok] using hl⟩
   .simp only[Bool.and_eq_true]at h;obtain⟨l,rfl,hl⟩:=L _ h.1;obtain⟨a,rfl,ha⟩:=I _ h.2.1;obtain⟨b,rfl,hb⟩:=I _ h.2.2;exact⟨.sub l a b,rfl,by simp[TL.ok,hl,ha,hb]⟩
   .simp only[Bool.and_eq_true]at h;obtain⟨l,rfl,hl⟩:=L _ h.1;obtain⟨a,rfl,ha⟩:=I _ h.2.1;obtain⟨b,rfl,hb⟩:=L _ h.2.2;exact⟨.put l a b,rfl,by simp[TL.ok,hl,ha,hb]⟩
   .cases h
  .unfold wfB at h;split at h
   .exact⟨.lit _,rfl,rfl⟩
   .exact⟨.var _,rfl,h⟩
   .rw[Bool.and_eq_true]at h;obtain⟨a,rfl,ha⟩:=I _ h.1;obtain⟨b,rfl,hb⟩:=I _ h.2;exact⟨.lt a b,rfl,by simp[TB.ok,ha,hb]⟩
   .rw[Bool.and_eq_true]at h;obtain⟨a,rfl,ha⟩:=I _ h.1;obtain⟨b,rfl,hb⟩:=I _ h.2;exact⟨.le a b,rfl,by simp[TB.ok,ha,hb]⟩
   .rw[Bool.and_eq_true]at h;obtain⟨a,rfl,ha⟩:=I _ h.1;obtain⟨b,rfl,hb⟩:=I _ h.2;exact⟨.eq a b,rfl,by simp[TB.ok,ha,hb]⟩
   .rw[Bool.and_eq_true]at h;obtain⟨a,rfl,ha⟩:=L _ h.1;obtain⟨b,rfl,hb⟩:=L _ h.2;exact⟨.eqL a b,rfl,by simp[TB.ok,ha,hb]⟩
   .obtain⟨a,rfl,ha⟩:=B _ h;exact⟨.not a,rfl,by simpa [TB.ok] using ha⟩
   .rw[Bool.and_eq_true]at h;obtain⟨a,rfl,ha⟩:=B _ h.1;obtain⟨b,rfl,hb⟩:=B _ h.2;exact⟨.and a b,rfl,by simp[TB.ok,ha,hb]⟩
   .rw[Bool.and_eq_true]at h;obtain⟨a,rfl,ha⟩:=B _ h.1;obtain⟨b,rfl,hb⟩:=B _ h.2;exact⟨.or a b,rfl,by simp[TB.ok,ha,hb]⟩
   .simp only[Bool.and_eq_true]at h;obtain⟨c,rfl,hc⟩:=B _ h.1;obtain⟨a,rfl,ha⟩:=B _ h.2.1;obtain⟨b,rfl,hb⟩:=B _ h.2.2;exact⟨.ite c a b,rfl,by simp[TB.ok,hc,ha,hb]⟩
   .cases h
  .unfold wfN at h;split at h
   .exact⟨.nil,rfl,rfl⟩
   .exact⟨.var _,rfl,h⟩
   .obtain⟨l,rfl,hl⟩:=I _ h;exact⟨.one l,rfl,by simpa [TN.ok] using hl⟩
   .simp only[Bool.and_eq_true]at h;obtain⟨l,rfl,hl⟩:=N _ h.1;obtain⟨a,rfl,ha⟩:=N _ h.2;exact⟨.app l a,rfl,by simp[TN.ok,hl,ha]⟩
   .simp only[Bool.and_eq_true]at h;obtain⟨l,rfl,hl⟩:=N _ h.1;obtain⟨a,rfl,ha⟩:=I _ h.2.1;obtain⟨b,rfl,hb⟩:=I _ h.2.2;exact⟨.sub l a b,rfl,by simp[TN.ok,hl,ha,hb]⟩
   .cases h
theorem yX(k n:Nat)(e:Value):(wfI k n e=true->∃ t:TI,e=t.enc/\t.ok n=true)/\(wfL k n e=true->∃ t:TL,e=t.enc/\t.ok n=true)/\(wfB k n e=true->∃ t:TB,e=t.enc/\t.ok n=true) :=
 ⟨(m9 k n e).1,(m9 k n e).2.1,(m9 k n e).2.2.1⟩
end
end Go.SM
