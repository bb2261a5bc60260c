-- the statement of this claim: see YtoamgocecoiggaaDoorRs
import Derived.Test.YtoamgocecoiggaaDoorM9
set_option linter.unusedVariables false
set_option linter.unusedSimpArgs false
set_option maxRecDepth 100000
noncomputable section
namespace Go.SM
noncomputable section
abbrev gdV(g v:Value):Value:=.func (.yield 5) #[g,v] #[]
def GR(V:Ren)(v u:Value):Prop:=∃ (g:TB) (x:Value),v=gdV g.enc x/\g.ok V.length=true/\(g.den V=true->VR V x u)/\(g.den V=false->u=undef)/\∀ e,asB x=some e->∃ t:TB,e=t.enc/\t.ok V.length=true
def SR(V:Ren)(v u:Value):Prop:=VR V v u\/(v=.map none/\u=undef)\/GR V v u
theorem GR.mono{V γ:Ren}{v u:Value}(h:GR V v u):GR (V++γ) v u:=by
 obtain⟨g,x,h1,h2,h3,h4,h5⟩:=h;refine⟨g,x,h1,TB.ok_app _ _ (by simp) g h2,fun h=>(h3 (by rw[TB.den_app V γ g h2]at h;exact h)).mono,fun h=>h4 (by rw[TB.den_app V γ g h2]at h;exact h),fun e he=>?_⟩;obtain⟨t,t1,t2⟩:=h5 e he;exact⟨t,t1,TB.ok_app _ _ (by simp) t t2⟩
theorem SR.mono{V γ:Ren}{v u:Value}(h:SR V v u):SR (V++γ) v u:=by
 rcases h with h|h|h
 .exact .inl h.mono
 .exact .inr (.inl h)
 .exact .inr (.inr h.mono)
def ung(A:List Value)(v:Value):Value :=
 match v with
 | .map none=>.tuple #[]
 | .func (.yield 5) ⟨[g,x]⟩ _=>(match dec A 60 g with
  |some true=>x
  |_=>.tuple #[])
 |v=>v
theorem SR.ung{V:Ren}{A:List Value}(hA:Facts V A){v u:Value}(h:SR V v u):VR V (SM.ung A v) u:=by
 rcases h with h|⟨rfl,rfl⟩|⟨g,x,rfl,h2,h3,h4,_⟩
 .unfold SM.ung;split
  .exact .any _
  .split
   .generalize hz:(Value.func (.yield 5) ⟨[_,_]⟩ _)=z at h;cases h<;>try cases hz
    rename_i h0 _ _ _ _;cases h0
   .exact .any _
  .exact h
 .exact .any _
 ·show VR V (match dec A 60 g.enc with
    |some true=>x
    |_=>.tuple #[]) u
  split
  .rename_i hd;exact h3 (yV hA 60 g _ hd)
  .exact .any _
def yW(n:Nat)(F:Tr Value)(t:Nat):Value :=
 if t<n then
  match F.get DF t with
  |some v=>v
  |none=>.tuple #[]
 else .tuple #[]
structure Gl where
 g:Nat->Option Nat
 A:List Value
 pu:FuncId->Bool:=fun _=>false
 m:Nat:=0
def aev(G:Gl)(n:Nat)(F:Tr Value):Operand->Value
 | .tmp t=>ung G.A (yW n F t)
 | .const v=>if zL v then v else .tuple #[]
 | .global g =>
  match G.g g with
  |some B=>.pointer (some ⟨B,0,none⟩)
  |none=>.tuple #[]
 | .func f=>.func (.func f) #[] #[]
def Gok(G:Gl)(V:Ren):Prop:=((∀ g B,G.g g=some B->hm V B=some (g,0))/\G.m<=V.length)/\Facts V G.A
theorem Gok.mono{G:Gl}{V γ:Ren}(h:Gok G V):Gok G (V++γ):=⟨⟨fun g B hg=>zV (h.1.1 g B hg),Nat.le_trans h.1.2 (by simp)⟩,h.2.mono⟩
def vZ:Nat->Value->List Value->List Value
 |0,e,A=>e::A
 |k+1,e,A =>
  match e with
  | .func (.yield 36) ⟨[a,b]⟩ ⟨[]⟩=>vZ k a (vZ k b A)
  | .func (.yield 35) ⟨[.func (.yield 37) ⟨[a,b]⟩ ⟨[]⟩]⟩ ⟨[]⟩=>vZ k (vB a) (vZ k (vB b) A)
  |e=>e::A
theorem Facts.cons{V:Ren}{A:List Value}(h:Facts V A)(t:TB)(ht:t.ok V.length=true)(hd:t.den V=true):Facts V (t.enc::A):=fun a ha=>by
 rcases List.mem_cons.1 ha with rfl|ha
 .exact⟨t,rfl,ht,hd⟩
 .exact h a ha
theorem zT{V:Ren}:∀(k:Nat)(t:TB)(A:List Value),Facts V A->t.ok V.length=true->t.den V=true->Facts V (vZ k t.enc A)
 |0,t,A,h,ht,hd=>h.cons t ht hd
 |k+1,t,A,h,ht,hd=>by
  generalize he:t.enc=e;unfold vZ;split
  .obtain⟨x,y,rfl,rfl,rfl⟩:=ahL he;simp only[TB.ok,Bool.and_eq_true]at ht;simp only[TB.den,Bool.and_eq_true]at hd;exact zT k x _ (zT k y _ h ht.2 hd.2) ht.1 hd.1
  .obtain⟨z,rfl,hz⟩:=bE he;obtain⟨x,y,rfl,rfl,rfl⟩:=aeI hz.symm;simp only[TB.ok,Bool.and_eq_true]at ht;simp only[TB.den,Bool.not_eq_true',Bool.or_eq_false_iff]at hd;obtain⟨x',a1,a2,a3⟩:=yJ x;obtain⟨y',b1,b2,b3⟩:=yJ y;rw[a1,b1];exact zT k x' _ (zT k y' _ h (b2 _ ht.2) (by rw[b3,hd.2];rfl)) (a2 _ ht.1) (by rw[a3,hd.1];rfl)
  .rw[<-he];exact h.cons t ht hd
def dP(A:List Value):List Value->List Value
 |[]=>[]
 |a::L =>
  match a with
  | .func (.yield 37) ⟨[x,m]⟩ ⟨[]⟩=>if dec A 20 x=some false then m::dP A L else dP A L
  |_=>dP A L
theorem lP{V:Ren}{A:List Value}(h:Facts V A):∀ {L:List Value},(∀ a∈L,a∈A)->Facts V (dP A L)
 |[],_=>Facts.nil V
 |a::L,hL=>by
  have ih:=lP h (L:=L) (fun x hx=>hL x (List.mem_cons_of_mem _ hx));obtain⟨t,rfl,t1,t2⟩:=h a (hL a (List.mem_cons_self ..));generalize he:t.enc=e;unfold dP;split
  .obtain⟨x,y,rfl,rfl,rfl⟩:=aeI he;split
   .rename_i hd;have hx:=yV h 20 x _ hd;simp only[TB.ok,Bool.and_eq_true]at t1;simp only[TB.den,hx,Bool.false_or]at t2;exact ih.cons y t1.2 t2
   .exact ih
  .exact ih
def Gl.add(G:Gl)(e:Value):Gl:={ G with A:=dP (vZ 9 e G.A) (vZ 9 e G.A)++vZ 9 e G.A }
theorem Gok.add{G:Gl}{V:Ren}(h:Gok G V)(t:TB)(ht:t.ok V.length=true)(hd:t.den V=true):Gok (G.add t.enc) V :=
 have hF:=zT 9 t _ h.2 ht hd
 ⟨h.1,(lP hF fun _ h=>h).append hF⟩
def rO(V:Ren)(n:Nat)(F:Tr Value)(a:Act)(t:Nat):Prop:=∀ u,a.tmps[t]?=some u->SR V (yW n F t) u
theorem y9{V:Ren}{n:Nat}{F:Tr Value}{a:Act}{G:Gl}(hG:Gok G V)(hsz:a.tmps.size=n)(o:Operand)(h:∀ t,o=.tmp t->rO V n F a t):VR V (aev G n F o) (a.eval o):=by
 cases o with
 |tmp t =>
  simp only[aev,Act.eval];rw[Array.getD_eq_getD_getElem?];cases hu:a.tmps[t]? with
  |some u=>exact (h t rfl u hu).ung hG.2
  |none =>
   have ht:¬ t<n:=by
    intro hlt;rw[Array.getElem?_eq_getElem (by rw[hsz];exact hlt)]at hu;cases hu
   unfold yW;rw[if_neg ht];exact .any _
 |const v =>
  simp only[aev,Act.eval];split
  .rename_i hg;exact VR.of_ground hg
  .exact .any _
 |global g =>
  simp only[aev,Act.eval];cases hx:G.g g with
  |none=>exact .any _
  |some B=>exact .ptr B 0 g 0 (hG.1.1 g B hx)
 |func f=>exact VR.of_ground rfl
def dV(a b:Value):Value :=
 match a,b with
 | .bool true,b=>b
 | .bool false,_=>.bool false
 |a,.bool true=>a
 |_,.bool false=>.bool false
 |a,b=>nd2 36 a b
theorem wC{t:TB}{b:Bool}(h:t.enc=.bool b):t=.lit b:=by
 cases t<;>simp[TB.enc,nd1,nd2,nd3]at h;rw[h]
theorem pF(s t:TB):∃ r:TB,dV s.enc t.enc=r.enc/\(∀ n,s.ok n=true->t.ok n=true->r.ok n=true)/\∀ V,r.den V=(s.den V&&t.den V):=by
 generalize hs:s.enc=a;generalize ht:t.enc=b;unfold dV;split
 .obtain rfl:=wC hs;exact⟨t,ht.symm,fun _ _ h=>h,fun V=>by simp[TB.den]⟩
 .obtain rfl:=wC hs;exact⟨.lit false,rfl,fun _ _ _=>rfl,fun V=>by simp[TB.den]⟩
 .obtain rfl:=wC ht;exact⟨s,hs.symm,fun _ h _=>h,fun V=>by simp[TB.den]⟩
 .obtain rfl:=wC ht;exact⟨.lit false,rfl,fun _ _ _=>rfl,fun V=>by simp[TB.den]⟩
 .exact⟨.and s t,by simp only[TB.enc,hs,ht],fun n h h'=>by simp[TB.ok,h,h'],fun _=>rfl⟩
inductive Wd where
 |yes
 |no
 |grd (c:Value)
def asG(v:Value):Option (Value × Value) :=
 match v with
 | .func (.yield 5) ⟨[g,x]⟩ _=>(match asB x with
  |some e=>some (g,e)
  |none=>none)
 |v=>(match asB v with
  |some e=>some (.bool true,e)
  |none=>none)
def afQ(want:Bool)(e:Value):Value:=if want then e else vB e
def uM(A:List Value)(ops:Array Oper)(n:Nat)(F:Tr Value)(o:Oper):Option Wd :=
 match o.guard with
 |none=>some .yes
 |some (g,want) =>
  match (ops[g]?).bind (·.dst) with
  |none=>some .no
  |some t =>
   match yW n F t with
   | .map none=>some .no
   |v =>
    match asG v with
    |none=>none
    |some (g,e) =>
     match dec A 60 (dV g (afQ want e)) with
     |some true=>some .yes
     |some false=>some .no
     |none=>some (.grd (dV g (afQ want e)))
theorem ajF{V:Ren}{v u g e:Value}(h:SR V v u)(hv:v≠.map none)(hg:asG v=some (g,e)) :
    ∃ (tg te:TB),g=tg.enc/\e=te.enc/\tg.ok V.length=true/\te.ok V.length=true/\(tg.den V=true->u=.bool (te.den V))/\(tg.den V=false->u=undef):=by
 rcases h with h|⟨rfl,_⟩|⟨tg,x,rfl,h2,h3,h4,h5⟩
 .unfold asG at hg
  split at hg
  .exfalso
   generalize hz:(Value.func (.yield 5) ⟨[_,_]⟩ _)=z at h
   cases h<;>try cases hz
   rename_i h0 _ _ _ _
   cases h0
  .split at hg
   .rename_i e' he
    cases hg
    obtain⟨t,rfl,h1,rfl⟩:=xJ h he
    exact⟨.lit true,t,rfl,rfl,rfl,h1,fun _=>rfl,fun hf=>by simp[TB.den]at hf⟩
   .cases hg
 .exact (hv rfl).elim
 .simp only[asG]at hg
  split at hg
  .rename_i e' he
   cases hg
   by_cases ht:tg.den V=true
   .obtain⟨t,rfl,h1,rfl⟩:=xJ (h3 ht) he
    exact⟨tg,t,rfl,rfl,h2,h1,fun _=>rfl,fun hf=>by rw[ht]at hf;cases hf⟩
   .have ht':tg.den V=false:=by cases h:tg.den V<;>simp_all
    have hu:=h4 ht'
    obtain⟨t,rfl,h1⟩:=h5 _ he
    exact⟨tg,t,rfl,rfl,h2,h1,fun hf=>absurd hf ht,fun _=>hu⟩
  .cases hg
theorem tB{V:Ren}{ops:Array Oper}{n:Nat}{F:Tr Value}{a:Act}{o:Oper}{A:List Value}(hA:Facts V A)(hsz:a.tmps.size=n)(h:∀ t,t∈o.looksAt ops->rO V n F a t){r:Wd}(hw:uM A ops n F o=some r) :
    ∃ t:TB,t.ok V.length=true/\Region.wanted o (yielded ops a.tmps)=t.den V/\(r=.yes->t.den V=true)/\(r=.no->t.den V=false)/\∀ c,r=.grd c->c=t.enc:=by
 unfold uM at hw
 unfold Region.wanted
 split at hw
 .rename_i hg
  cases hw
  simp only[hg]
  exact⟨.lit true,rfl,rfl,fun _=>rfl,(fun h=>by cases h),fun _ h=>by cases h⟩
 .rename_i g want hg
  simp only[hg]
  split at hw
  .rename_i hd
   cases hw
   refine⟨.lit false,rfl,?_,(fun h=>by cases h),fun _=>rfl,fun _ h=>by cases h⟩
   simp only[yielded,hd,Option.bind_none]
   rfl
  .rename_i t hd
   have hs:rO V n F a t:=h t (by simp[Oper.looksAt,hg,hd])
   simp only[yielded,hd,Option.bind_some]
   cases hu:a.tmps[t]? with
   |none =>
    have ht:¬ t<n:=by
     intro hlt;rw[Array.getElem?_eq_getElem (by rw[hsz];exact hlt)]at hu;cases hu
    unfold yW at hw
    rw[if_neg ht]at hw
    simp[asG,asB]at hw
   |some u =>
    have hsr:=hs u hu
    split at hw
    .rename_i hr
     cases hw
     rw[hr]at hsr
     refine⟨.lit false,rfl,?_,(fun h=>by cases h),fun _=>rfl,fun _ h=>by cases h⟩
     rcases hsr with h1|⟨_,rfl⟩|⟨_,_,h1,_⟩
     .cases h1
     .cases want<;>rfl
     .cases h1
    .rename_i hne
     split at hw
     .cases hw
     rename_i g' e hge
     obtain⟨tg,te,rfl,rfl,k1,k2,k3,k4⟩:=ajF hsr hne hge
     obtain⟨tw,w1,w2,w3⟩:∃ tw:TB,afQ want te.enc=tw.enc/\tw.ok V.length=true/\tw.den V=(te.den V == want):=by
      unfold afQ;cases want with
      |true=>exact⟨te,rfl,k2,by simp⟩
      |false =>
       obtain⟨r,r1,r2,r3⟩:=yJ te;exact⟨r,by simpa using r1,r2 _ k2,by rw[r3];simp⟩
     rw[w1]at hw
     obtain⟨tc,c1,c2,c3⟩:=pF tg tw
     rw[c1]at hw
     refine⟨tc,c2 _ k1 w2,?_,?_⟩
     .rw[c3,w3]
      by_cases ht:tg.den V=true
      .rw[k3 ht,ht]
       cases te.den V<;>cases want<;>rfl
      .have ht':tg.den V=false:=by cases h:tg.den V<;>simp_all
       rw[k4 ht',ht']
       cases want<;>rfl
     .split at hw
      .rename_i hdec;cases hw
       exact⟨fun _=>yV hA 60 tc _ hdec,(fun h=>by cases h),fun _ h=>by cases h⟩
      .rename_i hdec;cases hw
       exact⟨(fun h=>by cases h),fun _=>yV hA 60 tc _ hdec,fun _ h=>by cases h⟩
      .cases hw
       exact⟨(fun h=>by cases h),(fun h=>by cases h),fun c h=>by cases h;rfl⟩
abbrev yN:=List Value->FuncId->List Value->AS->Option (Value × AS)
def xH(P:Program)(G:Gl)(call:yN):Prop :=
 (∀ A f args H v H',G.pu f=true->call A f args H=some (v,H')->H'=H) /\
 ∀ (w0:W0) (V:Ren) (H:AS) (w:World) (A:List Value) (f:FuncId) (args:List Value) (args':Array Value) (v:Value) (H':AS),
  HR w0 V H w->Gok { g:=G.g,A:=A,pu:=G.pu } V->VRs V args args'.toList->call A f args H=some (v,H')->Calls P f args' w fun e w'=>∃ (γ:Ren) (u:Value),e=.returned u/\HR w0 (V++γ) H' w'/\VR (V++γ) v u
def awS(a b:Value):Value :=
 match a,b with
 | .bool false,b=>b
 | .bool true,_=>.bool true
 |a,.bool false=>a
 |_,.bool true=>.bool true
 |a,b=>nd2 37 a b
theorem fF(s t:TB):∃ r:TB,awS s.enc t.enc=r.enc/\(∀ n,s.ok n=true->t.ok n=true->r.ok n=true)/\∀ V,r.den V=(s.den V || t.den V):=by
 generalize hs:s.enc=a;generalize ht:t.enc=b;unfold awS;split
 .obtain rfl:=wC hs;exact⟨t,ht.symm,fun _ _ h=>h,fun V=>by simp[TB.den]⟩
 .obtain rfl:=wC hs;exact⟨.lit true,rfl,fun _ _ _=>rfl,fun V=>by simp[TB.den]⟩
 .obtain rfl:=wC ht;exact⟨s,hs.symm,fun _ h _=>h,fun V=>by simp[TB.den]⟩
 .obtain rfl:=wC ht;exact⟨.lit true,rfl,fun _ _ _=>rfl,fun V=>by simp[TB.den]⟩
 .exact⟨.or s t,by simp only[TB.enc,hs,ht],fun n h h'=>by simp[TB.ok,h,h'],fun _=>rfl⟩
def ap9(c a b:Value):Value :=
 match a,b with
 | .bool true,b=>awS c b
 |a,.bool false=>dV c a
 | .bool false,b=>dV (vB c) b
 |a,.bool true=>awS (vB c) a
 |a,b=>nd3 38 c a b
theorem O2(c s t:TB):∃ r:TB,ap9 c.enc s.enc t.enc=r.enc/\(∀ n,c.ok n=true->s.ok n=true->t.ok n=true->r.ok n=true)/\∀ V,r.den V=if c.den V then s.den V else t.den V:=by
 obtain⟨nc,n1,n2,n3⟩:=yJ c;generalize hs:s.enc=a;generalize ht:t.enc=b;unfold ap9;split
 .obtain rfl:=wC hs;obtain⟨r,r1,r2,r3⟩:=fF c t;exact⟨r,by rw[<-ht];exact r1,fun n h _ h'=>r2 n h h',fun V=>by rw[r3];cases h:c.den V<;>simp[TB.den]⟩
 .obtain rfl:=wC ht;obtain⟨r,r1,r2,r3⟩:=pF c s;exact⟨r,by rw[<-hs];exact r1,fun n h h' _=>r2 n h h',fun V=>by rw[r3];cases h:c.den V<;>simp[TB.den]⟩
 .obtain rfl:=wC hs;rw[n1];obtain⟨r,r1,r2,r3⟩:=pF nc t;exact⟨r,by rw[<-ht];exact r1,fun n h _ h'=>r2 n (n2 n h) h',fun V=>by rw[r3,n3];cases h:c.den V<;>simp[TB.den]⟩
 .obtain rfl:=wC ht;rw[n1];obtain⟨r,r1,r2,r3⟩:=fF nc s;exact⟨r,by rw[<-hs];exact r1,fun n h h' _=>r2 n (n2 n h) h',fun V=>by rw[r3,n3];cases h:c.den V<;>simp[TB.den]⟩
 .exact⟨.ite c s t,by simp only[TB.enc,hs,ht],fun n h h' h2=>by simp[TB.ok,h,h',h2],fun _=>rfl⟩
def bV(e:Value):Value:=match e with
 | .bool b=>.bool b
 |e=>sB e
theorem aaB{V:Ren}(t:TB)(h:t.ok V.length=true):VR V (bV t.enc) (.bool (t.den V)):=by
 unfold bV;split
 .rename_i b hb;obtain rfl:=wC hb;exact .bool b
 .exact .symB t h
def iT(G:Gl)(n:Nat)(F:Tr Value)(c a b:Operand):Option Value :=
 match aev G n F c with
 | .bool r=>some (aev G n F (if r then a else b))
 |v =>
  match asB v with
  |none=>none
  |some e =>
   match dec G.A 60 e with
   |some r=>some (aev G n F (if r then a else b))
   |none =>
    match asB (aev (G.add e) n F a),asB (aev (G.add (vB e)) n F b) with
    |some ea,some eb=>if wfB 60 G.m ea=true/\wfB 60 G.m eb=true then some (bV (ap9 e ea eb)) else none
    |_,_=>none
theorem lR{V:Ren}{n:Nat}{F:Tr Value}{a:Act}{G:Gl}(hG:Gok G V)(hsz:a.tmps.size=n){c x y:Operand}(hs:∀ t,c=.tmp t\/x=.tmp t\/y=.tmp t->rO V n F a t){v:Value}(h:iT G n F c x y=some v) :
    ∃ q:Bool,a.eval c=.bool q/\VR V v (if q then a.eval x else a.eval y):=by
 have hc:=y9 hG hsz c (fun t ht=>hs t (.inl ht))
 unfold iT at h
 split at h
 .rename_i r hr
  cases h
  rw[hr]at hc
  refine⟨r,hc.eq_of_ground rfl,?_⟩
  cases r with
  |true=>exact y9 hG hsz x (fun t ht=>hs t (.inr (.inl ht)))
  |false=>exact y9 hG hsz y (fun t ht=>hs t (.inr (.inr ht)))
 .split at h
  .cases h
  rename_i e he
  obtain⟨te,rfl,e1,e2⟩:=xJ hc he
  split at h
  .rename_i r hr
   cases h
   have hd:=yV hG.2 60 te r hr
   refine⟨r,by rw[e2,hd],?_⟩
   cases r with
   |true=>exact y9 hG hsz x (fun t ht=>hs t (.inr (.inl ht)))
   |false=>exact y9 hG hsz y (fun t ht=>hs t (.inr (.inr ht)))
  split at h
  rotate_left
  .cases h
  rename_i ea eb ha hb
  split at h
  rotate_left
  .cases h
  rename_i hwf
  cases h
  obtain⟨ta,rfl,a0⟩:=(yX 60 G.m ea).2.2 hwf.1
  obtain⟨tb,rfl,b0⟩:=(yX 60 G.m eb).2.2 hwf.2
  have a1:=TB.ok_app _ _ hG.1.2 ta a0
  have b1:=TB.ok_app _ _ hG.1.2 tb b0
  obtain⟨r,r1,r2,r3⟩:=O2 te ta tb
  refine⟨te.den V,e2,?_⟩
  rw[r1]
  have key:(if te.den V then a.eval x else a.eval y)=.bool (r.den V):=by
   rw[r3];by_cases ht:te.den V=true
   .rw[if_pos ht,if_pos ht];obtain⟨ta',q1,_,q2⟩:=xJ (y9 (hG.add te e1 ht) hsz x (fun t ht=>hs t (.inr (.inl ht)))) ha;rw[q2,TB.inj _ _ q1]
   .rw[if_neg ht,if_neg ht];obtain⟨tn,m1,m2,m3⟩:=yJ te;have ht':te.den V=false:=by cases h:te.den V<;>simp_all
    rw[m1]at hb;obtain⟨tb',q1,_,q2⟩:=xJ (y9 (hG.add tn (m2 _ e1) (by rw[m3,ht'];rfl)) hsz y (fun t ht=>hs t (.inr (.inr ht)))) hb;rw[q2,TB.inj _ _ q1]
  rw[key]
  exact aaB r (r2 _ e1 a1 b1)
def av2(o:Oper):Bool:=match o.op with
 | .makeSlice ..=>true
 |_=>false
def forget(ops:Array Oper)(o:Oper):Bool:=av2 o&&Nat.ble 3 (ops.toList.filter av2).length
def abN:AS:={ heap:=Tr.e,size:=0 }
theorem ahU(w:World):HR (W0.of w) [] abN w:=by
 refine⟨rfl,by show 0<=2 ^ 20;decide,?_,?_,Kept.refl _⟩
 .intro B b hg;have:=AS.get_lt hg;exact absurd this (by show ¬ B<0;omega)
 .intro B B' b b' hg;have:=AS.get_lt hg;exact absurd this (by show ¬ B<0;omega)
theorem HR.later{w0:W0}{V:Ren}{H:AS}{w w':World}(h:HR w0 V H w)(hb:RowKit.Below w.heap.size w w'):HR w0 V H w':=by
 refine⟨h.len,h.big,?_,h.inj,h.below.trans hb⟩;intro B b hg hl;obtain⟨c,s,C,fr,h1,⟨el,h2,hel⟩,h3⟩:=h.blk B b hg hl;have hc:c<w.heap.size:=by
  rcases Nat.lt_or_ge c w.heap.size with hlt|hge
  .exact hlt
  .rw[Array.getElem?_eq_none hge]at h2;cases h2
 exact⟨c,s,C,fr,h1,⟨_,by rw[hb.block c hc];exact h2,hel⟩,h3⟩
def avT(o:Oper):Bool :=
 match o.op with
 | .move _ | .build .. | .nilCheck _ | .binOp .. | .unOp .. | .makeInterface .. | .slice .. | .fieldAddr .. | .field .. | .indexAddr .. | .index .. | .extract .. | .load ..=>true
 | .call c=>match c.callee with
  | .builtin .len=>true
  | .builtin .cap=>true
  |_=>false
 |_=>false
def Q4(P:Program)(G:Gl)(call:yN)(ops:Array Oper)(n:Nat)(o:Oper)(F:Tr Value)(H:AS):Option (Value × AS) :=
 match o.op with
 | .pick c a b =>
  match iT G n F c a b with
  |some v=>some (v,H)
  |none=>none
 |_ =>
  match forget ops o with
  |true =>
   if (o.op.operands.toList.all fun x=>zL (aev G n F x)) then
    match aop P [] (aev G n F) abN o with
    |some (.val v _)=>if fW v then some (.chan none,H) else none
    |_=>none
   else none
  |false =>
   match aop P G.A (aev G n F) H o with
   |some (.val v H')=>some (v,H')
   |some (.call f args)=>call G.A f args H
   |none=>none
def kD(P:Program)(G:Gl)(call:yN)(n:Nat)(o:Oper)(F:Tr Value)(H:AS):Option Value :=
 match o.op with
 | .pick x a b=>iT G n F x a b
 |_ =>
  match aop P G.A (aev G n F) H o with
  |some (.val v _)=>if avT o then some v else none
  |some (.call f args)=>if G.pu f then (match call G.A f args H with
   |some (v,_)=>some v
   |none=>none) else none
  |none=>none
def adY(P:Program)(G:Gl)(call:yN)(n:Nat)(o:Oper)(F:Tr Value)(H:AS)(c:Value):Option Value :=
 match kD P (G.add c) call n o F H with
 |none=>none
 |some v =>
  match asB v with
  |some e=>if wfB 60 G.m e then some (gdV c v) else none
  |none=>some (gdV c v)
def wT(P:Program)(G:Gl)(call:yN)(ops:Array Oper)(n:Nat)(o:Oper)(F:Tr Value)(H:AS):Option (Value × AS) :=
 match uM G.A ops n F o with
 |none=>none
 |some .no=>some (.map none,H)
 |some .yes=>Q4 P G call ops n o F H
 |some (.grd c) =>
  match adY P G call n o F H c with
  |some v=>some (v,H)
  |none=>none
theorem pN{P:Program}{A:List Value}{ρ ρ':Operand->Value}{H:AS}(o:Oper)(h:∀ x∈o.op.operands,ρ x=ρ' x):aop P A ρ H o=aop P A ρ' H o:=by
 obtain⟨dst,op,type,pos,after,guard⟩:=o;have pairs:∀ ps:Array (Nat × Operand),(∀ x∈ps.toList.map (·.2),ρ x=ρ' x)->(ps.toList.map fun p=>(p.1,ρ p.2))=(ps.toList.map fun p=>(p.1,ρ' p.2)):=fun ps hp =>
  List.map_congr_left fun p hm=>by rw[hp p.2 (List.mem_map.2 ⟨p,hm,rfl⟩)]
 cases op<;>simp only[Op.operands]at h<;>simp only[aop];case build t ps=>rw[pairs ps fun x hx=>h x (by simpa using hx)]
 case buildSlice t n ps=>rw[pairs ps fun x hx=>h x (by simpa using hx)]
 case makeFunc fn first captured =>
  rw[List.map_congr_left (l:=first.toList) fun x hx=>h x (by simp at hx;simp[hx]),List.map_congr_left (l:=captured.toList) fun x hx=>h x (by simp at hx;simp[hx])]
 case call c =>
  have hargs:c.args.toList.map ρ=c.args.toList.map ρ':=List.map_congr_left fun x hx=>h x (by simp at hx;simp[Call.operands,hx])
  rw[hargs]
  cases hc:c.callee with
  |value f=>have hf:ρ f=ρ' f:=h f (by simp[Call.operands,hc]);simp only[hf]
  |invoke r m=>rfl
  |builtin b=>rfl
 case slice t x lo hi mx =>
  have e0:ρ x=ρ' x:=h x (by simp)
  have e1:lo.map ρ=lo.map ρ':=by cases lo<;>simp_all
  have e2:hi.map ρ=hi.map ρ':=by cases hi<;>simp_all
  have e3:mx.map ρ=mx.map ρ':=by cases mx<;>simp_all
  rw[e0,e1,e2,e3]
 all_goals (first|rfl|(simp_all;done))
theorem wZ{P:Program}{w0:W0}{V:Ren}{H:AS}{w:World}(hN:vJ P)(h:HR w0 V H w){ρ ρ':Operand->Value}{o:Oper}(hρ:∀ x∈o.op.operands,VR V (ρ x) (ρ' x)){r:ARes}{A:List Value}(hA:Facts V A)(hr:aop P A ρ H o=some r) :
    wB P w0 V w (execOp ρ' o) r:=by
 classical
 have e:aop P A ρ H o=aop P A (fun x=>if x∈o.op.operands then ρ x else .tuple #[]) H o:=pN o fun x hx=>by rw[if_pos hx]
 rw[e]at hr
 refine ajA hN h (fun x=>?_) hA hr
 by_cases hx:x∈o.op.operands
 .rw[if_pos hx];exact hρ x hx
 .rw[if_neg hx];exact .any _
theorem akW{P:Program}{A:List Value}{ρ:Operand->Value}{H H':AS}{o:Oper}{v:Value}(hr:avT o=true)(h:aop P A ρ H o=some (.val v H')):H'=H:=by
 obtain⟨dst,op,type,pos,after,guard⟩:=o;have q:∀ {x:Option Value},qv H x=some (.val v H')->H'=H:=by
  intro x hx;unfold qv at hx;simp only[Option.map_eq_some_iff]at hx;obtain⟨_,_,e⟩:=hx;cases e;rfl
 cases op<;>simp only[avT]at hr<;>try (cases hr;done)
 all_goals simp only[aop]at h
 case move=>cases h;rfl
 case slice t x lo hi mx =>
  split at h
  .split at h
   .exact q h
   .cases h
  .exact q h
 case index t x ix =>
  split at h
  .split at h<;>exact q h
  .exact q h
 case call c =>
  split at h
  .rename_i b hb
   rw[hb]at hr
   cases b<;>simp only at hr<;>try (cases hr;done)
   all_goals
    unfold uS at h
    split at h<;>first|exact q h|(rename_i he _;cases he;done)|(cases h;done)|skip
   all_goals simp_all
  .rename_i hb;rw[hb]at hr;cases hr
  .cases h
 all_goals exact q h
theorem aw0{P:Program}{w0:W0}{V:Ren}{H H':AS}{w:World}{a:Act}{n:Nat}{ops:Array Oper}{o:Oper}{F:Tr Value}{G:Gl}{call:yN}{v:Value}{Q:Exit->Act->World->Prop}
    (hN:vJ P) (hC:xH P G call) (h:HR w0 V H w) (hG:Gok G V) (hsz:a.tmps.size=n) (hs:∀ t,t∈o.looksAt ops->rO V n F a t)
    (hst:Q4 P G call ops n o F H=some (v,H')) (K:Act->World->Prop) (hK:∀ (γ:Ren) (u:Value) (w':World),HR w0 (V++γ) H' w'->VR (V++γ) v u\/u=undef/\v=undef->K (a.put o.dst u) w'):o.wp P a w K Q:=by
 have hρ:∀ x∈o.op.operands,VR V (aev G n F x) (a.eval x):=fun x hx=>y9 hG hsz x fun t ht=>hs t (by
  subst ht;exact List.mem_append_left _ (List.mem_filterMap.2 ⟨.tmp t,by simpa using hx,rfl⟩))
 unfold Q4 at hst
 unfold Oper.wp
 split at hst
 .rename_i c x y hop
  split at hst
  rotate_left
  .cases hst
  rename_i v' hp
  cases hst
  obtain⟨q,hq,hv⟩:=lR hG hsz (c:=c) (x:=x) (y:=y) (fun t ht=>hs t (by
   refine List.mem_append_left _ (List.mem_filterMap.2 ?_);rw[hop];rcases ht with rfl|rfl|rfl
   .exact⟨.tmp t,by simp[Op.operands],rfl⟩
   .exact⟨.tmp t,by simp[Op.operands],rfl⟩
   .exact⟨.tmp t,by simp[Op.operands],rfl⟩)) hp
  have hrun:(execOp a.eval o).run P w=.ok (.value (if q then a.eval x else a.eval y)) w:=by
   obtain⟨dst,op,type,pos,after,guard⟩:=o;simp only at hop;subst hop;unfold execOp;dsimp only;rw[hq];simp only[asBool];cases q<;>rfl
  rw[hrun]
  exact hK [] _ w (by rw[List.append_nil];exact h) (.inl (by rw[List.append_nil];exact hv))
 split at hst
 .split at hst
  rotate_left
  .cases hst
  rename_i hg
  split at hst
  rotate_left
  .cases hst
  rename_i v' H2 hop
  split at hst
  rotate_left
  .cases hst
  rename_i hone
  cases hst
  have hρ0:∀ x∈o.op.operands,VR [] (aev G n F x) (a.eval x):=fun x hx=>by
   have h1:zL (aev G n F x)=true:=by
    rw[List.all_eq_true]at hg;exact hg x (by simpa using hx)
   rw[(hρ x hx).eq_of_ground h1];exact VR.of_ground h1
  obtain⟨γ,nx,w',hrun,hr,hval⟩:=wZ hN (ahU w) hρ0 (Facts.nil []) hop
  rw[hrun]
  have hr2:=h.later hr.below.below
  rcases hval with⟨u,rfl,hu⟩|⟨rfl,rfl⟩
  .exact hK [] u w' (by rw[List.append_nil];exact hr2) (.inl (.any1 _ (hu.one_conc hone)))
  .cases hone
 split at hst
 .rename_i v' H2 hop
  cases hst
  obtain⟨γ,nx,w',hrun,hr,hval⟩:=wZ hN h hρ hG.2 hop
  rw[hrun]
  rcases hval with⟨u,rfl,hu⟩|⟨rfl,rfl⟩
  .exact hK γ u w' hr (.inl hu)
  .exact hK γ undef w' hr (.inr ⟨rfl,rfl⟩)
 .rename_i f args hop
  obtain⟨us,hrun,hus⟩:=wZ hN h hρ hG.2 hop
  rw[hrun]
  refine (hC.2 w0 V H w G.A f args us v H' h ⟨⟨hG.1.1,Nat.zero_le _⟩,hG.2⟩ hus hst).mono ?_
  rintro e w' ⟨γ,u,rfl,hr,hu⟩
  exact hK γ u w' hr (.inl hu)
 .cases hst
theorem nP{P:Program}{w0:W0}{V:Ren}{H H':AS}{w:World}{a:Act}{n i:Nat}{ops:Array Oper}{o:Oper}{F:Tr Value}{G:Gl}{call:yN}{v:Value}{Q:Exit->Act->World->Prop}
    (hN:vJ P) (hC:xH P G call) (h:HR w0 V H w) (hG:Gok G V) (hsz:a.tmps.size=n) (hi:ops[i]?=some o) (hs:∀ t,t∈o.looksAt ops->rO V n F a t)
    (hst:wT P G call ops n o F H=some (v,H')) (K:Act->World->Prop) (hK:∀ (γ:Ren) (u:Value) (w':World),HR w0 (V++γ) H' w'->SR (V++γ) v u->K (a.put o.dst u) w'):wpOp P ops Q i K a w:=by
 unfold wpOp
 simp only[hi]
 unfold wT at hst
 split at hst
 .cases hst
 .rename_i hw
  obtain⟨t,t1,t2,t3,t4,t5⟩:=tB hG.2 hsz hs hw
  rw[t2,t4 rfl]
  cases hst
  rw[if_neg (by decide)]
  exact hK [] undef w (by rw[List.append_nil];exact h) (.inr (.inl ⟨rfl,rfl⟩))
 .rename_i hw
  obtain⟨t,t1,t2,t3,t4,t5⟩:=tB hG.2 hsz hs hw
  rw[t2,t3 rfl,if_pos rfl]
  refine .inl (aw0 hN hC h hG hsz hs hst K fun γ u w' h1 h2=>hK γ u w' h1 ?_)
  rcases h2 with h2|⟨rfl,rfl⟩
  .exact .inl h2
  .exact .inl (.any _)
 .rename_i c hw
  obtain⟨t,t1,t2,t3,t4,t5⟩:=tB hG.2 hsz hs hw
  rw[t2]
  obtain rfl:=t5 c rfl
  split at hst
  rotate_left
  .cases hst
  rename_i v' hv
  cases hst
  have hρ:∀ (G':Gl),Gok G' V->∀ x∈o.op.operands,VR V (aev G' n F x) (a.eval x):=fun G' hG' x hx=>y9 hG' hsz x fun t ht=>hs t (by
   subst ht;exact List.mem_append_left _ (List.mem_filterMap.2 ⟨.tmp t,by simpa using hx,rfl⟩))
  unfold adY at hv
  split at hv
  .cases hv
  rename_i v0 hv0
  have slot:∀ (γ:Ren) (u:Value),(t.den V=true->VR (V++γ) v0 u)->(t.den V=false->u=undef)->SR (V++γ) v u:=by
   intro γ u h1 h2;have go:v=gdV t.enc v0->(∀ e,asB v0=some e->∃ q:TB,e=q.enc/\q.ok (V++γ).length=true)->SR (V++γ) v u:=by
    rintro rfl hwf;exact .inr (.inr ⟨t,v0,rfl,TB.ok_app _ _ (by simp) t t1,fun ht=>h1 (by rw[TB.den_app V γ t t1]at ht;exact ht),fun ht=>h2 (by rw[TB.den_app V γ t t1]at ht;exact ht),hwf⟩)
   split at hv
   .rename_i e he;split at hv
    .rename_i hwf;cases hv;refine go rfl fun e' he'=>?_;rw[he]at he';cases he';obtain⟨q,q1,q2⟩:=(yX 60 G.m e).2.2 hwf;exact⟨q,q1,TB.ok_app _ _ (Nat.le_trans hG.1.2 (by simp)) q q2⟩
    .cases hv
   .rename_i he;cases hv;exact go rfl fun e' he'=>by rw[he]at he';cases he'
  by_cases ht:t.den V=true
  .rw[ht,if_pos rfl]
   have hG':=hG.add t t1 ht
   refine .inl ?_
   unfold Oper.wp
   unfold kD at hv0
   split at hv0
   .rename_i c x y hop
    obtain⟨q,hq,hvv⟩:=lR hG' hsz (c:=c) (x:=x) (y:=y) (fun t ht=>hs t (by
     refine List.mem_append_left _ (List.mem_filterMap.2 ?_);rw[hop];rcases ht with rfl|rfl|rfl
     .exact⟨.tmp t,by simp[Op.operands],rfl⟩
     .exact⟨.tmp t,by simp[Op.operands],rfl⟩
     .exact⟨.tmp t,by simp[Op.operands],rfl⟩)) hv0
    have hrun:(execOp a.eval o).run P w=.ok (.value (if q then a.eval x else a.eval y)) w:=by
     obtain⟨dst,op,type,pos,after,guard⟩:=o;simp only at hop;subst hop;unfold execOp;dsimp only;rw[hq];simp only[asBool];cases q<;>rfl
    rw[hrun]
    exact hK [] _ w (by rw[List.append_nil];exact h) (slot [] _ (fun _=>by rw[List.append_nil];exact hvv) (fun hf=>by rw[ht]at hf;cases hf))
   .split at hv0
    .rename_i v1 H1 hop
     split at hv0
     rotate_left
     .cases hv0
     rename_i hrd
     cases hv0
     obtain rfl:=akW hrd hop
     obtain⟨γ,nx,w',hrun,hr,hval⟩:=wZ hN h (hρ _ hG') hG'.2 hop
     rw[hrun]
     rcases hval with⟨u,rfl,hu⟩|⟨rfl,rfl⟩
     .exact hK γ u w' hr (slot γ u (fun _=>hu) (fun hf=>by rw[ht]at hf;cases hf))
     .exact hK γ undef w' hr (slot γ undef (fun _=>.any _) (fun _=>rfl))
    .rename_i f args hop
     split at hv0
     rotate_left
     .cases hv0
     rename_i hpu
     split at hv0
     rotate_left
     .cases hv0
     rename_i v1 H1 hcall
     cases hv0
     obtain rfl:=hC.1 _ _ _ _ _ _ hpu hcall
     obtain⟨us,hrun,hus⟩:=wZ hN h (hρ _ hG') hG'.2 hop
     rw[hrun]
     refine (hC.2 w0 V _ w _ f args us _ _ h ⟨⟨hG'.1.1,Nat.zero_le _⟩,hG'.2⟩ hus hcall).mono ?_
     rintro e w' ⟨γ,u,rfl,hr,hu⟩
     exact hK γ u w' hr (slot γ u (fun _=>hu) (fun hf=>by rw[ht]at hf;cases hf))
    .cases hv0
  .have ht':t.den V=false:=by cases h:t.den V<;>simp_all
   rw[ht',if_neg (by decide)]
   exact hK [] undef w (by rw[List.append_nil];exact h) (slot [] undef (fun hf=>by rw[ht']at hf;cases hf) (fun _=>rfl))
structure FS(V:Ren)(n:Nat)(F:Tr Value)(a:Act):Prop where
 size:a.tmps.size=n
 small:n<=2 ^ 12
 slot:∀ t,rO V n F a t
 nodef:a.defers=[]
theorem FS.mono{V γ:Ren}{n:Nat}{F:Tr Value}{a:Act}(h:FS V n F a):FS (V++γ) n F a:=⟨h.size,h.small,fun t u hu=>(h.slot t u hu).mono,h.nodef⟩
theorem nU(a:Act)(dst:Option Tmp)(u:Value):(a.put dst u).tmps.size=a.tmps.size:=by cases dst<;>simp[Act.put]
theorem kV(a:Act)(dst:Option Tmp)(u:Value):(a.put dst u).defers=a.defers:=by cases dst<;>rfl
theorem FS.put{V:Ren}{n:Nat}{F F':Tr Value}{a:Act}(h:FS V n F a){dst:Option Tmp}{v u:Value}(hp:sU n F dst v=some F')(hv:SR V v u):FS V n F' (a.put dst u):=by
 cases dst with
 |none=>simp only[sU,Option.some.injEq]at hp;subst hp;exact h
 |some d =>
  simp only[sU]at hp;split at hp
  .rename_i hd;have hd':@LT.lt Nat _ d n:=hd;have hsm:=h.small;simp only[Option.some.injEq]at hp;subst hp;refine⟨by rw[nU,h.size],h.small,?_,by rw[kV,h.nodef]⟩;intro t x hx;by_cases hdt:d=t
   .subst hdt;simp only[Act.put]at hx;rw[Array.getElem?_setIfInBounds_self_of_lt (by rw[h.size];exact hd)]at hx;cases hx;unfold yW;rw[if_pos hd',Tr.get_set];exact hv
   .simp only[Act.put]at hx;rw[Array.getElem?_setIfInBounds_ne hdt]at hx;have:=h.slot t x hx;unfold yW at this ⊢;split
    .rename_i ht;rw[if_pos ht]at this;rw[Tr.get_set_ne v d t DF F (uK 12 d t (by omega) (by omega) hdt)];exact this
    .rename_i ht;rw[if_neg ht]at this;exact this
  .cases hp
def kO(P:Program)(G:Gl)(call:yN)(ops:Array Oper)(n:Nat):List Oper->Tr Value->AS->Option (Tr Value × AS)
 |[],F,H=>some (F,H)
 |o::rest,F,H =>
  match wT P G call ops n o F H with
  |none=>none
  |some (v,H') =>
   match sU n F o.dst v with
   |none=>none
   |some F'=>kO P G call ops n rest F' H'
theorem jQ{P:Program}{w0:W0}{G:Gl}{call:yN}{ops:Array Oper}{n:Nat}{Q:Exit->Act->World->Prop}(hN:vJ P)(hC:xH P G call)(R:Tr Value)(HE:AS) :
    ∀ (l:List Oper) (k:Nat) (V:Ren) (F:Tr Value) (H:AS) (a:Act) (w:World),ops.toList.drop k=l->HR w0 V H w->Gok G V->FS V n F a->kO P G call ops n l F H=some (R,HE) ->
     (∀ (γ:Ren) (a':Act) (w':World),HR w0 (V++γ) HE w'->FS (V++γ) n R a'->Q .normal a' w')->wpOps P ops Q (List.range' k l.length) a w
 |[],k,V,F,H,a,w,hl,h,hG,hF,hr,hQ=>by
  simp only[kO,Option.some.injEq,Prod.mk.injEq]at hr;obtain⟨rfl,rfl⟩:=hr;exact hQ [] a w (by rw[List.append_nil];exact h) (by rw[List.append_nil];exact hF)
 |o::rest,k,V,F,H,a,w,hl,h,hG,hF,hr,hQ=>by
  have hk:ops[k]?=some o:=by
   rw[<-Array.getElem?_toList];have:=congrArg (fun l=>l[0]?) hl;simpa using this
  simp only[kO]at hr;split at hr
  .cases hr
  .rename_i v H' hst;split at hr
   .cases hr
   .rename_i F' hp;rw[List.length_cons,List.range'_succ,wpOps_cons];refine nP hN hC h hG hF.size hk (fun t _=>hF.slot t) hst _ ?_;intro γ u w' hr' hu;refine jQ hN hC R HE rest (k+1) (V++γ) F' H' _ w' ?_ hr' hG.mono (hF.mono.put hp hu) hr ?_
    .rw[<-List.tail_drop,hl];rfl
    .intro γ' a' w'' h1 h2;exact hQ (γ++γ') a' w'' (by rw[<-List.append_assoc];exact h1) (by rw[<-List.append_assoc];exact h2)
end
noncomputable section
def cls(P:Program)(pu:FuncId->Bool)(o:Oper):Nat :=
 match o.op with
 | .move _ | .assign _ | .pick .. | .build .. | .nilCheck _ | .binOp .. | .unOp .. | .makeInterface .. | .makeFunc .. | .slice .. | .fieldAddr .. | .field .. | .indexAddr .. | .index .. | .extract ..=>0
 | .load ..=>1
 | .convert src dst _ =>
  match P.underlying src,P.underlying dst with
  |some (.slice _),some .string=>1
  |some _,some (.slice _)=>2
  |some _,some _=>0
  |_,_=>2
 | .call c =>
  match c.callee with
  | .builtin .len=>0
  | .builtin .cap=>0
  | .value (.func f)=>if pu f then 1 else 2
  |_=>2
 |_=>2
theorem sO{H:AS}{x:Option Value}{r:ARes}(h:qv H x=some r):∃ v,x=some v/\r=.val v H:=by
 unfold qv at h;simp only[Option.map_eq_some_iff]at h;obtain⟨v,h1,h2⟩:=h;exact⟨v,h1,h2.symm⟩
theorem aNF{H:AS}{a b:Option Value}:orO (qv H a) (qv H b)=qv H (orO a b):=by cases a<;>rfl
theorem rA{P:Program}{A:List Value}{pu:FuncId->Bool}{ρ:Operand->Value}{H:AS}{o:Oper}{r:ARes}(hc:cls P pu o=0)(h:aop P A ρ H o=some r):∃ v,r=.val v H/\∀ H2,aop P A ρ H2 o=some (.val v H2):=by
 obtain⟨dst,op,type,pos,after,guard⟩:=o;have q:∀ {x:Option Value} {f:AS->Option ARes},(∀ H2,f H2=qv H2 x)->f H=some r->∃ v,r=.val v H/\∀ H2,f H2=some (.val v H2):=by
  intro x f hf h;rw[hf]at h;obtain⟨v,h1,h2⟩:=sO h;exact⟨v,h2,fun H2=>by rw[hf,h1];rfl⟩
 cases op<;>simp only[cls]at hc<;>try (cases hc;done)
 case move x=>simp only[aop]at h ⊢;cases h;exact⟨_,rfl,fun _=>rfl⟩
 case assign x=>simp only[aop]at h ⊢;cases h;exact⟨_,rfl,fun _=>rfl⟩
 case pick c a b =>
  simp only[aop]at h ⊢
  cases hρ:ρ c<;>simp only[hρ]at h ⊢ <;> first|(cases h;done)|(cases h;exact⟨_,rfl,fun _=>rfl⟩)
 case build t ps=>exact q (f:=fun H=>aop P A ρ H _) (fun _=>rfl) h
 case nilCheck x=>exact q (f:=fun H=>aop P A ρ H _) (fun _=>rfl) h
 case binOp=>exact q (f:=fun H=>aop P A ρ H _) (fun _=>rfl) h
 case unOp=>exact q (f:=fun H=>aop P A ρ H _) (fun _=>rfl) h
 case makeInterface=>exact q (f:=fun H=>aop P A ρ H _) (fun _=>rfl) h
 case makeFunc =>
  simp only[aop]at h ⊢
  split at h
  .rename_i hy;cases h;exact⟨_,rfl,fun _=>by rw[if_pos hy]⟩
  .cases h
 case slice t x lo hi mx =>
  simp only[aop]at h ⊢
  cases hx:ρ x<;>simp only[hx]at h ⊢ <;> first
   |(exact q (f:=fun H=>qv H _) (fun _=>rfl) h)
   | (split at h
      .rename_i hg;obtain⟨v,h1,h2⟩:=sO h;exact⟨v,h2,fun H2=>by rw[if_pos hg,h1];rfl⟩
      .cases h)
 case fieldAddr=>exact q (f:=fun H=>aop P A ρ H _) (fun _=>rfl) h
 case field=>exact q (f:=fun H=>aop P A ρ H _) (fun _=>rfl) h
 case indexAddr=>exact q (f:=fun H=>aop P A ρ H _) (fun _=>rfl) h
 case index t x ix =>
  simp only[aop]at h ⊢
  cases hx:ρ x<;>simp only[hx]at h ⊢ <;> first
   |(exact q (f:=fun H=>qv H _) (fun _=>rfl) h)
   | (split at h
      .rename_i hg;obtain⟨v,h1,h2⟩:=sO h;exact⟨v,h2,fun H2=>by rw[if_pos hg,h1];rfl⟩
      .rename_i hg;obtain⟨v,h1,h2⟩:=sO h;exact⟨v,h2,fun H2=>by rw[if_neg hg,h1];rfl⟩)
 case extract=>exact q (f:=fun H=>aop P A ρ H _) (fun _=>rfl) h
 case convert src dst x =>
  have key:∀ H2,gK P A H2 src dst (ρ x)=qv H2 (orO (bW P src dst (ρ x)) (bZ P A src dst (ρ x))):=by
   intro H2;split at hc<;>try (cases hc;done)
   rename_i a b hnb hna hs hd;rw[<-aNF];unfold gK;congr 1
   .unfold hP;rw[hs,hd];split
    .rename_i h1 h2 _;cases h2;first|exact (hnb _ rfl).elim|exact (hna _ rfl).elim
    .rename_i h1 h2 _;cases h1;cases h2;first|exact (hnb _ rfl rfl).elim|exact (hna _ rfl rfl).elim
    .rename_i h1 h2 _;cases h2;first|exact (hnb _ rfl).elim|exact (hna _ rfl).elim
    .rfl
   .unfold bH;rw[hs,hd];split
    .rename_i h1 h2;cases h1;cases h2;first|exact (hnb _ rfl rfl).elim|exact (hna _ rfl rfl).elim
    .rename_i h1 h2;cases h2;first|exact (hnb _ rfl).elim|exact (hna _ rfl).elim
    .rfl
  simp only[aop,key]at h ⊢
  obtain⟨v,h1,h2⟩:=sO h
  exact⟨v,h2,fun H2=>by rw[h1];rfl⟩
 case call c =>
  simp only[aop]at h ⊢
  have one:∀ (g:List Value->Option Value) (l:List Value) (f:AS->List Value->Option ARes),(∀ H2 x,f H2 [x]=qv H2 (g [x]))->(∀ H2 l,(∀ x,l≠[x])->f H2 l=none)->f H l=some r->∃ v,r=.val v H/\∀ H2,f H2 l=some (.val v H2):=by
   intro g l f h1 h2 h3;by_cases hl:∃ x,l=[x]
   .obtain⟨x,rfl⟩:=hl;rw[h1]at h3;obtain⟨v,a1,a2⟩:=sO h3;exact⟨v,a2,fun H2=>by rw[h1,a1];rfl⟩
   .rw[h2 H l (fun x hx=>hl ⟨x,hx⟩)]at h3;cases h3
  cases hcal:c.callee with
  |value f =>
   simp only[hcal]at hc
   cases f<;>simp only at hc<;>first|(cases hc;done)|(split at hc<;>cases hc)
  |invoke=>simp only[hcal]at hc;cases hc
  |builtin b =>
   simp only[hcal]at h hc ⊢
   cases b<;>simp only at hc<;>try (cases hc;done)
   .refine one (fun l=>orO (avJ P c.argTypes (l.getD 0 undef)) (ahD P c.argTypes (l.getD 0 undef))) _ (fun H l=>uS P A H .cap c.argTypes l) (fun H2 x=>rfl) ?_ h
    intro H2 l hl
    unfold uS
    split<;>simp_all
   .refine one (fun l=>orO (awQ P c.argTypes (l.getD 0 undef)) (afJ P c.argTypes (l.getD 0 undef))) _ (fun H l=>uS P A H .len c.argTypes l) (fun H2 x=>rfl) ?_ h
    intro H2 l hl
    unfold uS
    split<;>simp_all
theorem aeM{P:Program}{A:List Value}{H:AS}{src dst e:TypeId}{x:Value}{r:ARes}(hs:P.underlying src=some (.slice e))(hd:P.underlying dst=some .string)(h:gK P A H src dst x=some r):∃ v,r=.val v H:=by
 unfold gK at h;rcases wH h with h'|h'
 .unfold hP at h';rw[hs,hd]at h';replace h:=h';clear h';split at h
  .rename_i h2;cases h2
  .split at h
   .obtain⟨v2,_,h2⟩:=sO h;exact⟨v2,h2⟩
   .cases h
  .rename_i _ h2;cases h2
  .obtain⟨v2,_,h2⟩:=sO h;exact⟨v2,h2⟩
 .unfold bH at h';rw[hs,hd]at h';replace h:=h';clear h';simp only at h;split at h
  .obtain⟨v2,_,h2⟩:=sO h;exact⟨v2,h2⟩
  .cases h
def v7(P:Program)(pu:FuncId->Bool)(ops:Array Oper)(o:Oper):Nat:=match forget ops o with
 |true=>0
 |false=>cls P pu o
theorem kC{P:Program}{A:List Value}{pu:FuncId->Bool}{G:Gl}{n:Nat}{o:Oper}{F:Tr Value}{H:AS}{r:ARes}(hc:cls P pu o<=1)(hop:aop P A (aev G n F) H o=some r) :
    (∃ v,r=.val v H)\/∃ f args,r=.call f args/\pu f=true:=by
 rcases Nat.lt_or_ge (cls P pu o) 1 with hlt|hge
 .obtain⟨v2,h2,_⟩:=rA (pu:=pu) (by omega) hop
  exact .inl ⟨v2,h2⟩
 have hc1:cls P pu o=1:=by omega
 obtain⟨dst,op,type,pos,after,guard⟩:=o
 cases op<;>simp only[cls]at hc1<;>try (cases hc1;done)
 case load t a =>
  simp only[aop]at hop
  obtain⟨v2,_,h2⟩:=sO hop
  exact .inl ⟨v2,h2⟩
 case convert src dst x =>
  split at hc1<;>try (cases hc1;done)
  rename_i hs hd
  exact .inl (aeM hs hd hop)
 case call c =>
  simp only[aop]at hop
  cases hcal:c.callee with
  |invoke=>simp only[hcal]at hc1;cases hc1
  |builtin b=>simp only[hcal]at hc1;cases b<;>simp only at hc1<;>cases hc1
  |value fo =>
   simp only[hcal]at hc1 hop
   cases fo<;>simp only at hc1<;>try (cases hc1;done)
   case func g =>
    split at hc1
    .rename_i hpu
     simp only[aev,jJ]at hop
     split at hop
     .split at hop
      .cases hop;exact .inr ⟨_,_,rfl,hpu⟩
      .cases hop
     .cases hop
    .cases hc1
theorem pE{P:Program}{pu:FuncId->Bool}{G:Gl}{call:yN}{ops:Array Oper}{n:Nat}{o:Oper}{F:Tr Value}{H H':AS}{v:Value}
    (hp:∀ A f args H v H',pu f=true->call A f args H=some (v,H')->H'=H) (hc:v7 P pu ops o<=1) (h:wT P G call ops n o F H=some (v,H')):H'=H:=by
 unfold wT at h
 split at h
 .cases h
 .cases h;rfl
 .unfold Q4 at h
  unfold v7 at hc
  split at h
  .split at h
   .cases h;rfl
   .cases h
  split at h
  .split at h
   rotate_left
   .cases h
   split at h
   .split at h
    .cases h;rfl
    .cases h
   .cases h
  rename_i hf
  rw[hf]at hc
  split at h
  .rename_i v' H2 hop
   cases h
   rcases kC hc hop with⟨v2,h2⟩|⟨f,args,h2,_⟩
   .cases h2;rfl
   .cases h2
  .rename_i f args hop
   rcases kC hc hop with⟨v2,h2⟩|⟨f,args,h2,hpu⟩
   .cases h2
   .cases h2;exact hp _ _ _ _ _ _ hpu h
  .cases h
 .split at h
  .cases h;rfl
  .cases h
theorem gR{P:Program}{pu:FuncId->Bool}{G:Gl}{call:yN}{ops:Array Oper}{n:Nat}{o:Oper}{F:Tr Value}{H H':AS}{v:Value}
    (hc:v7 P pu ops o=0) (h:wT P G call ops n o F H=some (v,H')) (H2:AS):wT P G call ops n o F H2=some (v,H2):=by
 unfold wT at h ⊢
 split at h
 .cases h
 .cases h;rfl
 .unfold Q4 at h ⊢
  unfold v7 at hc
  split at h
  .split at h
   .cases h;rfl
   .cases h
  split at h
  .split at h
   rotate_left
   .cases h
   rename_i hg
   split at h
   rotate_left
   .cases h
   rename_i v' H3 hop
   split at h
   rotate_left
   .cases h
   rename_i hone
   cases h
   rw[if_pos hg]
   simp only[if_pos hone]
  rename_i hf
  rw[hf]at hc
  split at h
  .rename_i v' H3 hop
   cases h
   obtain⟨v2,h2,h3⟩:=rA hc hop
   cases h2
   simp only[h3 H2]
  .rename_i f args hop
   obtain⟨v2,h2,_⟩:=rA hc hop
   cases h2
  .cases h
 .rename_i c hw
  split at h
  rotate_left
  .cases h
  rename_i v' hv
  cases h
  suffices hs:adY P G call n o F H2 c=some v by simp only[hs]
  unfold adY at hv ⊢
  have key:∀ {G:Gl} {v0:Value},kD P G call n o F H=some v0->kD P G call n o F H2=some v0:=by
   intro G v0 hv0;unfold kD at hv0 ⊢;split at hv0
   .exact hv0
   ·have hcls : cls P pu o = 0 := by
      unfold v7 at hc;split at hc
      .rename_i hfg;exfalso;unfold forget at hfg;rw[Bool.and_eq_true]at hfg;have hmk:=hfg.1;unfold av2 at hmk;split at hmk
       .rename_i hop;split at hv0
        .split at hv0
         .rename_i hrd;unfold avT at hrd;rw[hop]at hrd;cases hrd
         .cases hv0
        .rename_i hop2;unfold aop at hop2;rw[hop]at hop2;simp only[mv,Option.map_eq_some_iff]at hop2;obtain⟨_,_,e⟩:=hop2;cases e
        .cases hv0
       .cases hmk
      .exact hc
    split at hv0
    .rename_i v1 H1 hop;obtain⟨v2,h2,h3⟩:=rA hcls hop;cases h2;simp only[h3 H2];exact hv0
    .rename_i f args hop;obtain⟨v2,h2,_⟩:=rA hcls hop;cases h2
    .cases hv0
  split at hv
  .cases hv
  .rename_i v0 hv0
   rw[key hv0]
   exact hv
end
end Go.SM
