-- the statement of this claim: see YtoamgocecoiggaaDoorRs
import Derived.Test.YtoamgocecoiggaaDoorM4
set_option linter.unusedVariables false
set_option linter.unusedSimpArgs false
set_option maxRecDepth 100000
noncomputable section
namespace Go.SM
noncomputable section
def asL:Value->Option (Nat × Value × Value × Value)
 | .func (.yield 4) ⟨[.int _ B,o,n,c]⟩ _=>some (B.toNat,o,n,c)
 |_=>none
structure SlOk(V:Ren)(B:Nat)(o n c:TI)(b s:Nat):Prop where
 home:hm V B=some (b,s)
 oko:o.ok V.length=true
 okn:n.ok V.length=true
 okc:c.ok V.length=true
 o0:0<=o.den V
 n0:0<=n.den V
 nc:n.den V<=c.den V
 nb:n.den V<=2 ^ 50
 cb:c.den V<2 ^ 63
theorem SlOk.vr{V:Ren}{B:Nat}{o n c:TI}{b s:Nat}(h:SlOk V B o n c b s):VR V (sL B o.enc n.enc c.enc) (.slice (some ⟨b,(o.den V).toNat+s,none⟩) (n.den V).toNat (c.den V).toNat) :=
 .symL B o n c b s h.home h.oko h.okn h.okc h.o0 h.n0 h.nc ⟨h.nb,h.cb⟩
theorem yR{V:Ren}{x u o n c:Value}{B:Nat}(h:VR V x u)(ha:asL x=some (B,o,n,c)) :
    ∃ (to tn tc:TI) (b s:Nat),o=to.enc/\n=tn.enc/\c=tc.enc/\SlOk V B to tn tc b s/\u=.slice (some ⟨b,(to.den V).toNat+s,none⟩) (tn.den V).toNat (tc.den V).toNat:=by
 cases h with
 |symL B' to tn tc b s hb h1 h2 h3 h4 h5 h6 h7 =>
  simp only[asL,Option.some.injEq,Prod.mk.injEq,Int.toNat_natCast]at ha
  obtain⟨rfl,rfl,rfl,rfl⟩:=ha
  exact⟨to,tn,tc,b,s,rfl,rfl,rfl,⟨hb,h1,h2,h3,h4,h5,h6,h7.1,h7.2⟩,rfl⟩
 |func fn a c a' c' h0 =>
  unfold asL at ha
  split at ha
  .rename_i heq
   simp only[Value.func.injEq]at heq
   rw[heq.1]at h0;cases h0
  .cases ha
 |_=>simp[asL]at ha
def asP:Value->Option (Nat × Value)
 | .func (.yield 3) ⟨[.int _ B,o]⟩ _=>some (B.toNat,o)
 |_=>none
theorem pI{V:Ren}{x u o:Value}{B:Nat}(h:VR V x u)(ha:asP x=some (B,o)) :
    ∃ (to:TI) (b s:Nat),o=to.enc/\hm V B=some (b,s)/\to.ok V.length=true/\0<=to.den V/\u=.pointer (some ⟨b,(to.den V).toNat+s,none⟩):=by
 cases h with
 |symP B' t b s hb h1 h2 =>
  simp only[asP,Option.some.injEq,Prod.mk.injEq,Int.toNat_natCast]at ha
  obtain⟨rfl,rfl⟩:=ha
  exact⟨t,b,s,rfl,hb,h1,h2,rfl⟩
 |func fn a c a' c' h0 =>
  unfold asP at ha
  split at ha
  .rename_i heq
   simp only[Value.func.injEq]at heq
   rw[heq.1]at h0;cases h0
  .cases ha
 |_=>simp[asP]at ha
def afJ(P:Program)(ts:Array TypeId)(x:Value):Option Value :=
 match ts[0]? with
 |none=>none
 |some t =>
  match P.underlying t with
  |some .string=>match asS x with
   |some (e,hi)=>if hi<=2 ^ 50 then some (sI .i64 (xX 20 e) 0 hi) else none
   |none=>none
  |some (.slice _)=>match asL x with
   |some (_,_,n,_)=>some (sI .i64 n 0 (2 ^ 50))
   |none=>none
  |_=>none
theorem ab0{P:Program}{w:World}{V:Ren}{ts:Array TypeId}{ty:TypeId}{x x' v:Value}(hx:VR V x x')(h:afJ P ts x=some v):∃ u,(Builtin.len_ ts ty #[x']).run P w=.ok u w/\VR V v u:=by
 unfold afJ at h;split at h
 .cases h
 rename_i t h0;split at h
 .rename_i hu;split at h
  .rename_i e hi he;split at h
   .obtain⟨l,rfl,h1,rfl,h2⟩:=wP hx he;cases h;obtain⟨r,e1,e2,e3⟩:=yL 20 l;refine⟨goInt (l.den V).length,by simp[Builtin.len_,h0,run_underlying hu,goInt];rfl,?_⟩;rw[e1,<-e3];exact .symI .i64 r 0 hi (e2 _ h1) (by rw[e3];omega) (by rw[e3];exact h2)
   .cases h
  .cases h
 .rename_i el hu;split at h
  .rename_i B o n c he;cases h;obtain⟨to,tn,tc,b,s,rfl,rfl,rfl,hk,rfl⟩:=yR hx he;refine⟨goInt (tn.den V).toNat,by simp[Builtin.len_,h0,run_underlying hu,goInt],?_⟩;rw[Int.toNat_of_nonneg hk.n0];exact .symI .i64 tn 0 _ hk.okn hk.n0 hk.nb
  .cases h
 .cases h
def ahD(P:Program)(ts:Array TypeId)(x:Value):Option Value :=
 match ts[0]? with
 |none=>none
 |some t =>
  match P.underlying t with
  |some (.slice _)=>match asL x with
   |some (_,_,_,c)=>some (sI .i64 c 0 9223372036854775807)
   |none=>none
  |_=>none
theorem abV{P:Program}{w:World}{V:Ren}{ts:Array TypeId}{ty:TypeId}{x x' v:Value}(hx:VR V x x')(h:ahD P ts x=some v):∃ u,(Builtin.cap_ ts ty #[x']).run P w=.ok u w/\VR V v u:=by
 unfold ahD at h;split at h
 .cases h
 rename_i t h0;split at h
 .rename_i el hu;split at h
  .rename_i B o n c he;cases h;obtain⟨to,tn,tc,b,s,rfl,rfl,rfl,hk,rfl⟩:=yR hx he;refine⟨goInt (tc.den V).toNat,by simp[Builtin.cap_,h0,run_underlying hu,goInt],?_⟩;have:=hk.n0;have:=hk.nc;have:=hk.cb;rw[Int.toNat_of_nonneg (by omega)];exact .symI .i64 tc 0 _ hk.okc (by omega) (by omega)
  .cases h
 .cases h
def bnd(x:Option Value)(d:Value):Option Value :=
 match x with
 |none=>some d
 |some v=>match asI v with
  |some (_,e,_,_)=>some e
  |none=>none
def fK(A:List Value)(o l m:Value):Value :=
 if teq 9 l (.int .i64 0)=true then o else if nS A l m=true then yM o l else nd3 13 (nd2 33 m l) o (yM o l)
def E8(P:Program)(A:List Value)(t:TypeId)(x:Value)(lo hi mx:Option Value):Option Value :=
 match asL x,P.underlying t with
 |some (B,o,n,c),some (.slice e) =>
  match P.info? e with
  |none=>none
  |some i =>
   match bnd mx c,(if hi.isNone&&mx.isSome then none else bnd hi n),bnd lo (.int .i64 0) with
   |some m,some h,some l =>
    if i.size=1/\vH A (.int .i64 0) l=true/\vH A l h=true/\vH A h m=true/\vH A m c=true/\vH A h (.int .i64 1125899906842624)=true then
     some (sL B (fK A o l m) (dJ h l) (dJ m l))
    else none
   |_,_,_=>none
 |_,_=>none
theorem nZ{V:Ren}{x x':Option Value}{d:TI}{e:Value}(h:VRo V x x')(hd:d.ok V.length=true)(hb:bnd x d.enc=some e) :
    ∃ r:TI,e=r.enc/\r.ok V.length=true/\((x'=none/\r=d/\x=none)\/∃ k,x'=some (.int k (r.den V))/\x.isSome=true):=by
 unfold bnd at hb
 split at hb
 .cases hb
  cases x' with
  |none=>exact⟨d,rfl,hd,.inl ⟨rfl,rfl,rfl⟩⟩
  |some u=>exact h.elim
 .rename_i v
  cases x' with
  |none=>exact h.elim
  |some u =>
   split at hb
   .rename_i k e' lo hi he
    cases hb
    obtain⟨r,rfl,h1,rfl,_⟩:=yK h he
    exact⟨r,rfl,h1,.inr ⟨k,rfl,rfl⟩⟩
   .cases hb
theorem cJ{P:Program}{w:World}{V:Ren}{A:List Value}(hA:Facts V A){t:TypeId}{x x' v:Value}{lo hi mx lo' hi' mx':Option Value}(hx:VR V x x')(hlo:VRo V lo lo')(hhi:VRo V hi hi')(hmx:VRo V mx mx')
    (hs:E8 P A t x lo hi mx=some v):∃ u,(Instr.sliceAt t x' lo' hi' mx').run P w=.ok u w/\VR V v u:=by
 unfold E8 at hs
 split at hs
 rotate_left
 .cases hs
 rename_i B o n c e hv hu
 obtain⟨to,tn,tc,b,s,rfl,rfl,rfl,hk,rfl⟩:=yR hx hv
 split at hs
 .cases hs
 rename_i i hi0
 split at hs
 rotate_left
 .cases hs
 rename_i m h l hm hh hl
 obtain⟨tm,rfl,okm,em⟩:=nZ hmx hk.okc hm
 obtain⟨tl,rfl,okl,el⟩:=nZ (d:=.lit 0) hlo rfl hl
 split at hh
 .cases hh
 rename_i hnn
 obtain⟨th,rfl,okh,eh⟩:=nZ hhi hk.okn hh
 split at hs
 rotate_left
 .cases hs
 rename_i hc
 obtain⟨hsz,c1,c2,c3,c4,c5⟩:=hc
 have d1:0<=tl.den V:=zO (s:=.lit 0) hA c1
 have d2:=zO hA c2
 have d3:=zO hA c3
 have d4:=zO hA c4
 have d5:th.den V<=1125899906842624:=zO (t:=.lit 1125899906842624) hA c5
 have ho:=hk.o0
 have hn:=hk.n0
 have hcb:=hk.cb
 cases hs
 have hbn:(Instr.sliceBounds true (tn.den V).toNat (tc.den V).toNat lo' hi' mx').run P w=.ok ((tl.den V).toNat,(th.den V).toNat,(tm.den V).toNat) w:=by
  have a1:sC mx' (tc.den V).toNat=some (tm.den V).toNat:=by
   rcases em with⟨rfl,rfl,_⟩|⟨k,rfl,_⟩
   .rfl
   .simp only[sC];rw[if_pos (by omega)]
  have a2:lY hi' mx' (tn.den V).toNat=some (th.den V).toNat:=by
   unfold lY;have:(hi'.isNone&&mx'.isSome)=false:=by
    rcases eh with⟨rfl,rfl,rfl⟩|⟨k,rfl,_⟩
    .rcases em with⟨rfl,_,_⟩|⟨k,rfl,hx2⟩
     .rfl
     .simp[hx2]at hnn
    .rfl
   rw[this];rcases eh with⟨rfl,rfl,_⟩|⟨k,rfl,_⟩
   .rfl
   .simp only[sC,Bool.false_eq_true,if_false];rw[if_pos (by omega)]
  have a3:sC lo' 0=some (tl.den V).toNat:=by
   rcases el with⟨rfl,rfl,_⟩|⟨k,rfl,_⟩
   .simp[sC,TI.den]
   .simp only[sC];rw[if_pos (by omega)]
  exact wM a1 a2 a3 (by omega) (by omega) (by omega)
 have hrun:=uP (t:=t) (a:=some ⟨b,(to.den V).toNat+s,none⟩) hu hi0 hbn
 refine⟨_,hrun,?_⟩
 obtain⟨rh,f1,f2,f3⟩:=pD th tl
 obtain⟨rm,g1,g2,g3⟩:=pD tm tl
 rw[f1,g1]
 obtain⟨ra,k1,k2,k3⟩:=zX to tl
 have off:∃ r:TI,fK A to.enc tl.enc tm.enc=r.enc/\r.ok V.length=true/\0<=r.den V/\(r.den V).toNat=if (tm.den V).toNat=(tl.den V).toNat then (to.den V).toNat else (to.den V).toNat+(tl.den V).toNat:=by
  unfold fK;split
  .rename_i h0;have:=xK _ _ _ h0;obtain⟨rfl,_⟩:=xN this;exact⟨to,rfl,hk.oko,ho,by simp[TI.den]⟩
  .split
   .rename_i hlt;have:=xM hA hlt;exact⟨ra,k1,k2 _ hk.oko okl,by rw[k3];omega,by rw[k3,if_neg (by omega)];omega⟩
   .rw[k1];refine⟨.ite (.eq tm tl) to ra,rfl,by simp[TI.ok,TB.ok,okm,okl,hk.oko,k2 _ hk.oko okl],?_,?_⟩
    .simp only[TI.den,TB.den,k3];split<;>omega
    .simp only[TI.den,TB.den,k3,decide_eq_true_eq];by_cases he:tm.den V=tl.den V
     .rw[if_pos he,if_pos (by omega)]
     .rw[if_neg he,if_neg (by omega)];omega
 obtain⟨r,e1,e2,e3,e4⟩:=off
 rw[e1]
 have key:=SlOk.vr (V:=V) (B:=B) (o:=r) (n:=rh) (c:=rm) (b:=b) (s:=s) ⟨hk.home,e2,f2 _ okh okl,g2 _ okm okl,e3,by rw[f3];omega,by rw[f3,g3];omega,by rw[f3];omega,by rw[g3];omega⟩
 rw[f3,g3,e4]at key
 have t1:(th.den V-tl.den V).toNat=(th.den V).toNat-(tl.den V).toNat:=by omega
 have t2:(tm.den V-tl.den V).toNat=(tm.den V).toNat-(tl.den V).toNat:=by omega
 rw[t1,t2]at key
 have t3:(if (tm.den V).toNat=(tl.den V).toNat then some (⟨b,(to.den V).toNat+s,none⟩:Addr) else (some (⟨b,(to.den V).toNat+s,none⟩:Addr)).map (·.add ((tl.den V).toNat*i.size))) =
     some ⟨b,(if (tm.den V).toNat=(tl.den V).toNat then (to.den V).toNat else (to.den V).toNat+(tl.den V).toNat)+s,none⟩:=by
  split
  .rfl
  .simp only[Option.map_some,wS,hsz]
   congr 2;omega
 rw[t3]
 exact key
def qR(P:Program)(A:List Value)(t:TypeId)(x ix:Value):Option Value :=
 match asL x,asI ix,P.underlying t with
 |some (B,o,n,_),some (_,e,lo,_),some (.slice el) =>
  match P.info? el with
  |some q=>if q.size=1/\(0<=lo\/vH A (.int .i64 0) e=true)/\nS A e n=true then some (sP B (yM o e)) else none
  |none=>none
 |_,_,_=>none
theorem nX{P:Program}{w:World}{V:Ren}{A:List Value}(hA:Facts V A){t:TypeId}{x x' ix ix' v:Value}(hx:VR V x x')(hi:VR V ix ix')(h:qR P A t x ix=some v) :
    ∃ u,(Instr.indexAt t x' ix').run P w=.ok u w/\VR V v u:=by
 unfold qR at h
 split at h
 rotate_left
 .cases h
 rename_i B o n c k e lo hi' el q1 q2 hu
 obtain⟨to,tn,tc,b,s,rfl,rfl,rfl,hk,rfl⟩:=yR hx q1
 obtain⟨ti,rfl,i1,rfl,i2,_⟩:=yK hi q2
 split at h
 rotate_left
 .cases h
 rename_i q hq
 split at h
 rotate_left
 .cases h
 rename_i hc
 obtain⟨hsz,h0,hlt⟩:=hc
 cases h
 have d1:0<=ti.den V:=by
  rcases h0 with h0|h0
  .omega
  .exact zO (s:=.lit 0) hA h0
 have d2:=xM hA hlt
 have ho:=hk.o0
 obtain⟨ra,k1,k2,k3⟩:=zX to ti
 have hb:(0:Int)<=ti.den V/\ti.den V<((tn.den V).toNat:Int):=by omega
 have e3:(⟨b,(to.den V).toNat+s,none⟩:Addr).add ((ti.den V).toNat*1)=⟨b,(ra.den V).toNat+s,none⟩:=by rw[wS,k3];congr 1;omega
 refine⟨.pointer (some ⟨b,(ra.den V).toNat+s,none⟩),?_,?_⟩
 .simp only[Instr.indexAt,asIntOf,Sem.run_bind,Sem.run_pure,run_underlying hu,Result.andThen_ok,Sem.run_ite,hb,if_true,yA hq,and_self,hsz,e3]
 .rw[k1]
  exact .symP B ra b s hk.home (k2 _ hk.oko i1) (by rw[k3];omega)
def jH(P:Program)(A:List Value)(t:TypeId)(x ix:Value):Option Value :=
 match asS x,asI ix,P.underlying t with
 |some (l,_),some (_,e,lo,_),some .string =>
  if (0<=lo\/vH A (.int .i64 0) e=true)/\nS A e (xX 20 l)=true then some (sI .u8 (nd2 12 l e) 0 255) else none
 |_,_,_=>none
theorem nE{P:Program}{w:World}{V:Ren}{A:List Value}(hA:Facts V A){t:TypeId}{x x' ix ix' v:Value}(hx:VR V x x')(hi:VR V ix ix')(h:jH P A t x ix=some v) :
    ∃ u,(Instr.index t x' ix').run P w=.ok u w/\VR V v u:=by
 unfold jH at h
 split at h
 rotate_left
 .cases h
 rename_i l hl k e lo hi' q1 q2 hu
 obtain⟨tl,rfl,l1,rfl,l2⟩:=wP hx q1
 obtain⟨ti,rfl,i1,rfl,i2,_⟩:=yK hi q2
 split at h
 rotate_left
 .cases h
 rename_i hc
 obtain⟨h0,hlt⟩:=hc
 cases h
 have d1:0<=ti.den V:=by
  rcases h0 with h0|h0
  .omega
  .exact zO (s:=.lit 0) hA h0
 obtain⟨r,e1,e2,e3⟩:=yL 20 tl
 rw[e1]at hlt
 have d2:=xM hA hlt
 rw[e3]at d2
 have hlt':(ti.den V).toNat<(tl.den V).length:=by omega
 refine⟨.int .u8 ((tl.den V)[(ti.den V).toNat]'hlt').toNat,?_,?_⟩
 ·have hg : (⟨(tl.den V).toArray⟩ : ByteArray)[(ti.den V).toNat]? = some ((tl.den V)[(ti.den V).toNat]'hlt') := by
    have hs:(ti.den V).toNat<(⟨(tl.den V).toArray⟩:ByteArray).size:=by show _<(tl.den V).toArray.size;simpa using hlt'
    exact getElem?_pos (⟨(tl.den V).toArray⟩:ByteArray) (ti.den V).toNat hs
  simp only[Instr.index,asIntOf,Sem.run_bind,Sem.run_pure,run_underlying hu,Result.andThen_ok,d1,if_true,hg]
 ·have e : (((tl.den V)[(ti.den V).toNat]'hlt').toNat : Int) = (TI.sel tl ti).den V := by
    simp only[TI.den,List.getD_eq_getElem?_getD,List.getElem?_eq_getElem hlt',Option.getD_some]
  rw[e];refine .symI .u8 (.sel tl ti) 0 255 (by simp[TI.ok,l1,i1]) (by simp only[TI.den];omega) ?_;simp only[TI.den];have:=(List.getD (tl.den V) (ti.den V).toNat 0).toNat_lt;omega
def aqE(v:Value):Option (Nat × Value × Value × Value):=match v with
 | .slice (some ⟨B,o,none⟩) n c=>if Nat.ble n c&&Nat.ble c 1125899906842624 then some (B,.int .i64 o,.int .i64 n,.int .i64 c) else none
 |v=>asL v
theorem iY{V:Ren}{x u o n c:Value}{B:Nat}(h:VR V x u)(ha:aqE x=some (B,o,n,c)) :
    ∃ (to tn tc:TI) (b s:Nat),o=to.enc/\n=tn.enc/\c=tc.enc/\SlOk V B to tn tc b s/\u=.slice (some ⟨b,(to.den V).toNat+s,none⟩) (tn.den V).toNat (tc.den V).toNat:=by
 unfold aqE at ha
 split at ha
 .rename_i B' o' n' c'
  split at ha
  rotate_left
  .cases ha
  rename_i hc
  rw[Bool.and_eq_true]at hc
  have h1:n'<=c':=Nat.le_of_ble_eq_true hc.1
  have h2:c'<=1125899906842624:=Nat.le_of_ble_eq_true hc.2
  cases ha
  cases h with
  |sl _ _ b s _ _ hb =>
   exact⟨.lit o',.lit n',.lit c',b,s,rfl,rfl,rfl,⟨hb,rfl,rfl,rfl,by simp only[TI.den];omega,by simp only[TI.den];omega,by simp only[TI.den];omega,by simp only[TI.den];omega,by simp only[TI.den];omega⟩,by simp[TI.den]⟩
 .exact yR h ha
end
noncomputable section
def bv(l:List UInt8):List Value:=l.map fun x=>Value.int .u8 x.toNat
theorem nW(a b:List UInt8):bv (a++b)=bv a++bv b:=by simp[bv]
theorem wQ(a:List UInt8):(bv a).length=a.length:=by simp[bv]
theorem aN6{a:List UInt8}{i:Nat}(h:i<a.length):(bv a)[i]?=some (.int .u8 (a.getD i 0).toNat):=by
 simp[bv,List.getElem?_eq_getElem h,List.getD_eq_getElem?_getD]
theorem asY(a:List UInt8):(bv a).all one=true:=by
 rw[List.all_eq_true];intro v hv;simp only[bv,List.mem_map]at hv;obtain⟨x,_,rfl⟩:=hv;rfl
theorem HR.upd{w0:W0}{V:Ren}{H:AS}{w w':World}(h:HR w0 V H w){B c s:Nat}{b b':Blk}{C C':Array Value}{fr:Nat × Nat}(hg:H.get B=some b)(hl:b.live=true)(hro:b.ro=false)(hb:hm V B=some (c,s))
    (hw:w.heap[c]?=some (.cells C b.elem fr)) (hC:C'.size=C.size) (hw':w'.heap[c]?=some (.cells C' b.elem fr)) (hoth:∀ k,k≠c->w'.heap[k]?=w.heap[k]?) (hk:Kept w0 w') (hlive:b'.live=true) (hro':b'.ro=false) (helem:b'.elem=b.elem)
    (hlen:b'.cells.length+s<=C'.size) (hcells:∀ (i:Nat) (v:Value),b'.cells[i]?=some v->∃ u,C'[i+s]?=some u/\VR V v u) (hseq:xR V b' C' s):HR w0 V (H.put B b') w':=by
 obtain⟨c0,s0,C0,fr0,hβ,⟨el,hw0,hel⟩,htop,hsz,hfr,hcl,hbase⟩:=h.blk B b hg hl
 rw[hb]at hβ;cases hβ
 rw[hw]at hw0
 simp only[Option.some.injEq,Obj.cells.injEq]at hw0
 obtain⟨rfl,rfl,rfl⟩:=hw0
 refine⟨h.len,h.big,?_,?_,hk⟩
 .intro X x hx hlx
  by_cases hX:B=X
  .subst hX
   rw[AS.get_put_same hg]at hx;cases hx
   exact⟨c,s,C',fr,hb,⟨_,hw',fun _=>helem.symm⟩,fun q hq=>by rw[hC];exact htop q hq,hlen,fun _=>by rw[hC];exact hfr hro,hcells,fun _=>hbase.1 hro,hseq⟩
  .rw[AS.get_put_ne h.big hg hX]at hx
   obtain⟨c2,s2,C2,fr2,hB2,⟨el2,hw2,hel2⟩,r⟩:=h.blk X x hx hlx
   have hne:=h.inj B X b x hg hx hl hlx hro hX
   rw[hb,hB2]at hne
   have hne':c2≠c:=fun e=>hne (by simp[e])
   exact⟨c2,s2,C2,fr2,hB2,⟨el2,by rw[hoth _ hne'];exact hw2,hel2⟩,r⟩
 .intro X Y x y hx hy hlx hly hrx hne
  have get':∀ Z z,(H.put B b').get Z=some z->∃ y,H.get Z=some y/\(z.live=true->y.live=true)/\(z.ro=false->y.ro=false):=by
   intro Z z hz;by_cases hZ:B=Z
   .subst hZ;rw[AS.get_put_same hg]at hz;cases hz;exact⟨b,hg,fun _=>hl,fun _=>hro⟩
   .rw[AS.get_put_ne h.big hg hZ]at hz;exact⟨z,hz,id,id⟩
  obtain⟨x1,g1,e1,f1⟩:=get' X x hx
  obtain⟨y1,g2,e2,_⟩:=get' Y y hy
  exact h.inj X Y x1 y1 g1 g2 (e1 hlx) (e2 hly) (f1 hrx) hne
theorem uG{P:Program}{w0:W0}(c:Nat)(hc0:¬ w0.keep c):∀(us:List Value)(j p:Nat)(w:World)(C:Array Value)(e:TypeId)(fr:Nat × Nat),w.heap[c]?=some (.cells C e fr) ->
    p+j+us.length<=C.size->(∀ i,i<C.size->¬ (fr.1<=i/\i<fr.2))->us.all one=true->Kept w0 w ->
    ∃ (w':World) (C':Array Value),(storeCells ⟨c,p,none⟩ us j).run P w=.ok () w'/\w'.heap[c]?=some (.cells C' e fr)/\C'.size=C.size/\C'.toList=C.toList.take (p+j)++us++C.toList.drop (p+j+us.length) /\
     (∀ x,x≠c->w'.heap[x]?=w.heap[x]?)/\Kept w0 w'
 |[],j,p,w,C,e,fr,hw,_,_,_,hb=>⟨w,C,rfl,hw,rfl,by simp,fun _ _=>rfl,hb⟩
 |u::us,j,p,w,C,e,fr,hw,hsz,hfr,hone,hb=>by
  have hi:p+j<C.size:=by simp at hsz;omega
  have hwc:w.cell? ⟨c,p+j,none⟩=some C[p+j]:=by rw[sK hw];exact Array.getElem?_eq_getElem hi
  have hfz:w.frozen? ⟨c,p+j,none⟩=false:=by
   unfold World.frozen?;rw[hw];have:=hfr (p+j) hi;simp only[Bool.and_eq_false_imp,decide_eq_true_eq,decide_eq_false_iff_not];intro h1 h2;exact this ⟨h1,h2⟩
  have hheap:(w.setCell ⟨c,p+j,none⟩ u).heap[c]?=some (.cells (C.setIfInBounds (p+j) u) e fr):=by
   simp only[World.setCell,Array.getElem?_modify,if_true,hw];rfl
  simp only[List.all_cons,Bool.and_eq_true]at hone;obtain⟨w',C',h1,h2,h3,h4,h5,h6⟩:=uG (P:=P) c hc0 us (j+1) p (w.setCell ⟨c,p+j,none⟩ u) (C.setIfInBounds (p+j) u) e fr hheap (by simp at hsz ⊢;omega) (by simpa using hfr) hone.2 (hb.setCell hc0 u);refine⟨w',C',?_,h2,by simpa using h3,?_,?_,h6⟩
  .simp only[storeCells,store,wS];show Sem.run P (Sem.store .plain _ u _) w=_;have ho:=hone.1;cases u<;>first|(simp[one]at ho;done)|(simp only[Sem.run,hwc,hfz,Bool.false_eq_true,if_false];exact h1)
  .rw[h4];have hl:p+j<C.toList.length:=by simpa using hi
   have e1:(C.setIfInBounds (p+j) u).toList=C.toList.take (p+j)++u::C.toList.drop (p+j+1):=by
    rw[Array.toList_setIfInBounds,List.set_eq_take_append_cons_drop,if_pos hl]
   rw[e1,<-Nat.add_assoc];have hlen:(C.toList.take (p+j)).length=p+j:=by rw[List.length_take];omega
   have e2:(C.toList.take (p+j)++u::C.toList.drop (p+j+1)).take (p+j+1)=C.toList.take (p+j)++[u]:=by
    rw[List.take_append,hlen,List.take_of_length_le (by rw[hlen];omega),show p+j+1-(p+j)=1 from by omega];rfl
   have e3:(C.toList.take (p+j)++u::C.toList.drop (p+j+1)).drop (p+j+1+us.length)=C.toList.drop (p+j+(u::us).length):=by
    rw[List.drop_append,hlen,List.drop_of_length_le (by rw[hlen];omega),List.nil_append,show p+j+1+us.length-(p+j)=us.length+1 from by omega,List.drop_succ_cons,List.drop_drop];congr 1;simp;omega
   rw[e2,e3];simp
  .intro x hx;rw[h5 x hx];exact RowKit.Below.heap_setCell _ _ _ _ hx
theorem xR.get{V:Ren}{b:Blk}{C:Array Value}{s:Nat}{e:Value}(h:xR V b C s)(he:b.sq=some e):∃ (t:TL) (pre post:List Value),e=t.enc/\t.ok V.length=true/\pre.length=s/\C.toList=pre++bv (t.den V)++post:=by
 obtain⟨h1,h2⟩:=Blk.sq_some he;rcases h e h1 with h3|⟨g,t,_,_,hg,rfl,_⟩
 .exact h3
 .rcases hg with rfl|rfl<;>cases h2
def nv(l:List Int):List Value:=l.map fun x=>Value.int .i64 x
theorem vK(l:List Int):(nv l).length=l.length:=by simp[nv]
theorem nB(l m:List Int):nv (l++m)=nv l++nv m:=by simp[nv]
theorem xR.getN{V:Ren}{b:Blk}{C:Array Value}{s:Nat}{e:Value}(h:xR V b C s)(he:b.seq=some (.func (.yield 28) ⟨[e]⟩ ⟨[]⟩)):∃ (t:TN) (pre post:List Value),e=t.enc/\t.ok V.length=true/\pre.length=s/\C.toList=pre++nv (t.den V)++post/\∀ x∈t.den V,0<=x/\x<=4194303:=by
 rcases h _ he with⟨t,_,_,h1,_⟩|⟨g,t,p,q,hg,h1,h2⟩
 .have:=TL.notN t;rw[<-h1]at this;cases this
 .rcases hg with rfl|rfl
  .simp only[nd1,Value.func.injEq,Array.mk.injEq,List.cons.injEq,and_true,true_and]at h1;exact⟨t,p,q,h1,h2⟩
  .simp[nd1]at h1
theorem xR.getM{V:Ren}{b:Blk}{C:Array Value}{s:Nat}{e:Value}(h:xR V b C s)(he:b.seq=some (.func (.yield 29) ⟨[e]⟩ ⟨[]⟩)):∃ (t:TN) (pre post:List Value),e=t.enc/\t.ok V.length=true/\pre.length=s/\C.toList=pre++nv (t.den V)++post/\∀ x∈t.den V,rgN 29 x:=by
 rcases h _ he with⟨t,_,_,h1,_⟩|⟨g,t,p,q,hg,h1,h2⟩
 .have:=TL.notN t;rw[<-h1]at this;cases this
 .rcases hg with rfl|rfl
  .simp[nd1]at h1
  .simp only[nd1,Value.func.injEq,Array.mk.injEq,List.cons.injEq,and_true,true_and]at h1;exact⟨t,p,q,h1,h2⟩
def xG:Nat->Value->Value
 |0,e=>nd1 14 e
 |k+1,e=>match e with
  | .bool false=>.int .i64 0
  | .func (.yield 26) ⟨[l,m]⟩ ⟨[]⟩=>yM (xG k l) (xG k m)
  | .func (.yield 25) ⟨[_]⟩ ⟨[]⟩=>.int .i64 1
  |e=>nd1 14 e
theorem jR{t:TN}(h:t.enc=.bool false):t=.nil:=by
 cases t<;>simp[TN.enc,nd1,nd2,nd3]at h;rfl
theorem aaD{t:TN}{a b:Value}{c:Array Value}(h:t.enc=.func (.yield 26) ⟨[a,b]⟩ c):∃ (l m:TN),t=.app l m/\a=l.enc/\b=m.enc:=by
 cases t<;>simp[TN.enc,nd1,nd2,nd3]at h;exact⟨_,_,rfl,h.1.1.symm,h.1.2.symm⟩
theorem amP{t:TN}{a:Value}{c:Array Value}(h:t.enc=.func (.yield 25) ⟨[a]⟩ c):∃ (v:TI),t=.one v/\a=v.enc:=by
 cases t<;>simp[TN.enc,nd1,nd2,nd3]at h;exact⟨_,rfl,h.1.symm⟩
theorem yQ:∀(k:Nat)(t:TN),∃ r:TI,xG k t.enc=r.enc/\(∀ n,t.ok n=true->r.ok n=true)/\∀ V,r.den V=(t.den V).length:=by
 intro k;induction k with
 |zero=>intro t;exact⟨.lenN t,rfl,fun n h=>h,fun V=>rfl⟩
 |succ k ih =>
  intro t;generalize he:t.enc=e;unfold xG;split
  .have:=jR he;subst this;exact⟨.lit 0,rfl,fun _ _=>rfl,fun V=>by simp[TI.den,TN.den]⟩
  .obtain⟨l,m,rfl,rfl,rfl⟩:=aaD he;obtain⟨r,h1,h2,h3⟩:=ih l;obtain⟨r',g1,g2,g3⟩:=ih m;rw[h1,g1];obtain⟨q,f1,f2,f3⟩:=zX r r';exact⟨q,f1,fun n h=>by simp[TN.ok]at h;exact f2 n (h2 n h.1) (g2 n h.2),fun V=>by rw[f3,h3,g3];simp[TN.den]⟩
  .obtain⟨v,rfl,rfl⟩:=amP he;exact⟨.lit 1,rfl,fun _ _=>rfl,fun V=>by simp[TI.den,TN.den]⟩
  .rw[<-he];exact⟨.lenN t,rfl,fun n h=>h,fun V=>rfl⟩
def ab3(P:Program)(A:List Value)(t:TypeId)(H:AS)(x:Value):Option Value :=
 match asP x with
 |some (B,o) =>
  match P.underlying t,H.get B with
  |some (.int .u8),some b =>
   (match b.live,b.sq with
   |true,some e=>if nS A o (xX 20 e) then some (sI .u8 (nd2 12 e o) 0 255) else none
   |_,_=>none)
  |some (.int .i64),some b =>
   (match b.live,b.seq with
   |true,some (.func (.yield 28) ⟨[e]⟩ ⟨[]⟩)=>if nS A o (xG 20 e) then some (sI .i64 (nd2 15 e o) 0 4194303) else none
   |true,some (.func (.yield 29) ⟨[e]⟩ ⟨[]⟩)=>if nS A o (xG 20 e) then some (sI .i64 (nd2 15 e o) (-9223372036854775808) 9223372036854775807) else none
   |_,_=>none)
  |_,_=>none
 |none=>none
theorem afT{l:List Int}{pre post:List Value}{C:Array Value}{i s:Nat}(hC:C.toList=pre++nv l++post)(hs:pre.length=s)(hi:i<l.length):C[i+s]?=some (.int .i64 (l.getD i 0)):=by
 rw[<-Array.getElem?_toList,hC,List.append_assoc,List.getElem?_append_right (by omega),List.getElem?_append_left (by rw[vK];omega),hs,Nat.add_sub_cancel];unfold nv;rw[List.getElem?_map,List.getElem?_eq_getElem hi,List.getD_eq_getElem?_getD,List.getElem?_eq_getElem hi];rfl
theorem aQT{l:List UInt8}{pre post:List Value}{C:Array Value}{i s:Nat}(hC:C.toList=pre++bv l++post)(hs:pre.length=s)(hi:i<l.length):C[i+s]?=some (.int .u8 (l.getD i 0).toNat):=by
 rw[<-Array.getElem?_toList,hC,List.append_assoc,List.getElem?_append_right (by omega),List.getElem?_append_left (by rw[wQ];omega),hs,Nat.add_sub_cancel];exact aN6 hi
theorem HR.loadS{P:Program}{w0:W0}{V:Ren}{H:AS}{w:World}{A:List Value}(hA:Facts V A)(h:HR w0 V H w){t:TypeId}{x x' v:Value}(hx:VR V x x')(hl:ab3 P A t H x=some v) :
    ∃ u,(Instr.loadAt t x').run P w=.ok u w/\VR V v u:=by
 unfold ab3 at hl
 split at hl
 rotate_left
 .cases hl
 rename_i B o hq
 obtain⟨to,c,s,rfl,hb,ho,ho0,rfl⟩:=pI hx hq
 split at hl
 .rename_i b hu hg
  split at hl
  rotate_left
  .cases hl
  rename_i e hlive hseq
  split at hl
  rotate_left
  .cases hl
  rename_i hlt
  cases hl
  obtain⟨c',s',C,fr,hβ,⟨el,hw,hel⟩,htop,hsz,hfr,hcl,hbase,hsq⟩:=h.blk B b hg hlive
  rw[hb]at hβ;cases hβ
  obtain⟨tl,pre,post,rfl,hok,hpre,hC⟩:=hsq.get hseq
  obtain⟨r,e1,e2,e3⟩:=yL 20 tl
  rw[e1]at hlt
  have hlt:=xM hA hlt
  rw[e3]at hlt
  have hcell:w.cell? ⟨c,(to.den V).toNat+s,none⟩=some (.int .u8 ((tl.den V).getD (to.den V).toNat 0).toNat):=by
   rw[sK hw];exact aQT hC hpre (by omega)
  refine⟨.int .u8 ((tl.den V).getD (to.den V).toNat 0).toNat,?_,?_⟩
  .simp only[Instr.loadAt,Instr.sureAddr,Go.loadVar,Sem.run_bind,Sem.run_pure,Result.andThen_ok,vA hu,qT,Bool.false_eq_true,if_false,run_load,hcell]
  .refine VR.symI .u8 (.sel tl to) 0 255 (by simp[TI.ok,hok,ho]) (by simp only[TI.den];omega) ?_
   simp only[TI.den]
   have:=(List.getD (tl.den V) (to.den V).toNat 0).toNat_lt
   omega
 .rename_i b hu hg
  split at hl
  .rename_i e hlive hseq
   split at hl
   rotate_left
   .cases hl
   rename_i hlt
   cases hl
   obtain⟨c',s',C,fr,hβ,⟨el,hw,hel⟩,htop,hsz,hfr,hcl,hbase,hsq⟩:=h.blk B b hg hlive
   rw[hb]at hβ;cases hβ
   obtain⟨tl,pre,post,rfl,hok,hpre,hC,hrg⟩:=hsq.getN hseq
   obtain⟨r,e1,e2,e3⟩:=yQ 20 tl
   rw[e1]at hlt
   have hlt:=xM hA hlt
   rw[e3]at hlt
   have hlt2:(to.den V).toNat<(tl.den V).length:=by omega
   have hcell:w.cell? ⟨c,(to.den V).toNat+s,none⟩=some (.int .i64 ((tl.den V).getD (to.den V).toNat 0)):=by
    rw[sK hw];exact afT hC hpre hlt2
   have hmem:(tl.den V).getD (to.den V).toNat 0∈tl.den V:=by
    rw[List.getD_eq_getElem?_getD,List.getElem?_eq_getElem hlt2];exact List.getElem_mem hlt2
   obtain⟨r1,r2⟩:=hrg _ hmem
   refine⟨.int .i64 ((tl.den V).getD (to.den V).toNat 0),?_,?_⟩
   .simp only[Instr.loadAt,Instr.sureAddr,Go.loadVar,Sem.run_bind,Sem.run_pure,Result.andThen_ok,vA hu,qT,Bool.false_eq_true,if_false,run_load,hcell]
   .exact VR.symI .i64 (.selN tl to) _ _ (by simp[TI.ok,hok,ho]) r1 r2
  .rename_i e hlive hseq
   split at hl
   rotate_left
   .cases hl
   rename_i hlt
   cases hl
   obtain⟨c',s',C,fr,hβ,⟨el,hw,hel⟩,htop,hsz,hfr,hcl,hbase,hsq⟩:=h.blk B b hg hlive
   rw[hb]at hβ;cases hβ
   obtain⟨tl,pre,post,rfl,hok,hpre,hC,hrg⟩:=hsq.getM hseq
   obtain⟨r,e1,e2,e3⟩:=yQ 20 tl
   rw[e1]at hlt
   have hlt:=xM hA hlt
   rw[e3]at hlt
   have hlt2:(to.den V).toNat<(tl.den V).length:=by omega
   have hcell:w.cell? ⟨c,(to.den V).toNat+s,none⟩=some (.int .i64 ((tl.den V).getD (to.den V).toNat 0)):=by
    rw[sK hw];exact afT hC hpre hlt2
   have hmem:(tl.den V).getD (to.den V).toNat 0∈tl.den V:=by
    rw[List.getD_eq_getElem?_getD,List.getElem?_eq_getElem hlt2];exact List.getElem_mem hlt2
   obtain⟨r1,r2⟩:=hrg _ hmem
   refine⟨.int .i64 ((tl.den V).getD (to.den V).toNat 0),?_,?_⟩
   .simp only[Instr.loadAt,Instr.sureAddr,Go.loadVar,Sem.run_bind,Sem.run_pure,Result.andThen_ok,vA hu,qT,Bool.false_eq_true,if_false,run_load,hcell]
   .exact VR.symI .i64 (.selN tl to) _ _ (by simp[TI.ok,hok,ho]) r1 r2
  .cases hl
 .cases hl
def aS(P:Program)(A:List Value)(t:TypeId)(H:AS)(x v:Value):Option AS :=
 match asP x,asI v,P.info? t with
 |some (B,o),some (.u8,ev,lo,hi),some i =>
  match H.get B with
  |some b =>
   match b.live,b.ro,b.sq with
   |true,false,some e=>if i.size=1/\0<=lo/\hi<=255/\nS A o (xX 20 e)=true then some (H.put B { b with cells:=[],seq:=some (nd3 20 e o ev) }) else none
   |_,_,_=>none
  |_=>none
 |_,_,_=>none
theorem HR.storeS{P:Program}{w0:W0}{V:Ren}{H H':AS}{w:World}{A:List Value}(hA:Facts V A)(h:HR w0 V H w){t:TypeId}{x x' v v':Value}(hx:VR V x x')(hv:VR V v v')(hs:aS P A t H x v=some H') :
    ∃ w',(Instr.storeAt t x' v').run P w=.ok () w'/\HR w0 V H' w':=by
 unfold aS at hs
 split at hs
 rotate_left
 .cases hs
 rename_i B o ev lo hi i hq hv' hinfo
 obtain⟨to,c,s,rfl,hb,ho,ho0,rfl⟩:=pI hx hq
 obtain⟨tv,rfl,hokv,rfl,hv1,hv2⟩:=yK hv hv'
 split at hs
 rotate_left
 .cases hs
 rename_i b hg
 split at hs
 rotate_left
 .cases hs
 rename_i e hlive hro hseq
 split at hs
 rotate_left
 .cases hs
 rename_i hc
 obtain⟨hsz1,h0,h255,hlt⟩:=hc
 cases hs
 obtain⟨c',s',C,fr,hβ,⟨el,hw,hel⟩,htop,hsz,hfr,hcl,hbase,hsq⟩:=h.blk B b hg hlive
 rw[hb]at hβ;cases hβ
 obtain rfl:=hel hro
 obtain⟨tl,pre,post,rfl,hok,hpre,hC⟩:=hsq.get hseq
 obtain⟨r,e1,e2,e3⟩:=yL 20 tl
 rw[e1]at hlt
 have hlt:=xM hA hlt
 rw[e3]at hlt
 have hCs:C.size=pre.length+(tl.den V).length+post.length:=by
  have:=congrArg List.length hC;simp only[Array.length_toList,List.length_append,wQ]at this;exact this
 obtain⟨w',C',g1,g2,g3,g4,g5,g6⟩:=uG (P:=P) (w0:=w0) c (hbase hro) [.int .u8 (tv.den V)] 0 ((to.den V).toNat+s) w C b.elem fr hw (by simp;omega) (hfr hro) rfl h.below
 refine⟨w',?_,?_⟩
 .simp only[Instr.storeAt,Instr.sureAddr,Sem.run_bind,Sem.run_pure,Result.andThen_ok,Go.storeVar,yA hinfo]
  rw[if_neg (by simp[Value.cells,hsz1])]
  exact g1
 .refine h.upd hg hlive hro hb hw g3 g2 g5 g6 hlive hro rfl (by simp;omega) (fun i v hv=>by simp at hv) ?_
  intro q hq
  simp only[Option.some.injEq]at hq
  subst hq
  refine .inl ⟨.set tl to tv,pre,post,rfl,by simp[TL.ok,hok,ho,hokv],hpre,?_⟩
  rw[g4,hC]
  have hu8:((UInt8.ofNat (tv.den V).toNat).toNat:Int)=tv.den V:=by
   rw[UInt8.toNat_ofNat'];have:(tv.den V).toNat<2 ^ 8:=by omega
   rw[Nat.mod_eq_of_lt this];omega
  have e4:bv ((TL.set tl to tv).den V)=(bv (tl.den V)).take (to.den V).toNat++.int .u8 (tv.den V)::(bv (tl.den V)).drop ((to.den V).toNat+1):=by
   simp only[TL.den,bv];rw[List.map_set,List.set_eq_take_append_cons_drop,if_pos (by simp;omega),hu8]
  show _=pre++bv _++post
  rw[e4]
  simp only[Nat.add_zero,List.length_cons,List.length_nil]
  have p1:(to.den V).toNat+s=pre.length+(to.den V).toNat:=by omega
  rw[p1,List.append_assoc pre,List.take_append,List.take_of_length_le (by omega:pre.length<=_),Nat.add_sub_cancel_left,List.take_append_of_le_length (by rw[wQ];omega)]
  rw[Nat.add_assoc,List.drop_append,List.drop_of_length_le (by omega:pre.length<=_),Nat.add_sub_cancel_left,List.drop_append_of_le_length (by rw[wQ];omega)]
  simp
end
noncomputable section
def dY:Blk:={ cells:=[],elem:=0,ro:=true,live:=false }
theorem HR.var{w0:W0}{V:Ren}{H H':AS}{w:World}(h:HR w0 V H w){K:Nat}(hn:H.new dY=some (K,H'))(q:Hm):HR w0 (V++[q]) H' w/\(V++[q])[K]?=some q/\K=V.length:=by
 obtain⟨rfl,hs',hlt,hgB,hgX⟩:=AS.new_get hn;have hold:∀ (X:Nat) (p:Nat × Nat),hm V X=some p->hm (V++[q]) X=some p:=fun X p hp=>zV hp;have dead:∀ X b,H'.get X=some b->b.live=true->H.get X=some b:=by
  intro X b hg hl;by_cases hX:X=H.size
  .subst hX;rw[hgB]at hg;cases hg;cases hl
  .rw[hgX X hX]at hg;exact hg
 refine⟨⟨by simp[h.len,hs'],by omega,?_,?_,h.below⟩,(pK h.len).2,h.len.symm⟩
 .intro X b hg hl;have hg0:=dead X b hg hl;obtain⟨c,s,C,fr,hβ,hw,h0,h1,h2,h3,h4⟩:=h.blk X b hg0 hl;refine⟨c,s,C,fr,hold _ _ hβ,hw,?_,h1,h2,?_,h4.1,h4.2.mono⟩
  .intro p hp;rw[List.getElem?_append_left (h.lt_len hg0)]at hp;exact h0 p hp
  .intro i v hiv;obtain⟨u,hu,huv⟩:=h3 i v hiv;exact⟨u,hu,huv.mono⟩
 .intro X Y b b' hg hg' hl hl' hro hne;have g1:=dead X b hg hl;have g2:=dead Y b' hg' hl';obtain⟨c,s,C,fr,hβ,_⟩:=h.blk X b g1 hl;obtain⟨c',s',C',fr',hβ',_⟩:=h.blk Y b' g2 hl';rw[hold _ _ hβ,hold _ _ hβ',<-hβ,<-hβ'];exact h.inj X Y b b' g1 g2 hl hl' hro hne
theorem HR.newS{w0:W0}{V:Ren}{H H':AS}{w w':World}(h:HR w0 V H w){C:Array Value}{fr:Nat × Nat}{blk:Blk}{B:Nat}
    (hn:H.new blk=some (B,H')) (hcl:blk.cells=[]) (hw:w'.heap=w.heap.push (.cells C blk.elem fr)) (hbel:Kept w0 w') (hfr:∀ i,i<C.size->¬ (fr.1<=i/\i<fr.2))
    (hseq:xR V blk C 0) :
    HR w0 (V++[⟨w.heap.size,0,C.size,undef,yD⟩]) H' w'/\hm (V++[⟨w.heap.size,0,C.size,undef,yD⟩]) B=some (w.heap.size,0):=by
 obtain⟨rfl,hs',hlt,hgB,hgX⟩:=AS.new_get hn
 obtain⟨hB,hB'⟩:=pK (h:=⟨w.heap.size,0,C.size,undef,yD⟩) h.len
 have hold:∀ (X:Nat) (p:Nat × Nat),hm V X=some p->hm (V++[⟨w.heap.size,0,C.size,undef,yD⟩]) X=some p:=fun X p hp=>zV hp
 have hheap:∀ k,k<w.heap.size->w'.heap[k]?=w.heap[k]?:=fun k hk=>by rw[hw,Array.getElem?_push,if_neg (by omega)]
 refine⟨⟨by simp[h.len,hs'],by omega,?_,?_,hbel⟩,hB⟩
 .intro X b hg hl
  by_cases hX:X=H.size
  .subst hX
   rw[hgB]at hg;cases hg
   exact⟨w.heap.size,0,C,fr,hB,⟨_,by rw[hw];simp,fun _=>rfl⟩,fun q hq=>by rw[hB']at hq;cases hq;rfl,by simp[hcl],fun _=>hfr,fun i v hv=>by simp[hcl]at hv,fun _=>h.below.fresh,hseq.mono⟩
  .rw[hgX X hX]at hg
   obtain⟨c,s,C2,fr2,hβ,⟨el2,hw2,hel2⟩,h0,h1,h2,h3,h4⟩:=h.blk X b hg hl
   have hc:=h.home_lt hg hl hβ
   refine⟨c,s,C2,fr2,hold _ _ hβ,⟨_,by rw[hheap _ hc];exact hw2,hel2⟩,?_,h1,h2,?_,h4.1,h4.2.mono⟩
   .intro q hq
    have hlt':=h.lt_len hg
    rw[List.getElem?_append_left hlt']at hq
    exact h0 q hq
   .intro i v hiv
    obtain⟨u,hu,huv⟩:=h3 i v hiv
    exact⟨u,hu,huv.mono⟩
 .intro X Y b b' hg hg' hl hl' hro hne
  by_cases hX:X=H.size
  .subst hX
   have hY:Y≠H.size:=fun e=>hne e.symm
   rw[hgX Y hY]at hg'
   obtain⟨c,s,C2,fr2,hβ,_⟩:=h.blk Y b' hg' hl'
   have hc:=h.home_lt hg' hl' hβ
   rw[hB,hold _ _ hβ]
   simp only[Option.map_some,ne_eq,Option.some.injEq]
   omega
  .rw[hgX X hX]at hg
   obtain⟨c,s,C2,fr2,hβ,_⟩:=h.blk X b hg hl
   have hc:=h.home_lt hg hl hβ
   by_cases hY:Y=H.size
   .subst hY
    rw[hB,hold _ _ hβ]
    simp only[Option.map_some,ne_eq,Option.some.injEq]
    omega
   .rw[hgX Y hY]at hg'
    obtain⟨c',s',C',fr',hβ',_⟩:=h.blk Y b' hg' hl'
    rw[hold _ _ hβ,hold _ _ hβ',<-hβ,<-hβ']
    exact h.inj X Y b b' hg hg' hl hl' hro hne
theorem HR.rehomeS{w0:W0}{V:Ren}{H H1 H':AS}{w w':World}(h:HR w0 V H w){B B' c s s':Nat}{b blk:Blk}{C C':Array Value}{fr:Nat × Nat}
    (hg:H.get B=some b) (hl:b.live=true) (hro:b.ro=false) (hb:hm V B=some (c,s)) (hk:lW H B=some H1) (hn:H1.new blk=some (B',H')) (hcl:blk.cells=[]) (hel:blk.elem=b.elem)
    (hw:w.heap[c]?=some (.cells C b.elem fr)) (hC:C'.size=C.size) (hw':w'.heap[c]?=some (.cells C' b.elem fr)) (hoth:∀ k,k≠c->w'.heap[k]?=w.heap[k]?) (hkept:Kept w0 w') (hs':s'<=C'.size) (hseq:xR V blk C' s') :
    HR w0 (V++[⟨c,s',C'.size,undef,yD⟩]) H' w'/\hm (V++[⟨c,s',C'.size,undef,yD⟩]) B'=some (c,s'):=by
 obtain⟨hk1,hk2,hk3⟩:=h.kill hk
 obtain⟨rfl,hs1,hlt,hgB,hgX⟩:=AS.new_get hn
 obtain⟨c0,s0,C0,fr0,hβ,⟨el1,hw0,hel1⟩,htop,hsz',hfr,hcells,hbase⟩:=h.blk B b hg hl
 rw[hb]at hβ;cases hβ
 rw[hw]at hw0
 simp only[Option.some.injEq,Obj.cells.injEq]at hw0
 obtain⟨rfl,rfl,rfl⟩:=hw0
 have hlen:V.length=H1.size:=hk1.len
 obtain⟨hB,hB'⟩:=pK (h:=⟨c,s',C'.size,undef,yD⟩) hlen
 refine⟨⟨by simp[hlen,hs1],by omega,?_,?_,hkept⟩,hB⟩
 .intro X b' hgX' hl'
  by_cases hX:X=H1.size
  .subst hX
   rw[hgB]at hgX';cases hgX'
   exact⟨c,s',C',fr,hB,⟨_,hw',fun _=>hel.symm⟩,fun p hp=>by rw[hB']at hp;cases hp;rfl,by simp[hcl];exact hs',fun _=>by rw[hC];exact hfr hro,fun i v hv=>by simp[hcl]at hv,fun _=>hbase.1 hro,hseq.mono⟩
  .rw[hgX X hX]at hgX'
   obtain⟨hXB,hgH⟩:=hk3 X b' hgX' hl'
   obtain⟨c2,s2,C2,fr2,hB2,⟨el2,hw2,hel2⟩,r0,r1,r2,r3,r4⟩:=h.blk X b' hgH hl'
   have hne:=h.inj B X b b' hg hgH hl hl' hro (fun e=>hXB e.symm)
   rw[hb,hB2]at hne
   simp only[Option.map_some,ne_eq,Option.some.injEq]at hne
   refine⟨c2,s2,C2,fr2,zV hB2,⟨_,by rw[hoth c2 (fun e=>hne e.symm)];exact hw2,hel2⟩,?_,r1,r2,?_,r4.1,r4.2.mono⟩
   .intro p hp
    rw[List.getElem?_append_left (h.lt_len hgH)]at hp
    exact r0 p hp
   .intro k x hx
    obtain⟨u,hu,hxu⟩:=r3 k x hx
    exact⟨u,hu,hxu.mono⟩
 .intro X Y b1 b2 g1 g2 l1 l2 r1 hne
  have key:∀ Z bz,H'.get Z=some bz->bz.live=true->Z≠H1.size->Z≠B/\H.get Z=some bz/\∃ p,hm V Z=some p:=by
   intro Z bz hz hlz hZ;rw[hgX Z hZ]at hz;obtain⟨a1,a2⟩:=hk3 Z bz hz hlz;obtain⟨c,s,_,_,hBz,_⟩:=h.blk Z bz a2 hlz;exact⟨a1,a2,_,hBz⟩
  by_cases hX:X=H1.size
  .subst hX
   obtain⟨y1,y2,p,y3⟩:=key Y b2 g2 l2 (fun e=>hne e.symm)
   have:=h.inj B Y b b2 hg y2 hl l2 hro (fun e=>y1 e.symm)
   rw[hB,zV y3,<-y3]
   rw[hb]at this
   exact this
  .obtain⟨x1,x2,p,x3⟩:=key X b1 g1 l1 hX
   by_cases hY:Y=H1.size
   .subst hY
    have:=h.inj X B b1 b x2 hg l1 hl r1 x1
    rw[hB,zV x3,<-x3]
    rw[hb]at this
    exact this
   .obtain⟨y1,y2,p',y3⟩:=key Y b2 g2 l2 hY
    rw[zV x3,zV y3,<-x3,<-y3]
    exact h.inj X Y b1 b2 x2 y2 l1 l2 r1 hne
theorem v8{P:Program}{w:World}{c:Nat}{C:Array Value}{e:TypeId}{fr:Nat × Nat}(hw:w.heap[c]?=some (.cells C e fr))(p:Nat):∀(n j:Nat)(acc:Array Value),p+j+n<=C.size ->
    (loadCellsFrom ⟨c,p,none⟩ j n acc).run P w=.ok (acc++((C.toList.drop (p+j)).take n).toArray) w
 |0,j,acc,_=>by simp[loadCellsFrom,pure]
 |n+1,j,acc,h=>by
  have hi:p+j<C.size:=by omega
  have hwc:w.cell? ⟨c,p+j,none⟩=some C[p+j]:=by rw[sK hw];exact Array.getElem?_eq_getElem hi
  simp only[loadCellsFrom,load,wS];show Sem.run P (Sem.load .plain _ _) w=_;simp only[Sem.run,hwc];refine (v8 hw p n (j+1) (acc.push C[p+j]) (by omega)).trans ?_;congr 1;apply Array.ext';have:C.toList.drop (p+j)=C[p+j]::C.toList.drop (p+(j+1)):=by
   rw[List.drop_eq_getElem_cons (by simpa using hi)];rfl
  rw[this];simp
theorem eQ{P:Program}{w:World}{c s o n:Nat}{C:Array Value}{e:TypeId}{fr:Nat × Nat}{l:List UInt8}{pre post:List Value}(hw:w.heap[c]?=some (.cells C e fr))(hC:C.toList=pre++bv l++post)(hs:pre.length=s)(hn:o+n<=l.length) :
    (loadCells ⟨c,o+s,none⟩ n).run P w=.ok (bv ((l.take (o+n)).drop o)).toArray w:=by
 have hCs:C.size=pre.length+l.length+post.length:=by
  have:=congrArg List.length hC;simp only[Array.length_toList,List.length_append,wQ]at this;exact this
 unfold loadCells
 rw[v8 hw (o+s) n 0 #[] (by omega)]
 congr 1
 simp only[Nat.add_zero,Array.empty_append]
 congr 1
 have e1:C.toList.drop (o+s)=(bv l).drop o++post:=by
  rw[hC,List.append_assoc,List.drop_append,List.drop_of_length_le (by omega),List.nil_append,show o+s-pre.length=o from by omega,List.drop_append_of_le_length (by rw[wQ];omega)]
 rw[e1,List.take_append_of_le_length (by rw[List.length_drop,wQ];omega)]
 simp only[bv,List.map_drop,List.map_take]
 rw[List.drop_take,show o+n-o=n from by omega]
def eY:List Value->Option Value
 |[]=>some (.string .empty)
 |v::vs =>
  match asI v,eY vs with
  |some (.u8,e,lo,hi),some r=>if 0<=lo/\hi<=255 then some (match vs with
   |[]=>nd1 22 e
   |_=>nd2 21 (nd1 22 e) r) else none
  |_,_=>none
theorem sM{V:Ren}:∀ {vs us:List Value} {e:Value},VRs V vs us->eY vs=some e->∃ t:TL,e=t.enc/\t.ok V.length=true/\us=bv (t.den V)/\(t.den V).length=vs.length
 |[],us,e,h,ho=>by
  have:us=[]:=List.eq_nil_of_length_eq_zero h.1;subst this;cases ho;exact⟨.lit [],rfl,rfl,rfl,rfl⟩
 |v::vs,us,e,h,ho=>by
  obtain⟨u,us',rfl,h1,h2⟩:=h.cons_inv;simp only[eY]at ho;split at ho;rotate_left
  .cases ho
  rename_i e' lo hi r hq hr;split at ho;rotate_left
  .cases ho
  rename_i hc;obtain⟨t,rfl,t1,rfl,t2,t3⟩:=yK h1 hq;obtain⟨tr,rfl,r1,rfl,r2⟩:=sM h2 hr;have hu8:((UInt8.ofNat (t.den V).toNat).toNat:Int)=t.den V:=by
   rw[UInt8.toNat_ofNat'];have:(t.den V).toNat<2 ^ 8:=by omega
   rw[Nat.mod_eq_of_lt this];omega
  cases ho;split
  .have:tr.den V=[]:=List.eq_nil_of_length_eq_zero (by rw[r2];rfl);exact⟨.one t,rfl,by simpa [TL.ok] using t1,by simp[TL.den,bv,this];omega,by simp[TL.den]⟩
  .exact⟨.app (.one t) tr,rfl,by simp[TL.ok,t1,r1],by simp[TL.den,bv];omega,by simp[TL.den,r2]⟩
def kG(A:List Value)(H:AS)(x:Value):Option Value :=
 match x with
 | .slice none n _=>if n=0 then some (.string .empty) else none
 | .slice (some ⟨B,o,_⟩) n _ =>
  match uC H B o n with
  |some l=>eY l
  |none=>none
 |x =>
  match asS x with
  |some (e,_)=>some e
  |none =>
   match asL x with
   |some (B,o,n,c) =>
    match H.get B with
    |some b =>
     match b.live,b.sq with
     |true,some q=>if vH A (yM o n) (xX 20 q)=true then some (mK A q o (yM o n)) else none
     |_,_=>none
    |none=>none
   |none=>none
theorem uV{P:Program}{w0:W0}{V:Ren}{H:AS}{w:World}{A:List Value}(hA:Facts V A)(h:HR w0 V H w){x x' e:Value}(hx:VR V x x')(hs:kG A H x=some e) :
    ∃ t:TL,e=t.enc/\t.ok V.length=true/\(Builtin.lenOf x').run P w=.ok (t.den V).length w/\∀ k,k<=(t.den V).length->(Builtin.firstCells 1 k x').run P w=.ok (bv ((t.den V).take k)).toArray w:=by
 unfold kG at hs
 split at hs
 .rename_i n c
  split at hs
  .rename_i hn
   cases hs
   subst hn
   cases hx
   exact⟨.lit [],rfl,rfl,rfl,fun k _=>by simp[TL.den,bv];rfl⟩
  .cases hs
 .rename_i B o sp n c
  split at hs
  rotate_left
  .cases hs
  rename_i l hl
  have hlen:=(uB hl).1
  have go:∀ (b s:Nat),hm V B=some (b,s)->∀ c',x'=.slice (some ⟨b,o+s,none⟩) n c'->∃ t:TL,e=t.enc/\t.ok V.length=true/\(Builtin.lenOf x').run P w=.ok (t.den V).length w/\∀ k,k<=(t.den V).length->(Builtin.firstCells 1 k x').run P w=.ok (bv ((t.den V).take k)).toArray w:=by
   rintro b s hb c' rfl;obtain⟨us,hrun,hv⟩:=h.loads (P:=P) hl hb;obtain⟨t,h1,h2,h3,h4⟩:=sM hv hs;refine⟨t,h1,h2,by rw[h4,hlen];rfl,fun k hk=>?_⟩;have hk':k<=n:=by rw[<-hlen,<-h4];exact hk
   obtain⟨C,el,fr,hw,hsz⟩:∃ (C:Array Value) (el:TypeId) (fr:Nat × Nat),w.heap[b]?=some (.cells C el fr)/\o+s+n<=C.size:=by
    unfold uC at hl;split at hl
    .rename_i bl hg;split at hl
     .rename_i hc;simp only[Bool.and_eq_true,decide_eq_true_eq]at hc;obtain⟨c2,s2,C,fr,hβ,⟨el,hw,_⟩,_,hsz,_⟩:=h.blk B bl hg hc.1;rw[hb]at hβ;cases hβ;exact⟨C,el,fr,hw,by omega⟩
     .cases hl
    .cases hl
   have r1:=v8 (P:=P) hw (o+s) n 0 #[] (by omega);have r2:=v8 (P:=P) hw (o+s) k 0 #[] (by omega);have hus:us=(C.toList.drop (o+s)).take n:=by
    have hrun':(loadCells ⟨b,o+s,none⟩ n).run P w=.ok us.toArray w:=hrun;unfold loadCells at hrun';rw[r1]at hrun';simp only[Nat.add_zero,Array.empty_append,Result.ok.injEq,and_true]at hrun';have:=congrArg Array.toList hrun';simpa using this.symm
   have e1:(C.toList.drop (o+s)).take k=bv ((t.den V).take k):=by
    have:us.take k=bv ((t.den V).take k):=by rw[h3];simp[bv,List.map_take]
    rw[<-this,hus,List.take_take,Nat.min_eq_left hk']
   simp only[Builtin.firstCells,Nat.mul_one];unfold loadCells;rw[r2];simp only[Nat.add_zero,Array.empty_append,e1]
  cases hx with
  |sl _ _ b s _ _ hb=>exact go b s hb _ rfl
  |slL _ _ _ _ c' z q hb _ _=>exact go _ _ (vU hb) _ rfl
 .split at hs
  .rename_i e' hi he
   cases hs
   obtain⟨t,rfl,h1,rfl,h2⟩:=wP hx he
   refine⟨t,rfl,h1,?_,fun k hk=>?_⟩
   .simp only[Builtin.lenOf]
    show Result.ok (t.den V).toArray.size w=_
    simp
   .simp only[Builtin.firstCells]
    show Result.ok _ w=_
    congr 1
    apply Array.ext'
    simp only[Array.toList_map,Lib.extract_data]
    simp[bv]
  .split at hs
   rotate_left
   .cases hs
   rename_i B o n c he
   obtain⟨to,tn,tc,b,s,rfl,rfl,rfl,hk,rfl⟩:=yR hx he
   split at hs
   rotate_left
   .cases hs
   rename_i bl hg
   split at hs
   rotate_left
   .cases hs
   rename_i q hlive hseq
   split at hs
   rotate_left
   .cases hs
   rename_i hle
   cases hs
   obtain⟨c',s',C,fr,hβ,⟨el,hw,hel⟩,htop,hsz,hfr,hcl,hbase,hsq⟩:=h.blk B bl hg hlive
   rw[hk.home]at hβ;cases hβ
   obtain⟨tl,pre,post,rfl,hok,hpre,hC⟩:=hsq.get hseq
   obtain⟨ra,a1,a2,a3⟩:=zX to tn
   obtain⟨r,e1,e2,e3⟩:=yL 20 tl
   rw[a1,e1]at hle
   have hle:=zO hA hle
   rw[a3,e3]at hle
   obtain⟨rs,s1,s2,s3⟩:=rL A tl to ra
   have o0:=hk.o0
   have n0:=hk.n0
   have hto:(ra.den V).toNat=(to.den V).toNat+(tn.den V).toNat:=by rw[a3];omega
   have hlen:(rs.den V).length=(tn.den V).toNat:=by
    rw[s3,List.length_drop,List.length_take,hto];omega
   refine⟨rs,by rw[a1,s1],s2 _ hok hk.oko (a2 _ hk.oko hk.okn),by rw[hlen];rfl,fun k hk'=>?_⟩
   simp only[Builtin.firstCells,Nat.mul_one]
   rw[eQ hw hC hpre (by omega)]
   congr 2
   rw[s3,hto,List.take_drop]
   congr 1
   rw[List.take_take,Nat.min_eq_left (by omega)]
end
end Go.SM
