-- the statement of this claim: see YtoamgocecoiggaaDoorRw
import Derived.Test.YtoamgocecoiggaaDoorM5
set_option linter.unusedVariables false
set_option linter.unusedSimpArgs false
namespace Go.SM
noncomputable section
def asL:Value→Option (Nat × Value × Value × Value)
 | .func (.yield 4) ⟨[.int _ B,o,n,c]⟩ _=>some (B.toNat,o,n,c)
 | _=>none
structure SlOk (β:Ren) (B:Nat) (o n c:TI) (b s:Nat):Prop where
 home:hm β B=some (b,s)
 oko:o.ok β.length=true
 okn:n.ok β.length=true
 okc:c.ok β.length=true
 o0:0≤o.den β
 n0:0≤n.den β
 nc:n.den β≤c.den β
 nb:n.den β≤2 ^ 50
 cb:c.den β < 2 ^ 63
theorem SlOk.vr {β:Ren} {B:Nat} {o n c:TI} {b s:Nat} (h:SlOk β B o n c b s):VR β (sL B o.enc n.enc c.enc) (.slice (some ⟨b,(o.den β).toNat + s,none⟩) (n.den β).toNat (c.den β).toNat) :=
 .symL B o n c b s h.home h.oko h.okn h.okc h.o0 h.n0 h.nc ⟨h.nb,h.cb⟩
theorem asL_sound {β:Ren} {x u o n c:Value} {B:Nat} (h:VR β x u) (ha:asL x=some (B,o,n,c)) :
    ∃ (to tn tc:TI) (b s:Nat),o=to.enc∧n=tn.enc∧c=tc.enc∧SlOk β B to tn tc b s∧u=.slice (some ⟨b,(to.den β).toNat + s,none⟩) (tn.den β).toNat (tc.den β).toNat:=by
 cases h with
 | symL B' to tn tc b s hb h1 h2 h3 h4 h5 h6 h7 =>
  simp only [asL,Option.some.injEq,Prod.mk.injEq,Int.toNat_natCast] at ha
  obtain ⟨rfl,rfl,rfl,rfl⟩:=ha
  exact ⟨to,tn,tc,b,s,rfl,rfl,rfl,⟨hb,h1,h2,h3,h4,h5,h6,h7.1,h7.2⟩,rfl⟩
 | func fn a c a' c' h0 =>
  unfold asL at ha
  split at ha
  ·rename_i heq
   simp only [Value.func.injEq] at heq
   rw [heq.1] at h0; cases h0
  ·cases ha
 | _=>simp [asL] at ha
def asP:Value→Option (Nat × Value)
 | .func (.yield 3) ⟨[.int _ B,o]⟩ _=>some (B.toNat,o)
 | _=>none
theorem asP_sound {β:Ren} {x u o:Value} {B:Nat} (h:VR β x u) (ha:asP x=some (B,o)) :
    ∃ (to:TI) (b s:Nat),o=to.enc∧hm β B=some (b,s)∧to.ok β.length=true∧0≤to.den β∧u=.pointer (some ⟨b,(to.den β).toNat + s,none⟩):=by
 cases h with
 | symP B' t b s hb h1 h2 =>
  simp only [asP,Option.some.injEq,Prod.mk.injEq,Int.toNat_natCast] at ha
  obtain ⟨rfl,rfl⟩:=ha
  exact ⟨t,b,s,rfl,hb,h1,h2,rfl⟩
 | func fn a c a' c' h0 =>
  unfold asP at ha
  split at ha
  ·rename_i heq
   simp only [Value.func.injEq] at heq
   rw [heq.1] at h0; cases h0
  ·cases ha
 | _=>simp [asP] at ha
def alenS (P:Program) (ts:Array TypeId) (x:Value):Option Value :=
 match ts[0]? with
 | none=>none
 | some t =>
  match P.underlying t with
  | some .string=>match asS x with
   | some (e,hi)=>if hi≤2 ^ 50 then some (sI .i64 (mkLen 20 e) 0 hi) else none
   | none=>none
  | some (.slice _)=>match asL x with
   | some (_,_,n,_)=>some (sI .i64 n 0 (2 ^ 50))
   | none=>none
  | _=>none
theorem lenS_sound {P:Program} {w:World} {β:Ren} {ts:Array TypeId} {ty:TypeId} {x x' v:Value} (hx:VR β x x') (h:alenS P ts x=some v):∃ u,(Builtin.len_ ts ty #[x']).run P w=.ok u w∧VR β v u:=by
 unfold alenS at h
 split at h
 ·cases h
 rename_i t h0
 split at h
 ·rename_i hu
  split at h
  ·rename_i e hi he
   split at h
   ·obtain ⟨l,rfl,h1,rfl,h2⟩:=asS_sound hx he
    cases h
    obtain ⟨r,e1,e2,e3⟩:=mkLen_sound 20 l
    refine ⟨goInt (l.den β).length,by simp [Builtin.len_,h0,run_underlying hu,goInt]; rfl,?_⟩
    rw [e1,← e3]
    exact .symI .i64 r 0 hi (e2 _ h1) (by rw [e3]; omega) (by rw [e3]; exact h2)
   ·cases h
  ·cases h
 ·rename_i el hu
  split at h
  ·rename_i B o n c he
   cases h
   obtain ⟨to,tn,tc,b,s,rfl,rfl,rfl,hk,rfl⟩:=asL_sound hx he
   refine ⟨goInt (tn.den β).toNat,by simp [Builtin.len_,h0,run_underlying hu,goInt],?_⟩
   rw [Int.toNat_of_nonneg hk.n0]
   exact .symI .i64 tn 0 _ hk.okn hk.n0 hk.nb
  ·cases h
 ·cases h
def acapS (P:Program) (ts:Array TypeId) (x:Value):Option Value :=
 match ts[0]? with
 | none=>none
 | some t =>
  match P.underlying t with
  | some (.slice _)=>match asL x with
   | some (_,_,_,c)=>some (sI .i64 c 0 9223372036854775807)
   | none=>none
  | _=>none
theorem capS_sound {P:Program} {w:World} {β:Ren} {ts:Array TypeId} {ty:TypeId} {x x' v:Value} (hx:VR β x x') (h:acapS P ts x=some v):∃ u,(Builtin.cap_ ts ty #[x']).run P w=.ok u w∧VR β v u:=by
 unfold acapS at h
 split at h
 ·cases h
 rename_i t h0
 split at h
 ·rename_i el hu
  split at h
  ·rename_i B o n c he
   cases h
   obtain ⟨to,tn,tc,b,s,rfl,rfl,rfl,hk,rfl⟩:=asL_sound hx he
   refine ⟨goInt (tc.den β).toNat,by simp [Builtin.cap_,h0,run_underlying hu,goInt],?_⟩
   have:=hk.n0; have:=hk.nc; have:=hk.cb
   rw [Int.toNat_of_nonneg (by omega)]
   exact .symI .i64 tc 0 _ hk.okc (by omega) (by omega)
  ·cases h
 ·cases h
def bnd (x:Option Value) (d:Value):Option Value :=
 match x with
 | none=>some d
 | some v=>match asI v with
  | some (_,e,_,_)=>some e
  | none=>none
def sliceOff (A:List Value) (o l m:Value):Value :=
 if teq 9 l (.int .i64 0)=true then o else if ltOk A l m=true then mkAdd o l else nd3 13 (nd2 33 m l) o (mkAdd o l)
def asliceS (P:Program) (A:List Value) (t:TypeId) (x:Value) (lo hi mx:Option Value):Option Value :=
 match asL x,P.underlying t with
 | some (B,o,n,c),some (.slice e) =>
  match P.info? e with
  | none=>none
  | some i =>
   match bnd mx c,(if hi.isNone && mx.isSome then none else bnd hi n),bnd lo (.int .i64 0) with
   | some m,some h,some l =>
    if i.size=1∧leOk A (.int .i64 0) l=true∧leOk A l h=true∧leOk A h m=true∧leOk A m c=true∧leOk A h (.int .i64 1125899906842624)=true then
     some (sL B (sliceOff A o l m) (mkSub h l) (mkSub m l))
    else none
   | _,_,_=>none
 | _,_=>none
theorem bnd_sound {β:Ren} {x x':Option Value} {d:TI} {e:Value} (h:VRo β x x') (hd:d.ok β.length=true) (hb:bnd x d.enc=some e) :
    ∃ r:TI,e=r.enc∧r.ok β.length=true∧((x'=none∧r=d∧x=none)∨∃ k,x'=some (.int k (r.den β))∧x.isSome=true):=by
 unfold bnd at hb
 split at hb
 ·cases hb
  cases x' with
  | none=>exact ⟨d,rfl,hd,.inl ⟨rfl,rfl,rfl⟩⟩
  | some u=>exact h.elim
 ·rename_i v
  cases x' with
  | none=>exact h.elim
  | some u =>
   split at hb
   ·rename_i k e' lo hi he
    cases hb
    obtain ⟨r,rfl,h1,rfl,_⟩:=asI_sound h he
    exact ⟨r,rfl,h1,.inr ⟨k,rfl,rfl⟩⟩
   ·cases hb
theorem sliceS_sound {P:Program} {w:World} {β:Ren} {A:List Value} (hA:Facts β A) {t:TypeId} {x x' v:Value} {lo hi mx lo' hi' mx':Option Value} (hx:VR β x x') (hlo:VRo β lo lo') (hhi:VRo β hi hi') (hmx:VRo β mx mx')
    (hs:asliceS P A t x lo hi mx=some v):∃ u,(Instr.sliceAt t x' lo' hi' mx').run P w=.ok u w∧VR β v u:=by
 unfold asliceS at hs
 split at hs
 rotate_left
 ·cases hs
 rename_i B o n c e hv hu
 obtain ⟨to,tn,tc,b,s,rfl,rfl,rfl,hk,rfl⟩:=asL_sound hx hv
 split at hs
 ·cases hs
 rename_i i hi0
 split at hs
 rotate_left
 ·cases hs
 rename_i m h l hm hh hl
 obtain ⟨tm,rfl,okm,em⟩:=bnd_sound hmx hk.okc hm
 obtain ⟨tl,rfl,okl,el⟩:=bnd_sound (d:=.lit 0) hlo rfl hl
 split at hh
 ·cases hh
 rename_i hnn
 obtain ⟨th,rfl,okh,eh⟩:=bnd_sound hhi hk.okn hh
 split at hs
 rotate_left
 ·cases hs
 rename_i hc
 obtain ⟨hsz,c1,c2,c3,c4,c5⟩:=hc
 have d1:0≤tl.den β:=leOk_sound (s:=.lit 0) hA c1
 have d2:=leOk_sound hA c2
 have d3:=leOk_sound hA c3
 have d4:=leOk_sound hA c4
 have d5:th.den β≤1125899906842624:=leOk_sound (t:=.lit 1125899906842624) hA c5
 have ho:=hk.o0
 have hn:=hk.n0
 have hcb:=hk.cb
 cases hs
 have hbn:(Instr.sliceBounds true (tn.den β).toNat (tc.den β).toNat lo' hi' mx').run P w=.ok ((tl.den β).toNat,(th.den β).toNat,(tm.den β).toNat) w:=by
  have a1:anat mx' (tc.den β).toNat=some (tm.den β).toNat:=by
   rcases em with ⟨rfl,rfl,_⟩ | ⟨k,rfl,_⟩
   ·rfl
   ·simp only [anat]; rw [if_pos (by omega)]
  have a2:ahigh hi' mx' (tn.den β).toNat=some (th.den β).toNat:=by
   unfold ahigh
   have:(hi'.isNone && mx'.isSome)=false:=by
    rcases eh with ⟨rfl,rfl,rfl⟩ | ⟨k,rfl,_⟩
    ·rcases em with ⟨rfl,_,_⟩ | ⟨k,rfl,hx2⟩
     ·rfl
     ·simp [hx2] at hnn
    ·rfl
   rw [this]
   rcases eh with ⟨rfl,rfl,_⟩ | ⟨k,rfl,_⟩
   ·rfl
   ·simp only [anat,Bool.false_eq_true,if_false]; rw [if_pos (by omega)]
  have a3:anat lo' 0=some (tl.den β).toNat:=by
   rcases el with ⟨rfl,rfl,_⟩ | ⟨k,rfl,_⟩
   ·simp [anat,TI.den]
   ·simp only [anat]; rw [if_pos (by omega)]
  exact run_sliceBounds a1 a2 a3 (by omega) (by omega) (by omega)
 have hrun:=run_sliceAt (t:=t) (a:=some ⟨b,(to.den β).toNat + s,none⟩) hu hi0 hbn
 refine ⟨_,hrun,?_⟩
 obtain ⟨rh,f1,f2,f3⟩:=mkSub_sound th tl
 obtain ⟨rm,g1,g2,g3⟩:=mkSub_sound tm tl
 rw [f1,g1]
 obtain ⟨ra,k1,k2,k3⟩:=mkAdd_sound to tl
 have off:∃ r:TI,sliceOff A to.enc tl.enc tm.enc=r.enc∧r.ok β.length=true∧0≤r.den β∧(r.den β).toNat=if (tm.den β).toNat=(tl.den β).toNat then (to.den β).toNat else (to.den β).toNat + (tl.den β).toNat:=by
  unfold sliceOff
  split
  ·rename_i h0
   have:=teq_eq _ _ _ h0
   obtain ⟨rfl,_⟩:=enc_int this
   exact ⟨to,rfl,hk.oko,ho,by simp [TI.den]⟩
  ·split
   ·rename_i hlt
    have:=ltOk_sound hA hlt
    exact ⟨ra,k1,k2 _ hk.oko okl,by rw [k3]; omega,by rw [k3,if_neg (by omega)]; omega⟩
   ·rw [k1]
    refine ⟨.ite (.eq tm tl) to ra,rfl,by simp [TI.ok,TB.ok,okm,okl,hk.oko,k2 _ hk.oko okl],?_,?_⟩
    ·simp only [TI.den,TB.den,k3]; split <;> omega
    ·simp only [TI.den,TB.den,k3,decide_eq_true_eq]
     by_cases he:tm.den β=tl.den β
     ·rw [if_pos he,if_pos (by omega)]
     ·rw [if_neg he,if_neg (by omega)]; omega
 obtain ⟨r,e1,e2,e3,e4⟩:=off
 rw [e1]
 have key:=SlOk.vr (β:=β) (B:=B) (o:=r) (n:=rh) (c:=rm) (b:=b) (s:=s) ⟨hk.home,e2,f2 _ okh okl,g2 _ okm okl,e3,by rw [f3]; omega,by rw [f3,g3]; omega,by rw [f3]; omega,by rw [g3]; omega⟩
 rw [f3,g3,e4] at key
 have t1:(th.den β - tl.den β).toNat=(th.den β).toNat - (tl.den β).toNat:=by omega
 have t2:(tm.den β - tl.den β).toNat=(tm.den β).toNat - (tl.den β).toNat:=by omega
 rw [t1,t2] at key
 have t3:(if (tm.den β).toNat=(tl.den β).toNat then some (⟨b,(to.den β).toNat + s,none⟩:Addr) else (some (⟨b,(to.den β).toNat + s,none⟩:Addr)).map (·.add ((tl.den β).toNat * i.size))) =
     some ⟨b,(if (tm.den β).toNat=(tl.den β).toNat then (to.den β).toNat else (to.den β).toNat + (tl.den β).toNat) + s,none⟩:=by
  split
  ·rfl
  ·simp only [Option.map_some,add_at,hsz]
   congr 2; omega
 rw [t3]
 exact key
def aindexAddrS (P:Program) (A:List Value) (t:TypeId) (x ix:Value):Option Value :=
 match asL x,asI ix,P.underlying t with
 | some (B,o,n,_),some (_,e,lo,_),some (.slice el) =>
  match P.info? el with
  | some q=>if q.size=1∧(0≤lo∨leOk A (.int .i64 0) e=true)∧ltOk A e n=true then some (sP B (mkAdd o e)) else none
  | none=>none
 | _,_,_=>none
theorem indexAddrS_sound {P:Program} {w:World} {β:Ren} {A:List Value} (hA:Facts β A) {t:TypeId} {x x' ix ix' v:Value} (hx:VR β x x') (hi:VR β ix ix') (h:aindexAddrS P A t x ix=some v) :
    ∃ u,(Instr.indexAt t x' ix').run P w=.ok u w∧VR β v u:=by
 unfold aindexAddrS at h
 split at h
 rotate_left
 ·cases h
 rename_i B o n c k e lo hi' el q1 q2 hu
 obtain ⟨to,tn,tc,b,s,rfl,rfl,rfl,hk,rfl⟩:=asL_sound hx q1
 obtain ⟨ti,rfl,i1,rfl,i2,_⟩:=asI_sound hi q2
 split at h
 rotate_left
 ·cases h
 rename_i q hq
 split at h
 rotate_left
 ·cases h
 rename_i hc
 obtain ⟨hsz,h0,hlt⟩:=hc
 cases h
 have d1:0≤ti.den β:=by
  rcases h0 with h0 | h0
  ·omega
  ·exact leOk_sound (s:=.lit 0) hA h0
 have d2:=ltOk_sound hA hlt
 have ho:=hk.o0
 obtain ⟨ra,k1,k2,k3⟩:=mkAdd_sound to ti
 have hb:(0:Int)≤ti.den β∧ti.den β < ((tn.den β).toNat:Int):=by omega
 have e3:(⟨b,(to.den β).toNat + s,none⟩:Addr).add ((ti.den β).toNat * 1)=⟨b,(ra.den β).toNat + s,none⟩:=by rw [add_at,k3]; congr 1; omega
 refine ⟨.pointer (some ⟨b,(ra.den β).toNat + s,none⟩),?_,?_⟩
 ·simp only [Instr.indexAt,asIntOf,Sem.run_bind,Sem.run_pure,run_underlying hu,Result.andThen_ok,Sem.run_ite,hb,if_true,run_size hq,and_self,hsz,e3]
 ·rw [k1]
  exact .symP B ra b s hk.home (k2 _ hk.oko i1) (by rw [k3]; omega)
def aindexS (P:Program) (A:List Value) (t:TypeId) (x ix:Value):Option Value :=
 match asS x,asI ix,P.underlying t with
 | some (l,_),some (_,e,lo,_),some .string =>
  if (0≤lo∨leOk A (.int .i64 0) e=true)∧ltOk A e (mkLen 20 l)=true then some (sI .u8 (nd2 12 l e) 0 255) else none
 | _,_,_=>none
theorem indexS_sound {P:Program} {w:World} {β:Ren} {A:List Value} (hA:Facts β A) {t:TypeId} {x x' ix ix' v:Value} (hx:VR β x x') (hi:VR β ix ix') (h:aindexS P A t x ix=some v) :
    ∃ u,(Instr.index t x' ix').run P w=.ok u w∧VR β v u:=by
 unfold aindexS at h
 split at h
 rotate_left
 ·cases h
 rename_i l hl k e lo hi' q1 q2 hu
 obtain ⟨tl,rfl,l1,rfl,l2⟩:=asS_sound hx q1
 obtain ⟨ti,rfl,i1,rfl,i2,_⟩:=asI_sound hi q2
 split at h
 rotate_left
 ·cases h
 rename_i hc
 obtain ⟨h0,hlt⟩:=hc
 cases h
 have d1:0≤ti.den β:=by
  rcases h0 with h0 | h0
  ·omega
  ·exact leOk_sound (s:=.lit 0) hA h0
 obtain ⟨r,e1,e2,e3⟩:=mkLen_sound 20 tl
 rw [e1] at hlt
 have d2:=ltOk_sound hA hlt
 rw [e3] at d2
 have hlt':(ti.den β).toNat < (tl.den β).length:=by omega
 refine ⟨.int .u8 ((tl.den β)[(ti.den β).toNat]'hlt').toNat,?_,?_⟩
 ·have hg : (⟨(tl.den β).toArray⟩ : ByteArray)[(ti.den β).toNat]? = some ((tl.den β)[(ti.den β).toNat]'hlt') := by
    have hs:(ti.den β).toNat < (⟨(tl.den β).toArray⟩:ByteArray).size:=by show _ < (tl.den β).toArray.size; simpa using hlt'
    exact getElem?_pos (⟨(tl.den β).toArray⟩:ByteArray) (ti.den β).toNat hs
  simp only [Instr.index,asIntOf,Sem.run_bind,Sem.run_pure,run_underlying hu,Result.andThen_ok,d1,if_true,hg]
 ·have e : (((tl.den β)[(ti.den β).toNat]'hlt').toNat : Int) = (TI.sel tl ti).den β := by
    simp only [TI.den,List.getD_eq_getElem?_getD,List.getElem?_eq_getElem hlt',Option.getD_some]
  rw [e]
  refine .symI .u8 (.sel tl ti) 0 255 (by simp [TI.ok,l1,i1]) (by simp only [TI.den]; omega) ?_
  simp only [TI.den]
  have:=(List.getD (tl.den β) (ti.den β).toNat 0).toNat_lt
  omega
def asL' (v:Value):Option (Nat × Value × Value × Value):=match v with
 | .slice (some ⟨B,o,none⟩) n c=>if Nat.ble n c && Nat.ble c 1125899906842624 then some (B,.int .i64 o,.int .i64 n,.int .i64 c) else none
 | v=>asL v
theorem asL'_sound {β:Ren} {x u o n c:Value} {B:Nat} (h:VR β x u) (ha:asL' x=some (B,o,n,c)) :
    ∃ (to tn tc:TI) (b s:Nat),o=to.enc∧n=tn.enc∧c=tc.enc∧SlOk β B to tn tc b s∧u=.slice (some ⟨b,(to.den β).toNat + s,none⟩) (tn.den β).toNat (tc.den β).toNat:=by
 unfold asL' at ha
 split at ha
 ·rename_i B' o' n' c'
  split at ha
  rotate_left
  ·cases ha
  rename_i hc
  rw [Bool.and_eq_true] at hc
  have h1:n'≤c':=Nat.le_of_ble_eq_true hc.1
  have h2:c'≤1125899906842624:=Nat.le_of_ble_eq_true hc.2
  cases ha
  cases h with
  | sl _ _ b s _ _ hb =>
   exact ⟨.lit o',.lit n',.lit c',b,s,rfl,rfl,rfl,⟨hb,rfl,rfl,rfl,by simp only [TI.den]; omega,by simp only [TI.den]; omega,by simp only [TI.den]; omega,by simp only [TI.den]; omega,by simp only [TI.den]; omega⟩,by simp [TI.den]⟩
 ·exact asL_sound h ha
end
end Go.SM
namespace Go.SM
noncomputable section
def bv (l:List UInt8):List Value:=l.map fun x=>Value.int .u8 x.toNat
theorem bv_app (a b:List UInt8):bv (a++b)=bv a++bv b:=by simp [bv]
theorem bv_len (a:List UInt8):(bv a).length=a.length:=by simp [bv]
theorem bv_get {a:List UInt8} {i:Nat} (h:i < a.length):(bv a)[i]?=some (.int .u8 (a.getD i 0).toNat):=by
 simp [bv,List.getElem?_eq_getElem h,List.getD_eq_getElem?_getD]
theorem bv_one (a:List UInt8):(bv a).all one=true:=by
 rw [List.all_eq_true]; intro v hv
 simp only [bv,List.mem_map] at hv
 obtain ⟨x,_,rfl⟩:=hv; rfl
theorem HR.upd {w0:W0} {β:Ren} {H:AS} {w w':World} (h:HR w0 β H w) {B c s:Nat} {b b':Blk} {C C':Array Value} {fr:Nat × Nat} (hg:H.get B=some b) (hl:b.live=true) (hro:b.ro=false) (hb:hm β B=some (c,s))
    (hw:w.heap[c]?=some (.cells C b.elem fr)) (hC:C'.size=C.size) (hw':w'.heap[c]?=some (.cells C' b.elem fr)) (hoth:∀ k,k≠c→w'.heap[k]?=w.heap[k]?) (hk:Kept w0 w') (hlive:b'.live=true) (hro':b'.ro=false) (helem:b'.elem=b.elem)
    (hlen:b'.cells.length + s≤C'.size) (hcells:∀ (i:Nat) (v:Value),b'.cells[i]?=some v→∃ u,C'[i + s]?=some u∧VR β v u) (hseq:SeqOk β b' C' s):HR w0 β (H.put B b') w':=by
 obtain ⟨c0,s0,C0,fr0,hβ,⟨el,hw0,hel⟩,htop,hsz,hfr,hcl,hbase⟩:=h.blk B b hg hl
 rw [hb] at hβ; cases hβ
 rw [hw] at hw0
 simp only [Option.some.injEq,Obj.cells.injEq] at hw0
 obtain ⟨rfl,rfl,rfl⟩:=hw0
 refine ⟨h.len,h.big,?_,?_,hk⟩
 ·intro X x hx hlx
  by_cases hX:B=X
  ·subst hX
   rw [AS.get_put_same hg] at hx; cases hx
   exact ⟨c,s,C',fr,hb,⟨_,hw',fun _=>helem.symm⟩,fun q hq=>by rw [hC]; exact htop q hq,hlen,fun _=>by rw [hC]; exact hfr hro,hcells,fun _=>hbase.1 hro,hseq⟩
  ·rw [AS.get_put_ne h.big hg hX] at hx
   obtain ⟨c2,s2,C2,fr2,hβ2,⟨el2,hw2,hel2⟩,r⟩:=h.blk X x hx hlx
   have hne:=h.inj B X b x hg hx hl hlx hro hX
   rw [hb,hβ2] at hne
   have hne':c2≠c:=fun e=>hne (by simp [e])
   exact ⟨c2,s2,C2,fr2,hβ2,⟨el2,by rw [hoth _ hne']; exact hw2,hel2⟩,r⟩
 ·intro X Y x y hx hy hlx hly hrx hne
  have get':∀ Z z,(H.put B b').get Z=some z→∃ y,H.get Z=some y∧(z.live=true→y.live=true)∧(z.ro=false→y.ro=false):=by
   intro Z z hz
   by_cases hZ:B=Z
   ·subst hZ; rw [AS.get_put_same hg] at hz; cases hz; exact ⟨b,hg,fun _=>hl,fun _=>hro⟩
   ·rw [AS.get_put_ne h.big hg hZ] at hz; exact ⟨z,hz,id,id⟩
  obtain ⟨x1,g1,e1,f1⟩:=get' X x hx
  obtain ⟨y1,g2,e2,_⟩:=get' Y y hy
  exact h.inj X Y x1 y1 g1 g2 (e1 hlx) (e2 hly) (f1 hrx) hne
theorem raw_storeL {P:Program} {w0:W0} (c:Nat) (hc0:¬ w0.keep c):∀ (us:List Value) (j p:Nat) (w:World) (C:Array Value) (e:TypeId) (fr:Nat × Nat),w.heap[c]?=some (.cells C e fr) →
    p + j + us.length≤C.size→(∀ i,i < C.size→¬ (fr.1≤i∧i < fr.2))→us.all one=true→Kept w0 w →
    ∃ (w':World) (C':Array Value),(storeCells ⟨c,p,none⟩ us j).run P w=.ok () w'∧w'.heap[c]?=some (.cells C' e fr)∧C'.size=C.size∧C'.toList=C.toList.take (p + j)++us++C.toList.drop (p + j + us.length) ∧
     (∀ x,x≠c→w'.heap[x]?=w.heap[x]?)∧Kept w0 w'
 | [],j,p,w,C,e,fr,hw,_,_,_,hb=>⟨w,C,rfl,hw,rfl,by simp,fun _ _=>rfl,hb⟩
 | u::us,j,p,w,C,e,fr,hw,hsz,hfr,hone,hb=>by
  have hi:p + j < C.size:=by simp at hsz; omega
  have hwc:w.cell? ⟨c,p + j,none⟩=some C[p + j]:=by rw [cell_at hw]; exact Array.getElem?_eq_getElem hi
  have hfz:w.frozen? ⟨c,p + j,none⟩=false:=by
   unfold World.frozen?; rw [hw]
   have:=hfr (p + j) hi
   simp only [Bool.and_eq_false_imp,decide_eq_true_eq,decide_eq_false_iff_not]
   intro h1 h2; exact this ⟨h1,h2⟩
  have hheap:(w.setCell ⟨c,p + j,none⟩ u).heap[c]?=some (.cells (C.setIfInBounds (p + j) u) e fr):=by
   simp only [World.setCell,Array.getElem?_modify,if_true,hw]
   rfl
  simp only [List.all_cons,Bool.and_eq_true] at hone
  obtain ⟨w',C',h1,h2,h3,h4,h5,h6⟩:=raw_storeL (P:=P) c hc0 us (j + 1) p (w.setCell ⟨c,p + j,none⟩ u) (C.setIfInBounds (p + j) u) e fr hheap (by simp at hsz ⊢; omega) (by simpa using hfr) hone.2 (hb.setCell hc0 u)
  refine ⟨w',C',?_,h2,by simpa using h3,?_,?_,h6⟩
  ·simp only [storeCells,store,add_at]
   show Sem.run P (Sem.store .plain _ u _) w=_
   have ho:=hone.1
   cases u <;> first | (simp [one] at ho; done) | (simp only [Sem.run,hwc,hfz,Bool.false_eq_true,if_false]; exact h1)
  ·rw [h4]
   have hl:p + j < C.toList.length:=by simpa using hi
   have e1:(C.setIfInBounds (p + j) u).toList=C.toList.take (p + j)++u::C.toList.drop (p + j + 1):=by
    rw [Array.toList_setIfInBounds,List.set_eq_take_append_cons_drop,if_pos hl]
   rw [e1,← Nat.add_assoc]
   have hlen:(C.toList.take (p + j)).length=p + j:=by rw [List.length_take]; omega
   have e2:(C.toList.take (p + j)++u::C.toList.drop (p + j + 1)).take (p + j + 1)=C.toList.take (p + j)++[u]:=by
    rw [List.take_append,hlen,List.take_of_length_le (by rw [hlen]; omega),show p + j + 1 - (p + j)=1 from by omega]; rfl
   have e3:(C.toList.take (p + j)++u::C.toList.drop (p + j + 1)).drop (p + j + 1 + us.length)=C.toList.drop (p + j + (u::us).length):=by
    rw [List.drop_append,hlen,List.drop_of_length_le (by rw [hlen]; omega),List.nil_append,show p + j + 1 + us.length - (p + j)=us.length + 1 from by omega,List.drop_succ_cons,List.drop_drop]
    congr 1; simp; omega
   rw [e2,e3]; simp
  ·intro x hx
   rw [h5 x hx]; exact RowKit.Below.heap_setCell _ _ _ _ hx
theorem SeqOk.get {β:Ren} {b:Blk} {C:Array Value} {s:Nat} {e:Value} (h:SeqOk β b C s) (he:b.sq=some e):∃ (t:TL) (pre post:List Value),e=t.enc∧t.ok β.length=true∧pre.length=s∧C.toList=pre++bv (t.den β)++post:=by
 obtain ⟨h1,h2⟩:=Blk.sq_some he
 rcases h e h1 with h3 | ⟨t,_,_,rfl,_⟩
 ·exact h3
 ·cases h2
def nv (l:List Int):List Value:=l.map fun x=>Value.int .i64 x
theorem nv_len (l:List Int):(nv l).length=l.length:=by simp [nv]
theorem nv_app (l m:List Int):nv (l++m)=nv l++nv m:=by simp [nv]
theorem SeqOk.getN {β:Ren} {b:Blk} {C:Array Value} {s:Nat} {e:Value} (h:SeqOk β b C s) (he:b.seq=some (.func (.yield 28) ⟨[e]⟩ ⟨[]⟩)):∃ (t:TN) (pre post:List Value),e=t.enc∧t.ok β.length=true∧pre.length=s∧C.toList=pre++nv (t.den β)++post∧∀ x ∈ t.den β,0≤x∧x≤4194303:=by
 rcases h _ he with ⟨t,_,_,h1,_⟩ | ⟨t,p,q,h1,h2⟩
 ·have:=TL.notN t
  rw [← h1] at this
  cases this
 ·simp only [nd1,Value.func.injEq,Array.mk.injEq,List.cons.injEq,and_true,true_and] at h1
  exact ⟨t,p,q,h1,h2⟩
def mkLenN:Nat→Value→Value
 | 0,e=>nd1 14 e
 | k + 1,e=>match e with
  | .bool false=>.int .i64 0
  | .func (.yield 26) ⟨[l,m]⟩ ⟨[]⟩=>mkAdd (mkLenN k l) (mkLenN k m)
  | .func (.yield 25) ⟨[_]⟩ ⟨[]⟩=>.int .i64 1
  | e=>nd1 14 e
theorem encN_nil {t:TN} (h:t.enc=.bool false):t=.nil:=by
 cases t <;> simp [TN.enc,nd1,nd2,nd3] at h; rfl
theorem encN_app {t:TN} {a b:Value} {c:Array Value} (h:t.enc=.func (.yield 26) ⟨[a,b]⟩ c):∃ (l m:TN),t=.app l m∧a=l.enc∧b=m.enc:=by
 cases t <;> simp [TN.enc,nd1,nd2,nd3] at h
 exact ⟨_,_,rfl,h.1.1.symm,h.1.2.symm⟩
theorem encN_one {t:TN} {a:Value} {c:Array Value} (h:t.enc=.func (.yield 25) ⟨[a]⟩ c):∃ (v:TI),t=.one v∧a=v.enc:=by
 cases t <;> simp [TN.enc,nd1,nd2,nd3] at h
 exact ⟨_,rfl,h.1.symm⟩
theorem mkLenN_sound:∀ (k:Nat) (t:TN),∃ r:TI,mkLenN k t.enc=r.enc∧(∀ n,t.ok n=true→r.ok n=true)∧∀ β,r.den β=(t.den β).length:=by
 intro k
 induction k with
 | zero=>intro t; exact ⟨.lenN t,rfl,fun n h=>h,fun β=>rfl⟩
 | succ k ih =>
  intro t
  generalize he:t.enc=e
  unfold mkLenN
  split
  ·have:=encN_nil he
   subst this
   exact ⟨.lit 0,rfl,fun _ _=>rfl,fun β=>by simp [TI.den,TN.den]⟩
  ·obtain ⟨l,m,rfl,rfl,rfl⟩:=encN_app he
   obtain ⟨r,h1,h2,h3⟩:=ih l
   obtain ⟨r',g1,g2,g3⟩:=ih m
   rw [h1,g1]
   obtain ⟨q,f1,f2,f3⟩:=mkAdd_sound r r'
   exact ⟨q,f1,fun n h=>by simp [TN.ok] at h; exact f2 n (h2 n h.1) (g2 n h.2),fun β=>by rw [f3,h3,g3]; simp [TN.den]⟩
  ·obtain ⟨v,rfl,rfl⟩:=encN_one he
   exact ⟨.lit 1,rfl,fun _ _=>rfl,fun β=>by simp [TI.den,TN.den]⟩
  ·rw [← he]; exact ⟨.lenN t,rfl,fun n h=>h,fun β=>rfl⟩
def aloadS (P:Program) (A:List Value) (t:TypeId) (H:AS) (x:Value):Option Value :=
 match asP x with
 | some (B,o) =>
  match P.underlying t,H.get B with
  | some (.int .u8),some b =>
   (match b.live,b.sq with
   | true,some e=>if ltOk A o (mkLen 20 e) then some (sI .u8 (nd2 12 e o) 0 255) else none
   | _,_=>none)
  | some (.int .i64),some b =>
   (match b.live,b.seq with
   | true,some (.func (.yield 28) ⟨[e]⟩ ⟨[]⟩)=>if ltOk A o (mkLenN 20 e) then some (sI .i64 (nd2 15 e o) 0 4194303) else none
   | _,_=>none)
  | _,_=>none
 | none=>none
theorem seq_atN {l:List Int} {pre post:List Value} {C:Array Value} {i s:Nat} (hC:C.toList=pre++nv l++post) (hs:pre.length=s) (hi:i < l.length):C[i + s]?=some (.int .i64 (l.getD i 0)):=by
 rw [← Array.getElem?_toList,hC,List.append_assoc,List.getElem?_append_right (by omega),List.getElem?_append_left (by rw [nv_len]; omega),hs,Nat.add_sub_cancel]
 unfold nv
 rw [List.getElem?_map,List.getElem?_eq_getElem hi,List.getD_eq_getElem?_getD,List.getElem?_eq_getElem hi]
 rfl
theorem seq_at {l:List UInt8} {pre post:List Value} {C:Array Value} {i s:Nat} (hC:C.toList=pre++bv l++post) (hs:pre.length=s) (hi:i < l.length):C[i + s]?=some (.int .u8 (l.getD i 0).toNat):=by
 rw [← Array.getElem?_toList,hC,List.append_assoc,List.getElem?_append_right (by omega),List.getElem?_append_left (by rw [bv_len]; omega),hs,Nat.add_sub_cancel]
 exact bv_get hi
theorem HR.loadS {P:Program} {w0:W0} {β:Ren} {H:AS} {w:World} {A:List Value} (hA:Facts β A) (h:HR w0 β H w) {t:TypeId} {x x' v:Value} (hx:VR β x x') (hl:aloadS P A t H x=some v) :
    ∃ u,(Instr.loadAt t x').run P w=.ok u w∧VR β v u:=by
 unfold aloadS at hl
 split at hl
 rotate_left
 ·cases hl
 rename_i B o hq
 obtain ⟨to,c,s,rfl,hb,ho,ho0,rfl⟩:=asP_sound hx hq
 split at hl
 ·rename_i b hu hg
  split at hl
  rotate_left
  ·cases hl
  rename_i e hlive hseq
  split at hl
  rotate_left
  ·cases hl
  rename_i hlt
  cases hl
  obtain ⟨c',s',C,fr,hβ,⟨el,hw,hel⟩,htop,hsz,hfr,hcl,hbase,hsq⟩:=h.blk B b hg hlive
  rw [hb] at hβ; cases hβ
  obtain ⟨tl,pre,post,rfl,hok,hpre,hC⟩:=hsq.get hseq
  obtain ⟨r,e1,e2,e3⟩:=mkLen_sound 20 tl
  rw [e1] at hlt
  have hlt:=ltOk_sound hA hlt
  rw [e3] at hlt
  have hcell:w.cell? ⟨c,(to.den β).toNat + s,none⟩=some (.int .u8 ((tl.den β).getD (to.den β).toNat 0).toNat):=by
   rw [cell_at hw]; exact seq_at hC hpre (by omega)
  refine ⟨.int .u8 ((tl.den β).getD (to.den β).toNat 0).toNat,?_,?_⟩
  ·simp only [Instr.loadAt,Instr.sureAddr,Go.loadVar,Sem.run_bind,Sem.run_pure,Result.andThen_ok,run_isAgg hu,isAggD,Bool.false_eq_true,if_false,run_load,hcell]
  ·refine VR.symI .u8 (.sel tl to) 0 255 (by simp [TI.ok,hok,ho]) (by simp only [TI.den]; omega) ?_
   simp only [TI.den]
   have:=(List.getD (tl.den β) (to.den β).toNat 0).toNat_lt
   omega
 ·rename_i b hu hg
  split at hl
  rotate_left
  ·cases hl
  rename_i e hlive hseq
  split at hl
  rotate_left
  ·cases hl
  rename_i hlt
  cases hl
  obtain ⟨c',s',C,fr,hβ,⟨el,hw,hel⟩,htop,hsz,hfr,hcl,hbase,hsq⟩:=h.blk B b hg hlive
  rw [hb] at hβ; cases hβ
  obtain ⟨tl,pre,post,rfl,hok,hpre,hC,hrg⟩:=hsq.getN hseq
  obtain ⟨r,e1,e2,e3⟩:=mkLenN_sound 20 tl
  rw [e1] at hlt
  have hlt:=ltOk_sound hA hlt
  rw [e3] at hlt
  have hlt2:(to.den β).toNat < (tl.den β).length:=by omega
  have hcell:w.cell? ⟨c,(to.den β).toNat + s,none⟩=some (.int .i64 ((tl.den β).getD (to.den β).toNat 0)):=by
   rw [cell_at hw]; exact seq_atN hC hpre hlt2
  have hmem:(tl.den β).getD (to.den β).toNat 0 ∈ tl.den β:=by
   rw [List.getD_eq_getElem?_getD,List.getElem?_eq_getElem hlt2]
   exact List.getElem_mem hlt2
  obtain ⟨r1,r2⟩:=hrg _ hmem
  refine ⟨.int .i64 ((tl.den β).getD (to.den β).toNat 0),?_,?_⟩
  ·simp only [Instr.loadAt,Instr.sureAddr,Go.loadVar,Sem.run_bind,Sem.run_pure,Result.andThen_ok,run_isAgg hu,isAggD,Bool.false_eq_true,if_false,run_load,hcell]
  ·exact VR.symI .i64 (.selN tl to) _ _ (by simp [TI.ok,hok,ho]) r1 r2
 ·cases hl
def astoreS (P:Program) (A:List Value) (t:TypeId) (H:AS) (x v:Value):Option AS :=
 match asP x,asI v,P.info? t with
 | some (B,o),some (.u8,ev,lo,hi),some i =>
  match H.get B with
  | some b =>
   match b.live,b.ro,b.sq with
   | true,false,some e=>if i.size=1∧0≤lo∧hi≤255∧ltOk A o (mkLen 20 e)=true then some (H.put B { b with cells:=[],seq:=some (nd3 20 e o ev) }) else none
   | _,_,_=>none
  | _=>none
 | _,_,_=>none
theorem HR.storeS {P:Program} {w0:W0} {β:Ren} {H H':AS} {w:World} {A:List Value} (hA:Facts β A) (h:HR w0 β H w) {t:TypeId} {x x' v v':Value} (hx:VR β x x') (hv:VR β v v') (hs:astoreS P A t H x v=some H') :
    ∃ w',(Instr.storeAt t x' v').run P w=.ok () w'∧HR w0 β H' w':=by
 unfold astoreS at hs
 split at hs
 rotate_left
 ·cases hs
 rename_i B o ev lo hi i hq hv' hinfo
 obtain ⟨to,c,s,rfl,hb,ho,ho0,rfl⟩:=asP_sound hx hq
 obtain ⟨tv,rfl,hokv,rfl,hv1,hv2⟩:=asI_sound hv hv'
 split at hs
 rotate_left
 ·cases hs
 rename_i b hg
 split at hs
 rotate_left
 ·cases hs
 rename_i e hlive hro hseq
 split at hs
 rotate_left
 ·cases hs
 rename_i hc
 obtain ⟨hsz1,h0,h255,hlt⟩:=hc
 cases hs
 obtain ⟨c',s',C,fr,hβ,⟨el,hw,hel⟩,htop,hsz,hfr,hcl,hbase,hsq⟩:=h.blk B b hg hlive
 rw [hb] at hβ; cases hβ
 obtain rfl:=hel hro
 obtain ⟨tl,pre,post,rfl,hok,hpre,hC⟩:=hsq.get hseq
 obtain ⟨r,e1,e2,e3⟩:=mkLen_sound 20 tl
 rw [e1] at hlt
 have hlt:=ltOk_sound hA hlt
 rw [e3] at hlt
 have hCs:C.size=pre.length + (tl.den β).length + post.length:=by
  have:=congrArg List.length hC
  simp only [Array.length_toList,List.length_append,bv_len] at this
  exact this
 obtain ⟨w',C',g1,g2,g3,g4,g5,g6⟩:=raw_storeL (P:=P) (w0:=w0) c (hbase hro) [.int .u8 (tv.den β)] 0 ((to.den β).toNat + s) w C b.elem fr hw (by simp; omega) (hfr hro) rfl h.below
 refine ⟨w',?_,?_⟩
 ·simp only [Instr.storeAt,Instr.sureAddr,Sem.run_bind,Sem.run_pure,Result.andThen_ok,Go.storeVar,run_size hinfo]
  rw [if_neg (by simp [Value.cells,hsz1])]
  exact g1
 ·refine h.upd hg hlive hro hb hw g3 g2 g5 g6 hlive hro rfl (by simp; omega) (fun i v hv=>by simp at hv) ?_
  intro q hq
  simp only [Option.some.injEq] at hq
  subst hq
  refine .inl ⟨.set tl to tv,pre,post,rfl,by simp [TL.ok,hok,ho,hokv],hpre,?_⟩
  rw [g4,hC]
  have hu8:((UInt8.ofNat (tv.den β).toNat).toNat:Int)=tv.den β:=by
   rw [UInt8.toNat_ofNat']
   have:(tv.den β).toNat < 2 ^ 8:=by omega
   rw [Nat.mod_eq_of_lt this]; omega
  have e4:bv ((TL.set tl to tv).den β)=(bv (tl.den β)).take (to.den β).toNat++.int .u8 (tv.den β)::(bv (tl.den β)).drop ((to.den β).toNat + 1):=by
   simp only [TL.den,bv]
   rw [List.map_set,List.set_eq_take_append_cons_drop,if_pos (by simp; omega),hu8]
  show _=pre++bv _++post
  rw [e4]
  simp only [Nat.add_zero,List.length_cons,List.length_nil]
  have p1:(to.den β).toNat + s=pre.length + (to.den β).toNat:=by omega
  rw [p1,List.append_assoc pre,List.take_append,List.take_of_length_le (by omega:pre.length≤_),Nat.add_sub_cancel_left,List.take_append_of_le_length (by rw [bv_len]; omega)]
  rw [Nat.add_assoc,List.drop_append,List.drop_of_length_le (by omega:pre.length≤_),Nat.add_sub_cancel_left,List.drop_append_of_le_length (by rw [bv_len]; omega)]
  simp
end
end Go.SM
