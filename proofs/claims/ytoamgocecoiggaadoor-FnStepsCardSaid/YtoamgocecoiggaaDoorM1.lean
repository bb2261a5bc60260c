-- the statement of this claim: see YtoamgocecoiggaaDoorRs
import Derived.Test.YtoamgocecoiggaaDoorM0
set_option linter.unusedVariables false
set_option linter.unusedSimpArgs false
set_option maxRecDepth 100000
noncomputable section
namespace Go.SM
noncomputable section
def val(P:Program){α:Type}:Sem α->Option α
 | .pure a=>some a
 | .program k=>val P (k P)
 | .mark _ k=>val P k
 |_=>none
theorem bS{α:Type}(P:Program):∀(s:Sem α)(a:α)(w:World),val P s=some a->s.run P w=.ok a w
 | .pure b,a,w,h=>by simp only[val,Option.some.injEq]at h;subst h;rfl
 | .program k,a,w,h=>by simp only[val]at h;simp only[Sem.run];exact bS P (k P) a w h
 | .mark m k,a,w,h=>by simp only[val]at h;simp only[Sem.run];exact bS P k a w h
 | .load ..,_,_,h | .store ..,_,_,h | .new ..,_,_,h | .shape ..,_,_,h | .freeze ..,_,_,h | .frozen ..,_,_,h | .getObj ..,_,_,h
 | .setObj ..,_,_,h | .choose ..,_,_,h | .sys ..,_,_,h | .halt _,_,_,h=>by simp[val]at h
inductive Tr(α:Type) where
 |e
 |l (a:α)
 |n (x y:Tr α)
def bit(k d:Nat):Bool:=Nat.beq (Nat.land (Nat.shiftRight k d) (nat_lit 1)) (nat_lit 1)
theorem aQN(k d:Nat):bit k d=k.testBit d:=by
 have h:bit k d=decide ((k >>> d) &&& 1=1):=by
  cases hb:bit k d with
  |true=>exact (decide_eq_true (Nat.eq_of_beq_eq_true hb)).symm
  |false=>exact (decide_eq_false (fun e=>Nat.ne_of_beq_eq_false hb e)).symm
 rw[h,Nat.testBit,Nat.and_comm 1];have:(k >>> d) &&& 1<2:=Nat.lt_of_le_of_lt Nat.and_le_right (by decide);generalize (k >>> d) &&& 1=x at this;match x,this with
 |0,_=>rfl
 |1,_=>rfl
def Tr.get{α:Type}(d:Nat)(t:Tr α)(k:Nat):Option α :=
 Tr.rec (motive:=fun _=>Nat->Option α) (fun _=>none) (fun a d=>Nat.rec (some a) (fun _ _=>none) d)
  (fun _ _ ihx ihy d=>Nat.rec none (fun d _=>Bool.rec (ihx d) (ihy d) (bit k d)) d) t d
def Tr.lft{α:Type}(t:Tr α):Tr α:=Tr.rec .e (fun _=>.e) (fun x _ _ _=>x) t
def Tr.rgt{α:Type}(t:Tr α):Tr α:=Tr.rec .e (fun _=>.e) (fun _ y _ _=>y) t
def Tr.set{α:Type}(d:Nat)(t:Tr α)(k:Nat)(a:α):Tr α :=
 Nat.rec (motive:=fun _=>Tr α->Tr α) (fun _=>.l a) (fun d ih t=>Bool.rec (.n (ih t.lft) t.rgt) (.n t.lft (ih t.rgt)) (bit k d)) d t
theorem Tr.get_n{α:Type}(d k:Nat)(x y:Tr α):(Tr.n x y).get (d+1) k=if bit k d then y.get d k else x.get d k:=by
 show (Bool.rec (x.get d k) (y.get d k) (bit k d):Option α)=_;cases bit k d<;>rfl
theorem Tr.set_succ{α:Type}(d k:Nat)(t:Tr α)(a:α):t.set (d+1) k a=if bit k d then .n t.lft (t.rgt.set d k a) else .n (t.lft.set d k a) t.rgt:=by
 show (Bool.rec (.n (t.lft.set d k a) t.rgt) (.n t.lft (t.rgt.set d k a)) (bit k d):Tr α)=_;cases bit k d<;>rfl
theorem Tr.get_e{α:Type}(d k:Nat):(Tr.e:Tr α).get d k=none:=rfl
theorem Tr.get_succ{α:Type}(d k:Nat)(t:Tr α):t.get (d+1) k=if bit k d then t.rgt.get d k else t.lft.get d k:=by
 cases t with
 |n x y=>exact Tr.get_n d k x y
 |e=>show none=_;split<;>rfl
 |l a=>show none=_;split<;>rfl
theorem Tr.get_set{α:Type}(a:α)(k:Nat):∀(d:Nat)(t:Tr α),(t.set d k a).get d k=some a
 |0,t=>rfl
 |d+1,t=>by
  rw[Tr.set_succ];cases h:bit k d with
  |true=>rw[if_pos rfl,Tr.get_n,h,if_pos rfl];exact Tr.get_set a k d _
  |false=>rw[if_neg (by decide),Tr.get_n,h,if_neg (by decide)];exact Tr.get_set a k d _
theorem Tr.get_set_ne{α:Type}(a:α)(k j:Nat):∀(d:Nat)(t:Tr α),(∃ i,i<d/\bit k i≠bit j i)->(t.set d k a).get d j=t.get d j
 |0,_,h=>by obtain⟨i,hi,_⟩:=h;omega
 |d+1,t,h=>by
  rw[Tr.set_succ,Tr.get_succ d j t];by_cases hd:bit k d=bit j d
  ·have h' : ∃ i, i < d ∧ bit k i ≠ bit j i := by
     obtain⟨i,hi,hne⟩:=h;refine⟨i,?_,hne⟩;have:i≠d:=fun e=>hne (e ▸ hd);omega
   rw[hd];cases hj:bit j d with
   |true=>rw[if_pos rfl,if_pos rfl,Tr.get_n,hj,if_pos rfl];exact Tr.get_set_ne a k j d _ h'
   |false=>rw[if_neg (by decide),if_neg (by decide),Tr.get_n,hj,if_neg (by decide)];exact Tr.get_set_ne a k j d _ h'
  .cases hk:bit k d<;>cases hj:bit j d<;>simp_all [Tr.get_n]
theorem uK(d k j:Nat)(hk:k<2 ^ d)(hj:j<2 ^ d)(h:k≠j):∃ i,i<d/\bit k i≠bit j i:=by
 simp only[aQN];apply Classical.byContradiction;intro hn;apply h;apply Nat.eq_of_testBit_eq;intro i;by_cases hi:i<d
 .exact Classical.byContradiction fun hc=>hn ⟨i,hi,hc⟩
 .rw[Nat.testBit_lt_two_pow (Nat.lt_of_lt_of_le hk (Nat.pow_le_pow_right (by decide) (by omega))),Nat.testBit_lt_two_pow (Nat.lt_of_lt_of_le hj (Nat.pow_le_pow_right (by decide) (by omega)))]
def hm(V:Ren)(B:Nat):Option (Nat × Nat):=V[B]?.map fun h=>(h.b,h.s)
theorem vU{V:Ren}{B:Nat}{h:Hm}(hp:V[B]?=some h):hm V B=some (h.b,h.s):=by unfold hm;rw[hp];rfl
theorem zV{V γ:Ren}{B:Nat}{p:Nat × Nat}(hp:hm V B=some p):hm (V++γ) B=some p:=by
 unfold hm at hp ⊢;simp only[Option.map_eq_some_iff]at hp ⊢;obtain⟨h,h1,h2⟩:=hp;exact⟨h,get_append h1,h2⟩
theorem pK{V:Ren}{h:Hm}{n:Nat}(hn:V.length=n):hm (V++[h]) n=some (h.b,h.s)/\(V++[h])[n]?=some h:=by
 subst hn;have:(V++[h])[V.length]?=some h:=by rw[List.getElem?_append_right (Nat.le_refl _)];simp
 exact⟨by unfold hm;rw[this];rfl,this⟩
def one:Value->Bool
 | .agg _ | .tuple _=>false
 |_=>true
def fW:Value->Bool
 | .agg _ | .tuple _=>false
 | .map (some k)=>!(Nat.beq (k%3) 0)
 |_=>true
inductive VR(V:Ren):Value->Value->Prop where
 |any (u:Value):VR V (.tuple #[]) u
 |bool (b:Bool):VR V (.bool b) (.bool b)
 |int (k:IntKind) (n:Int):VR V (.int k n) (.int k n)
 |float (k:FloatKind) (n:Nat):VR V (.float k n) (.float k n)
 |string (s:ByteArray):VR V (.string s) (.string s)
 |ptr0:VR V (.pointer none) (.pointer none)
 |ptr (B o b s:Nat):hm V B=some (b,s)->VR V (.pointer (some ⟨B,o,none⟩)) (.pointer (some ⟨b,o+s,none⟩))
 |sl0 (n c:Nat):VR V (.slice none n c) (.slice none n c)
 |sl (B o b s n c:Nat):hm V B=some (b,s)->VR V (.slice (some ⟨B,o,none⟩) n c) (.slice (some ⟨b,o+s,none⟩) n c)
 |slL (B o n c c' z:Nat) (h:Hm):V[B]?=some h->c<=c'->o+h.s+c'*z<=h.top->VR V (.slice (some ⟨B,o,some z⟩) n c) (.slice (some ⟨h.b,o+h.s,none⟩) n c')
 |rng8 (lo hi:Nat) (n:Int):lo<=n->n<=hi->VR V (.complex .f32 lo hi) (.int .u8 n)
 |rng64 (lo hi:Nat) (n:Int):lo<=n->n<=hi->VR V (.complex .f64 lo hi) (.int .i64 n)
 |rint (k:Nat) (h:Hm):V[1]?=some h->k<=2 ^ 40->h.b<=2 ^ 61->VR V (.chan (some (2*k))) (.int .i64 ((h.b+k:Nat):Int))
 |rsl (w o n c:Nat) (g h:Hm):V[0]?=some g->V[1]?=some h->o+h.b=g.s->h.b+w<=n->VR V (.chan (some (2*w+1))) (.slice (some ⟨g.b,o,none⟩) n c)
 |any1 (u:Value):one u=true->VR V (.chan none) u
 |opq (k:Nat) (h:Hm):V[k]?=some h->VR V (.map (some (3*k))) h.v
 |opq1 (k:Nat) (h:Hm):V[k]?=some h->one h.v=true->VR V (.map (some (3*k+1))) h.v
 |sAny (j:Nat) (s:ByteArray):s.size<=(j+1)*2147483648->VR V (.map (some (12*j+2))) (.string s)
 |sNe (j:Nat) (s:ByteArray):s.size<=(j+1)*2147483648->s.size≠0->VR V (.map (some (12*j+5))) (.string s)
 |uNz (n:Int):n≠0->VR V (.map (some 8)) (.int .u32 n)
 |symI (k:IntKind) (t:TI) (lo hi:Int):t.ok V.length=true->lo<=t.den V->t.den V<=hi->VR V (sI k t.enc lo hi) (.int k (t.den V))
 |symB (t:TB):t.ok V.length=true->VR V (sB t.enc) (.bool (t.den V))
 |symS (t:TL) (hi:Int):t.ok V.length=true->((t.den V).length:Int)<=hi->VR V (sS t.enc hi) (.string ⟨(t.den V).toArray⟩)
 |symP (B:Nat) (t:TI) (b s:Nat):hm V B=some (b,s)->t.ok V.length=true->0<=t.den V->VR V (sP B t.enc) (.pointer (some ⟨b,(t.den V).toNat+s,none⟩))
 |symL (B:Nat) (o n c:TI) (b s:Nat):hm V B=some (b,s)->o.ok V.length=true->n.ok V.length=true->c.ok V.length=true->0<=o.den V->0<=n.den V->n.den V<=c.den V->(n.den V<=2 ^ 50/\c.den V<2 ^ 63) ->
     VR V (sL B o.enc n.enc c.enc) (.slice (some ⟨b,(o.den V).toNat+s,none⟩) (n.den V).toNat (c.den V).toNat)
 |nilFunc:VR V .nilFunc .nilFunc
 |nilIface:VR V .nilIface .nilIface
 |func (fn:Fn) (a c a' c':Array Value):noY fn=true->a.size=a'.size->c.size=c'.size->(∀ (i:Nat) (v u:Value),a[i]?=some v->a'[i]?=some u->VR V v u) ->
     (∀ (i:Nat) (v u:Value),c[i]?=some v->c'[i]?=some u->VR V v u)->VR V (.func fn a c) (.func fn a' c')
 |iface (t:TypeId) (v u:Value):VR V v u->VR V (.iface t v) (.iface t u)
 |agg (a a':Array Value):a.size=a'.size->(∀ (i:Nat) (v u:Value),a[i]?=some v->a'[i]?=some u->VR V v u)->VR V (.agg a) (.agg a')
 |tuple (a a':Array Value):a.size=a'.size->(∀ (i:Nat) (v u:Value),a[i]?=some v->a'[i]?=some u->VR V v u)->VR V (.tuple a) (.tuple a')
theorem VR.mono{V γ:Ren}{v u:Value}(h:VR V v u):VR (V++γ) v u:=by
 have tok:∀ {t:TI},t.ok V.length=true->t.ok (V++γ).length=true:=fun h=>TI.ok_app _ _ (by simp) _ h;have tokB:∀ {t:TB},t.ok V.length=true->t.ok (V++γ).length=true:=fun h=>TB.ok_app _ _ (by simp) _ h;have tokL:∀ {t:TL},t.ok V.length=true->t.ok (V++γ).length=true:=fun h=>TL.ok_app _ _ (by simp) _ h;induction h with
 |symI k t lo hi h1 h2 h3=>have:=VR.symI (V:=V++γ) k t lo hi (tok h1) (by rw[TI.den_app V γ t h1];exact h2) (by rw[TI.den_app V γ t h1];exact h3);rw[TI.den_app V γ t h1]at this;exact this
 |symB t h1=>have:=VR.symB (V:=V++γ) t (tokB h1);rw[TB.den_app V γ t h1]at this;exact this
 |symS t hi h1 h2=>have:=VR.symS (V:=V++γ) t hi (tokL h1) (by rw[TL.den_app V γ t h1];exact h2);rw[TL.den_app V γ t h1]at this;exact this
 |symP B t b s hb h1 h2=>have:=VR.symP (V:=V++γ) B t b s (zV hb) (tok h1) (by rw[TI.den_app V γ t h1];exact h2);rw[TI.den_app V γ t h1]at this;exact this
 |symL B o n c b s hb h1 h2 h3 h4 h5 h6 h7 =>
  have:=VR.symL (V:=V++γ) B o n c b s (zV hb) (tok h1) (tok h2) (tok h3) (by rw[TI.den_app V γ o h1];exact h4) (by rw[TI.den_app V γ n h2];exact h5) (by rw[TI.den_app V γ n h2,TI.den_app V γ c h3];exact h6) (by rw[TI.den_app V γ n h2,TI.den_app V γ c h3];exact h7);rw[TI.den_app V γ o h1,TI.den_app V γ n h2,TI.den_app V γ c h3]at this;exact this
 |any u=>exact .any u
 |bool b=>exact .bool b
 |int k n=>exact .int k n
 |float k n=>exact .float k n
 |string s=>exact .string s
 |ptr0=>exact .ptr0
 |ptr B o b s h=>exact .ptr B o b s (zV h)
 |sl0 n c=>exact .sl0 n c
 |sl B o b s n c h=>exact .sl B o b s n c (zV h)
 |slL B o n c c' z hh h hc ht=>exact .slL B o n c c' z hh (get_append h) hc ht
 |rng8 lo hi n h1 h2=>exact .rng8 lo hi n h1 h2
 |rng64 lo hi n h1 h2=>exact .rng64 lo hi n h1 h2
 |rint k h h1 h2 h3=>exact .rint k h (get_append h1) h2 h3
 |rsl w o n c g h h1 h2 h3 h4=>exact .rsl w o n c g h (get_append h1) (get_append h2) h3 h4
 |any1 u h=>exact .any1 u h
 |opq k h h1=>exact .opq k h (get_append h1)
 |opq1 k h h1 h2=>exact .opq1 k h (get_append h1) h2
 |sAny j s h=>exact .sAny j s h
 |sNe j s h h'=>exact .sNe j s h h'
 |uNz n h=>exact .uNz n h
 |nilFunc=>exact .nilFunc
 |nilIface=>exact .nilIface
 |func fn a c a' c' h0 h1 h2 _ _ ih1 ih2=>exact .func fn a c a' c' h0 h1 h2 ih1 ih2
 |iface t v u _ ih=>exact .iface t v u ih
 |agg a a' h1 _ ih=>exact .agg a a' h1 ih
 |tuple a a' h1 _ ih=>exact .tuple a a' h1 ih
def zL:Value->Bool
 | .bool _ | .int _ _ | .float _ _ | .string _ | .pointer none | .slice none _ _ | .nilFunc | .nilIface=>true
 | .func fn a c=>noY fn&&(a.isEmpty&&c.isEmpty)
 | .iface _ (.int _ _) | .iface _ (.string _) | .iface _ (.bool _)=>true
 |_=>false
theorem VR.eq_of_ground{V:Ren}{v u:Value}(h:VR V v u)(hg:zL v=true):u=v:=by
 cases h with
 |any=>simp[zL]at hg
 |symI=>simp[zL]at hg
 |symB=>simp[zL]at hg
 |symS=>simp[zL]at hg
 |symP=>simp[zL]at hg
 |symL=>simp[zL]at hg
 |ptr=>simp[zL]at hg
 |sl=>simp[zL]at hg
 |slL=>simp[zL]at hg
 |rng8=>simp[zL]at hg
 |rng64=>simp[zL]at hg
 |rint=>simp[zL]at hg
 |rsl=>simp[zL]at hg
 |any1=>simp[zL]at hg
 |opq=>simp[zL]at hg
 |opq1=>simp[zL]at hg
 |sAny=>simp[zL]at hg
 |sNe=>simp[zL]at hg
 |uNz=>simp[zL]at hg
 |agg=>simp[zL]at hg
 |tuple=>simp[zL]at hg
 |func fn a c a' c' h0 h1 h2 =>
  simp only[zL,Bool.and_eq_true,Array.isEmpty_iff]at hg;obtain⟨_,rfl,rfl⟩:=hg;have e1:a'=#[]:=by apply Array.eq_empty_of_size_eq_zero;rw[<-h1];rfl
  have e2:c'=#[]:=by apply Array.eq_empty_of_size_eq_zero;rw[<-h2];rfl
  rw[e1,e2]
 |iface t v u h =>
  cases h<;>simp_all [zL]
 |_=>rfl
theorem VR.of_ground{V:Ren}:∀ {v:Value},zL v=true->VR V v v
 | .bool b,_=>.bool b
 | .int k n,_=>.int k n
 | .float k n,_=>.float k n
 | .string s,_=>.string s
 | .pointer none,_=>.ptr0
 | .slice none n c,_=>.sl0 n c
 | .nilFunc,_=>.nilFunc
 | .nilIface,_=>.nilIface
 | .func fn a c,h=>by
  simp only[zL,Bool.and_eq_true,Array.isEmpty_iff]at h;obtain⟨h0,rfl,rfl⟩:=h;exact .func fn #[] #[] #[] #[] h0 rfl rfl (fun i v u h=>by simp at h) (fun i v u h=>by simp at h)
 | .iface t (.int k n),_=>.iface t _ _ (.int k n)
 | .iface t (.string s),_=>.iface t _ _ (.string s)
 | .iface t (.bool s),_=>.iface t _ _ (.bool s)
theorem VR.one_conc{V:Ren}{v u:Value}(h:VR V v u)(ho:fW v=true):one u=true:=by
 cases h with
 |any1 u h=>exact h
 | opq k h h1 => exfalso; have : 3 * k % 3 = 0 := by omega
                 simp[fW,this]at ho
 |sAny j s h=>rfl
 |sNe j s h h'=>rfl
 |uNz n h=>rfl
 |opq1 k h h1 h2=>exact h2
 |symI=>rfl
 |symB=>rfl
 |symS=>rfl
 |symP=>rfl
 |symL=>rfl
 |_=>simp_all [one,fW]
structure Blk where
 cells:List Value
 elem:TypeId
 ro:Bool
 live:Bool
 seq:Option Value:=none
abbrev D:Nat:=20
structure AS where
 heap:Tr Blk
 size:Nat
def AS.get(H:AS)(B:Nat):Option Blk:=if B<H.size then H.heap.get D B else none
def AS.put(H:AS)(B:Nat)(b:Blk):AS:={ H with heap:=H.heap.set D B b }
def AS.new(H:AS)(b:Blk):Option (Nat × AS):=if H.size<2 ^ 20 then some (H.size,{ H with heap:=H.heap.set D H.size b,size:=H.size+1 }) else none
def HC(w:World)(c:Nat)(C:Array Value)(b:Blk)(fr:Nat × Nat):Prop:=∃ e,w.heap[c]?=some (.cells C e fr)/\(b.ro=false->e=b.elem)
structure W0 where
 w:World
 keep:Nat->Prop
 lt:∀ k,keep k->k<w.heap.size
def W0.of(w:World):W0:=⟨w,(· < w.heap.size),fun _ h=>h⟩
structure Kept(w0:W0)(w:World):Prop where
 os:w.os=w0.w.os
 tape:w.tape=w0.w.tape
 output:w.output=w0.w.output
 size:w0.w.heap.size<=w.heap.size
 block:∀ k,w0.keep k->w.heap[k]?=w0.w.heap[k]?
theorem Kept.refl(w0:W0):Kept w0 w0.w:=⟨rfl,rfl,rfl,Nat.le_refl _,fun _ _=>rfl⟩
theorem Kept.of{w w':World}(h:RowKit.Below w.heap.size w w'):Kept (W0.of w) w':=⟨h.os,h.tape,h.output,h.size,h.block⟩
theorem Kept.below{w w':World}(h:Kept (W0.of w) w'):RowKit.Below w.heap.size w w':=⟨h.os,h.tape,h.output,h.size,h.block⟩
theorem Kept.trans{w0:W0}{w w':World}(h:Kept w0 w)(hb:RowKit.Below w.heap.size w w'):Kept w0 w' :=
 ⟨hb.os.trans h.os,hb.tape.trans h.tape,hb.output.trans h.output,Nat.le_trans h.size hb.size,fun k hk=>(hb.block k (Nat.lt_of_lt_of_le (w0.lt k hk) h.size)).trans (h.block k hk)⟩
theorem Kept.fresh{w0:W0}{w:World}(h:Kept w0 w):¬ w0.keep w.heap.size:=fun hk=>by have:=w0.lt _ hk;have:=h.size;omega
theorem Kept.drew{w0:W0}{w:World}(h:Kept w0 w):Kept w0 w.drew:=⟨h.os,h.tape,h.output,h.size,h.block⟩
theorem Kept.alloc{w0:W0}{w:World}(h:Kept w0 w)(o:Obj):Kept w0 (w.alloc o):=h.trans ((RowKit.Below.refl _ _).alloc (Nat.le_refl _) o)
theorem Kept.setCell{w0:W0}{w:World}(h:Kept w0 w){p:Addr}(hp:¬ w0.keep p.block)(u:Value):Kept w0 (w.setCell p u) :=
 ⟨h.os,h.tape,h.output,by simpa [World.setCell] using h.size,fun k hk=>by rw[RowKit.Below.heap_setCell _ _ _ _ (fun e=>hp (e ▸ hk))];exact h.block k hk⟩
def isN:Value->Bool
 | .func (.yield g) ⟨[_]⟩ ⟨[]⟩=>Nat.beq g 28 || Nat.beq g 29
 |_=>false
def rgN(g:Nat)(x:Int):Prop:=match g with
 |28=>0<=x/\x<=4194303
 |_=>-9223372036854775808<=x/\x<=9223372036854775807
def Blk.sq(b:Blk):Option Value:=match b.seq with
 |some e=>if isN e then none else some e
 |none=>none
theorem Blk.sq_some{b:Blk}{e:Value}(h:b.sq=some e):b.seq=some e/\isN e=false:=by
 unfold Blk.sq at h;split at h
 .rename_i e' he;split at h
  .cases h
  .rename_i hn;cases h;exact⟨he,by simpa using hn⟩
 .cases h
theorem TL.notN(t:TL):isN t.enc=false:=by cases t<;>rfl
def xR(V:Ren)(b:Blk)(C:Array Value)(s:Nat):Prop:=∀ e,b.seq=some e->(∃ (t:TL) (pre post:List Value),e=t.enc/\t.ok V.length=true/\pre.length=s/\C.toList=pre++((t.den V).map fun x=>Value.int .u8 x.toNat)++post) \/
 (∃ (g:Nat) (t:TN) (pre post:List Value),(g=28\/g=29)/\e=nd1 g t.enc/\t.ok V.length=true/\pre.length=s/\C.toList=pre++((t.den V).map fun x=>Value.int .i64 x)++post/\∀ x∈t.den V,rgN g x)
theorem xR.mono{V γ:Ren}{b:Blk}{C:Array Value}{s:Nat}(h:xR V b C s):xR (V++γ) b C s:=fun e he=>by
 rcases h e he with⟨t,p,q,h2,h3,h1,h4⟩|⟨g,t,p,q,hg,h2,h3,h1,h4,h5⟩
 .exact .inl ⟨t,p,q,h2,TL.ok_app _ _ (by simp) t h3,h1,by rw[TL.den_app V γ t h3];exact h4⟩
 .exact .inr ⟨g,t,p,q,hg,h2,TN.ok_app _ _ (by simp) t h3,h1,by rw[TN.den_app V γ t h3];exact h4,by rw[TN.den_app V γ t h3];exact h5⟩
theorem xR.none{V:Ren}{b:Blk}{C:Array Value}{s:Nat}(h:b.seq=none):xR V b C s:=fun e he=>by rw[h]at he;cases he
structure HR(w0:W0)(V:Ren)(H:AS)(w:World):Prop where
 len:V.length=H.size
 big:H.size<=2 ^ 20
 blk:∀ B b,H.get B=some b->b.live=true->∃ (c s:Nat) (C:Array Value) (fr:Nat × Nat),hm V B=some (c,s)/\HC w c C b fr/\(∀ h,V[B]?=some h->h.top=C.size) /\
  b.cells.length+s<=C.size/\(b.ro=false->∀ i,i<C.size->¬ (fr.1<=i/\i<fr.2))/\(∀ i v,b.cells[i]?=some v->∃ u,C[i+s]?=some u/\VR V v u)/\((b.ro=false->¬ w0.keep c)/\xR V b C s)
 inj:∀ B B' b b',H.get B=some b->H.get B'=some b'->b.live=true->b'.live=true->b.ro=false->B≠B'->((hm V B).map (·.1))≠((hm V B').map (·.1))
 below:Kept w0 w
theorem AS.get_lt{H:AS}{B:Nat}{b:Blk}(h:H.get B=some b):B<H.size:=by
 unfold AS.get at h;split at h
 .assumption
 .cases h
theorem AS.get_put_same{H:AS}{B:Nat}{b b':Blk}(h:H.get B=some b'):(H.put B b).get B=some b:=by
 have:=AS.get_lt h;unfold AS.get AS.put;rw[if_pos (by exact this)];exact Tr.get_set b B D H.heap
theorem AS.get_put_ne{H:AS}{B B':Nat}{b b0:Blk}(hb:H.size<=2 ^ 20)(h0:H.get B=some b0)(h:B≠B'):(H.put B b).get B'=H.get B':=by
 have h1:=AS.get_lt h0;unfold AS.get AS.put;split
 .rename_i h2;exact Tr.get_set_ne b B B' D H.heap (uK 20 B B' (by omega) (by have:B'<H.size:=h2;omega) h)
 .rfl
def oO(H:AS)(B i:Nat):Option Value :=
 match H.get B with
 |some b=>if b.live then b.cells[i]? else none
 |none=>none
def uC(H:AS)(B i n:Nat):Option (List Value) :=
 match H.get B with
 |some b=>if b.live&&decide (i+n<=b.cells.length) then some ((b.cells.drop i).take n) else none
 |none=>none
def bT(H:AS)(B i:Nat)(v:Value):Option AS :=
 match H.get B with
 |some b=>if b.live && !b.ro&&fW v&&decide (i<b.cells.length)&&b.seq.isNone then some (H.put B { b with cells:=b.cells.set i v }) else none
 |none=>none
def rJ(B:Nat):List Value->Nat->AS->Option AS
 |[],_,H=>some H
 |v::vs,i,H=>(bT H B i v).bind fun H=>rJ B vs (i+1) H
theorem wS(b o i:Nat):(⟨b,o,none⟩:Addr).add i=⟨b,o+i,none⟩:=by
 unfold Addr.add;split
 .rename_i h;subst h;rfl
 .rfl
theorem sK{w:World}{b i:Nat}{C:Array Value}{e:TypeId}{fr:Nat × Nat}(h:w.heap[b]?=some (.cells C e fr)):w.cell? ⟨b,i,none⟩=C[i]?:=by
 unfold World.cell?;rw[h];rfl
theorem HR.load1{w0:W0}{V:Ren}{H:AS}{w:World}(h:HR w0 V H w){B i c s:Nat}{v:Value}(hl:oO H B i=some v)(hb:hm V B=some (c,s)) :
    ∃ u,w.cell? ⟨c,i+s,none⟩=some u/\VR V v u:=by
 unfold oO at hl
 split at hl
 .rename_i b hg
  split at hl
  .rename_i hlive
   obtain⟨c',s',C,fr,hβ,hw,_,_,_,hc,_⟩:=h.blk B b hg hlive
   obtain⟨elhw,hw,helhw⟩:=hw
   rw[hb]at hβ;cases hβ
   obtain⟨u,hu,hv⟩:=hc i v hl
   exact⟨u,by rw[sK hw];exact hu,hv⟩
  .cases hl
 .cases hl
def VRs(V:Ren)(vs us:List Value):Prop:=us.length=vs.length/\∀(k:Nat)(v u:Value),vs[k]?=some v->us[k]?=some u->VR V v u
theorem VRs.mono{V γ:Ren}{vs us:List Value}(h:VRs V vs us):VRs (V++γ) vs us:=⟨h.1,fun k v u hv hu=>(h.2 k v u hv hu).mono⟩
theorem VRs.cons{V:Ren}{v u:Value}{vs us:List Value}(h:VR V v u)(hs:VRs V vs us):VRs V (v::vs) (u::us):=by
 refine⟨by simp[hs.1],fun k x y hx hy=>?_⟩;cases k with
 |zero=>simp at hx hy;subst hx hy;exact h
 |succ k=>exact hs.2 k x y (by simpa using hx) (by simpa using hy)
theorem VRs.cons_inv{V:Ren}{v:Value}{vs us:List Value}(h:VRs V (v::vs) us):∃ u us',us=u::us'/\VR V v u/\VRs V vs us':=by
 cases us with
 |nil=>have:=h.1;simp at this
 |cons u us=>exact⟨u,us,rfl,h.2 0 v u rfl rfl,by have:=h.1;simpa using this,fun k x y hx hy=>h.2 (k+1) x y (by simpa using hx) (by simpa using hy)⟩
theorem VRs.nil(V:Ren):VRs V [] []:=⟨rfl,fun k v u h=>by simp at h⟩
theorem VRs.get{V:Ren}{vs us:List Value}(h:VRs V vs us){k:Nat}{v:Value}(hv:vs[k]?=some v):∃ u,us[k]?=some u/\VR V v u:=by
 have hk:k<vs.length:=by
  rcases Nat.lt_or_ge k vs.length with hl|hl
  .exact hl
  .rw[List.getElem?_eq_none hl]at hv;cases hv
 have hk':k<us.length:=by rw[h.1];exact hk
 exact⟨us[k],List.getElem?_eq_getElem hk',h.2 k v _ hv (List.getElem?_eq_getElem hk')⟩
theorem HR.loadsFrom{P:Program}{w0:W0}{V:Ren}{H:AS}{w:World}(h:HR w0 V H w){B c s:Nat}(hb:hm V B=some (c,s))(o:Nat):∀(n j:Nat)(acc:Array Value)(vs:List Value),
    (∀ (k:Nat) (v:Value),vs[k]?=some v->oO H B (o+j+k)=some v)->vs.length=n ->
    ∃ us:List Value,(loadCellsFrom ⟨c,o+s,none⟩ j n acc).run P w=.ok (acc++us.toArray) w/\VRs V vs us
 |0,j,acc,vs,hv,hn=>⟨[],by simp[loadCellsFrom,pure],by simpa using hn.symm,fun k v u _ hu=>by simp at hu⟩
 |n+1,j,acc,[],hv,hn=>by simp at hn
 |n+1,j,acc,v::vs,hv,hn=>by
  obtain⟨u,hu,hvu⟩:=h.load1 (hv 0 v rfl) hb;obtain⟨us,h1,h2⟩:=HR.loadsFrom (P:=P) h hb o n (j+1) (acc.push u) vs (fun k x hx=>by rw[show o+(j+1)+k=o+j+(k+1) from by omega];exact hv (k+1) x (by simpa using hx)) (by simpa using hn);refine⟨u::us,?_,h2.cons hvu⟩;have e:(⟨c,o+s,none⟩:Addr).add j=⟨c,o+j+0+s,none⟩:=by rw[wS];congr 1;omega
  simp only[loadCellsFrom,load,e];show Sem.run P (Sem.load .plain _ _) w=_;simp only[Sem.run,hu];have:(acc.push u)++us.toArray=acc++(u::us).toArray:=by apply Array.ext';simp
  rw[<-this];exact h1
theorem uB{H:AS}{B i n:Nat}{vs:List Value}(h:uC H B i n=some vs):vs.length=n/\∀(k:Nat)(v:Value),vs[k]?=some v->oO H B (i+k)=some v:=by
 unfold uC at h;split at h
 .rename_i b hg;split at h
  .rename_i hc;simp only[Bool.and_eq_true,decide_eq_true_eq]at hc;simp only[Option.some.injEq]at h;subst h;refine⟨by rw[List.length_take,List.length_drop];omega,fun k v hv=>?_⟩;unfold oO;simp only[hg,hc.1,if_true];have hk:k<n:=by
    rcases Nat.lt_or_ge k n with hl|hl
    .exact hl
    .rw[List.getElem?_eq_none (by rw[List.length_take];omega)]at hv;cases hv
   rw[List.getElem?_take_of_lt hk,List.getElem?_drop]at hv;exact hv
  .cases h
 .cases h
theorem HR.loads{P:Program}{w0:W0}{V:Ren}{H:AS}{w:World}(h:HR w0 V H w){B i n c s:Nat}{vs:List Value}(hl:uC H B i n=some vs)(hb:hm V B=some (c,s)) :
    ∃ us:List Value,(loadCells ⟨c,i+s,none⟩ n).run P w=.ok us.toArray w/\VRs V vs us:=by
 obtain⟨h1,h2⟩:=uB hl
 obtain⟨us,h3,h4⟩:=h.loadsFrom (P:=P) hb i n 0 #[] vs (fun k v hv=>by rw[Nat.add_zero];exact h2 k v hv) h1
 exact⟨us,by unfold loadCells;rw[h3];simp,h4⟩
theorem HR.store1{w0:W0}{V:Ren}{H H':AS}{w:World}(h:HR w0 V H w){B i c s:Nat}{v u:Value}(hs:bT H B i v=some H')(hv:VR V v u)(hb:hm V B=some (c,s)) :
    (∃ x,w.cell? ⟨c,i+s,none⟩=some x)/\w.frozen? ⟨c,i+s,none⟩=false/\one u=true/\HR w0 V H' (w.setCell ⟨c,i+s,none⟩ u):=by
 unfold bT at hs
 split at hs
 .rename_i b hg
  split at hs
  .rename_i hc
   simp only[Bool.and_eq_true,decide_eq_true_eq,Bool.not_eq_true']at hc
   obtain⟨⟨⟨⟨hlive,hro⟩,hone⟩,hi⟩,hsq⟩:=hc
   have hsq':b.seq=none:=Option.isNone_iff_eq_none.1 hsq
   simp only[Option.some.injEq]at hs
   subst hs
   obtain⟨c',s',C,fr,hβ,hw,htop,hsz,hfr,hcells,hbase⟩:=h.blk B b hg hlive
   obtain⟨elhw,hw,helhw⟩:=hw
   have e0:=helhw hro
   subst e0
   rw[hb]at hβ;cases hβ
   have hiC:i+s<C.size:=by omega
   have hheap:(w.setCell ⟨c,i+s,none⟩ u).heap[c]?=some (.cells (C.setIfInBounds (i+s) u) b.elem fr):=by
    simp only[World.setCell,Array.getElem?_modify,if_true,hw];rfl
   refine⟨?_,?_,hv.one_conc hone,?_⟩
   .rw[sK hw,Array.getElem?_eq_getElem hiC];exact⟨_,rfl⟩
   .unfold World.frozen?;rw[hw]
    have:=hfr hro (i+s) hiC
    simp only[Bool.and_eq_false_imp,decide_eq_true_eq,decide_eq_false_iff_not]
    intro h1 h2;exact this ⟨h1,h2⟩
   .refine⟨h.len,h.big,?_,?_,?_⟩
    .intro B' b' hg' hlive'
     by_cases hB:B=B'
     .subst hB
      rw[AS.get_put_same hg]at hg'
      cases hg'
      refine⟨c,s,C.setIfInBounds (i+s) u,fr,hb,⟨_,hheap,fun _=>rfl⟩,by simpa using htop,by simpa using hsz,by simpa using hfr,?_,hbase.1,xR.none hsq'⟩
      intro j x hx
      by_cases hj:i=j
      .subst hj
       rw[List.getElem?_set_self hi]at hx
       cases hx
       exact⟨u,by rw[Array.getElem?_setIfInBounds_self_of_lt hiC],hv⟩
      .rw[List.getElem?_set_ne hj]at hx
       obtain⟨y,hy,hxy⟩:=hcells j x hx
       exact⟨y,by rw[Array.getElem?_setIfInBounds_ne (by omega)];exact hy,hxy⟩
     .rw[AS.get_put_ne h.big hg hB]at hg'
      obtain⟨c2,s2,C2,fr2,hB2,hw2,r⟩:=h.blk B' b' hg' hlive'
      obtain⟨elhw2,hw2,helhw2⟩:=hw2
      have hne:=h.inj B B' b b' hg hg' hlive hlive' hro hB
      rw[hb,hB2]at hne
      have hne':c2≠c:=fun e=>hne (by simp[e])
      exact⟨c2,s2,C2,fr2,hB2,⟨_,by rw[RowKit.Below.heap_setCell _ _ _ _ hne'];exact hw2,helhw2⟩,r⟩
    .intro B1 B2 b1 b2 hg1 hg2 hl1 hl2 hr1 hne
     have get':∀ X x,(H.put B { b with cells:=b.cells.set i v }).get X=some x->∃ y,H.get X=some y/\y.live=x.live/\y.ro=x.ro:=by
      intro X x hx;by_cases hX:B=X
      .subst hX;rw[AS.get_put_same hg]at hx;cases hx;exact⟨b,hg,rfl,rfl⟩
      .rw[AS.get_put_ne h.big hg hX]at hx;exact⟨x,hx,rfl,rfl⟩
     obtain⟨y1,g1,e1,e1'⟩:=get' B1 b1 hg1
     obtain⟨y2,g2,e2,_⟩:=get' B2 b2 hg2
     exact h.inj B1 B2 y1 y2 g1 g2 (by rw[e1];exact hl1) (by rw[e2];exact hl2) (by rw[e1'];exact hr1) hne
    .exact h.below.setCell (hbase.1 hro) u
  .cases hs
 .cases hs
theorem HR.storeFrom{P:Program}{w0:W0}{V:Ren}{B c s:Nat}(hb:hm V B=some (c,s))(o:Nat):∀(vs us:List Value)(j:Nat)(H H':AS)(w:World),HR w0 V H w->rJ B vs (o+j) H=some H'->VRs V vs us ->
    ∃ w',(storeCells ⟨c,o+s,none⟩ us j).run P w=.ok () w'/\HR w0 V H' w'
 |[],us,j,H,H',w,h,hs,hv=>by
  have:us=[]:=List.eq_nil_of_length_eq_zero hv.1;subst this;simp only[rJ,Option.some.injEq]at hs;subst hs;exact⟨w,rfl,h⟩
 |v::vs,us,j,H,H',w,h,hs,hv=>by
  obtain⟨u,us',rfl,h1,h2⟩:=hv.cons_inv;simp only[rJ,Option.bind_eq_some_iff]at hs;obtain⟨H1,hs1,hs2⟩:=hs;obtain⟨⟨x,hx⟩,hfz,hone,hr⟩:=h.store1 hs1 h1 hb;obtain⟨w',hrun,hr'⟩:=HR.storeFrom (P:=P) hb o vs us' (j+1) H1 H' _ hr hs2 h2;refine⟨w',?_,hr'⟩;have e:(⟨c,o+s,none⟩:Addr).add j=⟨c,o+j+s,none⟩:=by rw[wS];congr 1;omega
  simp only[storeCells,store,e];show Sem.run P (Sem.store .plain _ u _) w=_;cases u<;>first|(simp[one]at hone;done)|(simp only[Sem.run,hx,hfz,Bool.false_eq_true,if_false];exact hrun)
theorem HR.lt_len{w0:W0}{V:Ren}{H:AS}{w:World}(h:HR w0 V H w){B:Nat}{b:Blk}(hg:H.get B=some b):B<V.length:=by
 rw[h.len];exact AS.get_lt hg
theorem HR.home_lt{w0:W0}{V:Ren}{H:AS}{w:World}(h:HR w0 V H w){B:Nat}{b:Blk}(hg:H.get B=some b)(hl:b.live=true){c s:Nat}(hb:hm V B=some (c,s)):c<w.heap.size:=by
 obtain⟨c',s',C,fr,hβ,hw,_⟩:=h.blk B b hg hl;obtain⟨elhw,hw,helhw⟩:=hw;rw[hb]at hβ;cases hβ;rcases Nat.lt_or_ge c w.heap.size with hlt|hge
 .exact hlt
 .rw[Array.getElem?_eq_none hge]at hw;cases hw
theorem AS.new_get{H H':AS}{b:Blk}{B:Nat}(hn:H.new b=some (B,H')):B=H.size/\H'.size=H.size+1/\H.size<2 ^ 20/\H'.get B=some b/\∀ X,X≠B->H'.get X=H.get X:=by
 unfold AS.new at hn;split at hn
 .rename_i hlt;simp only[Option.some.injEq,Prod.mk.injEq]at hn;obtain⟨rfl,rfl⟩:=hn;refine⟨rfl,rfl,hlt,?_,?_⟩
  .unfold AS.get;rw[if_pos (Nat.lt_succ_self _)];exact Tr.get_set b _ D _
  .intro X hX;unfold AS.get;by_cases h1:X<H.size
   .rw[if_pos h1,if_pos (by show X<H.size+1;omega)];exact Tr.get_set_ne b H.size X D H.heap (uK 20 _ _ hlt (by omega) (by omega))
   .rw[if_neg h1,if_neg (by show ¬ X<H.size+1;omega)]
 .cases hn
theorem HR.alloc{w0:W0}{V:Ren}{H H':AS}{w:World}(h:HR w0 V H w){vs us:List Value}{e:TypeId}{B:Nat}
    (hn:H.new { cells:=vs,elem:=e,ro:=false,live:=true }=some (B,H')) (hv:VRs V vs us) :
    HR w0 (V++[⟨w.heap.size,0,us.length,undef,yD⟩]) H' (w.alloc (.cells us.toArray e))/\hm (V++[⟨w.heap.size,0,us.length,undef,yD⟩]) B=some (w.heap.size,0):=by
 obtain⟨rfl,hs',hlt,hgB,hgX⟩:=AS.new_get hn
 obtain⟨hB,hB'⟩:=pK (h:=⟨w.heap.size,0,us.length,undef,yD⟩) h.len
 have hold:∀ (X:Nat) (p:Nat × Nat),hm V X=some p->hm (V++[⟨w.heap.size,0,us.length,undef,yD⟩]) X=some p:=fun X p hp=>zV hp
 refine⟨⟨by simp[h.len,hs'],by omega,?_,?_,?_⟩,hB⟩
 .intro X b hg hl
  by_cases hX:X=H.size
  .subst hX
   rw[hgB]at hg;cases hg
   refine⟨w.heap.size,0,us.toArray,(0,0),hB,⟨_,by show (w.heap.push _)[w.heap.size]?=_;simp,fun _=>rfl⟩,fun q hq=>by rw[hB']at hq;cases hq;simp,by simp[hv.1],fun _ i _ hc=>by omega,?_,fun _=>h.below.fresh,xR.none rfl⟩
   intro i v hiv
   obtain⟨u,hu,huv⟩:=hv.get hiv
   exact⟨u,by simpa using hu,huv.mono⟩
  .rw[hgX X hX]at hg
   obtain⟨c,s,C,fr,hβ,hw,h0,h1,h2,h3,h4⟩:=h.blk X b hg hl
   obtain⟨elhw,hw,helhw⟩:=hw
   have hc:=h.home_lt hg hl hβ
   refine⟨c,s,C,fr,hold _ _ hβ,⟨_,by rw[RowKit.Below.heap_alloc _ _ _ hc];exact hw,helhw⟩,?_,h1,h2,?_,h4.1,h4.2.mono⟩
   .intro q hq
    have hlt':=h.lt_len hg
    rw[List.getElem?_append_left hlt']at hq
    exact h0 q hq
   .intro i v hiv
    obtain⟨u,hu,huv⟩:=h3 i v hiv
    exact⟨u,hu,huv.mono⟩
 .intro X Y b b' hg hg' hl hl' hro hne
  by_cases hX:X=H.size
  .subst hX
   have hY:Y≠H.size:=fun e=>hne e.symm
   rw[hgX Y hY]at hg'
   obtain⟨c,s,C,fr,hβ,_⟩:=h.blk Y b' hg' hl'
   have hc:=h.home_lt hg' hl' hβ
   rw[hB,hold _ _ hβ]
   simp only[Option.map_some,ne_eq,Option.some.injEq]
   omega
  .rw[hgX X hX]at hg
   obtain⟨c,s,C,fr,hβ,_⟩:=h.blk X b hg hl
   have hc:=h.home_lt hg hl hβ
   by_cases hY:Y=H.size
   .subst hY
    rw[hB,hold _ _ hβ]
    simp only[Option.map_some,ne_eq,Option.some.injEq]
    omega
   .rw[hgX Y hY]at hg'
    obtain⟨c',s',C',fr',hβ',_⟩:=h.blk Y b' hg' hl'
    rw[hold _ _ hβ,hold _ _ hβ',<-hβ,<-hβ']
    exact h.inj X Y b b' hg hg' hl hl' hro hne
 .exact h.below.alloc _
abbrev DF:Nat:=12
structure FR(V:Ren)(n:Nat)(F:Tr Value)(a:Act):Prop where
 size:a.tmps.size=n
 small:n<=2 ^ 12
 slot:∀ t v,t<n->F.get DF t=some v->∃ u,a.tmps[t]?=some u/\VR V v u
 nodef:a.defers=[]
theorem FR.mono{V γ:Ren}{n:Nat}{F:Tr Value}{a:Act}(h:FR V n F a):FR (V++γ) n F a :=
 ⟨h.size,h.small,fun t v ht hv=>let ⟨u,hu,hvu⟩:=h.slot t v ht hv;⟨u,hu,hvu.mono⟩,h.nodef⟩
def sU(n:Nat)(F:Tr Value)(dst:Option Tmp)(v:Value):Option (Tr Value) :=
 match dst with
 |none=>some F
 |some d=>if d<n then some (F.set DF d v) else none
theorem FR.put{V:Ren}{n:Nat}{F F':Tr Value}{a:Act}(h:FR V n F a){dst:Option Tmp}{v u:Value}(hp:sU n F dst v=some F')(hv:VR V v u):FR V n F' (a.put dst u):=by
 cases dst with
 |none=>simp only[sU,Option.some.injEq]at hp;subst hp;exact h
 |some d =>
  simp only[sU]at hp;split at hp
  .rename_i hd;have hd':@LT.lt Nat _ d n:=hd;have hsm:=h.small;simp only[Option.some.injEq]at hp;subst hp;refine⟨by simp[Act.put,h.size],h.small,?_,h.nodef⟩;intro t x ht hx;by_cases hdt:d=t
   .subst hdt;rw[Tr.get_set]at hx;cases hx;exact⟨u,by simp only[Act.put];rw[Array.getElem?_setIfInBounds_self_of_lt (by rw[h.size];exact hd)],hv⟩
   .rw[Tr.get_set_ne v d t DF F (uK 12 d t (by omega) (by omega) hdt)]at hx;obtain⟨y,hy,hxy⟩:=h.slot t x ht hx;exact⟨y,by simp only[Act.put];rw[Array.getElem?_setIfInBounds_ne hdt];exact hy,hxy⟩
  .cases hp
def af4(G:Nat->Option Nat)(n:Nat)(F:Tr Value):Operand->Value
 | .tmp t=>if t<n then (F.get DF t).getD (.tuple #[]) else .tuple #[]
 | .const v=>if zL v then v else .tuple #[]
 | .global g=>match G g with
  |some B=>.pointer (some ⟨B,0,none⟩)
  |none=>.tuple #[]
 | .func f=>.func (.func f) #[] #[]
theorem FR.eval{V:Ren}{n:Nat}{F:Tr Value}{a:Act}(h:FR V n F a){G:Nat->Option Nat}(hG:∀ g B,G g=some B->hm V B=some (g,0))(o:Operand):VR V (af4 G n F o) (a.eval o):=by
 cases o with
 |tmp t =>
  simp only[af4,Act.eval];split
  .rename_i ht;cases hx:F.get DF t with
   |none=>exact .any _
   |some v =>
    obtain⟨u,hu,hvu⟩:=h.slot t v ht hx;rw[Array.getD_eq_getD_getElem?,hu];exact hvu
  .exact .any _
 |const v =>
  simp only[af4,Act.eval];split
  .rename_i hg;exact VR.of_ground hg
  .exact .any _
 |global g =>
  simp only[af4,Act.eval];cases hx:G g with
  |none=>exact .any _
  |some B=>exact .ptr B 0 g 0 (hG g B hx)
 |func f=>exact VR.of_ground rfl
def agr(P:Program)(s:Sem Value):Option Value :=
 match val P s with
 |some v=>if zL v then some v else none
 |none=>none
theorem nD{P:Program}{s:Sem Value}{v:Value}(h:agr P s=some v)(w:World):s.run P w=.ok v w/\zL v=true:=by
 unfold agr at h;split at h
 .rename_i x hx;split at h
  .rename_i hg;cases h;exact⟨bS P s _ w hx,hg⟩
  .cases h
 .cases h
def qT:TypeDesc->Bool
 | .struct _ | .array _ _=>true
 |_=>false
theorem vA{P:Program}{t:TypeId}{d:TypeDesc}(h:P.underlying t=some d)(w:World):(isAgg t).run P w=.ok (qT d) w:=by
 unfold isAgg;rw[Sem.run_bind,run_underlying h];cases d<;>rfl
theorem tM{P:Program}{t:TypeId}{i:TypeInfo}(h:P.info? t=some i)(w:World):(typeInfo t).run P w=.ok i w:=by
 unfold typeInfo;show Sem.run P (Sem.program _) w=_;simp only[Sem.run,Sem.bind,h];rfl
theorem yA{P:Program}{t:TypeId}{i:TypeInfo}(h:P.info? t=some i)(w:World):(sizeOf t).run P w=.ok i.size w:=by
 unfold sizeOf;rw[Sem.run_bind,tM h];rfl
def sZ(P:Program)(t:TypeId)(H:AS):Value->Option Value
 | .pointer (some ⟨B,o,none⟩) =>
  match P.underlying t with
  |none=>none
  |some d =>
   if qT d then
    match P.info? t with
    |none=>none
    |some i=>(uC H B o i.size).map fun vs=>.agg vs.toArray
   else oO H B o
 |_=>none
theorem HR.loadVar{P:Program}{w0:W0}{V:Ren}{H:AS}{w:World}(h:HR w0 V H w){t:TypeId}{x x' v:Value}(hx:VR V x x')(hl:sZ P t H x=some v) :
    ∃ u,(Instr.loadAt t x').run P w=.ok u w/\VR V v u:=by
 cases hx with
 |ptr B o b s hβ =>
  simp only[sZ]at hl
  split at hl
  .cases hl
  .rename_i d hd
   split at hl
   .rename_i hagg
    split at hl
    .cases hl
    .rename_i i hi
     simp only[Option.map_eq_some_iff]at hl
     obtain⟨vs,hvs,rfl⟩:=hl
     obtain⟨us,hrun,hr⟩:=h.loads (P:=P) hvs hβ
     refine⟨.agg us.toArray,?_,.agg _ _ (by simp[hr.1]) (fun i v u hv hu=>hr.2 i v u (by simpa using hv) (by simpa using hu))⟩
     simp only[Instr.loadAt,Instr.sureAddr,Go.loadVar,Sem.run_bind,Sem.run_pure,Result.andThen_ok,vA hd,hagg,if_true,yA hi,hrun]
   .rename_i hagg
    obtain⟨u,hu,hv⟩:=h.load1 hl hβ
    refine⟨u,?_,hv⟩
    simp only[Instr.loadAt,Instr.sureAddr,Go.loadVar,Sem.run_bind,Sem.run_pure,Result.andThen_ok,vA hd,hagg,Bool.false_eq_true,if_false,run_load,hu]
 |_=>simp[sZ]at hl
def sC:Option Value->Nat->Option Nat
 |none,d=>some d
 |some (.int _ n),_=>if 0<=n then some n.toNat else none
 |_,_=>none
def lY(hi mx:Option Value)(n:Nat):Option Nat:=if hi.isNone&&mx.isSome then none else sC hi n
def abX(P:Program)(t:TypeId)(x:Value)(lo hi mx:Option Value):Option Value :=
 match x with
 | .slice (some ⟨B,o,sp⟩) n c =>
  match P.underlying t with
  |some (.slice e) =>
   match P.info? e with
   |none=>none
   |some i =>
    match sC mx c,lY hi mx n,sC lo 0 with
    |some m,some h,some l =>
     if m<=c/\h<=m/\l<=h then
      if sp=none\/mx.isSome then some (.slice (some ⟨B,if m=l then o else o+l*i.size,none⟩) (h-l) (m-l))
      else if sp=some i.size/\(l=0\/l<c) then some (.slice (some ⟨B,o+l*i.size,some i.size⟩) (h-l) (c-l))
      else none
     else none
    |_,_,_=>none
  |_=>none
 | .slice none n c =>
  match P.underlying t with
  |some (.slice e) =>
   match P.info? e with
   |none=>none
   |some i =>
    match sC mx c,lY hi mx n,sC lo 0 with
    |some m,some h,some l=>if m<=c/\h<=m/\l<=h then some (.slice none (h-l) (m-l)) else none
    |_,_,_=>none
  |_=>none
 |_=>none
def VRo(V:Ren):Option Value->Option Value->Prop
 |none,none=>True
 |some v,some u=>VR V v u
 |_,_=>False
theorem pL{V:Ren}{x x':Option Value}{d l:Nat}(h:VRo V x x')(ha:sC x d=some l):x'=x:=by
 cases x with
 |none=>cases x' with
  |none=>rfl
  |some u=>exact h.elim
 |some v=>cases x' with
  |none=>exact h.elim
  |some u =>
   cases v with
   |int k n=>rw[VR.eq_of_ground h rfl]
   |_=>simp[sC]at ha
theorem run_sliceBound{P:Program}{w:World}{k:IntKind}{n:Int}{y:Nat}{code:BoundsCode}(h0:0<=n)(h1:n.toNat<=y):(Instr.sliceBound (.int k n) y code).run P w=.ok n.toNat w:=by
 simp only[Instr.sliceBound,asIntOf,Sem.run_bind,Sem.run_pure,Result.andThen_ok];rw[if_pos ⟨h0,by omega⟩];rfl
theorem wM{P:Program}{w:World}{b:Bool}{n c l h m:Nat}{lo hi mx:Option Value}(hm:sC mx c=some m)(hh:lY hi mx n=some h)(hl:sC lo 0=some l)
    (h1:m<=c) (h2:h<=m) (h3:l<=h):(Instr.sliceBounds b n c lo hi mx).run P w=.ok (l,h,m) w:=by
 have key:∀ (x:Option Value) (d r:Nat),sC x d=some r->x=none/\d=r\/∃ k i,x=some (.int k i)/\0<=i/\i.toNat=r:=by
  intro x d r hx;match x,hx with
  |none,hx=>left;simp only[sC,Option.some.injEq]at hx;exact⟨rfl,hx⟩
  |some (.int k i),hx =>
   right;simp only[sC]at hx;split at hx
   .rename_i hi;exact⟨k,i,rfl,hi,by simpa using hx⟩
   .cases hx
 rcases key mx c m hm with⟨rfl,rfl⟩|⟨k1,i1,rfl,hi1,rfl⟩
 .have hh':sC hi n=some h:=by cases hi<;>exact hh
  rcases key hi n h hh' with⟨rfl,rfl⟩|⟨k2,i2,rfl,hi2,rfl⟩<;>rcases key lo 0 l hl with⟨rfl,rfl⟩|⟨k3,i3,rfl,hi3,rfl⟩ <;>
   simp only[Instr.sliceBounds,Sem.run_bind,Sem.run_pure,Result.andThen_ok,Option.isSome,Bool.false_eq_true,if_false,run_sliceBound, *]<;>rfl
 .cases hi with
  |none=>simp[lY]at hh
  |some v =>
   rcases key (some v) n h hh with⟨hv,_⟩|⟨k2,i2,hv,hi2,rfl⟩
   .cases hv
   .cases hv
    rcases key lo 0 l hl with⟨rfl,rfl⟩|⟨k3,i3,rfl,hi3,rfl⟩ <;>
     simp only[Instr.sliceBounds,Sem.run_bind,Sem.run_pure,Result.andThen_ok,Option.isSome,if_true,run_sliceBound, *]<;>rfl
theorem uP{P:Program}{w:World}{t e:TypeId}{i:TypeInfo}(ht:P.underlying t=some (.slice e))(hi:P.info? e=some i){a:Option Addr}{n c l h m:Nat}{lo hi' mx:Option Value}
    (hb:(Instr.sliceBounds true n c lo hi' mx).run P w=.ok (l,h,m) w) :
    (Instr.sliceAt t (.slice a n c) lo hi' mx).run P w=.ok (.slice (if m=l then a else a.map (·.add (l*i.size))) (h-l) (m-l)) w:=by
 simp only[Instr.sliceAt,Instr.slice,Sem.run_bind,run_underlying ht,Result.andThen_ok,hb,yA hi,Sem.run_pure]
theorem VR.slice_sound{P:Program}{w:World}{V:Ren}{t:TypeId}{x x' v:Value}{lo hi mx lo' hi' mx':Option Value}(hx:VR V x x')(hlo:VRo V lo lo')(hhi:VRo V hi hi')(hmx:VRo V mx mx')
    (hs:abX P t x lo hi mx=some v):∃ u,(Instr.sliceAt t x' lo' hi' mx').run P w=.ok u w/\VR V v u:=by
 unfold abX at hs
 split at hs
 .rename_i B o sp n c
  split at hs
  .rename_i e ht
   split at hs
   .cases hs
   .rename_i i hinfo
    split at hs
    .rename_i m h l hm hh hl
     have e1:=pL hmx hm
     have e2:=pL hlo hl
     have e3:hi'=hi:=by
      unfold lY at hh;split at hh
      .cases hh
      .exact pL hhi hh
     subst e1 e2 e3
     split at hs
     .rename_i hc
      obtain⟨hmc,hhm,hlh⟩:=hc
      have addq:∀ (b s:Nat),(⟨b,o+s,none⟩:Addr).add (l*i.size)=⟨b,o+l*i.size+s,none⟩:=fun b s=>by rw[wS];congr 1;omega
      cases hx with
      |sl B o b s n c hβ =>
       rw[if_pos (.inl rfl)]at hs
       simp only[Option.some.injEq]at hs
       subst hs
       refine⟨_,uP ht hinfo (wM hm hh hl hmc hhm hlh),?_⟩
       by_cases hml:m=l
       .rw[if_pos hml,if_pos hml];exact .sl _ _ _ _ _ _ hβ
       .rw[if_neg hml,if_neg hml]
        simp only[Option.map_some,addq]
        exact .sl _ _ _ _ _ _ hβ
      |slL B o n c c' z q hβ hcc htop =>
       have hβ':Go.SM.hm V B=some (q.b,q.s):=vU hβ
       cases hmx':mx' with
       |some y =>
        rw[hmx']at hs hm hh
        rw[if_pos (.inr rfl)]at hs
        simp only[Option.some.injEq]at hs
        subst hs
        have hm':sC (some y) c'=some m:=by
         cases y<;>first|exact hm|(simp[sC]at hm;done)
        have hmc':m<=c':=by omega
        refine⟨_,uP ht hinfo (wM hm' hh hl hmc' hhm hlh),?_⟩
        by_cases hml:m=l
        .rw[if_pos hml,if_pos hml];exact .sl _ _ _ _ _ _ hβ'
        .rw[if_neg hml,if_neg hml]
         simp only[Option.map_some,addq]
         exact .sl _ _ _ _ _ _ hβ'
       |none =>
        rw[hmx']at hs hm hh
        simp only[sC,Option.some.injEq]at hm
        subst hm
        rw[if_neg (by simp)]at hs
        split at hs
        .rename_i hlc
         obtain⟨hz,hlc⟩:=hlc
         cases hz
         simp only[Option.some.injEq]at hs
         subst hs
         have hmul:(c'-l)*i.size+l*i.size=c'*i.size:=by
          rw[<-Nat.add_mul,Nat.sub_add_cancel (by omega)]
         refine⟨_,uP ht hinfo (wM (m:=c') rfl hh hl (Nat.le_refl _) (by omega) hlh),?_⟩
         by_cases hcl:c'=l
         .have hl0:l=0:=by rcases hlc with h0|h0<;>omega
          rw[if_pos hcl]
          have:o+l*i.size=o:=by rw[hl0];simp
          rw[this]
          exact .slL _ _ _ _ _ _ _ hβ (by omega) (by omega)
         .rw[if_neg hcl]
          simp only[Option.map_some,addq]
          exact .slL _ _ _ _ _ _ _ hβ (by omega) (by omega)
        .cases hs
     .cases hs
    .cases hs
  .cases hs
 .rename_i n c
  split at hs
  .rename_i e ht
   split at hs
   .cases hs
   .rename_i i hinfo
    split at hs
    .rename_i m h l hm hh hl
     have e1:=pL hmx hm
     have e2:=pL hlo hl
     have e3:hi'=hi:=by
      unfold lY at hh;split at hh
      .cases hh
      .exact pL hhi hh
     subst e1 e2 e3
     split at hs
     .rename_i hc
      obtain⟨hmc,hhm,hlh⟩:=hc
      cases hs
      cases hx with
      |sl0 n c =>
       refine⟨_,uP ht hinfo (wM hm hh hl hmc hhm hlh),?_⟩
       by_cases hml:m=l
       .rw[if_pos hml];exact .sl0 _ _
       .rw[if_neg hml];exact .sl0 _ _
     .cases hs
    .cases hs
  .cases hs
 .cases hs
def rY(P:Program)(t:TypeId)(f:Nat):Value->Option Value
 | .pointer (some ⟨B,o,none⟩) =>
  match P.underlying t with
  |some (.struct fs) =>
   match fs[f]? with
   |some fd =>
    match P.info? fd.type with
    |some i=>if i.size=0 then none else some (.pointer (some ⟨B,o+fd.offset,none⟩))
    |none=>none
   |none=>none
  |_=>none
 |_=>none
theorem VR.fieldAddr{P:Program}{w:World}{V:Ren}{t:TypeId}{f:Nat}{x x' v:Value}(hx:VR V x x')(h:rY P t f x=some v) :
    ∃ u,(Instr.fieldAt t x' f).run P w=.ok u w/\VR V v u:=by
 cases hx with
 |ptr B o b s hβ =>
  simp only[rY]at h
  split at h
  .rename_i fs ht
   split at h
   .rename_i fd hf
    split at h
    .rename_i i hi
     split at h
     .cases h
     .rename_i hsz
      simp only[Option.some.injEq]at h
      subst h
      refine⟨.pointer (some ⟨b,o+fd.offset+s,none⟩),?_,.ptr _ _ _ _ hβ⟩
      simp only[Instr.fieldAt,Sem.run_bind,run_underlying ht,Result.andThen_ok,hf,Instr.sureAddr,Sem.run_pure,fieldPlace,yA hi,if_neg hsz,wS]
      congr 4
      omega
    .cases h
   .cases h
  .cases h
 |_=>simp[rY]at h
def uF(P:Program)(t:TypeId)(x ix:Value):Option Value :=
 match ix with
 | .chan (some b) =>
  match P.underlying t,x with
  |some (.slice e),.chan (some a) =>
   match P.info? e with
   |some q=>if a%2=1/\b%2=0/\b/2<a/2/\q.size=1 then some (.pointer (some ⟨0,b/2,none⟩)) else none
   |none=>none
  |_,_=>none
 | .int _ i =>
  match P.underlying t,x with
  |some (.array n e),.pointer (some ⟨B,o,none⟩) =>
   match P.info? e with
   |some q=>if 0<=i/\i<n then some (.pointer (some ⟨B,o+i.toNat*q.size,none⟩)) else none
   |none=>none
  |some (.slice e),.slice (some ⟨B,o,_⟩) n _ =>
   match P.info? e with
   |some q=>if 0<=i/\i<n then some (.pointer (some ⟨B,o+i.toNat*q.size,none⟩)) else none
   |none=>none
  |_,_=>none
 |_=>none
theorem VR.indexAddr{P:Program}{w:World}{V:Ren}{t:TypeId}{x x' ix ix' v:Value}(hx:VR V x x')(hi:VR V ix ix')(h:uF P t x ix=some v) :
    ∃ u,(Instr.indexAt t x' ix').run P w=.ok u w/\VR V v u:=by
 have addq:∀ (b o s k:Nat),(⟨b,o+s,none⟩:Addr).add k=⟨b,o+k+s,none⟩:=fun b o s k=>by rw[wS];congr 1;omega
 cases hi with
 |rint k hh hB1 hk hb61 =>
  simp only[uF]at h
  split at h
  .rename_i e a ht
   split at h
   .rename_i q hq
    split at h
    .rename_i hc
     obtain⟨hc1,hc2,hc3,hc4⟩:=hc
     cases h
     cases hx with
     |rint k'=>exfalso;omega
     |rsl w o n c g h' h1 h2 h3 h4 =>
      rw[hB1]at h2;cases h2
      have e1:2*k/2=k:=by omega
      have e2:(2*w+1)/2=w:=by omega
      rw[e1,e2]at hc3
      rw[e1]
      refine⟨.pointer (some ⟨g.b,k+g.s,none⟩),?_,.ptr _ _ _ _ (vU h1)⟩
      have hb:(0:Int)<=((hh.b+k:Nat):Int)/\((hh.b+k:Nat):Int)<(n:Int):=⟨by omega,by omega⟩
      have e3:(⟨g.b,o,none⟩:Addr).add ((hh.b+k:Nat)*1)=⟨g.b,k+g.s,none⟩:=by rw[wS];congr 1;omega
      simp only[Instr.indexAt,asIntOf,Sem.run_bind,Sem.run_pure,run_underlying ht,Result.andThen_ok,Sem.run_ite,hb,if_true,yA hq,and_self,hc4,Int.toNat_natCast,e3]
    .cases h
   .cases h
  .cases h
 |int k i =>
  simp only[uF]at h
  split at h
  .rename_i n e B o ht
   split at h
   .rename_i q hq
    split at h
    .rename_i hb
     simp only[Option.some.injEq]at h
     subst h
     cases hx with
     |ptr B o b s hβ =>
      refine⟨.pointer (some ⟨b,o+i.toNat*q.size+s,none⟩),?_,.ptr _ _ _ _ hβ⟩
      simp only[Instr.indexAt,asIntOf,Sem.run_bind,Sem.run_pure,run_underlying ht,Result.andThen_ok,Instr.sureAddr,Sem.run_ite,hb,if_true,yA hq,addq,and_self]
    .cases h
   .cases h
  .rename_i e B o sp n c ht
   split at h
   .rename_i q hq
    split at h
    .rename_i hb
     simp only[Option.some.injEq]at h
     subst h
     cases hx with
     |sl B o b s n c hβ =>
      refine⟨.pointer (some ⟨b,o+i.toNat*q.size+s,none⟩),?_,.ptr _ _ _ _ hβ⟩
      simp only[Instr.indexAt,asIntOf,Sem.run_bind,Sem.run_pure,run_underlying ht,Result.andThen_ok,Sem.run_ite,hb,if_true,yA hq,addq,and_self]
     |slL B o n c c' z hh hβ hcc htop =>
      refine⟨.pointer (some ⟨hh.b,o+i.toNat*q.size+hh.s,none⟩),?_,.ptr _ _ _ _ (vU hβ)⟩
      simp only[Instr.indexAt,asIntOf,Sem.run_bind,Sem.run_pure,run_underlying ht,Result.andThen_ok,Sem.run_ite,hb,if_true,yA hq,addq,and_self]
    .cases h
   .cases h
  .cases h
 |rsl w o n c g h' h1 h2 h3 h4 =>
  simp only[uF]at h
  split at h
  .split at h
   .split at h
    .rename_i hc;exfalso;omega
    .cases h
   .cases h
  .cases h
 |_=>simp[uF]at h
def apart(P:Program)(t:TypeId)(cs:Array Value)(off:Nat):Option Value :=
 match P.underlying t with
 |none=>none
 |some d =>
  if qT d then
   match P.info? t with
   |some i=>if off+i.size<=cs.size then some (.agg (cs.extract off (off+i.size))) else none
   |none=>none
  else cs[off]?
theorem kA{P:Program}{w:World}{V:Ren}{t:TypeId}{a a':Array Value}{off:Nat}{v:Value}(hs:a.size=a'.size)(hr:∀(i:Nat)(v u:Value),a[i]?=some v->a'[i]?=some u->VR V v u)(h:apart P t a off=some v) :
    ∃ u,(part t a' off).run P w=.ok u w/\VR V v u:=by
 unfold apart at h
 split at h
 .cases h
 .rename_i d hd
  split at h
  .rename_i hagg
   split at h
   .rename_i i hi
    split at h
    .rename_i hsz
     simp only[Option.some.injEq]at h
     subst h
     refine⟨.agg (a'.extract off (off+i.size)),?_,.agg _ _ (by simp[hs]) ?_⟩
     .simp only[part,Sem.run_bind,vA hd,Result.andThen_ok,hagg,if_true,yA hi,Sem.run_pure]
     .intro j x y hx hy
      rw[Array.getElem?_extract]at hx hy
      split at hx
      .split at hy
       .exact hr _ _ _ hx hy
       .cases hy
      .cases hx
    .cases h
   .cases h
  .rename_i hagg
   have hlt:off<a.size:=by
    rcases Nat.lt_or_ge off a.size with hl|hl
    .exact hl
    .rw[Array.getElem?_eq_none hl]at h;cases h
   have h':a'[off]?=some a'[off]:=Array.getElem?_eq_getElem (by omega)
   refine⟨a'[off],?_,hr _ _ _ h h'⟩
   simp only[part,Sem.run_bind,vA hd,Result.andThen_ok,hagg,Bool.false_eq_true,if_false,h']
   rfl
def G0(P:Program)(t:TypeId)(f:Nat):Value->Option Value
 | .agg cs =>
  match P.underlying t with
  |some (.struct fs) =>
   match fs[f]? with
   |some fd=>apart P fd.type cs fd.offset
   |none=>none
  |_=>none
 |_=>none
theorem VR.field{P:Program}{w:World}{V:Ren}{t:TypeId}{f:Nat}{x x' v:Value}(hx:VR V x x')(h:G0 P t f x=some v) :
    ∃ u,(Instr.field t x' f).run P w=.ok u w/\VR V v u:=by
 cases hx with
 |agg a a' hs hr =>
  simp only[G0]at h
  split at h
  .rename_i fs ht
   split at h
   .rename_i fd hf
    obtain⟨u,hu,hv⟩:=kA (w:=w) hs hr h
    refine⟨u,?_,hv⟩
    simp only[Instr.field,Sem.run_bind,run_underlying ht,Result.andThen_ok,hf,asAgg,Sem.run_pure,hu]
   .cases h
  .cases h
 |_=>simp[G0]at h
def rF(P:Program)(t:TypeId)(x ix:Value):Option Value :=
 match ix,x with
 | .int _ i,.agg cs =>
  match P.underlying t with
  |some (.array n e) =>
   match P.info? e with
   |some q=>if 0<=i/\i<n then apart P e cs (i.toNat*q.size) else none
   |none=>none
  |_=>none
 |_,_=>none
theorem VR.indexAgg{P:Program}{w:World}{V:Ren}{t:TypeId}{x x' ix ix' v:Value}(hx:VR V x x')(hi:VR V ix ix')(h:rF P t x ix=some v) :
    ∃ u,(Instr.index t x' ix').run P w=.ok u w/\VR V v u:=by
 cases hi with
 |int k i =>
  cases hx with
  |agg a a' hs hr =>
   simp only[rF]at h
   split at h
   .rename_i n e ht
    split at h
    .rename_i q hq
     split at h
     .rename_i hb
      obtain⟨u,hu,hv⟩:=kA (w:=w) hs hr h
      refine⟨u,?_,hv⟩
      simp only[Instr.index,asIntOf,Sem.run_bind,Sem.run_pure,run_underlying ht,Result.andThen_ok,Sem.run_ite,hb,if_true,yA hq,hu,and_self]
     .cases h
    .cases h
   .cases h
  |_=>simp[rF]at h
 |_=>simp[rF]at h
def qO(n:Nat):Value->Option Value
 | .tuple vs=>vs[n]?
 |_=>none
theorem VR.extract{P:Program}{w:World}{V:Ren}{n:Nat}{x x' v:Value}(hx:VR V x x')(h:qO n x=some v) :
    ∃ u,(Instr.extract x' n).run P w=.ok u w/\VR V v u:=by
 cases hx with
 |tuple a a' hs hr =>
  simp only[qO]at h
  have hlt:n<a.size:=by
   rcases Nat.lt_or_ge n a.size with hl|hl
   .exact hl
   .rw[Array.getElem?_eq_none hl]at h;cases h
  have h':a'[n]?=some a'[n]:=Array.getElem?_eq_getElem (by omega)
  exact⟨a'[n],by simp only[Instr.extract,h'];rfl,hr _ _ _ h h'⟩
 |any u=>simp[qO]at h
 |_=>simp[qO]at h
def nC:Value->Bool
 | .tuple _=>false
 | .map (some k)=>!(Nat.beq (k%3) 0)
 |_=>true
theorem aiQ{u:Value}(h:one u=true):u.cells=#[u]:=by
 cases u<;>first|rfl|simp[one]at h
theorem VR.cells{V:Ren}{v u:Value}(h:VR V v u)(hn:nC v=true):VRs V v.cells.toList u.cells.toList:=by
 cases h with
 |any=>simp[nC]at hn
 |tuple=>simp[nC]at hn
 |agg a a' hs hr=>exact⟨by simp[Value.cells,hs],fun k x y hx hy=>hr k x y (by simpa [Value.cells] using hx) (by simpa [Value.cells] using hy)⟩
 |bool b=>exact VRs.cons (.bool b) (VRs.nil V)
 |int k n=>exact VRs.cons (.int k n) (VRs.nil V)
 |float k n=>exact VRs.cons (.float k n) (VRs.nil V)
 |string s=>exact VRs.cons (.string s) (VRs.nil V)
 |ptr0=>exact VRs.cons .ptr0 (VRs.nil V)
 |ptr B o b s h=>exact VRs.cons (.ptr B o b s h) (VRs.nil V)
 |sl0 n c=>exact VRs.cons (.sl0 n c) (VRs.nil V)
 |sl B o b s n c h=>exact VRs.cons (.sl B o b s n c h) (VRs.nil V)
 |slL B o n c c' z hh h hc ht=>exact VRs.cons (.slL B o n c c' z hh h hc ht) (VRs.nil V)
 |rng8 lo hi n h1 h2=>exact VRs.cons (.rng8 lo hi n h1 h2) (VRs.nil V)
 |rng64 lo hi n h1 h2=>exact VRs.cons (.rng64 lo hi n h1 h2) (VRs.nil V)
 |rint k h h1 h2 h3=>exact VRs.cons (.rint k h h1 h2 h3) (VRs.nil V)
 |rsl w o n c g h h1 h2 h3 h4=>exact VRs.cons (.rsl w o n c g h h1 h2 h3 h4) (VRs.nil V)
 |any1 u h=>rw[aiQ h];exact VRs.cons (.any1 u h) (VRs.nil V)
 | opq k h h1 => exfalso; have : 3 * k % 3 = 0 := by omega
                 simp[nC,this]at hn
 |sAny j s h=>exact VRs.cons (.sAny j s h) (VRs.nil V)
 |sNe j s h h'=>exact VRs.cons (.sNe j s h h') (VRs.nil V)
 |uNz n h=>exact VRs.cons (.uNz n h) (VRs.nil V)
 |opq1 k h h1 h2 =>
  have:h.v.cells=#[h.v]:=by
   generalize h.v=q at h2;cases q<;>first|rfl|simp[one]at h2
  rw[this];exact VRs.cons (.opq1 k h h1 h2) (VRs.nil V)
 |symI k t lo hi h1 h2 h3=>exact VRs.cons (.symI k t lo hi h1 h2 h3) (VRs.nil V)
 |symB t h=>exact VRs.cons (.symB t h) (VRs.nil V)
 |symS t hi h h2=>exact VRs.cons (.symS t hi h h2) (VRs.nil V)
 |symP B t b s hb h1 h2=>exact VRs.cons (.symP B t b s hb h1 h2) (VRs.nil V)
 |symL B o n c b s hb h1 h2 h3 h4 h5 h6 h7=>exact VRs.cons (.symL B o n c b s hb h1 h2 h3 h4 h5 h6 h7) (VRs.nil V)
 |nilFunc=>exact VRs.cons .nilFunc (VRs.nil V)
 |nilIface=>exact VRs.cons .nilIface (VRs.nil V)
 |func fn a c a' c' h0 h1 h2 h3 h4=>exact VRs.cons (.func fn a c a' c' h0 h1 h2 h3 h4) (VRs.nil V)
 |iface t v u h=>exact VRs.cons (.iface t v u h) (VRs.nil V)
theorem VRs.refl{V:Ren}{l:List Value}(h:l.all zL=true):VRs V l l:=by
 refine⟨rfl,fun k v u hv hu=>?_⟩;rw[hv]at hu;cases hu;exact VR.of_ground (List.all_eq_true.1 h v (List.mem_of_getElem? hv))
theorem VRs.set{V:Ren}{l l':List Value}(h:VRs V l l')(k:Nat){v u:Value}(hv:VR V v u):VRs V (l.set k v) (l'.set k u):=by
 refine⟨by simp[h.1],fun j x y hx hy=>?_⟩;by_cases hk:k=j
 .subst hk;have hl:k<l.length:=by
   rcases Nat.lt_or_ge k l.length with hl|hl
   .exact hl
   .rw[List.getElem?_eq_none (by simpa using hl)]at hx;cases hx
  rw[List.getElem?_set_self hl]at hx;rw[List.getElem?_set_self (by rw[h.1];exact hl)]at hy;cases hx;cases hy;exact hv
 .rw[List.getElem?_set_ne hk]at hx hy;exact h.2 j x y hx hy
def lay(cells:List Value)(off:Nat):List Value->List Value
 |[]=>cells
 |v::vs=>lay (cells.set off v) (off+1) vs
theorem VRs.lay{V:Ren}:∀ {vs us:List Value} {l l':List Value} (off:Nat),VRs V l l'->VRs V vs us->VRs V (SM.lay l off vs) (SM.lay l' off us)
 |[],us,l,l',off,h,hv=>by
  have:us=[]:=List.eq_nil_of_length_eq_zero hv.1;subst this;exact h
 |v::vs,us,l,l',off,h,hv=>by
  obtain⟨u,us',rfl,h1,h2⟩:=hv.cons_inv;exact VRs.lay (off+1) (h.set off h1) h2
def iR(place:Nat->Option (Nat × Nat))(cells:List Value):List (Nat × Value)->Option (List Value)
 |[]=>some cells
 |(i,v)::rest =>
  match place i with
  |none=>none
  |some (off,size) =>
   if nC v&&decide (v.cells.toList.length=size)&&decide (off+size<=cells.length) then iR place (lay cells off v.cells.toList) rest else none
theorem ah7(vs:List Value):∀(cells:Array Value)(off k:Nat),((vs.zipIdx k).foldl (fun (cs:Array Value) (x:Value × Nat)=>cs.setIfInBounds (off+x.2) x.1) cells).toList=lay cells.toList (off+k) vs:=by
 induction vs with
 |nil=>intro cells off k;rfl
 |cons v vs ih =>
  intro cells off k;simp only[List.zipIdx_cons,List.foldl_cons,lay];rw[ih];simp[Nat.add_assoc]
theorem rS{V:Ren}{place:Nat->Option (Nat × Nat)}:∀(ps ps':List (Nat × Value))(l r:List Value)(a:Array Value),VRs V l a.toList->ps'.length=ps.length ->
    (∀ (k:Nat) (p p':Nat × Value),ps[k]?=some p->ps'[k]?=some p'->p'.1=p.1/\VR V p.2 p'.2)->iR place l ps=some r->∃ a',Instr.fill place a ps'=some a'/\VRs V r a'.toList
 |[],[],l,r,a,ha,_,_,h=>by simp only[iR,Option.some.injEq]at h;subst h;exact⟨a,rfl,ha⟩
 |[],_::_,_,_,_,_,hl,_,_=>by simp at hl
 |_::_,[],_,_,_,_,hl,_,_=>by simp at hl
 |(i,v)::ps,(i',u)::ps',l,r,a,ha,hl,hp,h=>by
  obtain⟨hi,hvu⟩:=hp 0 (i,v) (i',u) rfl rfl;simp only at hi hvu;subst hi;simp only[iR]at h;split at h
  .cases h
  .rename_i off size hpl;split at h
   .rename_i hc;simp only[Bool.and_eq_true,decide_eq_true_eq]at hc;obtain⟨⟨hnt,hsz⟩,hoff⟩:=hc;have hcells:=hvu.cells hnt;have hsz':u.cells.size=size:=by rw[<-Array.length_toList,hcells.1,hsz]
    have ha':=ha.1;rw[Array.length_toList]at ha';obtain⟨a',h1,h2⟩:=rS ps ps' (lay l off v.cells.toList) r (u.cells.zipIdx.foldl (fun cs (c,j)=>cs.setIfInBounds (off+j) c) a)
     (by
      rw[<-Array.foldl_toList,Array.toList_zipIdx];have:=ah7 u.cells.toList a off 0;rw[Nat.add_zero]at this;rw[this];exact ha.lay off hcells) (by simpa using hl) (fun k p p' h1 h2=>hp (k+1) p p' (by simpa using h1) (by simpa using h2)) h
    refine⟨a',?_,h2⟩;simp only[Instr.fill,hpl];rw[if_neg (by simp[hsz',ha'];omega)];exact h1
   .cases h
def nN(P:Program):List Field->Option (List (Nat × Nat))
 |[]=>some []
 |f::fs =>
  match P.info? f.type,nN P fs with
  |some i,some r=>some ((f.offset,i.size)::r)
  |_,_=>none
theorem run_places{P:Program}{w:World}:∀(fs:List Field)(r:List (Nat × Nat)),nN P fs=some r->(fs.mapM (m:=Sem) fun f=>do pure (f.offset,<-sizeOf f.type)).run P w=.ok r w
 |[],r,h=>by simp only[nN,Option.some.injEq]at h;subst h;rfl
 |f::fs,r,h=>by
  simp only[nN]at h;split at h
  .rename_i i rr hi hr;simp only[Option.some.injEq]at h;subst h;simp only[List.mapM_cons,Sem.run_bind,yA hi,Result.andThen_ok,Sem.run_pure,run_places fs rr hr]
  .cases h
def pX(P:Program)(t:TypeId):Option (List Value) :=
 match P.info? t with
 |some i=>match i.zero with
  |some z=>if z.cells.toList.all zL then some z.cells.toList else none
  |none=>none
 |none=>none
theorem sA{P:Program}{w:World}{t:TypeId}{l:List Value}(h:pX P t=some l):∃ z,(zeroValue t).run P w=.ok z w/\z.cells.toList=l/\l.all zL=true:=by
 unfold pX at h;split at h
 .rename_i i hi;split at h
  .rename_i z hz;split at h
   .rename_i hg;simp only[Option.some.injEq]at h;subst h;refine⟨z,?_,rfl,hg⟩;simp only[zeroValue,Sem.run_bind,tM hi,Result.andThen_ok,hz];rfl
   .cases h
  .cases h
 .cases h
def ahB(v:Value):Value:=if zL v then v else .chan none
def aeX(P:Program)(t:TypeId):Option (List Value) :=
 match P.info? t with
 |some i=>match i.zero with
  |some z=>if z.cells.toList.all fun v=>zL v || one v then some (z.cells.toList.map ahB) else none
  |none=>none
 |none=>none
theorem dT{P:Program}{w:World}{V:Ren}{t:TypeId}{l:List Value}(h:aeX P t=some l):∃ z,(zeroValue t).run P w=.ok z w/\VRs V l z.cells.toList:=by
 unfold aeX at h;split at h
 .rename_i i hi;split at h
  .rename_i z hz;split at h
   .rename_i hg;simp only[Option.some.injEq]at h;subst h;refine⟨z,?_,by simp,fun k v u hv hu=>?_⟩
    .simp only[zeroValue,Sem.run_bind,tM hi,Result.andThen_ok,hz];rfl
    .rw[List.getElem?_map,hu,Option.map_some,Option.some.injEq]at hv;subst hv;unfold ahB;split
     .rename_i hgu;exact VR.of_ground hgu
     .rename_i hgu;have:=List.all_eq_true.1 hg u (List.mem_of_getElem? hu);rw[Bool.or_eq_true]at this;exact .any1 u (this.resolve_left hgu)
   .cases h
  .cases h
 .cases h
def aeJ(P:Program)(t:TypeId)(parts:List (Nat × Value)):Option Value :=
 match aeX P t,P.underlying t with
 |some z,some (.struct fs) =>
  match nN P fs.toList with
  |some pl=>(iR (pl[·]?) z parts).map fun l=>.agg l.toArray
  |none=>none
 |some z,some (.array _ e) =>
  match P.info? e with
  |some i=>(iR (fun k=>some (k*i.size,i.size)) z parts).map fun l=>.agg l.toArray
  |none=>none
 |_,_=>none
theorem abD{P:Program}{w:World}{V:Ren}{t:TypeId}{ps:List (Nat × Value)}{ps':Array (Nat × Value)}{v:Value}(hl:ps'.toList.length=ps.length)
    (hp:∀ (k:Nat) (p p':Nat × Value),ps[k]?=some p->ps'.toList[k]?=some p'->p'.1=p.1/\VR V p.2 p'.2) (h:aeJ P t ps=some v):∃ u,(Instr.build t ps').run P w=.ok u w/\VR V v u:=by
 unfold aeJ at h
 split at h
 .rename_i z fs hz ht
  obtain⟨z',hz',hg⟩:=dT (w:=w) (V:=V) hz
  split at h
  .rename_i pl hpl
   simp only[Option.map_eq_some_iff]at h
   obtain⟨l,hfl,rfl⟩:=h
   obtain⟨a',h1,h2⟩:=rS ps ps'.toList _ l z'.cells hg hl hp hfl
   refine⟨.agg a',?_,.agg _ _ (by have:=h2.1;simpa using this.symm) (fun k x y hx hy=>h2.2 k x y (by simpa using hx) (by simpa using hy))⟩
   have e:(fun (x:Nat)=>pl.toArray[x]?)=(fun (x:Nat)=>pl[x]?):=by funext x;simp
   simp only[Instr.build,Sem.run_bind,hz',Result.andThen_ok,run_underlying ht,Array.mapM_eq_mapM_toList,Sem.run_map,run_places _ _ hpl,e,h1]
   rfl
  .cases h
 .rename_i z n e hz ht
  obtain⟨z',hz',hg⟩:=dT (w:=w) (V:=V) hz
  split at h
  .rename_i i hi
   simp only[Option.map_eq_some_iff]at h
   obtain⟨l,hfl,rfl⟩:=h
   obtain⟨a',h1,h2⟩:=rS ps ps'.toList _ l z'.cells hg hl hp hfl
   refine⟨.agg a',?_,.agg _ _ (by have:=h2.1;simpa using this.symm) (fun k x y hx hy=>h2.2 k x y (by simpa using hx) (by simpa using hy))⟩
   simp only[Instr.build,Sem.run_bind,hz',Result.andThen_ok,run_underlying ht,yA hi,h1]
   rfl
  .cases h
 .cases h
structure Made(P:Program)(w0:W0)(V:Ren)(H':AS)(w:World)(s:Sem Value)(v:Value):Prop where
 out:∃ (γ:Ren) (u:Value) (w':World),s.run P w=.ok u w'/\HR w0 (V++γ) H' w'/\VR (V++γ) v u
def N5(H:AS)(cells:List Value)(e:TypeId):Option (Nat × AS):=H.new { cells:=cells,elem:=e,ro:=false,live:=true }
theorem HR.newRow{P:Program}{w0:W0}{V:Ren}{H H':AS}{w:World}(h:HR w0 V H w){vs us:List Value}{e:TypeId}{B:Nat}(hn:N5 H vs e=some (B,H'))(hv:VRs V vs us) :
    (newRow e us.toArray).run P w=.ok ⟨w.heap.size,0,none⟩ (w.alloc (.cells us.toArray e))/\HR w0 (V++[⟨w.heap.size,0,us.length,undef,yD⟩]) H' (w.alloc (.cells us.toArray e))/\hm (V++[⟨w.heap.size,0,us.length,undef,yD⟩]) B=some (w.heap.size,0) :=
 ⟨rfl,h.alloc hn hv⟩
def adC(P:Program)(H:AS)(t:TypeId):Option (Value × AS) :=
 match pX P t with
 |some z=>(N5 H z t).map fun (B,H')=>(.pointer (some ⟨B,0,none⟩),H')
 |none=>none
theorem HR.allocOp{P:Program}{w0:W0}{V:Ren}{H H':AS}{w:World}(h:HR w0 V H w){t:TypeId}{v:Value}(ha:adC P H t=some (v,H')):Made P w0 V H' w (Instr.alloc t true (.tuple #[])) v:=by
 unfold adC at ha;split at ha
 .rename_i z hz;obtain⟨z',hz',rfl,hg⟩:=sA (w:=w) hz;simp only[Option.map_eq_some_iff,Prod.mk.injEq]at ha;obtain⟨⟨B,H1⟩,hn,rfl,rfl⟩:=ha;obtain⟨h1,h2,h3⟩:=h.newRow (P:=P) hn (VRs.refl hg);have e:z'.cells.toList.toArray=z'.cells:=by simp
  rw[e]at h1 h2;refine⟨[⟨w.heap.size,0,_,undef,yD⟩],_,_,?_,h2,.ptr B 0 w.heap.size 0 h3⟩;simp only[Instr.alloc,Sem.run_bind,hz',Result.andThen_ok,newVar,h1];rfl
 .cases ha
def aOM(H:AS)(t:TypeId)(x:Value):Option (Value × AS) :=
 if nC x then (N5 H x.cells.toList t).map fun (B,H')=>(.pointer (some ⟨B,0,none⟩),H') else none
theorem HR.boxOp{P:Program}{w0:W0}{V:Ren}{H H':AS}{w:World}(h:HR w0 V H w){t:TypeId}{x x' v:Value}(hx:VR V x x')(ha:aOM H t x=some (v,H')):Made P w0 V H' w (Instr.box t x') v:=by
 unfold aOM at ha;split at ha
 .rename_i hnt;simp only[Option.map_eq_some_iff,Prod.mk.injEq]at ha;obtain⟨⟨B,H1⟩,hn,rfl,rfl⟩:=ha;obtain⟨h1,h2,h3⟩:=h.newRow (P:=P) hn (hx.cells hnt);have e:x'.cells.toList.toArray=x'.cells:=by simp
  rw[e]at h1 h2;refine⟨[⟨w.heap.size,0,_,undef,yD⟩],_,_,?_,h2,.ptr B 0 w.heap.size 0 h3⟩;simp only[Instr.box,Sem.run_bind,newVar,h1,Result.andThen_ok];rfl
 .cases ha
def sR(z:List Value)(n:Nat):List Value:=(List.range n).map fun i=>z.getD (i%z.length) (.tuple #[])
theorem aaN(z:Array Value)(n:Nat)(h:0<z.size):((Array.range n).map (z[· % z.size]!)).toList=sR z.toList n:=by
 unfold sR;simp only[Array.toList_map,Array.toList_range,Array.length_toList];apply List.map_congr_left;intro i _;have hi:i%z.size<z.size:=Nat.mod_lt _ h;rw[getElem!_pos z (i%z.size) hi,List.getD_eq_getElem?_getD,Array.getElem?_toList,Array.getElem?_eq_getElem hi];rfl
theorem pW{z:List Value}{n:Nat}(hg:z.all zL=true)(h:0<z.length):(sR z n).all zL=true:=by
 rw[List.all_eq_true];intro v hv;simp only[sR,List.mem_map]at hv;obtain⟨i,_,rfl⟩:=hv;have hi:i%z.length<z.length:=Nat.mod_lt _ h;rw[List.getD_eq_getElem?_getD,List.getElem?_eq_getElem hi];exact List.all_eq_true.1 hg _ (List.getElem_mem hi)
theorem nA(f:Nat->Value):(Array.range 0).map f=#[]:=by apply Array.ext';simp
theorem acB{P:Program}{w:World}{e:TypeId}:(Go.newRow e #[]).run P w=.ok ⟨w.heap.size,0,none⟩ (w.alloc (.cells #[] e)):=rfl
theorem aaI(z:List Value):sR z 0=[]:=rfl
def oW(P:Program)(H:AS)(t:TypeId)(l c:Value):Option (Value × AS) :=
 match l,c,P.underlying t with
 | .int .i64 l,.int .i64 c,some (.slice e) =>
  match P.info? e,pX P e with
  |some i,some z =>
   if 0<=l/\l<=c/\(i.bytes:Int)*c<=2 ^ 47/\c<2 ^ 47/\0<z.length then
    (N5 H (sR z (c.toNat*i.size)) e).map fun (B,H')=>(.slice (some ⟨B,0,none⟩) l.toNat c.toNat,H')
   else none
  |_,_=>none
 |_,_,_=>none
theorem wrap_small{n:Int}(h0:0<=n)(h1:n<2 ^ 47):IntKind.i64.wrap n=n:=by
 exact IntWalk.i64_in _ (by omega)
theorem HR.makeSliceOp{P:Program}{w0:W0}{V:Ren}{H H':AS}{w:World}(h:HR w0 V H w){t:TypeId}{l c l' c' v:Value}(hl:VR V l l')(hc:VR V c c')(ha:oW P H t l c=some (v,H')):Made P w0 V H' w (Instr.makeSlice t l' c') v:=by
 unfold oW at ha;split at ha
 .rename_i ln cn e ht;cases hl;cases hc;split at ha
  .rename_i i z hi hz;split at ha
   .rename_i hb;obtain⟨h0,h1,h2,h3,h4⟩:=hb;obtain⟨z',hz',rfl,hg⟩:=sA (w:=w) hz;simp only[Option.map_eq_some_iff,Prod.mk.injEq]at ha;obtain⟨⟨B,H1⟩,hn,rfl,rfl⟩:=ha;obtain⟨g1,g2,g3⟩:=h.newRow (P:=P) hn (VRs.refl (pW hg h4));refine⟨[⟨w.heap.size,0,_,undef,yD⟩],_,_,?_,g2,.sl B 0 w.heap.size 0 _ _ g3⟩;have el:IntKind.i64.wrap ln=ln:=wrap_small h0 (by omega);have ec:IntKind.i64.wrap cn=cn:=wrap_small (by omega) h3;have hz4:0<z'.cells.size:=by simpa using h4
    have hcn:cn.toNat=cn:=Int.toNat_of_nonneg (by omega);have hno1:(decide (cn<0) || decide ((i.bytes:Int)*cn > 2 ^ 48))=false:=by
     simp only[Bool.or_eq_false_iff,decide_eq_false_iff_not];exact⟨by omega,by omega⟩
    have hroom:¬ cn.toNat*i.bytes > roomBytes:=by
     have e1:((cn.toNat*i.bytes:Nat):Int)=i.bytes*cn:=by rw[Int.natCast_mul,hcn,Int.mul_comm]
     have e2:(roomBytes:Int)=2 ^ 47:=rfl;omega
    have hmk:∀ (n:Nat),(Go.newRow e ((Array.range n).map (z'.cells[· % z'.cells.size]!))).run P w=.ok ⟨w.heap.size,0,none⟩ (w.alloc (.cells (sR z'.cells.toList n).toArray e)):=by
     intro n;have:(Array.range n).map (z'.cells[· % z'.cells.size]!)=(sR z'.cells.toList n).toArray:=by
      apply Array.ext';rw[aaN _ _ hz4]
     rw[this];rfl
    simp only[Instr.makeSlice,Sem.run_bind,run_underlying ht,Result.andThen_ok,asInt,asIntOf,Sem.run_pure,tM hi,el,ec,hno1,Bool.false_or];rw[if_neg (by simp;omega)];simp only[askRoom,if_neg hroom,Sem.run_bind,Sem.run_pure,Result.andThen_ok,yA hi];by_cases hn0:cn.toNat*i.size=0
    .simp only[hn0,if_true,Sem.run_bind,Sem.run_pure,Result.andThen_ok,nA,acB,aaI]
    .simp only[hn0,if_false,Sem.run_bind,hz',Result.andThen_ok,Sem.run_pure,hmk]
   .cases ha
  .cases ha
 .cases ha
def qW(P:Program)(H:AS)(t:TypeId)(len:Nat)(parts:List (Nat × Value)):Option (Value × AS) :=
 match P.underlying t with
 |some (.slice e) =>
  match P.info? e,pX P e with
  |some i,some z =>
   if len*i.size<=2 ^ 24/\0<z.length then
    match iR (fun k=>some (k*i.size,i.size)) (sR z (len*i.size)) parts with
    |some l=>(N5 H l e).map fun (B,H')=>(.slice (some ⟨B,0,none⟩) len len,H')
    |none=>none
   else none
  |_,_=>none
 |_=>none
theorem HR.buildSliceOp{P:Program}{w0:W0}{V:Ren}{H H':AS}{w:World}(h:HR w0 V H w){t:TypeId}{len:Nat}{ps:List (Nat × Value)}{ps':Array (Nat × Value)}{v:Value}(hl:ps'.toList.length=ps.length)
    (hp:∀ (k:Nat) (p p':Nat × Value),ps[k]?=some p->ps'.toList[k]?=some p'->p'.1=p.1/\VR V p.2 p'.2) (ha:qW P H t len ps=some (v,H')):Made P w0 V H' w (Instr.buildSlice t len ps') v:=by
 unfold qW at ha
 split at ha
 .rename_i e ht
  split at ha
  .rename_i i z hi hz
   split at ha
   .rename_i hb
    obtain⟨h1,h4⟩:=hb
    obtain⟨z',hz',rfl,hg⟩:=sA (w:=w) hz
    split at ha
    .rename_i l hfl
     simp only[Option.map_eq_some_iff,Prod.mk.injEq]at ha
     obtain⟨⟨B,H1⟩,hn,rfl,rfl⟩:=ha
     have hz4:0<z'.cells.size:=by simpa using h4
     have hzz:((Array.range (len*i.size)).map (z'.cells[· % z'.cells.size]!)).toList=sR z'.cells.toList (len*i.size):=aaN _ _ hz4
     obtain⟨a',g1,g2⟩:=rS ps ps'.toList _ l ((Array.range (len*i.size)).map (z'.cells[· % z'.cells.size]!)) (by rw[hzz];exact VRs.refl (pW hg h4)) hl hp hfl
     obtain⟨q1,q2,q3⟩:=h.newRow (P:=P) hn g2
     have ea:a'.toList.toArray=a':=by simp
     rw[ea]at q1 q2
     refine⟨[⟨w.heap.size,0,_,undef,yD⟩],_,_,?_,q2,.sl B 0 w.heap.size 0 _ _ q3⟩
     simp only[Instr.buildSlice,Sem.run_bind,run_underlying ht,Result.andThen_ok,yA hi]
     rw[if_neg (by omega)]
     by_cases hn0:len*i.size=0
     .have ez:(Array.range (len*i.size)).map (z'.cells[· % z'.cells.size]!)=#[]:=by rw[hn0];exact nA _
      rw[ez]at g1
      simp only[hn0,if_true,Sem.run_bind,Sem.run_pure,Result.andThen_ok]
      simp only[nA,g1,Sem.run_bind,q1,Result.andThen_ok]
      rfl
     .simp only[hn0,if_false,Sem.run_bind,hz',Result.andThen_ok,Sem.run_pure,g1,q1]
    .cases ha
   .cases ha
  .cases ha
 .cases ha
end
end Go.SM
