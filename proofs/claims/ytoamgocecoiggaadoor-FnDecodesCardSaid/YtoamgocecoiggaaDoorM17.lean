-- the statement of this claim: see YtoamgocecoiggaaDoorRw
import Derived.Test.YtoamgocecoiggaaDoorM16
set_option linter.unusedVariables false
set_option linter.unusedSimpArgs false
namespace Go.SM
noncomputable section
inductive Bd where
 | blk (B:Nat)
 | itm (e:Value)
 | ltm (e:Value)
 | btm (e:Value)
 | val (v:Value)
 | ntm (e:Value)
abbrev Sg:=List (Nat × Bd)
def Sg.get (σ:Sg) (i:Nat):Option Bd:=match σ with
 | []=>none
 | (j,b)::σ=>if Nat.beq i j then some b else Sg.get σ i
def fnl:Nat→Value→Bool
 | 0,_=>false
 | k + 1,v=>match v with
  | .bool _ | .int _ _ | .float _ _ | .string _ | .pointer none | .slice none _ _ | .nilFunc | .nilIface=>true
  | .pointer (some ⟨_,_,none⟩)=>true
  | .slice (some ⟨_,_,none⟩) _ _=>true
  | .map (some c)=>Nat.beq (c % 3) 1
  | .func (.yield m) _ _=>Nat.ble m 4
  | .func fn a c=>noY fn && (a.isEmpty && c.isEmpty)
  | .iface _ x=>fnl k x
  | _=>false
theorem VR.det {β:Ren}:∀ (k:Nat) {v u u':Value},fnl k v=true→VR β v u→VR β v u'→u=u':=by
 intro k
 induction k with
 | zero=>intro v u u' h; cases h
 | succ k ih =>
  intro v u u' hf h h'
  cases h with
  | any=>simp [fnl] at hf
  | bool b=>cases h'; rfl
  | int k n=>cases h'; rfl
  | float k n=>cases h'; rfl
  | string s=>cases h'; rfl
  | ptr0=>cases h'; rfl
  | ptr B o b s hb=>cases h' with
   | ptr _ _ b' s' hb'=>rw [hb] at hb'; cases hb'; rfl
  | sl0 n c=>cases h'; rfl
  | sl B o b s n c hb=>cases h' with
   | sl _ _ b' s' _ _ hb'=>rw [hb] at hb'; cases hb'; rfl
  | slL=>simp [fnl] at hf
  | rng8=>simp [fnl] at hf
  | rng64=>simp [fnl] at hf
  | rint=>simp [fnl] at hf
  | rsl=>simp [fnl] at hf
  | any1=>simp [fnl] at hf
  | opq j h h1=>exfalso; simp only [fnl] at hf; have:=Nat.eq_of_beq_eq_true hf; omega
  | opq1 j h h1 h2 =>
   generalize hz:(Value.map (some (3 * j + 1)))=z at h'
   cases h' <;> try cases hz
   ·exfalso; have e:=Option.some.inj (Value.map.inj hz); omega
   ·rename_i j' h' e1 e2
    have e:=Option.some.inj (Value.map.inj hz)
    have:j=j':=by omega
    subst this
    rw [h1] at e1; cases e1; rfl
   ·exfalso; have e:=Option.some.inj (Value.map.inj hz); omega
   ·exfalso; have e:=Option.some.inj (Value.map.inj hz); omega
   ·exfalso; have e:=Option.some.inj (Value.map.inj hz); omega
  | sAny j s h=>exfalso; simp only [fnl] at hf; have:=Nat.eq_of_beq_eq_true hf; omega
  | sNe j s h h'=>exfalso; simp only [fnl] at hf; have:=Nat.eq_of_beq_eq_true hf; omega
  | uNz n h=>exfalso; simp only [fnl] at hf; cases hf
  | symI k t lo hi h1 h2 h3 =>
   obtain ⟨t',e,_,rfl,_⟩:=asI_sound h' rfl
   rw [TI.inj _ _ e]
  | symB t h1 =>
   obtain ⟨t',e,_,rfl⟩:=asB_sound h' rfl
   rw [TB.inj _ _ e]
  | symS t hi h1 h2 =>
   obtain ⟨t',e,_,rfl,_⟩:=asS_sound h' rfl
   rw [TL.inj _ _ e]
  | symP B t b s hb h1 h2 =>
   obtain ⟨t',b',s',e,hb',_,_,rfl⟩:=asP_sound (B:=B) (o:=t.enc) h' (by simp [asP])
   rw [hb] at hb'; cases hb'
   rw [TI.inj _ _ e]
  | symL B o n c b s hb h1 h2 h3 h4 h5 h6 h7 =>
   obtain ⟨o',n',c',b',s',e1,e2,e3,hk,rfl⟩:=asL_sound (B:=B) (o:=o.enc) (n:=n.enc) (c:=c.enc) h' (by simp [asL])
   have:=hk.home
   rw [hb] at this; cases this
   rw [TI.inj _ _ e1,TI.inj _ _ e2,TI.inj _ _ e3]
  | nilFunc=>cases h'; rfl
  | nilIface=>cases h'; rfl
  | func fn a c a' c' h0 h1 h2 h3 h4 =>
   have hg:(a.isEmpty && c.isEmpty)=true:=by
    cases fn <;> simp [fnl,noY] at hf h0 ⊢ <;> exact hf
   have hgr:ground (.func fn a c)=true:=by simp [ground,h0]; simpa using hg
   rw [(VR.func fn a c a' c' h0 h1 h2 h3 h4).eq_of_ground hgr,h'.eq_of_ground hgr]
  | iface t v u h =>
   cases h' with
   | iface _ _ u2 h2=>rw [ih (by simpa [fnl] using hf) h h2]
  | agg=>simp [fnl] at hf
  | tuple=>simp [fnl] at hf
def BdOk (β:Ren):Bd→Option Hm→Prop
 | .ntm e,h=>∃ t:TN,e=t.enc∧t.ok β.length=true∧h=some ⟨0,0,0,.tuple (nv (t.den β)).toArray,noPr⟩
 | .blk B,h=>∃ q,β[B]?=some q∧h=some q
 | .itm e,h=>∃ t:TI,e=t.enc∧t.ok β.length=true∧h=some ⟨0,0,0,.int .i64 (t.den β),noPr⟩
 | .ltm e,h=>∃ t:TL,e=t.enc∧t.ok β.length=true∧h=some ⟨0,0,0,.string ⟨(t.den β).toArray⟩,noPr⟩
 | .btm e,h=>∃ t:TB,e=t.enc∧t.ok β.length=true∧h=some ⟨0,0,0,.bool (t.den β),noPr⟩
 | .val v,h=>fnl 5 v=true∧∃ u,VR β v u∧one u=true∧h=some ⟨0,0,0,u,noPr⟩
structure Inst (β:Ren) (σ:Sg) (m:Nat) (β1:Ren):Prop where
 len:β1.length=m
 get:∀ i b,σ.get i=some b→i < m→BdOk β b β1[i]?
def Sg.Valid (β:Ren) (σ:Sg):Prop:=∀ i b,σ.get i=some b→∃ h,BdOk β b (some h)
theorem Sg.Valid.inst {β:Ren} {σ:Sg} (h:σ.Valid β) (m:Nat):∃ β1,Inst β σ m β1:=by
 classical
 refine ⟨(List.range m).map fun i=>match σ.get i with
  | some b=>if hv:∃ q,BdOk β b (some q) then hv.choose else ⟨0,0,0,undef,noPr⟩
  | none=>⟨0,0,0,undef,noPr⟩,by simp,?_⟩
 intro i b hi him
 have hv:∃ q,BdOk β b (some q):=h i b hi
 rw [List.getElem?_map,List.getElem?_range him,Option.map_some,hi]
 simp only
 rw [dif_pos hv]
 exact hv.choose_spec
def Bd.eq:Bd→Bd→Bool
 | .blk A,.blk B=>Nat.beq A B
 | .itm a,.itm b=>teq 90 a b
 | .ltm a,.ltm b=>teq 90 a b
 | .btm a,.btm b=>teq 90 a b
 | .ntm a,.ntm b=>teq 90 a b
 | .val a,.val b=>deq 60 a b
 | _,_=>false
theorem Bd.eq_eq {a b:Bd} (h:a.eq b=true):a=b:=by
 cases a <;> cases b <;> simp only [Bd.eq] at h <;> first
  | (cases h; done)
  | rw [Nat.eq_of_beq_eq_true h]
  | rw [teq_eq _ _ _ h]
  | rw [deq_eq _ _ _ h]
def bind1 (σ:Sg) (i:Nat) (b:Bd):Option Sg:=match σ.get i with
 | none=>some ((i,b)::σ)
 | some b'=>if b'.eq b then some σ else none
def Sg.le (σ σ':Sg):Prop:=∀ i b,σ.get i=some b→σ'.get i=some b
theorem Sg.le.refl (σ:Sg):σ.le σ:=fun _ _ h=>h
theorem Sg.le.trans {a b c:Sg} (h:a.le b) (h2:b.le c):a.le c:=fun i x hx=>h2 i x (h i x hx)
theorem Sg.cons_le {σ:Sg} {i:Nat} {b:Bd} (h:σ.get i=none):σ.le ((i,b)::σ):=fun j x hx=>by
 have hji:j≠i:=fun e=>by subst e; rw [h] at hx; cases hx
 simp only [Sg.get]
 rw [if_neg (by intro e; exact hji (Nat.eq_of_beq_eq_true e))]
 exact hx
theorem Sg.get_cons_self (σ:Sg) (i:Nat) (b:Bd):Sg.get ((i,b)::σ) i=some b:=by
 simp only [Sg.get]; rw [if_pos (Nat.beq_refl i)]
theorem Sg.get_cons {σ:Sg} {i j:Nat} {b x:Bd} (h:Sg.get ((i,b)::σ) j=some x):(j=i∧x=b)∨σ.get j=some x:=by
 simp only [Sg.get] at h
 split at h
 ·rename_i e
  cases h
  exact .inl ⟨Nat.eq_of_beq_eq_true e,rfl⟩
 ·exact .inr h
theorem bind1_sound {β:Ren} {σ σ':Sg} {i:Nat} {b:Bd} (h:bind1 σ i b=some σ') (hv:σ.Valid β) (hb:∃ q,BdOk β b (some q)):σ.le σ'∧σ'.Valid β∧σ'.get i=some b:=by
 unfold bind1 at h
 split at h
 ·rename_i hn
  cases h
  refine ⟨Sg.cons_le hn,fun j b' hj=>?_,Sg.get_cons_self _ _ _⟩
  rcases Sg.get_cons hj with ⟨rfl,rfl⟩ | hj
  ·exact hb
  ·exact hv j b' hj
 ·rename_i b' hb'
  split at h
  ·rename_i e
   cases h
   have:=Bd.eq_eq e
   subst this
   exact ⟨Sg.le.refl _,hv,hb'⟩
  ·cases h
def mTm (m:Nat) (σ:Sg) (p e:Value):Option Sg :=
 match p with
 | .map (some i)=>if Nat.blt i m then bind1 σ i (.itm e) else none
 | .int .i64 z=>if teq 3 (.int .i64 z) e then some σ else none
 | _=>none
def mV (m:Nat) (A:List Value):Nat→Sg→Value→Value→Option Sg
 | 0,_,_,_=>none
 | k + 1,σ,p,v =>
  match p with
  | .tuple ⟨[]⟩=>some σ
  | .chan none=>if aone v then some σ else none
  | .map (some c)=>if Nat.beq (c % 3) 1 && (Nat.blt (c / 3) m && (fnl 5 v && aone v)) then bind1 σ (c / 3) (.val v) else none
  | .func (.yield 0) ⟨[.int kp z,.map (some i),.int .i64 lo,.int .i64 hi]⟩ ⟨[]⟩ =>
   match asI v with
   | some (kv,e,lo',hi') =>
    if kp=kv∧z=0∧(lo≤lo'∨leOk A (.int .i64 lo) e=true)∧(hi'≤hi∨leOk A e (.int .i64 hi)=true)∧Nat.blt i m=true then bind1 σ i (.itm e) else none
   | none=>none
  | .func (.yield 1) ⟨[.map (some i)]⟩ ⟨[]⟩ =>
   match asB v with
   | some e=>if Nat.blt i m=true then bind1 σ i (.btm e) else none
   | none=>none
  | .func (.yield 2) ⟨[.map (some i),.int .i64 hi]⟩ ⟨[]⟩ =>
   match asS v with
   | some (e,hi')=>if hi'≤hi∧Nat.blt i m=true then bind1 σ i (.ltm e) else none
   | none=>none
  | .func (.yield 4) ⟨[.int .i64 (.ofNat B),o,n,c]⟩ ⟨[]⟩ =>
   match asL' v with
   | some (B',o',n',c') =>
    if Nat.blt B m then
     match bind1 σ B (.blk B') with
     | some σ=>match mTm m σ o o' with
      | some σ=>match mTm m σ n n' with
       | some σ=>mTm m σ c c'
       | none=>none
      | none=>none
     | none=>none
    else none
   | none=>none
  | .pointer (some ⟨B,o,none⟩) =>
   match v with
   | .pointer (some ⟨B',o',none⟩)=>if Nat.beq o o' && Nat.blt B m then bind1 σ B (.blk B') else none
   | _=>none
  | .iface t p =>
   match v with
   | .iface t' v=>if Nat.beq t t' then mV m A k σ p v else none
   | _=>none
  | .slice (some ⟨B,o,none⟩) n c =>
   match v with
   | .slice (some ⟨B',o',none⟩) n' c'=>if Nat.beq o o' && (Nat.beq n n' && (Nat.beq c c' && Nat.blt B m)) then bind1 σ B (.blk B') else none
   | _=>none
  | p=>if ground p && deq 6 p v then some σ else none
theorem Inst.itm {β β1:Ren} {σ:Sg} {m i:Nat} {t:TI} (h:Inst β σ m β1) (hi:σ.get i=some (.itm t.enc)) (him:i < m):(TI.var i).den β1=t.den β∧(TI.var i).ok β1.length=true:=by
 obtain ⟨t',e,_,hh⟩:=h.get i _ hi him
 rw [TI.inj _ _ e]
 refine ⟨by simp only [TI.den,hh]; rfl,by simp only [TI.ok,h.len]; exact decide_eq_true him⟩
theorem Inst.ltm {β β1:Ren} {σ:Sg} {m i:Nat} {t:TL} (h:Inst β σ m β1) (hi:σ.get i=some (.ltm t.enc)) (him:i < m):(TL.var i).den β1=t.den β∧(TL.var i).ok β1.length=true:=by
 obtain ⟨t',e,_,hh⟩:=h.get i _ hi him
 rw [TL.inj _ _ e]
 refine ⟨by simp only [TL.den,hh,vBytes],by simp only [TL.ok,h.len]; exact decide_eq_true him⟩
theorem Inst.btm {β β1:Ren} {σ:Sg} {m i:Nat} {t:TB} (h:Inst β σ m β1) (hi:σ.get i=some (.btm t.enc)) (him:i < m):(TB.var i).den β1=t.den β∧(TB.var i).ok β1.length=true:=by
 obtain ⟨t',e,_,hh⟩:=h.get i _ hi him
 rw [TB.inj _ _ e]
 refine ⟨by simp only [TB.den,hh]; rfl,by simp only [TB.ok,h.len]; exact decide_eq_true him⟩
theorem Inst.ntm {β β1:Ren} {σ:Sg} {m i:Nat} {t:TN} (h:Inst β σ m β1) (hi:σ.get i=some (.ntm t.enc)) (him:i < m):(TN.var i).den β1=t.den β∧(TN.var i).ok β1.length=true:=by
 obtain ⟨t',e,_,hh⟩:=h.get i _ hi him
 rw [TN.inj _ _ e]
 refine ⟨by simp only [TN.den,hh,vNums_tup],by simp only [TN.ok,h.len]; exact decide_eq_true him⟩
theorem Inst.blk {β β1:Ren} {σ:Sg} {m i B:Nat} (h:Inst β σ m β1) (hi:σ.get i=some (.blk B)) (him:i < m):β1[i]?=β[B]?:=by
 obtain ⟨q,e,hh⟩:=h.get i _ hi him
 rw [e,hh]
theorem hm_lt {β:Ren} {B:Nat} {p:Nat × Nat} (h:hm β B=some p):∃ q,β[B]?=some q:=by
 unfold hm at h
 cases hq:β[B]? with
 | none=>rw [hq] at h; cases h
 | some q=>exact ⟨q,rfl⟩
theorem mTm_sound {β:Ren} {m:Nat} {σ σ':Sg} {p:Value} {t:TI} (h:mTm m σ p t.enc=some σ') (hv:σ.Valid β) (ht:t.ok β.length=true) :
    σ.le σ'∧σ'.Valid β∧∀ σ2 β1,σ'.le σ2→Inst β σ2 m β1→∃ r:TI,p=r.enc∧r.ok β1.length=true∧r.den β1=t.den β:=by
 unfold mTm at h
 split at h
 ·rename_i i
  split at h
  ·rename_i hlt
   obtain ⟨h1,h2,h3⟩:=bind1_sound h hv ⟨_,t,rfl,ht,rfl⟩
   refine ⟨h1,h2,fun σ2 β1 hle hI=>?_⟩
   obtain ⟨a,b⟩:=hI.itm (hle _ _ h3) (Nat.le_of_ble_eq_true hlt)
   exact ⟨.var i,rfl,b,a⟩
  ·cases h
 ·rename_i z
  split at h
  ·rename_i he
   cases h
   refine ⟨Sg.le.refl _,hv,fun σ2 β1 _ _=>?_⟩
   have:=teq_eq _ _ _ he
   obtain ⟨rfl,_⟩:=enc_int this.symm
   exact ⟨.lit z,rfl,rfl,rfl⟩
  ·cases h
 ·cases h
theorem mV_sound {β:Ren} {m:Nat} {A:List Value} (hA:Facts β A):∀ (k:Nat) {σ σ':Sg} {p v u:Value},mV m A k σ p v=some σ'→σ.Valid β→VR β v u →
    σ.le σ'∧σ'.Valid β∧∀ σ2 β1,σ'.le σ2→Inst β σ2 m β1→VR β1 p u:=by
 intro k
 induction k with
 | zero=>intro σ σ' p v u h; cases h
 | succ k ih =>
  intro σ σ' p v u h hv hu
  unfold mV at h
  split at h
  ·cases h; exact ⟨Sg.le.refl _,hv,fun _ _ _ _=>.any u⟩
  ·split at h
   ·rename_i ho; cases h; exact ⟨Sg.le.refl _,hv,fun _ _ _ _=>.any1 u (hu.one_conc ho)⟩
   ·cases h
  ·rename_i c
   split at h
   ·rename_i hc
    simp only [Bool.and_eq_true] at hc
    obtain ⟨c1,c2,c3,c4⟩:=hc
    have c1:=Nat.eq_of_beq_eq_true c1
    have c2:c / 3 < m:=Nat.le_of_ble_eq_true c2
    obtain ⟨h1,h2,h3⟩:=bind1_sound h hv ⟨_,c3,u,hu,hu.one_conc c4,rfl⟩
    refine ⟨h1,h2,fun σ2 β1 hle hI=>?_⟩
    obtain ⟨_,u',hu',ho',hh⟩:=hI.get _ _ (hle _ _ h3) c2
    have:=VR.det 5 c3 hu hu'
    subst this
    have e:c=3 * (c / 3) + 1:=by omega
    rw [e]
    exact VR.opq1 (c / 3) ⟨0,0,0,u,noPr⟩ hh ho'
   ·cases h
  ·rename_i kp z i lo hi
   split at h
   ·rename_i kv e lo' hi' he
    split at h
    ·rename_i hc
     obtain ⟨rfl,rfl,hlo,hhi,hlt⟩:=hc
     obtain ⟨t,rfl,h1,rfl,h2,h3⟩:=asI_sound hu he
     obtain ⟨g1,g2,g3⟩:=bind1_sound h hv ⟨_,t,rfl,h1,rfl⟩
     refine ⟨g1,g2,fun σ2 β1 hle hI=>?_⟩
     obtain ⟨a,b⟩:=hI.itm (hle _ _ g3) (Nat.le_of_ble_eq_true hlt)
     have l1:lo≤t.den β:=by
      rcases hlo with hlo | hlo
      ·omega
      ·exact leOk_sound (s:=.lit lo) hA hlo
     have l2:t.den β≤hi:=by
      rcases hhi with hhi | hhi
      ·omega
      ·exact leOk_sound (t:=.lit hi) hA hhi
     have:=VR.symI (β:=β1) kp (.var i) lo hi b (by rw [a]; exact l1) (by rw [a]; exact l2)
     rw [a] at this
     exact this
    ·cases h
   ·cases h
  ·rename_i i
   split at h
   ·rename_i e he
    split at h
    ·rename_i hlt
     obtain ⟨t,rfl,h1,rfl⟩:=asB_sound hu he
     obtain ⟨g1,g2,g3⟩:=bind1_sound h hv ⟨_,t,rfl,h1,rfl⟩
     refine ⟨g1,g2,fun σ2 β1 hle hI=>?_⟩
     obtain ⟨a,b⟩:=hI.btm (hle _ _ g3) (Nat.le_of_ble_eq_true hlt)
     have:=VR.symB (β:=β1) (.var i) b
     rw [a] at this
     exact this
    ·cases h
   ·cases h
  ·rename_i i hi
   split at h
   ·rename_i e hi' he
    split at h
    ·rename_i hc
     obtain ⟨hhi,hlt⟩:=hc
     obtain ⟨t,rfl,h1,rfl,h2⟩:=asS_sound hu he
     obtain ⟨g1,g2,g3⟩:=bind1_sound h hv ⟨_,t,rfl,h1,rfl⟩
     refine ⟨g1,g2,fun σ2 β1 hle hI=>?_⟩
     obtain ⟨a,b⟩:=hI.ltm (hle _ _ g3) (Nat.le_of_ble_eq_true hlt)
     have:=VR.symS (β:=β1) (.var i) hi b (by rw [a]; omega)
     rw [a] at this
     exact this
    ·cases h
   ·cases h
  ·rename_i B o n c
   split at h
   ·rename_i B' o' n' c' he
    obtain ⟨to,tn,tc,b,s,rfl,rfl,rfl,hk,rfl⟩:=asL'_sound hu he
    split at h
    rotate_left
    ·cases h
    rename_i hlt
    split at h
    rotate_left
    ·cases h
    rename_i σ1 hb1
    split at h
    rotate_left
    ·cases h
    rename_i σ2 ho2
    split at h
    rotate_left
    ·cases h
    rename_i σ3 hn3
    obtain ⟨q,hq⟩:=hm_lt hk.home
    obtain ⟨a1,a2,a3⟩:=bind1_sound hb1 hv ⟨q,q,hq,rfl⟩
    obtain ⟨b1,b2,b3⟩:=mTm_sound ho2 a2 hk.oko
    obtain ⟨c1,c2,c3⟩:=mTm_sound hn3 b2 hk.okn
    obtain ⟨d1,d2,d3⟩:=mTm_sound h c2 hk.okc
    refine ⟨((a1.trans b1).trans c1).trans d1,d2,fun σ4 β1 hle hI=>?_⟩
    obtain ⟨ro,rfl,o1,o2⟩:=b3 σ4 β1 ((c1.trans d1).trans hle) hI
    obtain ⟨rn,rfl,n1,n2⟩:=c3 σ4 β1 (d1.trans hle) hI
    obtain ⟨rc,rfl,r1,r2⟩:=d3 σ4 β1 hle hI
    have hB:=hI.blk (((b1.trans c1).trans d1).trans hle _ _ a3) (Nat.le_of_ble_eq_true hlt)
    have hhm:hm β1 B=some (b,s):=by
     have:=hk.home
     unfold hm at this ⊢
     rw [hB]; exact this
    have:=SlOk.vr (β:=β1) (B:=B) (o:=ro) (n:=rn) (c:=rc) (b:=b) (s:=s) ⟨hhm,o1,n1,r1,by rw [o2]; exact hk.o0,by rw [n2]; exact hk.n0,by rw [n2,r2]; exact hk.nc,by rw [n2]; exact hk.nb,by rw [r2]; exact hk.cb⟩
    rw [o2,n2,r2] at this
    exact this
   ·cases h
  ·rename_i B o
   split at h
   ·rename_i B' o'
    split at h
    ·rename_i hc
     rw [Bool.and_eq_true] at hc
     have ho:=Nat.eq_of_beq_eq_true hc.1
     subst ho
     cases hu with
     | ptr _ _ b s hb =>
      obtain ⟨q,hq⟩:=hm_lt hb
      obtain ⟨a1,a2,a3⟩:=bind1_sound h hv ⟨q,q,hq,rfl⟩
      refine ⟨a1,a2,fun σ4 β1 hle hI=>?_⟩
      have hB:=hI.blk (hle _ _ a3) (Nat.le_of_ble_eq_true hc.2)
      refine .ptr B o b s ?_
      unfold hm at hb ⊢
      rw [hB]; exact hb
    ·cases h
   ·cases h
  ·rename_i t p
   split at h
   ·rename_i t' v'
    split at h
    ·rename_i ht
     have ht:=Nat.eq_of_beq_eq_true ht
     subst ht
     cases hu with
     | iface _ _ u' hu' =>
      obtain ⟨a1,a2,a3⟩:=ih h hv hu'
      exact ⟨a1,a2,fun σ4 β1 hle hI=>.iface _ _ _ (a3 σ4 β1 hle hI)⟩
    ·cases h
   ·cases h
  ·rename_i B o n c
   split at h
   ·rename_i B' o' n' c'
    split at h
    ·rename_i hc
     simp only [Bool.and_eq_true] at hc
     obtain ⟨c1,c2,c3,c4⟩:=hc
     have ho:=Nat.eq_of_beq_eq_true c1
     have hn:=Nat.eq_of_beq_eq_true c2
     have hcc:=Nat.eq_of_beq_eq_true c3
     subst ho hn hcc
     cases hu with
     | sl _ _ b s _ _ hb =>
      obtain ⟨q,hq⟩:=hm_lt hb
      obtain ⟨a1,a2,a3⟩:=bind1_sound h hv ⟨q,q,hq,rfl⟩
      refine ⟨a1,a2,fun σ4 β1 hle hI=>?_⟩
      have hB:=hI.blk (hle _ _ a3) (Nat.le_of_ble_eq_true c4)
      refine .sl B o b s n c ?_
      unfold hm at hb ⊢
      rw [hB]; exact hb
    ·cases h
   ·cases h
  ·split at h
   ·rename_i hc
    rw [Bool.and_eq_true] at hc
    cases h
    have:=deq_eq 6 _ _ hc.2
    subst this
    refine ⟨Sg.le.refl _,hv,fun _ _ _ _=>?_⟩
    rw [hu.eq_of_ground hc.1]
    exact VR.of_ground hc.1
   ·cases h
end
end Go.SM
