-- the statement of this claim: see YtoamgocecoiggaaDoorRw
import Derived.Test.YtoamgocecoiggaaDoorM11
set_option linter.unusedVariables false
set_option linter.unusedSimpArgs false
namespace Go.SM
noncomputable section
abbrev gdV (g v:Value):Value:=.func (.yield 5) #[g,v] #[]
def GR (β:Ren) (v u:Value):Prop:=∃ (g:TB) (x:Value),v=gdV g.enc x∧g.ok β.length=true∧(g.den β=true→VR β x u)∧(g.den β=false→u=undef)∧∀ e,asB x=some e→∃ t:TB,e=t.enc∧t.ok β.length=true
def SR (β:Ren) (v u:Value):Prop:=VR β v u∨(v=.map none∧u=undef)∨GR β v u
theorem GR.mono {β γ:Ren} {v u:Value} (h:GR β v u):GR (β++γ) v u:=by
 obtain ⟨g,x,h1,h2,h3,h4,h5⟩:=h
 refine ⟨g,x,h1,TB.ok_app _ _ (by simp) g h2,fun h=>(h3 (by rw [TB.den_app β γ g h2] at h; exact h)).mono,fun h=>h4 (by rw [TB.den_app β γ g h2] at h; exact h),fun e he=>?_⟩
 obtain ⟨t,t1,t2⟩:=h5 e he
 exact ⟨t,t1,TB.ok_app _ _ (by simp) t t2⟩
theorem SR.mono {β γ:Ren} {v u:Value} (h:SR β v u):SR (β++γ) v u:=by
 rcases h with h | h | h
 ·exact .inl h.mono
 ·exact .inr (.inl h)
 ·exact .inr (.inr h.mono)
def ung (A:List Value) (v:Value):Value :=
 match v with
 | .map none=>.tuple #[]
 | .func (.yield 5) ⟨[g,x]⟩ _=>(match dec A 60 g with
  | some true=>x
  | _=>.tuple #[])
 | v=>v
theorem SR.ung {β:Ren} {A:List Value} (hA:Facts β A) {v u:Value} (h:SR β v u):VR β (SM.ung A v) u:=by
 rcases h with h | ⟨rfl,rfl⟩ | ⟨g,x,rfl,h2,h3,h4,_⟩
 ·unfold SM.ung
  split
  ·exact .any _
  ·split
   ·generalize hz:(Value.func (.yield 5) ⟨[_,_]⟩ _)=z at h
    cases h <;> try cases hz
    rename_i h0 _ _ _ _
    cases h0
   ·exact .any _
  ·exact h
 ·exact .any _
 ·show VR β (match dec A 60 g.enc with
    | some true=>x
    | _=>.tuple #[]) u
  split
  ·rename_i hd
   exact h3 (dec_sound hA 60 g _ hd)
  ·exact .any _
def aslot (n:Nat) (F:Tr Value) (t:Nat):Value :=
 if t < n then
  match F.get DF t with
  | some v=>v
  | none=>.tuple #[]
 else .tuple #[]
structure Gl where
 g:Nat→Option Nat
 A:List Value
 pu:FuncId→Bool:=fun _=>false
 m:Nat:=0
def aev (G:Gl) (n:Nat) (F:Tr Value):Operand→Value
 | .tmp t=>ung G.A (aslot n F t)
 | .const v=>if ground v then v else .tuple #[]
 | .global g =>
  match G.g g with
  | some B=>.pointer (some ⟨B,0,none⟩)
  | none=>.tuple #[]
 | .func f=>.func (.func f) #[] #[]
def Gok (G:Gl) (β:Ren):Prop:=((∀ g B,G.g g=some B→hm β B=some (g,0))∧G.m≤β.length)∧Facts β G.A
theorem Gok.mono {G:Gl} {β γ:Ren} (h:Gok G β):Gok G (β++γ):=⟨⟨fun g B hg=>hm_append (h.1.1 g B hg),Nat.le_trans h.1.2 (by simp)⟩,h.2.mono⟩
def addF:Nat→Value→List Value→List Value
 | 0,e,A=>e::A
 | k + 1,e,A =>
  match e with
  | .func (.yield 36) ⟨[a,b]⟩ ⟨[]⟩=>addF k a (addF k b A)
  | .func (.yield 35) ⟨[.func (.yield 37) ⟨[a,b]⟩ ⟨[]⟩]⟩ ⟨[]⟩=>addF k (mkNot a) (addF k (mkNot b) A)
  | e=>e::A
theorem Facts.cons {β:Ren} {A:List Value} (h:Facts β A) (t:TB) (ht:t.ok β.length=true) (hd:t.den β=true):Facts β (t.enc::A):=fun a ha=>by
 rcases List.mem_cons.1 ha with rfl | ha
 ·exact ⟨t,rfl,ht,hd⟩
 ·exact h a ha
theorem addF_sound {β:Ren}:∀ (k:Nat) (t:TB) (A:List Value),Facts β A→t.ok β.length=true→t.den β=true→Facts β (addF k t.enc A)
 | 0,t,A,h,ht,hd=>h.cons t ht hd
 | k + 1,t,A,h,ht,hd=>by
  generalize he:t.enc=e
  unfold addF
  split
  ·obtain ⟨x,y,rfl,rfl,rfl⟩:=enc_and he
   simp only [TB.ok,Bool.and_eq_true] at ht
   simp only [TB.den,Bool.and_eq_true] at hd
   exact addF_sound k x _ (addF_sound k y _ h ht.2 hd.2) ht.1 hd.1
  ·obtain ⟨z,rfl,hz⟩:=enc_not he
   obtain ⟨x,y,rfl,rfl,rfl⟩:=enc_or hz.symm
   simp only [TB.ok,Bool.and_eq_true] at ht
   simp only [TB.den,Bool.not_eq_true',Bool.or_eq_false_iff] at hd
   obtain ⟨x',a1,a2,a3⟩:=mkNot_sound x
   obtain ⟨y',b1,b2,b3⟩:=mkNot_sound y
   rw [a1,b1]
   exact addF_sound k x' _ (addF_sound k y' _ h (b2 _ ht.2) (by rw [b3,hd.2]; rfl)) (a2 _ ht.1) (by rw [a3,hd.1]; rfl)
  ·rw [← he]; exact h.cons t ht hd
def modus (A:List Value):List Value→List Value
 | []=>[]
 | a::L =>
  match a with
  | .func (.yield 37) ⟨[x,m]⟩ ⟨[]⟩=>if dec A 20 x=some false then m::modus A L else modus A L
  | _=>modus A L
theorem modus_sound {β:Ren} {A:List Value} (h:Facts β A):∀ {L:List Value},(∀ a ∈ L,a ∈ A)→Facts β (modus A L)
 | [],_=>Facts.nil β
 | a::L,hL=>by
  have ih:=modus_sound h (L:=L) (fun x hx=>hL x (List.mem_cons_of_mem _ hx))
  obtain ⟨t,rfl,t1,t2⟩:=h a (hL a (List.mem_cons_self ..))
  generalize he:t.enc=e
  unfold modus
  split
  ·obtain ⟨x,y,rfl,rfl,rfl⟩:=enc_or he
   split
   ·rename_i hd
    have hx:=dec_sound h 20 x _ hd
    simp only [TB.ok,Bool.and_eq_true] at t1
    simp only [TB.den,hx,Bool.false_or] at t2
    exact ih.cons y t1.2 t2
   ·exact ih
  ·exact ih
def Gl.add (G:Gl) (e:Value):Gl:={ G with A:=modus (addF 9 e G.A) (addF 9 e G.A)++addF 9 e G.A }
theorem Gok.add {G:Gl} {β:Ren} (h:Gok G β) (t:TB) (ht:t.ok β.length=true) (hd:t.den β=true):Gok (G.add t.enc) β :=
 have hF:=addF_sound 9 t _ h.2 ht hd
 ⟨h.1,(modus_sound hF fun _ h=>h).append hF⟩
def SlotOk (β:Ren) (n:Nat) (F:Tr Value) (a:Act) (t:Nat):Prop:=∀ u,a.tmps[t]?=some u→SR β (aslot n F t) u
theorem aev_sound {β:Ren} {n:Nat} {F:Tr Value} {a:Act} {G:Gl} (hG:Gok G β) (hsz:a.tmps.size=n) (o:Operand) (h:∀ t,o=.tmp t→SlotOk β n F a t):VR β (aev G n F o) (a.eval o):=by
 cases o with
 | tmp t =>
  simp only [aev,Act.eval]
  rw [Array.getD_eq_getD_getElem?]
  cases hu:a.tmps[t]? with
  | some u=>exact (h t rfl u hu).ung hG.2
  | none =>
   have ht:¬ t < n:=by
    intro hlt
    rw [Array.getElem?_eq_getElem (by rw [hsz]; exact hlt)] at hu
    cases hu
   unfold aslot
   rw [if_neg ht]
   exact .any _
 | const v =>
  simp only [aev,Act.eval]
  split
  ·rename_i hg; exact VR.of_ground hg
  ·exact .any _
 | global g =>
  simp only [aev,Act.eval]
  cases hx:G.g g with
  | none=>exact .any _
  | some B=>exact .ptr B 0 g 0 (hG.1.1 g B hx)
 | func f=>exact VR.of_ground rfl
def mkAnd (a b:Value):Value :=
 match a,b with
 | .bool true,b=>b
 | .bool false,_=>.bool false
 | a,.bool true=>a
 | _,.bool false=>.bool false
 | a,b=>nd2 36 a b
theorem enc_bool {t:TB} {b:Bool} (h:t.enc=.bool b):t=.lit b:=by
 cases t <;> simp [TB.enc,nd1,nd2,nd3] at h
 rw [h]
theorem mkAnd_sound (s t:TB):∃ r:TB,mkAnd s.enc t.enc=r.enc∧(∀ n,s.ok n=true→t.ok n=true→r.ok n=true)∧∀ β,r.den β=(s.den β && t.den β):=by
 generalize hs:s.enc=a
 generalize ht:t.enc=b
 unfold mkAnd
 split
 ·obtain rfl:=enc_bool hs; exact ⟨t,ht.symm,fun _ _ h=>h,fun β=>by simp [TB.den]⟩
 ·obtain rfl:=enc_bool hs; exact ⟨.lit false,rfl,fun _ _ _=>rfl,fun β=>by simp [TB.den]⟩
 ·obtain rfl:=enc_bool ht; exact ⟨s,hs.symm,fun _ h _=>h,fun β=>by simp [TB.den]⟩
 ·obtain rfl:=enc_bool ht; exact ⟨.lit false,rfl,fun _ _ _=>rfl,fun β=>by simp [TB.den]⟩
 ·exact ⟨.and s t,by simp only [TB.enc,hs,ht],fun n h h'=>by simp [TB.ok,h,h'],fun _=>rfl⟩
inductive Wd where
 | yes
 | no
 | grd (c:Value)
def asG (v:Value):Option (Value × Value) :=
 match v with
 | .func (.yield 5) ⟨[g,x]⟩ _=>(match asB x with
  | some e=>some (g,e)
  | none=>none)
 | v=>(match asB v with
  | some e=>some (.bool true,e)
  | none=>none)
def wantT (want:Bool) (e:Value):Value:=if want then e else mkNot e
def awanted (A:List Value) (ops:Array Oper) (n:Nat) (F:Tr Value) (o:Oper):Option Wd :=
 match o.guard with
 | none=>some .yes
 | some (g,want) =>
  match (ops[g]?).bind (·.dst) with
  | none=>some .no
  | some t =>
   match aslot n F t with
   | .map none=>some .no
   | v =>
    match asG v with
    | none=>none
    | some (g,e) =>
     match dec A 60 (mkAnd g (wantT want e)) with
     | some true=>some .yes
     | some false=>some .no
     | none=>some (.grd (mkAnd g (wantT want e)))
theorem asG_sound {β:Ren} {v u g e:Value} (h:SR β v u) (hv:v≠.map none) (hg:asG v=some (g,e)) :
    ∃ (tg te:TB),g=tg.enc∧e=te.enc∧tg.ok β.length=true∧te.ok β.length=true∧(tg.den β=true→u=.bool (te.den β))∧(tg.den β=false→u=undef):=by
 rcases h with h | ⟨rfl,_⟩ | ⟨tg,x,rfl,h2,h3,h4,h5⟩
 ·unfold asG at hg
  split at hg
  ·exfalso
   generalize hz:(Value.func (.yield 5) ⟨[_,_]⟩ _)=z at h
   cases h <;> try cases hz
   rename_i h0 _ _ _ _
   cases h0
  ·split at hg
   ·rename_i e' he
    cases hg
    obtain ⟨t,rfl,h1,rfl⟩:=asB_sound h he
    exact ⟨.lit true,t,rfl,rfl,rfl,h1,fun _=>rfl,fun hf=>by simp [TB.den] at hf⟩
   ·cases hg
 ·exact (hv rfl).elim
 ·simp only [asG] at hg
  split at hg
  ·rename_i e' he
   cases hg
   by_cases ht:tg.den β=true
   ·obtain ⟨t,rfl,h1,rfl⟩:=asB_sound (h3 ht) he
    exact ⟨tg,t,rfl,rfl,h2,h1,fun _=>rfl,fun hf=>by rw [ht] at hf; cases hf⟩
   ·have ht':tg.den β=false:=by cases h:tg.den β <;> simp_all
    have hu:=h4 ht'
    obtain ⟨t,rfl,h1⟩:=h5 _ he
    exact ⟨tg,t,rfl,rfl,h2,h1,fun hf=>absurd hf ht,fun _=>hu⟩
  ·cases hg
theorem wanted_sound {β:Ren} {ops:Array Oper} {n:Nat} {F:Tr Value} {a:Act} {o:Oper} {A:List Value} (hA:Facts β A) (hsz:a.tmps.size=n) (h:∀ t,t ∈ o.looksAt ops→SlotOk β n F a t) {r:Wd} (hw:awanted A ops n F o=some r) :
    ∃ t:TB,t.ok β.length=true∧Region.wanted o (yielded ops a.tmps)=t.den β∧(r=.yes→t.den β=true)∧(r=.no→t.den β=false)∧∀ c,r=.grd c→c=t.enc:=by
 unfold awanted at hw
 unfold Region.wanted
 split at hw
 ·rename_i hg
  cases hw
  simp only [hg]
  exact ⟨.lit true,rfl,rfl,fun _=>rfl,(fun h=>by cases h),fun _ h=>by cases h⟩
 ·rename_i g want hg
  simp only [hg]
  split at hw
  ·rename_i hd
   cases hw
   refine ⟨.lit false,rfl,?_,(fun h=>by cases h),fun _=>rfl,fun _ h=>by cases h⟩
   simp only [yielded,hd,Option.bind_none]
   rfl
  ·rename_i t hd
   have hs:SlotOk β n F a t:=h t (by simp [Oper.looksAt,hg,hd])
   simp only [yielded,hd,Option.bind_some]
   cases hu:a.tmps[t]? with
   | none =>
    have ht:¬ t < n:=by
     intro hlt
     rw [Array.getElem?_eq_getElem (by rw [hsz]; exact hlt)] at hu
     cases hu
    unfold aslot at hw
    rw [if_neg ht] at hw
    simp [asG,asB] at hw
   | some u =>
    have hsr:=hs u hu
    split at hw
    ·rename_i hr
     cases hw
     rw [hr] at hsr
     refine ⟨.lit false,rfl,?_,(fun h=>by cases h),fun _=>rfl,fun _ h=>by cases h⟩
     rcases hsr with h1 | ⟨_,rfl⟩ | ⟨_,_,h1,_⟩
     ·cases h1
     ·cases want <;> rfl
     ·cases h1
    ·rename_i hne
     split at hw
     ·cases hw
     rename_i g' e hge
     obtain ⟨tg,te,rfl,rfl,k1,k2,k3,k4⟩:=asG_sound hsr hne hge
     obtain ⟨tw,w1,w2,w3⟩:∃ tw:TB,wantT want te.enc=tw.enc∧tw.ok β.length=true∧tw.den β=(te.den β == want):=by
      unfold wantT
      cases want with
      | true=>exact ⟨te,rfl,k2,by simp⟩
      | false =>
       obtain ⟨r,r1,r2,r3⟩:=mkNot_sound te
       exact ⟨r,by simpa using r1,r2 _ k2,by rw [r3]; simp⟩
     rw [w1] at hw
     obtain ⟨tc,c1,c2,c3⟩:=mkAnd_sound tg tw
     rw [c1] at hw
     refine ⟨tc,c2 _ k1 w2,?_,?_⟩
     ·rw [c3,w3]
      by_cases ht:tg.den β=true
      ·rw [k3 ht,ht]
       cases te.den β <;> cases want <;> rfl
      ·have ht':tg.den β=false:=by cases h:tg.den β <;> simp_all
       rw [k4 ht',ht']
       cases want <;> rfl
     ·split at hw
      ·rename_i hdec; cases hw
       exact ⟨fun _=>dec_sound hA 60 tc _ hdec,(fun h=>by cases h),fun _ h=>by cases h⟩
      ·rename_i hdec; cases hw
       exact ⟨(fun h=>by cases h),fun _=>dec_sound hA 60 tc _ hdec,fun _ h=>by cases h⟩
      ·cases hw
       exact ⟨(fun h=>by cases h),(fun h=>by cases h),fun c h=>by cases h; rfl⟩
abbrev ACall:=List Value→FuncId→List Value→AS→Option (Value × AS)
def CallOk (P:Program) (G:Gl) (call:ACall):Prop :=
 (∀ A f args H v H',G.pu f=true→call A f args H=some (v,H')→H'=H) ∧
 ∀ (w0:W0) (β:Ren) (H:AS) (w:World) (A:List Value) (f:FuncId) (args:List Value) (args':Array Value) (v:Value) (H':AS),
  HR w0 β H w→Gok { g:=G.g,A:=A,pu:=G.pu } β→VRs β args args'.toList→call A f args H=some (v,H')→Calls P f args' w fun e w'=>∃ (γ:Ren) (u:Value),e=.returned u∧HR w0 (β++γ) H' w'∧VR (β++γ) v u
def mkOr (a b:Value):Value :=
 match a,b with
 | .bool false,b=>b
 | .bool true,_=>.bool true
 | a,.bool false=>a
 | _,.bool true=>.bool true
 | a,b=>nd2 37 a b
theorem mkOr_sound (s t:TB):∃ r:TB,mkOr s.enc t.enc=r.enc∧(∀ n,s.ok n=true→t.ok n=true→r.ok n=true)∧∀ β,r.den β=(s.den β || t.den β):=by
 generalize hs:s.enc=a
 generalize ht:t.enc=b
 unfold mkOr
 split
 ·obtain rfl:=enc_bool hs; exact ⟨t,ht.symm,fun _ _ h=>h,fun β=>by simp [TB.den]⟩
 ·obtain rfl:=enc_bool hs; exact ⟨.lit true,rfl,fun _ _ _=>rfl,fun β=>by simp [TB.den]⟩
 ·obtain rfl:=enc_bool ht; exact ⟨s,hs.symm,fun _ h _=>h,fun β=>by simp [TB.den]⟩
 ·obtain rfl:=enc_bool ht; exact ⟨.lit true,rfl,fun _ _ _=>rfl,fun β=>by simp [TB.den]⟩
 ·exact ⟨.or s t,by simp only [TB.enc,hs,ht],fun n h h'=>by simp [TB.ok,h,h'],fun _=>rfl⟩
def mkIte (c a b:Value):Value :=
 match a,b with
 | .bool true,b=>mkOr c b
 | a,.bool false=>mkAnd c a
 | .bool false,b=>mkAnd (mkNot c) b
 | a,.bool true=>mkOr (mkNot c) a
 | a,b=>nd3 38 c a b
theorem mkIte_sound (c s t:TB):∃ r:TB,mkIte c.enc s.enc t.enc=r.enc∧(∀ n,c.ok n=true→s.ok n=true→t.ok n=true→r.ok n=true)∧∀ β,r.den β=if c.den β then s.den β else t.den β:=by
 obtain ⟨nc,n1,n2,n3⟩:=mkNot_sound c
 generalize hs:s.enc=a
 generalize ht:t.enc=b
 unfold mkIte
 split
 ·obtain rfl:=enc_bool hs
  obtain ⟨r,r1,r2,r3⟩:=mkOr_sound c t
  exact ⟨r,by rw [← ht]; exact r1,fun n h _ h'=>r2 n h h',fun β=>by rw [r3]; cases h:c.den β <;> simp [TB.den]⟩
 ·obtain rfl:=enc_bool ht
  obtain ⟨r,r1,r2,r3⟩:=mkAnd_sound c s
  exact ⟨r,by rw [← hs]; exact r1,fun n h h' _=>r2 n h h',fun β=>by rw [r3]; cases h:c.den β <;> simp [TB.den]⟩
 ·obtain rfl:=enc_bool hs
  rw [n1]
  obtain ⟨r,r1,r2,r3⟩:=mkAnd_sound nc t
  exact ⟨r,by rw [← ht]; exact r1,fun n h _ h'=>r2 n (n2 n h) h',fun β=>by rw [r3,n3]; cases h:c.den β <;> simp [TB.den]⟩
 ·obtain rfl:=enc_bool ht
  rw [n1]
  obtain ⟨r,r1,r2,r3⟩:=mkOr_sound nc s
  exact ⟨r,by rw [← hs]; exact r1,fun n h h' _=>r2 n (n2 n h) h',fun β=>by rw [r3,n3]; cases h:c.den β <;> simp [TB.den]⟩
 ·exact ⟨.ite c s t,by simp only [TB.enc,hs,ht],fun n h h' h2=>by simp [TB.ok,h,h',h2],fun _=>rfl⟩
def bV (e:Value):Value:=match e with
 | .bool b=>.bool b
 | e=>sB e
theorem bV_sound {β:Ren} (t:TB) (h:t.ok β.length=true):VR β (bV t.enc) (.bool (t.den β)):=by
 unfold bV
 split
 ·rename_i b hb
  obtain rfl:=enc_bool hb
  exact .bool b
 ·exact .symB t h
def pickV (G:Gl) (n:Nat) (F:Tr Value) (c a b:Operand):Option Value :=
 match aev G n F c with
 | .bool r=>some (aev G n F (if r then a else b))
 | v =>
  match asB v with
  | none=>none
  | some e =>
   match dec G.A 60 e with
   | some r=>some (aev G n F (if r then a else b))
   | none =>
    match asB (aev (G.add e) n F a),asB (aev (G.add (mkNot e)) n F b) with
    | some ea,some eb=>if wfB 60 G.m ea=true∧wfB 60 G.m eb=true then some (bV (mkIte e ea eb)) else none
    | _,_=>none
theorem pickV_sound {β:Ren} {n:Nat} {F:Tr Value} {a:Act} {G:Gl} (hG:Gok G β) (hsz:a.tmps.size=n) {c x y:Operand} (hs:∀ t,c=.tmp t∨x=.tmp t∨y=.tmp t→SlotOk β n F a t) {v:Value} (h:pickV G n F c x y=some v) :
    ∃ q:Bool,a.eval c=.bool q∧VR β v (if q then a.eval x else a.eval y):=by
 have hc:=aev_sound hG hsz c (fun t ht=>hs t (.inl ht))
 unfold pickV at h
 split at h
 ·rename_i r hr
  cases h
  rw [hr] at hc
  refine ⟨r,hc.eq_of_ground rfl,?_⟩
  cases r with
  | true=>exact aev_sound hG hsz x (fun t ht=>hs t (.inr (.inl ht)))
  | false=>exact aev_sound hG hsz y (fun t ht=>hs t (.inr (.inr ht)))
 ·split at h
  ·cases h
  rename_i e he
  obtain ⟨te,rfl,e1,e2⟩:=asB_sound hc he
  split at h
  ·rename_i r hr
   cases h
   have hd:=dec_sound hG.2 60 te r hr
   refine ⟨r,by rw [e2,hd],?_⟩
   cases r with
   | true=>exact aev_sound hG hsz x (fun t ht=>hs t (.inr (.inl ht)))
   | false=>exact aev_sound hG hsz y (fun t ht=>hs t (.inr (.inr ht)))
  split at h
  rotate_left
  ·cases h
  rename_i ea eb ha hb
  split at h
  rotate_left
  ·cases h
  rename_i hwf
  cases h
  obtain ⟨ta,rfl,a0⟩:=(wf_sound 60 G.m ea).2.2 hwf.1
  obtain ⟨tb,rfl,b0⟩:=(wf_sound 60 G.m eb).2.2 hwf.2
  have a1:=TB.ok_app _ _ hG.1.2 ta a0
  have b1:=TB.ok_app _ _ hG.1.2 tb b0
  obtain ⟨r,r1,r2,r3⟩:=mkIte_sound te ta tb
  refine ⟨te.den β,e2,?_⟩
  rw [r1]
  have key:(if te.den β then a.eval x else a.eval y)=.bool (r.den β):=by
   rw [r3]
   by_cases ht:te.den β=true
   ·rw [if_pos ht,if_pos ht]
    obtain ⟨ta',q1,_,q2⟩:=asB_sound (aev_sound (hG.add te e1 ht) hsz x (fun t ht=>hs t (.inr (.inl ht)))) ha
    rw [q2,TB.inj _ _ q1]
   ·rw [if_neg ht,if_neg ht]
    obtain ⟨tn,m1,m2,m3⟩:=mkNot_sound te
    have ht':te.den β=false:=by cases h:te.den β <;> simp_all
    rw [m1] at hb
    obtain ⟨tb',q1,_,q2⟩:=asB_sound (aev_sound (hG.add tn (m2 _ e1) (by rw [m3,ht']; rfl)) hsz y (fun t ht=>hs t (.inr (.inr ht)))) hb
    rw [q2,TB.inj _ _ q1]
  rw [key]
  exact bV_sound r (r2 _ e1 a1 b1)
def isMk (o:Oper):Bool:=match o.op with
 | .makeSlice ..=>true
 | _=>false
def forget (ops:Array Oper) (o:Oper):Bool:=isMk o && Nat.ble 3 (ops.toList.filter isMk).length
def emptyH:AS:={ heap:=Tr.e,size:=0 }
theorem emptyH_HR (w:World):HR (W0.of w) [] emptyH w:=by
 refine ⟨rfl,by show 0≤2 ^ 20; decide,?_,?_,Kept.refl _⟩
 ·intro B b hg; have:=AS.get_lt hg; exact absurd this (by show ¬ B < 0; omega)
 ·intro B B' b b' hg; have:=AS.get_lt hg; exact absurd this (by show ¬ B < 0; omega)
theorem HR.later {w0:W0} {β:Ren} {H:AS} {w w':World} (h:HR w0 β H w) (hb:RowKit.Below w.heap.size w w'):HR w0 β H w':=by
 refine ⟨h.len,h.big,?_,h.inj,h.below.trans hb⟩
 intro B b hg hl
 obtain ⟨c,s,C,fr,h1,⟨el,h2,hel⟩,h3⟩:=h.blk B b hg hl
 have hc:c < w.heap.size:=by
  rcases Nat.lt_or_ge c w.heap.size with hlt | hge
  ·exact hlt
  ·rw [Array.getElem?_eq_none hge] at h2; cases h2
 exact ⟨c,s,C,fr,h1,⟨_,by rw [hb.block c hc]; exact h2,hel⟩,h3⟩
def rdOp (o:Oper):Bool :=
 match o.op with
 | .move _ | .build .. | .nilCheck _ | .binOp .. | .unOp .. | .makeInterface .. | .slice .. | .fieldAddr .. | .field .. | .indexAddr .. | .index .. | .extract .. | .load ..=>true
 | .call c=>match c.callee with
  | .builtin .len=>true
  | .builtin .cap=>true
  | _=>false
 | _=>false
def aval (P:Program) (G:Gl) (call:ACall) (ops:Array Oper) (n:Nat) (o:Oper) (F:Tr Value) (H:AS):Option (Value × AS) :=
 match o.op with
 | .pick c a b =>
  match pickV G n F c a b with
  | some v=>some (v,H)
  | none=>none
 | _ =>
  match forget ops o with
  | true =>
   if (o.op.operands.toList.all fun x=>ground (aev G n F x)) then
    match aop P [] (aev G n F) emptyH o with
    | some (.val v _)=>if aone v then some (.chan none,H) else none
    | _=>none
   else none
  | false =>
   match aop P G.A (aev G n F) H o with
   | some (.val v H')=>some (v,H')
   | some (.call f args)=>call G.A f args H
   | none=>none
def agrd0 (P:Program) (G:Gl) (call:ACall) (n:Nat) (o:Oper) (F:Tr Value) (H:AS):Option Value :=
 match o.op with
 | .pick x a b=>pickV G n F x a b
 | _ =>
  match aop P G.A (aev G n F) H o with
  | some (.val v _)=>if rdOp o then some v else none
  | some (.call f args)=>if G.pu f then (match call G.A f args H with
   | some (v,_)=>some v
   | none=>none) else none
  | none=>none
def agrd (P:Program) (G:Gl) (call:ACall) (n:Nat) (o:Oper) (F:Tr Value) (H:AS) (c:Value):Option Value :=
 match agrd0 P (G.add c) call n o F H with
 | none=>none
 | some v =>
  match asB v with
  | some e=>if wfB 60 G.m e then some (gdV c v) else none
  | none=>some (gdV c v)
def astep (P:Program) (G:Gl) (call:ACall) (ops:Array Oper) (n:Nat) (o:Oper) (F:Tr Value) (H:AS):Option (Value × AS) :=
 match awanted G.A ops n F o with
 | none=>none
 | some .no=>some (.map none,H)
 | some .yes=>aval P G call ops n o F H
 | some (.grd c) =>
  match agrd P G call n o F H c with
  | some v=>some (v,H)
  | none=>none
theorem aop_congr {P:Program} {A:List Value} {ρ ρ':Operand→Value} {H:AS} (o:Oper) (h:∀ x ∈ o.op.operands,ρ x=ρ' x):aop P A ρ H o=aop P A ρ' H o:=by
 obtain ⟨dst,op,type,pos,after,guard⟩:=o
 have pairs:∀ ps:Array (Nat × Operand),(∀ x ∈ ps.toList.map (·.2),ρ x=ρ' x)→(ps.toList.map fun p=>(p.1,ρ p.2))=(ps.toList.map fun p=>(p.1,ρ' p.2)):=fun ps hp =>
  List.map_congr_left fun p hm=>by rw [hp p.2 (List.mem_map.2 ⟨p,hm,rfl⟩)]
 cases op <;> simp only [Op.operands] at h <;> simp only [aop]
 case build t ps=>rw [pairs ps fun x hx=>h x (by simpa using hx)]
 case buildSlice t n ps=>rw [pairs ps fun x hx=>h x (by simpa using hx)]
 case makeFunc fn first captured =>
  rw [List.map_congr_left (l:=first.toList) fun x hx=>h x (by simp at hx; simp [hx]),List.map_congr_left (l:=captured.toList) fun x hx=>h x (by simp at hx; simp [hx])]
 case call c =>
  have hargs:c.args.toList.map ρ=c.args.toList.map ρ':=List.map_congr_left fun x hx=>h x (by simp at hx; simp [Call.operands,hx])
  rw [hargs]
  cases hc:c.callee with
  | value f=>have hf:ρ f=ρ' f:=h f (by simp [Call.operands,hc]); simp only [hf]
  | invoke r m=>rfl
  | builtin b=>rfl
 case slice t x lo hi mx =>
  have e0:ρ x=ρ' x:=h x (by simp)
  have e1:lo.map ρ=lo.map ρ':=by cases lo <;> simp_all
  have e2:hi.map ρ=hi.map ρ':=by cases hi <;> simp_all
  have e3:mx.map ρ=mx.map ρ':=by cases mx <;> simp_all
  rw [e0,e1,e2,e3]
 all_goals (first | rfl | (simp_all; done))
theorem aop_sound_at {P:Program} {w0:W0} {β:Ren} {H:AS} {w:World} (hN:NoNum P) (h:HR w0 β H w) {ρ ρ':Operand→Value} {o:Oper} (hρ:∀ x ∈ o.op.operands,VR β (ρ x) (ρ' x)) {r:ARes} {A:List Value} (hA:Facts β A) (hr:aop P A ρ H o=some r) :
    OpOk P w0 β w (execOp ρ' o) r:=by
 classical
 have e:aop P A ρ H o=aop P A (fun x=>if x ∈ o.op.operands then ρ x else .tuple #[]) H o:=aop_congr o fun x hx=>by rw [if_pos hx]
 rw [e] at hr
 refine aop_sound hN h (fun x=>?_) hA hr
 by_cases hx:x ∈ o.op.operands
 ·rw [if_pos hx]; exact hρ x hx
 ·rw [if_neg hx]; exact .any _
theorem rdOp_val {P:Program} {A:List Value} {ρ:Operand→Value} {H H':AS} {o:Oper} {v:Value} (hr:rdOp o=true) (h:aop P A ρ H o=some (.val v H')):H'=H:=by
 obtain ⟨dst,op,type,pos,after,guard⟩:=o
 have q:∀ {x:Option Value},qv H x=some (.val v H')→H'=H:=by
  intro x hx
  unfold qv at hx
  simp only [Option.map_eq_some_iff] at hx
  obtain ⟨_,_,e⟩:=hx
  cases e; rfl
 cases op <;> simp only [rdOp] at hr <;> try (cases hr; done)
 all_goals simp only [aop] at h
 case move=>cases h; rfl
 case slice t x lo hi mx =>
  split at h
  ·split at h
   ·exact q h
   ·cases h
  ·exact q h
 case index t x ix =>
  split at h
  ·split at h <;> exact q h
  ·exact q h
 case call c =>
  split at h
  ·rename_i b hb
   rw [hb] at hr
   cases b <;> simp only at hr <;> try (cases hr; done)
   all_goals
    unfold abuiltin at h
    split at h <;> first | exact q h | (rename_i he _; cases he; done) | (cases h; done) | skip
   all_goals simp_all
  ·rename_i hb; rw [hb] at hr; cases hr
  ·cases h
 all_goals exact q h
theorem aval_wp {P:Program} {w0:W0} {β:Ren} {H H':AS} {w:World} {a:Act} {n:Nat} {ops:Array Oper} {o:Oper} {F:Tr Value} {G:Gl} {call:ACall} {v:Value} {Q:Exit→Act→World→Prop}
    (hN:NoNum P) (hC:CallOk P G call) (h:HR w0 β H w) (hG:Gok G β) (hsz:a.tmps.size=n) (hs:∀ t,t ∈ o.looksAt ops→SlotOk β n F a t)
    (hst:aval P G call ops n o F H=some (v,H')) (K:Act→World→Prop) (hK:∀ (γ:Ren) (u:Value) (w':World),HR w0 (β++γ) H' w'→VR (β++γ) v u∨u=undef∧v=undef→K (a.put o.dst u) w'):o.wp P a w K Q:=by
 have hρ:∀ x ∈ o.op.operands,VR β (aev G n F x) (a.eval x):=fun x hx=>aev_sound hG hsz x fun t ht=>hs t (by
  subst ht
  exact List.mem_append_left _ (List.mem_filterMap.2 ⟨.tmp t,by simpa using hx,rfl⟩))
 unfold aval at hst
 unfold Oper.wp
 split at hst
 ·rename_i c x y hop
  split at hst
  rotate_left
  ·cases hst
  rename_i v' hp
  cases hst
  obtain ⟨q,hq,hv⟩:=pickV_sound hG hsz (c:=c) (x:=x) (y:=y) (fun t ht=>hs t (by
   refine List.mem_append_left _ (List.mem_filterMap.2 ?_)
   rw [hop]
   rcases ht with rfl | rfl | rfl
   ·exact ⟨.tmp t,by simp [Op.operands],rfl⟩
   ·exact ⟨.tmp t,by simp [Op.operands],rfl⟩
   ·exact ⟨.tmp t,by simp [Op.operands],rfl⟩)) hp
  have hrun:(execOp a.eval o).run P w=.ok (.value (if q then a.eval x else a.eval y)) w:=by
   obtain ⟨dst,op,type,pos,after,guard⟩:=o
   simp only at hop
   subst hop
   unfold execOp
   dsimp only
   rw [hq]
   simp only [asBool]
   cases q <;> rfl
  rw [hrun]
  exact hK [] _ w (by rw [List.append_nil]; exact h) (.inl (by rw [List.append_nil]; exact hv))
 split at hst
 ·split at hst
  rotate_left
  ·cases hst
  rename_i hg
  split at hst
  rotate_left
  ·cases hst
  rename_i v' H2 hop
  split at hst
  rotate_left
  ·cases hst
  rename_i hone
  cases hst
  have hρ0:∀ x ∈ o.op.operands,VR [] (aev G n F x) (a.eval x):=fun x hx=>by
   have h1:ground (aev G n F x)=true:=by
    rw [List.all_eq_true] at hg
    exact hg x (by simpa using hx)
   rw [(hρ x hx).eq_of_ground h1]
   exact VR.of_ground h1
  obtain ⟨γ,nx,w',hrun,hr,hval⟩:=aop_sound_at hN (emptyH_HR w) hρ0 (Facts.nil []) hop
  rw [hrun]
  have hr2:=h.later hr.below.below
  rcases hval with ⟨u,rfl,hu⟩ | ⟨rfl,rfl⟩
  ·exact hK [] u w' (by rw [List.append_nil]; exact hr2) (.inl (.any1 _ (hu.one_conc hone)))
  ·cases hone
 split at hst
 ·rename_i v' H2 hop
  cases hst
  obtain ⟨γ,nx,w',hrun,hr,hval⟩:=aop_sound_at hN h hρ hG.2 hop
  rw [hrun]
  rcases hval with ⟨u,rfl,hu⟩ | ⟨rfl,rfl⟩
  ·exact hK γ u w' hr (.inl hu)
  ·exact hK γ undef w' hr (.inr ⟨rfl,rfl⟩)
 ·rename_i f args hop
  obtain ⟨us,hrun,hus⟩:=aop_sound_at hN h hρ hG.2 hop
  rw [hrun]
  refine (hC.2 w0 β H w G.A f args us v H' h ⟨⟨hG.1.1,Nat.zero_le _⟩,hG.2⟩ hus hst).mono ?_
  rintro e w' ⟨γ,u,rfl,hr,hu⟩
  exact hK γ u w' hr (.inl hu)
 ·cases hst
theorem step_wp {P:Program} {w0:W0} {β:Ren} {H H':AS} {w:World} {a:Act} {n i:Nat} {ops:Array Oper} {o:Oper} {F:Tr Value} {G:Gl} {call:ACall} {v:Value} {Q:Exit→Act→World→Prop}
    (hN:NoNum P) (hC:CallOk P G call) (h:HR w0 β H w) (hG:Gok G β) (hsz:a.tmps.size=n) (hi:ops[i]?=some o) (hs:∀ t,t ∈ o.looksAt ops→SlotOk β n F a t)
    (hst:astep P G call ops n o F H=some (v,H')) (K:Act→World→Prop) (hK:∀ (γ:Ren) (u:Value) (w':World),HR w0 (β++γ) H' w'→SR (β++γ) v u→K (a.put o.dst u) w'):wpOp P ops Q i K a w:=by
 unfold wpOp
 simp only [hi]
 unfold astep at hst
 split at hst
 ·cases hst
 ·rename_i hw
  obtain ⟨t,t1,t2,t3,t4,t5⟩:=wanted_sound hG.2 hsz hs hw
  rw [t2,t4 rfl]
  cases hst
  rw [if_neg (by decide)]
  exact hK [] undef w (by rw [List.append_nil]; exact h) (.inr (.inl ⟨rfl,rfl⟩))
 ·rename_i hw
  obtain ⟨t,t1,t2,t3,t4,t5⟩:=wanted_sound hG.2 hsz hs hw
  rw [t2,t3 rfl,if_pos rfl]
  refine .inl (aval_wp hN hC h hG hsz hs hst K fun γ u w' h1 h2=>hK γ u w' h1 ?_)
  rcases h2 with h2 | ⟨rfl,rfl⟩
  ·exact .inl h2
  ·exact .inl (.any _)
 ·rename_i c hw
  obtain ⟨t,t1,t2,t3,t4,t5⟩:=wanted_sound hG.2 hsz hs hw
  rw [t2]
  obtain rfl:=t5 c rfl
  split at hst
  rotate_left
  ·cases hst
  rename_i v' hv
  cases hst
  have hρ:∀ (G':Gl),Gok G' β→∀ x ∈ o.op.operands,VR β (aev G' n F x) (a.eval x):=fun G' hG' x hx=>aev_sound hG' hsz x fun t ht=>hs t (by
   subst ht
   exact List.mem_append_left _ (List.mem_filterMap.2 ⟨.tmp t,by simpa using hx,rfl⟩))
  unfold agrd at hv
  split at hv
  ·cases hv
  rename_i v0 hv0
  have slot:∀ (γ:Ren) (u:Value),(t.den β=true→VR (β++γ) v0 u)→(t.den β=false→u=undef)→SR (β++γ) v u:=by
   intro γ u h1 h2
   have go:v=gdV t.enc v0→(∀ e,asB v0=some e→∃ q:TB,e=q.enc∧q.ok (β++γ).length=true)→SR (β++γ) v u:=by
    rintro rfl hwf
    exact .inr (.inr ⟨t,v0,rfl,TB.ok_app _ _ (by simp) t t1,fun ht=>h1 (by rw [TB.den_app β γ t t1] at ht; exact ht),fun ht=>h2 (by rw [TB.den_app β γ t t1] at ht; exact ht),hwf⟩)
   split at hv
   ·rename_i e he
    split at hv
    ·rename_i hwf
     cases hv
     refine go rfl fun e' he'=>?_
     rw [he] at he'; cases he'
     obtain ⟨q,q1,q2⟩:=(wf_sound 60 G.m e).2.2 hwf
     exact ⟨q,q1,TB.ok_app _ _ (Nat.le_trans hG.1.2 (by simp)) q q2⟩
    ·cases hv
   ·rename_i he
    cases hv
    exact go rfl fun e' he'=>by rw [he] at he'; cases he'
  by_cases ht:t.den β=true
  ·rw [ht,if_pos rfl]
   have hG':=hG.add t t1 ht
   refine .inl ?_
   unfold Oper.wp
   unfold agrd0 at hv0
   split at hv0
   ·rename_i c x y hop
    obtain ⟨q,hq,hvv⟩:=pickV_sound hG' hsz (c:=c) (x:=x) (y:=y) (fun t ht=>hs t (by
     refine List.mem_append_left _ (List.mem_filterMap.2 ?_)
     rw [hop]
     rcases ht with rfl | rfl | rfl
     ·exact ⟨.tmp t,by simp [Op.operands],rfl⟩
     ·exact ⟨.tmp t,by simp [Op.operands],rfl⟩
     ·exact ⟨.tmp t,by simp [Op.operands],rfl⟩)) hv0
    have hrun:(execOp a.eval o).run P w=.ok (.value (if q then a.eval x else a.eval y)) w:=by
     obtain ⟨dst,op,type,pos,after,guard⟩:=o
     simp only at hop
     subst hop
     unfold execOp
     dsimp only
     rw [hq]
     simp only [asBool]
     cases q <;> rfl
    rw [hrun]
    exact hK [] _ w (by rw [List.append_nil]; exact h) (slot [] _ (fun _=>by rw [List.append_nil]; exact hvv) (fun hf=>by rw [ht] at hf; cases hf))
   ·split at hv0
    ·rename_i v1 H1 hop
     split at hv0
     rotate_left
     ·cases hv0
     rename_i hrd
     cases hv0
     obtain rfl:=rdOp_val hrd hop
     obtain ⟨γ,nx,w',hrun,hr,hval⟩:=aop_sound_at hN h (hρ _ hG') hG'.2 hop
     rw [hrun]
     rcases hval with ⟨u,rfl,hu⟩ | ⟨rfl,rfl⟩
     ·exact hK γ u w' hr (slot γ u (fun _=>hu) (fun hf=>by rw [ht] at hf; cases hf))
     ·exact hK γ undef w' hr (slot γ undef (fun _=>.any _) (fun _=>rfl))
    ·rename_i f args hop
     split at hv0
     rotate_left
     ·cases hv0
     rename_i hpu
     split at hv0
     rotate_left
     ·cases hv0
     rename_i v1 H1 hcall
     cases hv0
     obtain rfl:=hC.1 _ _ _ _ _ _ hpu hcall
     obtain ⟨us,hrun,hus⟩:=aop_sound_at hN h (hρ _ hG') hG'.2 hop
     rw [hrun]
     refine (hC.2 w0 β _ w _ f args us _ _ h ⟨⟨hG'.1.1,Nat.zero_le _⟩,hG'.2⟩ hus hcall).mono ?_
     rintro e w' ⟨γ,u,rfl,hr,hu⟩
     exact hK γ u w' hr (slot γ u (fun _=>hu) (fun hf=>by rw [ht] at hf; cases hf))
    ·cases hv0
  ·have ht':t.den β=false:=by cases h:t.den β <;> simp_all
   rw [ht',if_neg (by decide)]
   exact hK [] undef w (by rw [List.append_nil]; exact h) (slot [] undef (fun hf=>by rw [ht'] at hf; cases hf) (fun _=>rfl))
structure FS (β:Ren) (n:Nat) (F:Tr Value) (a:Act):Prop where
 size:a.tmps.size=n
 small:n≤2 ^ 12
 slot:∀ t,SlotOk β n F a t
 nodef:a.defers=[]
theorem FS.mono {β γ:Ren} {n:Nat} {F:Tr Value} {a:Act} (h:FS β n F a):FS (β++γ) n F a:=⟨h.size,h.small,fun t u hu=>(h.slot t u hu).mono,h.nodef⟩
theorem put_size (a:Act) (dst:Option Tmp) (u:Value):(a.put dst u).tmps.size=a.tmps.size:=by cases dst <;> simp [Act.put]
theorem put_def (a:Act) (dst:Option Tmp) (u:Value):(a.put dst u).defers=a.defers:=by cases dst <;> rfl
theorem FS.put {β:Ren} {n:Nat} {F F':Tr Value} {a:Act} (h:FS β n F a) {dst:Option Tmp} {v u:Value} (hp:aput n F dst v=some F') (hv:SR β v u):FS β n F' (a.put dst u):=by
 cases dst with
 | none=>simp only [aput,Option.some.injEq] at hp; subst hp; exact h
 | some d =>
  simp only [aput] at hp
  split at hp
  ·rename_i hd
   have hd':@LT.lt Nat _ d n:=hd
   have hsm:=h.small
   simp only [Option.some.injEq] at hp
   subst hp
   refine ⟨by rw [put_size,h.size],h.small,?_,by rw [put_def,h.nodef]⟩
   intro t x hx
   by_cases hdt:d=t
   ·subst hdt
    simp only [Act.put] at hx
    rw [Array.getElem?_setIfInBounds_self_of_lt (by rw [h.size]; exact hd)] at hx
    cases hx
    unfold aslot
    rw [if_pos hd',Tr.get_set]
    exact hv
   ·simp only [Act.put] at hx
    rw [Array.getElem?_setIfInBounds_ne hdt] at hx
    have:=h.slot t x hx
    unfold aslot at this ⊢
    split
    ·rename_i ht
     rw [if_pos ht] at this
     rw [Tr.get_set_ne v d t DF F (bits_ne 12 d t (by omega) (by omega) hdt)]
     exact this
    ·rename_i ht
     rw [if_neg ht] at this
     exact this
  ·cases hp
def arun (P:Program) (G:Gl) (call:ACall) (ops:Array Oper) (n:Nat):List Oper→Tr Value→AS→Option (Tr Value × AS)
 | [],F,H=>some (F,H)
 | o::rest,F,H =>
  match astep P G call ops n o F H with
  | none=>none
  | some (v,H') =>
   match aput n F o.dst v with
   | none=>none
   | some F'=>arun P G call ops n rest F' H'
theorem arun_sound {P:Program} {w0:W0} {G:Gl} {call:ACall} {ops:Array Oper} {n:Nat} {Q:Exit→Act→World→Prop} (hN:NoNum P) (hC:CallOk P G call) (R:Tr Value) (HE:AS) :
    ∀ (l:List Oper) (k:Nat) (β:Ren) (F:Tr Value) (H:AS) (a:Act) (w:World),ops.toList.drop k=l→HR w0 β H w→Gok G β→FS β n F a→arun P G call ops n l F H=some (R,HE) →
     (∀ (γ:Ren) (a':Act) (w':World),HR w0 (β++γ) HE w'→FS (β++γ) n R a'→Q .normal a' w')→wpOps P ops Q (List.range' k l.length) a w
 | [],k,β,F,H,a,w,hl,h,hG,hF,hr,hQ=>by
  simp only [arun,Option.some.injEq,Prod.mk.injEq] at hr
  obtain ⟨rfl,rfl⟩:=hr
  exact hQ [] a w (by rw [List.append_nil]; exact h) (by rw [List.append_nil]; exact hF)
 | o::rest,k,β,F,H,a,w,hl,h,hG,hF,hr,hQ=>by
  have hk:ops[k]?=some o:=by
   rw [← Array.getElem?_toList]
   have:=congrArg (fun l=>l[0]?) hl
   simpa using this
  simp only [arun] at hr
  split at hr
  ·cases hr
  ·rename_i v H' hst
   split at hr
   ·cases hr
   ·rename_i F' hp
    rw [List.length_cons,List.range'_succ,wpOps_cons]
    refine step_wp hN hC h hG hF.size hk (fun t _=>hF.slot t) hst _ ?_
    intro γ u w' hr' hu
    refine arun_sound hN hC R HE rest (k + 1) (β++γ) F' H' _ w' ?_ hr' hG.mono (hF.mono.put hp hu) hr ?_
    ·rw [← List.tail_drop,hl]; rfl
    ·intro γ' a' w'' h1 h2
     exact hQ (γ++γ') a' w'' (by rw [← List.append_assoc]; exact h1) (by rw [← List.append_assoc]; exact h2)
end
end Go.SM
