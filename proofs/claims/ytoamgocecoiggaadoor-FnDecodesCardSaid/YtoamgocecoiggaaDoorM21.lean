-- the statement of this claim: see YtoamgocecoiggaaDoorRw
import Derived.Test.YtoamgocecoiggaaDoorProg
import Derived.Test.YtoamgocecoiggaaDoorM20
set_option linter.unusedVariables false
set_option linter.unusedSimpArgs false
namespace Go.SM
noncomputable section
def missLe (A:List Value) (a b:Value):List Value:=if leOk A a b then [] else [nd1 35 (nd2 31 b a)]
def missLt (A:List Value) (a b:Value):List Value:=if ltOk A a b then [] else [nd2 31 a b]
def missFit (A:List Value) (k:IntKind) (e:Value) (lo hi:Int):List Value :=
 (if kmin k≤lo∨dec A 4 (nd2 31 e (.int .i64 (kmin k)))=some false then [] else [nd1 35 (nd2 31 e (.int .i64 (kmin k)))]) ++
 (if hi≤kmax k∨dec A 4 (nd2 31 (.int .i64 (kmax k)) e)=some false then [] else [nd1 35 (nd2 31 (.int .i64 (kmax k)) e)])
def missSeq (A:List Value) (H:AS) (B:Nat) (f:Value→List Value):List Value :=
 match H.get B with
 | some b=>match b.seq with
  | some (.func (.yield 28) ⟨[e]⟩ ⟨[]⟩)=>f (mkLenN 20 e)
  | some e=>f (mkLen 20 e)
  | none=>[]
 | none=>[]
def missSrc (A:List Value) (H:AS) (x:Value):List Value :=
 match asL x with
 | some (B,o,n,_)=>missSeq A H B fun l=>missLe A (mkAdd o n) l
 | none=>[]
def missOp (P:Program) (A:List Value) (ρ:Operand→Value) (H:AS) (o:Oper):List Value :=
 match o.op with
 | .load _ a=>match asP (ρ a) with
  | some (B,o)=>missSeq A H B fun l=>missLt A o l
  | none=>[]
 | .store _ a _=>match asP (ρ a) with
  | some (B,o)=>missSeq A H B fun l=>missLt A o l
  | none=>[]
 | .binOp op _ x y _=>match asI (ρ x),asI (ρ y) with
  | some (k,e1,l1,h1),some (_,e2,l2,h2)=>match op with
   | .add=>missFit A k (mkAdd e1 e2) (l1 + l2) (h1 + h2)
   | .sub=>missFit A k (mkSub e1 e2) (l1 - h2) (h1 - l2)
   | .mul=>missFit A k (nd2 102 e1 e2) (l1 * l2) (h1 * h2)
   | .shl=>(match e2 with
    | .int _ n=>missFit A k (nd2 107 e1 e2) (l1 * 2 ^ n.toNat) (h1 * 2 ^ n.toNat)
    | _=>[])
   | _=>[]
  | _,_=>[]
 | .slice _ x lo hi mx=>match asL (ρ x) with
  | some (_,_,n,c)=>match bnd (mx.map ρ) c,bnd (hi.map ρ) n,bnd (lo.map ρ) (.int .i64 0) with
   | some m,some h,some l=>missLe A (.int .i64 0) l++(missLe A l h++(missLe A h m++(missLe A m c++missLe A h (.int .i64 1125899906842624))))
   | _,_,_=>[]
  | none=>[]
 | .indexAddr _ x ix=>match asL (ρ x),asI (ρ ix) with
  | some (_,_,n,_),some (_,e,lo,_)=>(if 0≤lo then [] else missLe A (.int .i64 0) e)++missLt A e n
  | _,_=>[]
 | .index _ x ix=>match asS (ρ x),asI (ρ ix) with
  | some (l,_),some (_,e,lo,_)=>(if 0≤lo then [] else missLe A (.int .i64 0) e)++missLt A e (mkLen 20 l)
  | _,_=>[]
 | .convert _ _ x=>missSrc A H (ρ x)
 | .call c=>match c.callee,c.args.toList.map ρ with
  | .builtin .append,[s,x]=>(match asrcN A H x with
   | some src=>(match asL s with
    | some (B,o,n,c)=>(missSeq A H B fun l=>missLe A (mkAdd o c) l)++(match H.get B with
     | some b=>(match b.seq with
      | some (.func (.yield 28) ⟨[q]⟩ ⟨[]⟩)=>missLe A (mkLenN 20 (mkAppN (mkSubN A q o (mkAdd o n)) src)) (.int .i64 4398046511104)
      | _=>[])
     | none=>[])
    | none=>[])
   | none=>match asrcS A H x with
    | some src=>(match asL' s with
     | some (B,o,n,c)=>(missSeq A H B fun l=>missLe A (mkAdd o c) l)++(match H.get B with
      | some b=>(match bytesQ b with
       | some q=>missLe A (mkLen 20 (mkApp (mkSubL A q o (mkAdd o n)) src)) (.int .i64 70368744177664)
       | none=>[])
      | none=>[])
     | none=>missLt A (.int .i64 0) (mkLen 20 src)++missLe A (mkLen 20 src) (.int .i64 70368744177664))
    | none=>missSrc A H x)
  | .builtin .copy,[d,x]=>match asL d,asrcS A H x with
   | some (B,o,n,c),some src=>missSeq A H B fun l=>missLe A (mkAdd o (if leOk A (srcN x src) n then srcN x src else n)) l
   | _,_=>missSrc A H x
  | _,_=>[]
 | _=>[]
def forkOp (A:List Value) (ρ:Operand→Value) (H:AS) (o:Oper):Option (Bool × Value) :=
 match o.op with
 | .call c=>match c.callee,c.args.toList.map ρ with
  | .builtin .copy,[d,x]=>match asL d,asrcS A H x with
   | some (_,_,n,_),some src=>if leOk A (srcN x src) n || leOk A n (srcN x src) then none else some (false,nd2 31 n (srcN x src))
   | _,_=>none
  | _,_=>none
 | _=>none
def atom1 (A:List Value):Nat→Value→Value
 | 0,e=>e
 | k + 1,e=>match e with
  | .func (.yield 36) ⟨[a,b]⟩ ⟨[]⟩=>(match dec A 60 a with
   | some _=>atom1 A k b
   | none=>atom1 A k a)
  | .func (.yield 37) ⟨[a,b]⟩ ⟨[]⟩=>(match dec A 60 a with
   | some _=>atom1 A k b
   | none=>atom1 A k a)
  | .func (.yield 35) ⟨[a]⟩ ⟨[]⟩=>atom1 A k a
  | e=>e
mutual
def whyR (P:Program) (pu:FuncId→Bool) (g:Nat→Option Nat) (call:ACall) (A:List Value) (ops:Array Oper):Nat→Nat→List Oper→Tr Value→AS→Option (Bool × Value)
 | 0,_,_,_,_=>none
 | k + 1,n,l,F,H =>
  match l with
  | []=>none
  | o::rest =>
   match astep P { g:=g,A:=A,pu:=pu,m:=H.size } call ops n o F H with
   | some (v,H')=>(match aput n F o.dst v with
    | some F'=>whyR P pu g call A ops k n rest F' H'
    | none=>none)
   | none =>
    match awanted A ops n F o with
    | some .yes=>(match missOp P A (aev { g:=g,A:=A,pu:=pu,m:=H.size } n F) H o with
     | c::_=>some (true,c)
     | []=>(match aop P A (aev { g:=g,A:=A,pu:=pu,m:=H.size } n F) H o with
      | some (.call f args)=>whyC P pu g call A k f args H
      | _=>forkOp A (aev { g:=g,A:=A,pu:=pu,m:=H.size } n F) H o))
    | some (.grd c)=>(match missOp P (({ g:=g,A:=A,pu:=pu,m:=H.size }:Gl).add c).A (aev (({ g:=g,A:=A,pu:=pu,m:=H.size }:Gl).add c) n F) H o with
     | m::_=>some (true,nd2 37 (mkNot c) m)
     | []=>some (false,atom1 A 20 c))
    | _=>none
def whyC (P:Program) (pu:FuncId→Bool) (g:Nat→Option Nat) (call:ACall) (A:List Value):Nat→FuncId→List Value→AS→Option (Bool × Value)
 | 0,_,_,_=>none
 | k + 1,f,args,H =>
  match P.funcs[f]? with
  | some fn=>(match fn.body with
   | some c=>(match wcode P pu g call A k fn.ntmps c (aargs args 0 .e) H with
    | .inl r=>r
    | .inr _=>none)
   | none=>none)
  | none=>none
def wcode (P:Program) (pu:FuncId→Bool) (g:Nat→Option Nat) (call:ACall) (A:List Value):Nat→Nat→Code→Tr Value→AS→Option (Bool × Value) ⊕ (AExit × Tr Value × AS)
 | 0,_,_,_,_=>.inl none
 | k + 1,n,c,F,H =>
  match c with
  | .skip=>.inr (.normal,F,H)
  | .label _=>.inr (.normal,F,H)
  | .region id ops d=>(match acode P pu { g:=g,A:=A,pu:=pu } call n 1 (.region id ops d) F H with
   | some r=>.inr r
   | none=>.inl (whyR P pu g call A ops k n ops.toList F H))
  | .seq x y=>(match wcode P pu g call A k n x F H with
   | .inr (.normal,F',H')=>wcode P pu g call A k n y F' H'
   | r=>r)
  | .cond c x y=>(match aev { g:=g,A:=A,pu:=pu } n F c with
   | .bool t=>wcode P pu g call A k n (if t then x else y) F H
   | v=>(match asB v with
    | none=>.inl none
    | some e=>(match dec A 60 e with
     | some t=>wcode P pu g call A k n (if t then x else y) F H
     | none=>.inl (some (false,atom1 A 20 e)))))
  | .block id c=>(match wcode P pu g call A k n c F H with
   | .inr (.exit id',F',H')=>if id'=id then .inr (.normal,F',H') else .inr (.exit id',F',H')
   | r=>r)
  | .exit id=>.inr (.exit id,F,H)
  | .scope c=>wcode P pu g call A k n c F H
  | .ret=>.inr (.ret,F,H)
  | _=>.inl none
end
def theOrc (P:Program) (pu:FuncId→Bool) (g:Nat→Option Nat) (call:ACall) (n:Nat):Array Oper→List Oper→List Value→Tr Value→AS→Option (Bool × Value) :=
 fun ops l A F H=>whyR P pu g call A ops 300 n l F H
end
end Go.SM
namespace Go.SM
noncomputable section
theorem Facts.ofP {β:Ren}:∀ {l:List TB},FactsP β l→(∀ t ∈ l,t.ok β.length=true)→Facts β (l.map TB.enc)
 | [],_,_=>fun a h=>by cases h
 | t::l,h,hk=>fun a ha=>by
  rcases List.mem_cons.1 ha with rfl | ha
  ·exact ⟨t,rfl,hk t (by simp),(TB.P_iff β t).2 h.1⟩
  ·exact Facts.ofP h.2 (fun x hx=>hk x (by simp [hx])) a ha
def zsT:Nat→TL
 | 0=>.one (.lit 0)
 | n + 1=>.app (.one (.lit 0)) (zsT n)
theorem den_zsT (β:Ren):∀ (n:Nat),(zsT n).den β=List.replicate (n + 1) 0
 | 0=>rfl
 | n + 1=>by simp only [zsT,TL.den,den_zsT β n]; rfl
inductive BdT where
 | blk (B:Nat)
 | itm (e:TI)
 | ltm (e:TL)
 | btm (e:TB)
 | idn
 | opq (k:Nat)
 | val (v:Value)
 | ntm (e:TN)
 | new (B:Nat)
def BdT.enc (i:Nat):BdT→Bd
 | .blk B=>.blk B
 | .itm e=>.itm e.enc
 | .ltm e=>.ltm e.enc
 | .btm e=>.btm e.enc
 | .idn=>.val (.map (some (3 * i + 1)))
 | .opq k=>.val (.map (some (3 * k + 1)))
 | .val v=>.val v
 | .ntm e=>.ntm e.enc
 | .new B=>.blk B
abbrev SgT:=List (Nat × BdT)
def SgT.enc (σ:SgT):Sg:=σ.map fun p=>(p.1,p.2.enc p.1)
def BdT.P (β β1:Ren) (i:Nat):BdT→Prop
 | .blk B=>β1[i]?=β[B]?
 | .itm e=>gI β1 i=e.den β
 | .ltm e=>gL β1 i=e.den β
 | .btm e=>(gB β1 i=true↔e.P β)
 | .idn=>True
 | .opq k=>gV β1 i=gV β k
 | .val v=>∃ u,VR β v u∧gV β1 i=some u
 | .ntm e=>gN β1 i=e.den β
 | .new _=>True
def InstP (β β1:Ren):SgT→Prop
 | []=>True
 | (i,b)::σ=>b.P β β1 i∧InstP β β1 σ
theorem VR.opq_inv {β:Ren} {k:Nat} {u:Value} (h:VR β (.map (some (3 * k + 1))) u):gV β k=some u:=by
 generalize hz:(Value.map (some (3 * k + 1)))=z at h
 cases h <;> try cases hz
 ·exfalso; have e:=Option.some.inj (Value.map.inj hz); omega
 ·rename_i j' h' e1 e2
  have e:=Option.some.inj (Value.map.inj hz)
  have:k=j':=by omega
  subst this
  simp [gV,e1]
 ·exfalso; have e:=Option.some.inj (Value.map.inj hz); omega
 ·exfalso; have e:=Option.some.inj (Value.map.inj hz); omega
 ·exfalso; have e:=Option.some.inj (Value.map.inj hz); omega
theorem BdT.P_of {β β1:Ren} {i:Nat} {b:BdT} (h:BdOk β (b.enc i) β1[i]?):b.P β β1 i:=by
 cases b with
 | blk B=>obtain ⟨q,h1,h2⟩:=h; exact h2.trans h1.symm
 | itm e =>
  obtain ⟨t,h1,_,h3⟩:=h
  have:=TI.inj _ _ h1
  subst this
  simp [BdT.P,gI,TI.den,h3,vInt]
 | ltm e =>
  obtain ⟨t,h1,_,h3⟩:=h
  have:=TL.inj _ _ h1
  subst this
  simp [BdT.P,gL,TL.den,h3,vBytes]
 | btm e =>
  obtain ⟨t,h1,_,h3⟩:=h
  have:=TB.inj _ _ h1
  subst this
  simp only [BdT.P,gB,TB.den,h3,vBool]
  exact TB.P_iff β _
 | idn=>trivial
 | opq k =>
  obtain ⟨_,u,h1,h2,h3⟩:=h
  simp only [BdT.P]
  rw [h1.opq_inv]
  simp [gV,h3]
 | val v =>
  obtain ⟨_,u,h1,h2,h3⟩:=h
  exact ⟨u,h1,by simp [gV,h3]⟩
 | ntm e =>
  obtain ⟨t,h1,_,h3⟩:=h
  have:=TN.inj _ _ h1
  subst this
  simp [BdT.P,gN,TN.den,h3,vNums_tup]
 | new B=>trivial
def keysOk (m:Nat):SgT→List Nat→Bool
 | [],_=>true
 | (i,_)::σ,l=>Nat.blt i m && (!(l.any (Nat.beq i)) && keysOk m σ (i::l))
theorem keysOk_not {m:Nat}:∀ {σ:SgT} {l:List Nat},keysOk m σ l=true→∀ p ∈ σ,p.1 ∉ l∧p.1 < m
 | [],_,_,p,hp=>by cases hp
 | (i,b)::σ,l,h,p,hp=>by
  simp only [keysOk,Bool.and_eq_true,Bool.not_eq_true'] at h
  rcases List.mem_cons.1 hp with rfl | hp
  ·refine ⟨fun hm=>?_,Nat.le_of_ble_eq_true h.1⟩
   have:l.any (Nat.beq i)=true:=List.any_eq_true.2 ⟨i,hm,Nat.beq_refl i⟩
   rw [h.2.1] at this; cases this
  ·have:=keysOk_not h.2.2 p hp
   exact ⟨fun hm=>this.1 (List.mem_cons_of_mem _ hm),this.2⟩
theorem Inst.get_of {β:Ren} {m:Nat} {β1:Ren} {σ:SgT} (hI:Inst β σ.enc m β1) (hk:keysOk m σ []=true):∀ p ∈ σ,BdOk β (p.2.enc p.1) β1[p.1]?:=by
 have key:∀ (σ:SgT) (l:List Nat),keysOk m σ l=true→∀ p ∈ σ,σ.enc.get p.1=some (p.2.enc p.1):=by
  intro σ
  induction σ with
  | nil=>intro l _ p hp; cases hp
  | cons q σ ih =>
   intro l h p hp
   obtain ⟨i,b⟩:=q
   rcases List.mem_cons.1 hp with rfl | hp'
   ·exact Sg.get_cons_self _ _ _
   ·simp only [keysOk,Bool.and_eq_true,Bool.not_eq_true'] at h
    have hne:p.1≠i:=fun e=>(keysOk_not h.2.2 p hp').1 (by rw [e]; simp)
    show Sg.get ((i,b.enc i)::SgT.enc σ) p.1=_
    simp only [Sg.get]
    rw [if_neg (by intro e; exact hne (Nat.eq_of_beq_eq_true e))]
    exact ih _ h.2.2 p hp'
 intro p hp
 exact hI.get _ _ (key σ [] hk p hp) (keysOk_not hk p hp).2
theorem Inst.toP {β:Ren} {m:Nat} {β1:Ren} {σ:SgT} (hI:Inst β σ.enc m β1) (hk:keysOk m σ []=true):InstP β β1 σ:=by
 have h:=hI.get_of hk
 clear hk hI
 induction σ with
 | nil=>trivial
 | cons q σ ih=>exact ⟨BdT.P_of (h q (by simp)),ih fun p hp=>h p (by simp [hp])⟩
def BdT.isIdn:BdT→Bool
 | .idn=>true
 | _=>false
def idns (σ:SgT):List Nat:=(σ.filter fun p=>p.2.isIdn).map (·.1)
theorem Inst.idns {β:Ren} {m:Nat} {β1:Ren} {σ:SgT} (hI:Inst β σ.enc m β1) (hk:keysOk m σ []=true):∀ i ∈ idns σ,gV β1 i=gV β i:=by
 intro i hi
 unfold Go.SM.idns at hi
 obtain ⟨p,hp,rfl⟩:=List.mem_map.1 hi
 obtain ⟨hp1,hp2⟩:=List.mem_filter.1 hp
 obtain ⟨j,b⟩:=p
 cases b <;> simp [BdT.isIdn] at hp2
 obtain ⟨_,u,h1,h2,h3⟩:=hI.get_of hk _ hp1
 have:=h1.opq_inv
 simp only at *
 rw [this]
 simp [gV,h3]
theorem TB.P_app {β γ:Ren} {t:TB} (h:t.ok β.length=true):t.P (β++γ)↔t.P β:=by
 rw [← TB.P_iff,← TB.P_iff,TB.den_app β γ t h]
theorem FactsP.app {β γ:Ren}:∀ {l:List TB},l.all (fun t=>t.ok β.length)=true→FactsP (β++γ) l→FactsP β l
 | [],_,_=>trivial
 | t::l,h,hf=>by
  rw [List.all_cons,Bool.and_eq_true] at h
  exact ⟨(TB.P_app h.1).1 hf.1,FactsP.app h.2 hf.2⟩
def okI (n:Nat) (v:Value):Bool:=match v with
 | .func (.yield 0) ⟨[.int kp z,.map (some i),.int .i64 lo,.int .i64 hi]⟩ ⟨[]⟩=>decide (z=0) && Nat.blt i n
 | _=>false
theorem okI_drop {β γ:Ren} {v u:Value} (hc:okI β.length v=true) (h:VR (β++γ) v u):VR β v u:=by
 unfold okI at hc
 split at hc
 ·rename_i kp z i lo hi
  rw [Bool.and_eq_true,decide_eq_true_eq] at hc
  obtain ⟨rfl,hi'⟩:=hc
  have hlt:i < β.length:=Nat.le_of_ble_eq_true hi'
  obtain ⟨t,h1,h2,rfl,h4,h5⟩:=asI_sound (k:=kp) (e:=.map (some i)) (lo:=lo) (hi:=hi) h (by simp [asI])
  have:t=.var i:=TI.inj t (.var i) h1.symm
  subst this
  have ok:(TI.var i).ok β.length=true:=by simp only [TI.ok]; exact decide_eq_true hlt
  rw [TI.den_app β γ _ ok] at h4 h5 ⊢
  exact .symI kp (.var i) lo hi ok h4 h5
 ·cases hc
def BdT.ok (n:Nat):BdT→Bool
 | .blk B=>Nat.blt B n
 | .itm e=>e.ok n
 | .ltm e=>e.ok n
 | .btm e=>e.ok n
 | .idn=>true
 | .opq k=>Nat.blt k n
 | .val v=>ground v || okI n v
 | .ntm e=>e.ok n
 | .new _=>true
theorem BdT.P_app {β γ β1:Ren} {i:Nat} {b:BdT} (h:b.ok β.length=true) (hp:b.P (β++γ) β1 i):b.P β β1 i:=by
 cases b with
 | blk B =>
  simp only [BdT.ok,BdT.P] at *
  rw [hp,List.getElem?_append_left (Nat.le_of_ble_eq_true h)]
 | itm e=>simp only [BdT.ok,BdT.P] at *; rw [hp,TI.den_app β γ e h]
 | ltm e=>simp only [BdT.ok,BdT.P] at *; rw [hp,TL.den_app β γ e h]
 | ntm e=>simp only [BdT.ok,BdT.P] at *; rw [hp,TN.den_app β γ e h]
 | new B=>trivial
 | btm e=>simp only [BdT.ok,BdT.P] at *; rw [hp,TB.P_app h]
 | idn=>trivial
 | opq k =>
  simp only [BdT.ok,BdT.P,gV] at *
  rw [hp,List.getElem?_append_left (Nat.le_of_ble_eq_true h)]
 | val v =>
  obtain ⟨u,h1,h2⟩:=hp
  refine ⟨u,?_,h2⟩
  simp only [BdT.ok,Bool.or_eq_true] at h
  rcases h with h | h
  ·have:=h1.eq_of_ground h
   subst this
   exact VR.of_ground h
  ·exact okI_drop h h1
theorem InstP.app {β γ β1:Ren}:∀ {σ:SgT},σ.all (fun p=>p.2.ok β.length)=true→InstP (β++γ) β1 σ→InstP β β1 σ
 | [],_,_=>trivial
 | (i,b)::σ,h,hf=>by
  rw [List.all_cons,Bool.and_eq_true] at h
  exact ⟨BdT.P_app h.1 hf.1,InstP.app h.2 hf.2⟩
theorem leaf_of {G:Goal} {β:Ren} {n j m h:Nat} {rs A:List TB} {σ:SgT} (op:List Nat) (hn:β.length=n) (hk:keysOk m σ []=true) (hA:A.all (fun t=>t.ok n)=true) (hS:σ.all (fun p=>p.2.ok n)=true)
    (hop:op.all (fun i=>(idns σ).any (Nat.beq i) && Nat.blt i n)=true) (H:∀ β1,β1.length=m→FactsP β A→FactsP β1 rs→(∀ i ∈ op,gV β1 i=gV β i)→InstP β β1 σ→G.J j β1) :
    (Tre.leaf j m h rs σ.enc (A.map TB.enc)).Holds G β:=by
 subst hn
 intro γ _ hf β1 hI hr
 refine H β1 hI.len (FactsP.app hA hf.toP) hr (fun i hi=>?_) (InstP.app hS (hI.toP hk))
 have:=List.all_eq_true.1 hop i hi
 rw [Bool.and_eq_true] at this
 obtain ⟨x,hx,he⟩:=List.any_eq_true.1 this.1
 have:=Nat.eq_of_beq_eq_true he
 subst this
 rw [hI.idns hk i hx]
 simp only [gV]
 rw [List.getElem?_append_left (Nat.le_of_ble_eq_true (by assumption:_∧_).2)]
theorem leaf_gen {G:Goal} {β:Ren} {n j m h:Nat} {rs A:List TB} {σ:SgT} (op:List Nat) (hn:β.length=n) (hk:keysOk m σ []=true)
    (hop:op.all (fun i=>(idns σ).any (Nat.beq i) && Nat.blt i n)=true) (H:∀ γ β1,β1.length=m→FactsP (β++γ) A→FactsP β1 rs→(∀ i ∈ op,gV β1 i=gV β i)→InstP (β++γ) β1 σ→G.J j β1) :
    (Tre.leaf j m h rs σ.enc (A.map TB.enc)).Holds G β:=by
 subst hn
 intro γ _ hf β1 hI hr
 refine H γ β1 hI.len hf.toP hr (fun i hi=>?_) (hI.toP hk)
 have:=List.all_eq_true.1 hop i hi
 rw [Bool.and_eq_true] at this
 obtain ⟨x,hx,he⟩:=List.any_eq_true.1 this.1
 have:=Nat.eq_of_beq_eq_true he
 subst this
 rw [hI.idns hk i hx]
 simp only [gV]
 rw [List.getElem?_append_left (Nat.le_of_ble_eq_true (by assumption:_∧_).2)]
theorem loop_of {G:Goal} {β:Ren} {n j m h:Nat} {rs A:List TB} {σ:SgT} {c:Code} {ts:Tre} (op:List Nat) (hn:β.length=n) (hk:keysOk m σ []=true) (hA:A.all (fun t=>t.ok n)=true) (hS:σ.all (fun p=>p.2.ok n)=true)
    (hop:op.all (fun i=>(idns σ).any (Nat.beq i) && Nat.blt i n)=true) (hW:G.W j c) (H:∀ β1,β1.length=m→FactsP β A→FactsP β1 rs→(∀ i ∈ op,gV β1 i=gV β i)→InstP β β1 σ→G.L j β1∧ts.HoldsO G j 0 β1) :
    (Tre.loop j m h rs c σ.enc (A.map TB.enc) ts).Holds G β:=by
 subst hn
 refine ⟨hW,fun γ _ hf β1 hI hr=>H β1 hI.len (FactsP.app hA hf.toP) hr (fun i hi=>?_) (InstP.app hS (hI.toP hk))⟩
 have:=List.all_eq_true.1 hop i hi
 rw [Bool.and_eq_true] at this
 obtain ⟨x,hx,he⟩:=List.any_eq_true.1 this.1
 have:=Nat.eq_of_beq_eq_true he
 subst this
 rw [hI.idns hk i hx]
 simp only [gV]
 rw [List.getElem?_append_left (Nat.le_of_ble_eq_true (by assumption:_∧_).2)]
theorem fork_of {G:Goal} {β:Ren} {t f:Tre} (h1:t.Holds G β) (h2:f.Holds G β):(Tre.fork t f).Holds G β:=⟨h1,h2⟩
theorem need_of {G:Goal} {β:Ren} {n h:Nat} {A:List TB} {c:TB} {t:Tre} (hn:β.length=n) (hA:A.all (fun t=>t.ok n)=true) (hc:c.ok n=true) (H:FactsP β A→c.P β) (ht:t.Holds G β) :
    (Tre.need h (A.map TB.enc) c.enc t).Holds G β:=by
 subst hn
 refine ⟨fun γ _ hf x hx=>?_,ht⟩
 have:=TB.inj _ _ hx
 subst this
 rw [TB.P_iff,TB.P_app hc]
 exact H (FactsP.app hA hf.toP)
theorem outs_nil {G:Goal} {j i:Nat} {β1:Ren}:Tre.nil.HoldsO G j i β1:=trivial
theorem outs_cons {G:Goal} {j i:Nat} {β1:Ren} {rs:List TB} {t ts:Tre} (h:∀ β2,FactsP β2 rs→G.O j i β1 β2→t.Holds G β2) (h2:ts.HoldsO G j (i + 1) β1):(Tre.cons rs t ts).HoldsO G j i β1:=⟨h,h2⟩
theorem app_len {β γ:Ren} {n m:Nat} (h:β.length=n) (h2:γ.length=m):(β++γ).length=n + m:=by rw [List.length_append,h,h2]
theorem gE_l {β γ:Ren} {n:Nat} (h:β.length=n) {i:Nat} (hi:i < n):(β++γ)[i]?=β[i]?:=List.getElem?_append_left (by omega)
theorem gE_r {β γ:Ren} {n:Nat} (h:β.length=n) {i:Nat} (hi:n≤i):(β++γ)[i]?=γ[i - n]?:=by subst h; exact List.getElem?_append_right hi
theorem gI_l {β γ:Ren} {n:Nat} (h:β.length=n) {i:Nat} (hi:i < n):gI (β++γ) i=gI β i:=by simp only [gI,TI.den,gE_l h hi]
theorem gI_r {β γ:Ren} {n:Nat} (h:β.length=n) {i:Nat} (hi:n≤i):gI (β++γ) i=gI γ (i - n):=by simp only [gI,TI.den,gE_r h hi]
theorem gL_l {β γ:Ren} {n:Nat} (h:β.length=n) {i:Nat} (hi:i < n):gL (β++γ) i=gL β i:=by simp only [gL,TL.den,gE_l h hi]
theorem gL_r {β γ:Ren} {n:Nat} (h:β.length=n) {i:Nat} (hi:n≤i):gL (β++γ) i=gL γ (i - n):=by simp only [gL,TL.den,gE_r h hi]
theorem gN_l {β γ:Ren} {n:Nat} (h:β.length=n) {i:Nat} (hi:i < n):gN (β++γ) i=gN β i:=by simp only [gN,TN.den,gE_l h hi]
theorem gN_r {β γ:Ren} {n:Nat} (h:β.length=n) {i:Nat} (hi:n≤i):gN (β++γ) i=gN γ (i - n):=by simp only [gN,TN.den,gE_r h hi]
theorem gB_l {β γ:Ren} {n:Nat} (h:β.length=n) {i:Nat} (hi:i < n):gB (β++γ) i=gB β i:=by simp only [gB,TB.den,gE_l h hi]
theorem gB_r {β γ:Ren} {n:Nat} (h:β.length=n) {i:Nat} (hi:n≤i):gB (β++γ) i=gB γ (i - n):=by simp only [gB,TB.den,gE_r h hi]
theorem gV_l {β γ:Ren} {n:Nat} (h:β.length=n) {i:Nat} (hi:i < n):gV (β++γ) i=gV β i:=by simp only [gV,gE_l h hi]
theorem gV_r {β γ:Ren} {n:Nat} (h:β.length=n) {i:Nat} (hi:n≤i):gV (β++γ) i=gV γ (i - n):=by simp only [gV,gE_r h hi]
theorem hid_l {β γ β1:Ren} {n:Nat} {op:List Nat} (h:β.length=n) (ho:op.all (fun i=>Nat.blt i n)=true) (hid:∀ i ∈ op,gV β1 i=gV (β++γ) i):∀ i ∈ op,gV β1 i=gV β i :=
 fun i hi=>(hid i hi).trans (gV_l h (Nat.le_of_ble_eq_true (List.all_eq_true.1 ho i hi)))
theorem call_of {G:Goal} {β:Ren} {n j m:Nat} {rs A:List TB} {σ:SgT} {ts:Tre} (op:List Nat) (hn:β.length=n) (hk:keysOk m σ []=true)
    (hop:op.all (fun i=>(idns σ).any (Nat.beq i) && Nat.blt i n)=true) (H:∀ β1,β1.length=m→FactsP β A→FactsP β1 rs→(∀ i ∈ op,gV β1 i=gV β i)→InstP β β1 σ→G.CL j β1∧ts.HoldsC G j 0 β β1) :
    (Tre.call j m n rs σ.enc (A.map TB.enc) ts).Holds G β:=by
 subst hn
 intro γ hγ hf β1 hI hr
 have:γ=[]:=List.eq_nil_of_length_eq_zero (by rw [List.length_append] at hγ; omega)
 subst this
 rw [List.append_nil] at hf hI ⊢
 refine H β1 hI.len hf.toP hr (fun i hi=>?_) (hI.toP hk)
 have:=List.all_eq_true.1 hop i hi
 rw [Bool.and_eq_true] at this
 obtain ⟨x,hx,he⟩:=List.any_eq_true.1 this.1
 have:=Nat.eq_of_beq_eq_true he
 subst this
 exact hI.idns hk i hx
theorem callo_nil {G:Goal} {j i:Nat} {β' β1:Ren}:Tre.nil.HoldsC G j i β' β1:=trivial
theorem callo_cons {G:Goal} {j i:Nat} {β' β1:Ren} {rs:List TB} {t ts:Tre} (h:∀ β2,FactsP β2 rs→G.CO j i β1 β2→t.Holds G (β'++β2)) (h2:ts.HoldsC G j (i + 1) β' β1):(Tre.cons rs t ts).HoldsC G j i β' β1:=⟨h,h2⟩
theorem D_f0 (β:Ren):FactsP β []=True:=rfl
theorem D_f1 (β:Ren) (t:TB) (l:List TB):FactsP β (t::l)=(t.P β∧FactsP β l):=rfl
theorem D_i0 (β β1:Ren):InstP β β1 []=True:=rfl
theorem D_i1 (β β1:Ren) (i:Nat) (b:BdT) (σ:SgT):InstP β β1 ((i,b)::σ)=(b.P β β1 i∧InstP β β1 σ):=rfl
theorem D_b (β β1:Ren) (i:Nat):(∀ B,BdT.P β β1 i (.blk B)=(β1[i]?=β[B]?))∧(∀ e,BdT.P β β1 i (.itm e)=(gI β1 i=e.den β))∧(∀ e,BdT.P β β1 i (.ltm e)=(gL β1 i=e.den β))∧(∀ e,BdT.P β β1 i (.btm e)=(gB β1 i=true↔e.P β))∧BdT.P β β1 i .idn=True∧(∀ k,BdT.P β β1 i (.opq k)=(gV β1 i=gV β k))∧(∀ v,BdT.P β β1 i (.val v)=∃ u,VR β v u∧gV β1 i=some u)∧(∀ e,BdT.P β β1 i (.ntm e)=(gN β1 i=e.den β))∧(∀ B,BdT.P β β1 i (.new B)=True) :=
 ⟨fun _=>rfl,fun _=>rfl,fun _=>rfl,fun _=>rfl,rfl,fun _=>rfl,fun _=>rfl,fun _=>rfl,fun _=>rfl⟩
theorem D_t (β:Ren):(∀ b,(TB.lit b).P β=(b=true))∧(∀ i,(TB.var i).P β=(gB β i=true))∧(∀ a b,(TB.lt a b).P β=(a.den β < b.den β))∧(∀ a b,(TB.le a b).P β=(a.den β≤b.den β))∧(∀ a b,(TB.eq a b).P β=(a.den β=b.den β))∧(∀ a b,(TB.eqL a b).P β=(a.den β=b.den β))∧(∀ a,(TB.not a).P β=¬ a.P β)∧(∀ a b,(TB.and a b).P β=(a.P β∧b.P β))∧(∀ a b,(TB.or a b).P β=(a.P β∨b.P β))∧(∀ c a b,(TB.ite c a b).P β=((c.P β∧a.P β)∨(¬ c.P β∧b.P β)))∧(∀ i x y z l m,(TB.pred i x y z l m).P β=(predB β[i]? [x.den β,y.den β,z.den β] [l.den β,m.den β]=true)) :=
 ⟨fun _=>rfl,fun _=>rfl,fun _ _=>rfl,fun _ _=>rfl,fun _ _=>rfl,fun _ _=>rfl,fun _=>rfl,fun _ _=>rfl,fun _ _=>rfl,fun _ _ _=>rfl,fun _ _ _ _ _ _=>rfl⟩

theorem D_fa (a b:Int):IOp.fn .add a b=a + b:=rfl
theorem D_fs (a b:Int):IOp.fn .sub a b=a - b:=rfl
theorem LL:(∀ (i:Nat) (l:List UInt8),(List.drop i l).length=l.length - i)∧(∀ (i:Nat) (l:List UInt8),(List.take i l).length=min i l.length)∧(∀ (i:Nat) (l:List Int),(List.drop i l).length=l.length - i)∧(∀ (i:Nat) (l:List Int),(List.take i l).length=min i l.length):=⟨fun _ _=>List.length_drop,fun _ _=>List.length_take,fun _ _=>List.length_drop,fun _ _=>List.length_take⟩
def dn (a:Nat):Nat→List Nat
 | 0=>[]
 | n + 1=>a::dn (a - 1) n
def ids:List Nat→SgT
 | []=>[]
 | i::l=>(i,.idn)::ids l
theorem D_ids (β β1:Ren) (l:List Nat) (σ:SgT):InstP β β1 (ids l++σ)=InstP β β1 σ:=by
 induction l with
 | nil=>rfl
 | cons i l ih=>show (True∧_)=_; rw [true_and]; exact ih
theorem den_ite_eq (β:Ren) (a b c d:TI):(TI.ite (.eq a b) c d).den β=if a.den β=b.den β then c.den β else d.den β:=by
 simp only [TI.den,TB.den,decide_eq_true_eq]
theorem DD:(∀ (β:Ren),FactsP β []=True)∧(∀ (β β1:Ren) (l:List Nat) (σ:SgT),InstP β β1 (ids l++σ)=InstP β β1 σ)∧(∀ (β:Ren) (t:TB) (l:List TB),FactsP β (t::l)=(TB.P β t∧FactsP β l))∧(∀ (β β1:Ren),InstP β β1 []=True)∧(∀ (β β1:Ren) (i:Nat) (b:BdT) (σ:SgT),InstP β β1 ((i,b)::σ)=(BdT.P β β1 i b∧InstP β β1 σ))∧(∀ (β β1:Ren) (i:Nat),(∀ (B:Nat),BdT.P β β1 i (BdT.blk B)=(β1[i]?=β[B]?))∧(∀ (e:TI),BdT.P β β1 i (BdT.itm e)=(gI β1 i=TI.den β e))∧(∀ (e:TL),BdT.P β β1 i (BdT.ltm e)=(gL β1 i=TL.den β e))∧(∀ (e:TB),BdT.P β β1 i (BdT.btm e)=(gB β1 i=true↔TB.P β e))∧BdT.P β β1 i BdT.idn=True∧(∀ (k:Nat),BdT.P β β1 i (BdT.opq k)=(gV β1 i=gV β k))∧(∀ (v:Value),BdT.P β β1 i (BdT.val v)=∃ u,VR β v u∧gV β1 i=some u)∧(∀ (e:TN),BdT.P β β1 i (BdT.ntm e)=(gN β1 i=TN.den β e))∧∀ (B:Nat),BdT.P β β1 i (BdT.new B)=True)∧(∀ (β:Ren),(∀ (b:Bool),TB.P β (TB.lit b)=(b=true))∧(∀ (i:Nat),TB.P β (TB.var i)=(gB β i=true))∧(∀ (a b:TI),TB.P β (TB.lt a b)=(TI.den β a < TI.den β b))∧(∀ (a b:TI),TB.P β (TB.le a b)=(TI.den β a≤TI.den β b))∧(∀ (a b:TI),TB.P β (TB.eq a b)=(TI.den β a=TI.den β b))∧(∀ (a b:TL),TB.P β (TB.eqL a b)=(TL.den β a=TL.den β b))∧(∀ (a:TB),TB.P β a.not=¬TB.P β a)∧(∀ (a b:TB),TB.P β (a.and b)=(TB.P β a∧TB.P β b))∧(∀ (a b:TB),TB.P β (a.or b)=(TB.P β a∨TB.P β b))∧(∀ (c a b:TB),TB.P β (c.ite a b)=(TB.P β c∧TB.P β a∨¬TB.P β c∧TB.P β b))∧∀ (i:Nat) (x y z:TI) (l m:TL),TB.P β (TB.pred i x y z l m)=(predB β[i]? [TI.den β x,TI.den β y,TI.den β z] [TL.den β l,TL.den β m]=true))∧(∀ (a b:Int),IOp.add.fn a b=a + b)∧(∀ (a b:Int),IOp.sub.fn a b=a - b)∧(∀ (β:Ren) (i:Nat),TN.den β (TN.var i)=gN β i)∧(∀ (β:Ren) (l:TN),TI.den β (TI.lenN l)=↑(TN.den β l).length)∧(∀ (β:Ren) (l:TN) (i:TI),TI.den β (TI.selN l i)=(TN.den β l).getD (TI.den β i).toNat 0)∧(∀ (β:Ren),TN.den β TN.nil=[])∧(∀ (β:Ren) (v:TI),TN.den β (TN.one v)=[TI.den β v])∧(∀ (β:Ren) (l m:TN),TN.den β (l.app m)=TN.den β l++TN.den β m)∧(∀ (β:Ren) (l:TN) (a b:TI),TN.den β (l.sub a b)=List.drop (TI.den β a).toNat (List.take (TI.den β b).toNat (TN.den β l)))∧(∀ (β:Ren) (n:Nat),TL.den β (zsT n)=List.replicate (n + 1) 0)∧(∀ (β:Ren) (n:Int),TI.den β (TI.lit n)=n)∧(∀ (β:Ren) (i:Nat),TI.den β (TI.var i)=gI β i)∧(∀ (β:Ren) (i:Nat),TL.den β (TL.var i)=gL β i)∧(∀ (β:Ren) (l:List UInt8),TL.den β (TL.lit l)=l)∧(∀ (β:Ren) (o:IOp) (a b:TI),TI.den β (TI.op o a b)=o.fn (TI.den β a) (TI.den β b))∧(∀ (β:Ren) (k:IntKind) (a:TI),TI.den β (TI.wrap k a)=k.wrap (TI.den β a))∧(∀ (β:Ren) (l:TL),TI.den β (TI.len l)=↑(TL.den β l).length)∧(∀ (β:Ren) (l:TL) (i:TI),TI.den β (TI.sel l i)=↑((TL.den β l).getD (TI.den β i).toNat 0).toNat)∧(∀ (β:Ren) (l:TL) (i v:TI),TL.den β (l.set i v)=(TL.den β l).set (TI.den β i).toNat (UInt8.ofNat (TI.den β v).toNat))∧(∀ (β:Ren) (v:TI),TL.den β (TL.one v)=[UInt8.ofNat (TI.den β v).toNat])∧(∀ (β:Ren) (l:TL) (a b:TI),TL.den β (l.sub a b)=List.drop (TI.den β a).toNat (List.take (TI.den β b).toNat (TL.den β l)))∧(∀ (β:Ren) (l:TL) (i:TI) (m:TL),TL.den β (l.put i m)=putAt (TL.den β l) (TI.den β i).toNat (TL.den β m))∧(∀ (β:Ren) (l m:TL),TL.den β (l.app m)=TL.den β l++TL.den β m)∧(∀ (β:Ren) (a b c d:TI),TI.den β (TI.ite (TB.eq a b) c d)=if TI.den β a=TI.den β b then TI.den β c else TI.den β d)∧(∀ (p:Prop),(True∧p)=p)∧∀ (p:Prop),(p∧True)=p:=And.intro D_f0 <| And.intro D_ids <| And.intro D_f1 <| And.intro D_i0 <| And.intro D_i1 <| And.intro D_b <| And.intro D_t <| And.intro D_fa <| And.intro D_fs <| And.intro @den_varN <| And.intro @den_lenN <| And.intro @den_selN <| And.intro @den_nilN <| And.intro @den_oneN <| And.intro @den_appN <| And.intro @den_subN <| And.intro @den_zsT <| And.intro @den_litI <| And.intro @den_varI <| And.intro @den_varL <| And.intro @den_litL <| And.intro @den_op <| And.intro @den_wrap <| And.intro @den_len <| And.intro @den_sel <| And.intro @den_setL <| And.intro @den_oneL <| And.intro @den_subL <| And.intro @den_putL <| And.intro @den_appL <| And.intro den_ite_eq <| And.intro @true_and @and_true
theorem aL {β γ:Ren} {n:Nat} (h:β.length=n):(∀ i,i < n→gI (β++γ) i=gI β i)∧(∀ i,i < n→gL (β++γ) i=gL β i)∧(∀ i,i < n→gB (β++γ) i=gB β i)∧(∀ i,i < n→(β++γ)[i]?=β[i]?)∧(∀ i,i < n→gV (β++γ) i=gV β i)∧(∀ i,i < n→gN (β++γ) i=gN β i) :=
 ⟨fun _=>gI_l h,fun _=>gL_l h,fun _=>gB_l h,fun _=>gE_l h,fun _=>gV_l h,fun _=>gN_l h⟩
theorem aA {β γ:Ren} {n:Nat} (h:β.length=n):((∀ i,i < n→gI (β++γ) i=gI β i)∧(∀ i,i < n→gL (β++γ) i=gL β i)∧(∀ i,i < n→gB (β++γ) i=gB β i)∧(∀ i,i < n→(β++γ)[i]?=β[i]?)∧(∀ i,i < n→gV (β++γ) i=gV β i)∧(∀ i,i < n→gN (β++γ) i=gN β i))∧(∀ i,n≤i→gI (β++γ) i=gI γ (i - n))∧(∀ i,n≤i→gL (β++γ) i=gL γ (i - n))∧(∀ i,n≤i→gB (β++γ) i=gB γ (i - n))∧(∀ i,n≤i→(β++γ)[i]?=γ[i - n]?)∧(∀ i,n≤i→gV (β++γ) i=gV γ (i - n))∧(∀ i,n≤i→gN (β++γ) i=gN γ (i - n)) :=
 ⟨aL h,fun _=>gI_r h,fun _=>gL_r h,fun _=>gB_r h,fun _=>gE_r h,fun _=>gV_r h,fun _=>gN_r h⟩
abbrev lf (j m h:Nat) (r:List TB) (σ:SgT) (A:List TB):Tre:=.leaf j m h r σ.enc (A.map TB.enc)
abbrev nd (h:Nat) (A:List TB) (c:TB) (t:Tre):Tre:=.need h (A.map TB.enc) c.enc t
theorem leaf_o {G:Goal} {β:Ren} {n j m h:Nat} {rs A:List TB} {σ:SgT} (op:List Nat) (hn:β.length=n) (H:∀ β1,β1.length=m→FactsP β A→FactsP β1 rs→(∀ i ∈ op,gV β1 i=gV β i)→InstP β β1 σ→G.J j β1) (hk:keysOk m σ []=true:=by kernel_rfl) (hA:A.all (fun t=>t.ok n)=true:=by kernel_rfl) (hS:σ.all (fun p=>p.2.ok n)=true:=by kernel_rfl)
    (hop:op.all (fun i=>(idns σ).any (Nat.beq i) && Nat.blt i n)=true:=by kernel_rfl):(Tre.leaf j m h rs σ.enc (A.map TB.enc)).Holds G β:=leaf_of op hn hk hA hS hop H
theorem need_o {G:Goal} {β:Ren} {n h:Nat} {A:List TB} {c:TB} {t:Tre} (hn:β.length=n) (H:FactsP β A→c.P β) (ht:t.Holds G β) (hA:A.all (fun t=>t.ok n)=true:=by kernel_rfl) (hc:c.ok n=true:=by kernel_rfl):(Tre.need h (A.map TB.enc) c.enc t).Holds G β:=need_of hn hA hc H ht
end
end Go.SM
namespace Go.SM
def noprim:ACall:=fun _ _ _ _=>none
theorem noprim_ok (P:Program) (G:Gl):CallOk P G noprim:=⟨(fun _ _ _ _ _ _ _ h=>by cases h),(fun _ _ _ _ _ _ _ _ _ _ _ _ _=>by intro h; cases h)⟩
def fnsChk (P:Program) (pu ok:FuncId→Bool):Bool :=
 (List.range P.funcs.size).all fun f=>!ok f || match P.funcs[f]? with
  | some fn=>match fn.body with
   | some c=>codeOk P pu c
   | none=>true
  | none=>true
theorem fnsOk_of {P:Program} {pu ok:FuncId→Bool} (h:fnsChk P pu ok=true):FnsOk P pu ok:=by
 intro f fn c hf hfn hc
 unfold fnsChk at h
 rw [List.all_eq_true] at h
 have hlt:f < P.funcs.size:=by
  rcases Nat.lt_or_ge f P.funcs.size with h | h
  ·exact h
  ·rw [Array.getElem?_eq_none h] at hfn; cases hfn
 have:=h f (List.mem_range.2 hlt)
 simp only [hf,Bool.not_true,Bool.false_or,hfn,hc] at this
 exact this
def numChk (P : Program) : Bool := P.funcs.toList.all fun fn => !(fn.name == "runtime.NumGoroutine")
theorem noNum_of {P:Program} (h:numChk P=true):NoNum P:=by
 intro f fn hfn
 unfold numChk at h
 rw [List.all_eq_true] at h
 have hm:fn ∈ P.funcs.toList:=by
  rw [← Array.getElem?_toList] at hfn
  exact List.mem_of_getElem? hfn
 have:=h fn hm
 simpa using this
end Go.SM
open Go Go.SM Go.Proofs
namespace U
def findLoop (r:Nat):Nat→Code→Option Code
 | 0,_=>none
 | k + 1,c=>match c with
  | .seq x y=>match findLoop r k x with
   | some i=>some i
   | none=>findLoop r k y
  | .cond _ x y=>match findLoop r k x with
   | some i=>some i
   | none=>findLoop r k y
  | .block _ c=>findLoop r k c
  | .loop c=>if firstReg 30 c=some r then some c else findLoop r k c
  | .scope c=>findLoop r k c
  | _=>none
noncomputable def body (f:Nat):Code:=match Tryd.prog.funcs[f]? with
 | some f=>match f.body with
  | some c=>c
  | none=>.skip
 | none=>.skip
noncomputable def ntmps (f:Nat):Nat:=match Tryd.prog.funcs[f]? with
 | some f=>f.ntmps
 | none=>0
def x (i:Nat):Value:=.map (some i)
def I (i:Nat) (lo hi:Int):Value:=sI .i64 (x i) lo hi
def Z (n:Int):Value:=.int .i64 n
def cellsP (upd:List (Nat × Value)):List Value:=(List.range 52).map fun i=>match upd.find? fun p=>Nat.beq p.1 i with
 | some p=>p.2
 | none=>.map (some (3 * (20 + i) + 1))
def big:Int:=1125899906842624
end U
