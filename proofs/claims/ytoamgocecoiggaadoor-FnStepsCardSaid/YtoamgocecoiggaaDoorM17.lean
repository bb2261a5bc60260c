-- the statement of this claim: see YtoamgocecoiggaaDoorRs
import Derived.Test.YtoamgocecoiggaaDoorProg
import Derived.Test.YtoamgocecoiggaaDoorM16
set_option linter.unusedVariables false
set_option linter.unusedSimpArgs false
set_option maxRecDepth 100000
noncomputable section
namespace Go.SM
noncomputable section
def vC(A:List Value)(a b:Value):List Value:=if vH A a b then [] else [nd1 35 (nd2 31 b a)]
def gU(A:List Value)(a b:Value):List Value:=if nS A a b then [] else [nd2 31 a b]
def kU(A:List Value)(k:IntKind)(e:Value)(lo hi:Int):List Value :=
 (if tN k<=lo\/dec A 4 (nd2 31 e (.int .i64 (tN k)))=some false then [] else [nd1 35 (nd2 31 e (.int .i64 (tN k)))]) ++
 (if hi<=wN k\/dec A 4 (nd2 31 (.int .i64 (wN k)) e)=some false then [] else [nd1 35 (nd2 31 (.int .i64 (wN k)) e)])
def rH(A:List Value)(H:AS)(B:Nat)(f:Value->List Value):List Value :=
 match H.get B with
 |some b=>match b.seq with
  |some (.func (.yield 28) ⟨[e]⟩ ⟨[]⟩)=>f (xG 20 e)
  |some (.func (.yield 29) ⟨[e]⟩ ⟨[]⟩)=>f (xG 20 e)
  |some e=>f (xX 20 e)
  |none=>[]
 |none=>[]
def cP(A:List Value)(H:AS)(x:Value):List Value :=
 match asL x with
 |some (B,o,n,_)=>rH A H B fun l=>vC A (yM o n) l
 |none=>[]
def aVW(P:Program)(ts:Array TypeId):Bool:=match ts[0]? with
 |some t=>(match P.underlying t with
  |some (.slice e)=>(match P.info? e with
   |some i=>Nat.beq i.size 3
   |none=>false)
  |_=>false)
 |none=>false
def size3(P:Program)(t:TypeId):Bool:=match P.info? t with
 |some i=>Nat.beq i.size 3
 |none=>false
def apH(P:Program)(A:List Value)(ρ:Operand->Value)(H:AS)(o:Oper):List Value :=
 match o.op with
 | .load t a=>match asP (ρ a) with
  |some (B,o)=>rH A H B fun l=>gU A (if size3 P t then yM o (.int .i64 2) else o) l
  |none=>[]
 | .store _ a _=>match asP (ρ a) with
  |some (B,o)=>rH A H B fun l=>gU A o l
  |none=>[]
 | .binOp op _ x y _=>match asI (ρ x),asI (ρ y) with
  |some (k,e1,l1,h1),some (_,e2,l2,h2)=>match op with
   | .add=>kU A k (yM e1 e2) (l1+l2) (h1+h2)
   | .sub=>kU A k (dJ e1 e2) (l1-h2) (h1-l2)
   | .mul=>kU A k (nd2 102 e1 e2) (l1*l2) (h1*h2)
   | .shl=>(match e2 with
    | .int _ n=>kU A k (nd2 107 e1 e2) (l1*2 ^ n.toNat) (h1*2 ^ n.toNat)
    |_=>[])
   |_=>[]
  |_,_=>[]
 | .slice _ x lo hi mx=>match asL (ρ x) with
  |some (_,_,n,c)=>match bnd (mx.map ρ) c,bnd (hi.map ρ) n,bnd (lo.map ρ) (.int .i64 0) with
   |some m,some h,some l=>vC A (.int .i64 0) l++(vC A l h++(vC A h m++(vC A m c++vC A h (.int .i64 1125899906842624))))
   |_,_,_=>[]
  |none=>[]
 | .indexAddr _ x ix=>match asL (ρ x),asI (ρ ix) with
  |some (_,_,n,_),some (_,e,lo,_)=>(if 0<=lo then [] else vC A (.int .i64 0) e)++gU A e n
  |_,_=>[]
 | .index _ x ix=>match asS (ρ x),asI (ρ ix) with
  |some (l,_),some (_,e,lo,_)=>(if 0<=lo then [] else vC A (.int .i64 0) e)++gU A e (xX 20 l)
  |_,_=>[]
 | .convert _ _ x=>cP A H (ρ x)
 | .call c=>match c.callee,c.args.toList.map ρ with
  | .builtin .append,[s,x]=>if aVW P c.argTypes then (match afU H x with
   |some (k,_)=>(match asL s with
    |some (B,_,n,cc)=>(rH A H B fun l=>vC A (ah5 cc) l)++vC A (yM n (.int .i64 k)) (.int .i64 1099511627776)
    |none=>[])
   |none=>[]) else (match agJ A H x with
   |some src=>(match asL s with
    |some (B,o,n,c)=>(rH A H B fun l=>vC A (yM o c) l)++(match H.get B with
     |some b=>(match b.seq with
      |some (.func (.yield 28) ⟨[q]⟩ ⟨[]⟩)=>vC A (xG 20 (iZ (oM A q o (yM o n)) src)) (.int .i64 4398046511104)
      |_=>[])
     |none=>[])
    |none=>[])
   |none=>match kG A H x with
    |some src=>(match aqE s with
     |some (B,o,n,c)=>(rH A H B fun l=>vC A (yM o c) l)++(match H.get B with
      |some b=>(match bQ b with
       |some q=>vC A (xX 20 (afV (mK A q o (yM o n)) src)) (.int .i64 70368744177664)
       |none=>[])
      |none=>[])
     |none=>gU A (.int .i64 0) (xX 20 src)++vC A (xX 20 src) (.int .i64 70368744177664))
    |none=>cP A H x)
  | .builtin .copy,[d,x]=>match asL d,kG A H x with
   |some (B,o,n,c),some src=>rH A H B fun l=>vC A (yM o (if vH A (fZ x src) n then fZ x src else n)) l
   |_,_=>cP A H x
  |_,_=>[]
 |_=>[]
def aNS(A:List Value)(ρ:Operand->Value)(H:AS)(o:Oper):Option (Bool × Value) :=
 match o.op with
 | .call c=>match c.callee,c.args.toList.map ρ with
  | .builtin .copy,[d,x]=>match asL d,kG A H x with
   |some (_,_,n,_),some src=>if vH A (fZ x src) n || vH A n (fZ x src) then none else some (false,nd2 31 n (fZ x src))
   |_,_=>none
  |_,_=>none
 |_=>none
def lC(A:List Value):Nat->Value->Value
 |0,e=>e
 |k+1,e=>match e with
  | .func (.yield 36) ⟨[a,b]⟩ ⟨[]⟩=>(match dec A 60 a with
   |some _=>lC A k b
   |none=>lC A k a)
  | .func (.yield 37) ⟨[a,b]⟩ ⟨[]⟩=>(match dec A 60 a with
   |some _=>lC A k b
   |none=>lC A k a)
  | .func (.yield 35) ⟨[a]⟩ ⟨[]⟩=>lC A k a
  |e=>e
mutual
def awN(P:Program)(pu:FuncId->Bool)(g:Nat->Option Nat)(call:yN)(A:List Value)(ops:Array Oper):Nat->Nat->List Oper->Tr Value->AS->Option (Bool × Value)
 |0,_,_,_,_=>none
 |k+1,n,l,F,H =>
  match l with
  |[]=>none
  |o::rest =>
   match (if oZ A then (match uM A ops n F o with
    |some (.grd c)=>some (false,lC A 20 c)
    |some .yes=>(match aop P A (aev { g:=g,A:=A,pu:=pu,m:=H.size } n F) H o with
     |some (.call f args)=>(match aS1 P pu g call A k f args H with
      |some (false,c)=>some (false,c)
      |_=>none)
     |_=>none)
    |_=>none) else none) with
   |some r=>some r
   |none =>
   match wT P { g:=g,A:=A,pu:=pu,m:=H.size } call ops n o F H with
   |some (v,H')=>(match sU n F o.dst v with
    |some F'=>awN P pu g call A ops k n rest F' H'
    |none=>none)
   |none =>
    match uM A ops n F o with
    |some .yes=>(match apH P A (aev { g:=g,A:=A,pu:=pu,m:=H.size } n F) H o with
     |c::_=>some (true,c)
     |[]=>(match aop P A (aev { g:=g,A:=A,pu:=pu,m:=H.size } n F) H o with
      |some (.call f args)=>aS1 P pu g call A k f args H
      |_=>aNS A (aev { g:=g,A:=A,pu:=pu,m:=H.size } n F) H o))
    |some (.grd c)=>(match apH P (({ g:=g,A:=A,pu:=pu,m:=H.size }:Gl).add c).A (aev (({ g:=g,A:=A,pu:=pu,m:=H.size }:Gl).add c) n F) H o with
     |m::_=>some (true,nd2 37 (vB c) m)
     |[]=>some (false,lC A 20 c))
    |_=>none
def aS1(P:Program)(pu:FuncId->Bool)(g:Nat->Option Nat)(call:yN)(A:List Value):Nat->FuncId->List Value->AS->Option (Bool × Value)
 |0,_,_,_=>none
 |k+1,f,args,H =>
  match P.funcs[f]? with
  |some fn=>(match fn.body with
   |some c=>(match jU P pu g call A k fn.ntmps c (qG args 0 .e) H with
    | .inl r=>r
    | .inr _=>none)
   |none=>none)
  |none=>none
def jU(P:Program)(pu:FuncId->Bool)(g:Nat->Option Nat)(call:yN)(A:List Value):Nat->Nat->Code->Tr Value->AS->Option (Bool × Value) ⊕ (AExit × Tr Value × AS)
 |0,_,_,_,_=>.inl none
 |k+1,n,c,F,H =>
  match c with
  | .skip=>.inr (.normal,F,H)
  | .label _=>.inr (.normal,F,H)
  | .region id ops d=>(match (if oZ A then (match awN P pu g call A ops k n ops.toList F H with
   |some (false,c)=>some c
   |_=>none) else none) with
   |some c=>.inl (some (false,c))
   |none=>match xY P pu { g:=g,A:=A,pu:=pu } call n 1 (.region id ops d) F H with
   |some r=>.inr r
   |none=>.inl (awN P pu g call A ops k n ops.toList F H))
  | .seq x y=>(match jU P pu g call A k n x F H with
   | .inr (.normal,F',H')=>jU P pu g call A k n y F' H'
   |r=>r)
  | .cond c x y=>(match aev { g:=g,A:=A,pu:=pu } n F c with
   | .bool t=>jU P pu g call A k n (if t then x else y) F H
   |v=>(match asB v with
    |none=>.inl none
    |some e=>(match dec A 60 e with
     |some t=>jU P pu g call A k n (if t then x else y) F H
     |none=>.inl (some (false,lC A 20 e)))))
  | .block id c=>(match jU P pu g call A k n c F H with
   | .inr (.exit id',F',H')=>if id'=id then .inr (.normal,F',H') else .inr (.exit id',F',H')
   |r=>r)
  | .exit id=>.inr (.exit id,F,H)
  | .scope c=>jU P pu g call A k n c F H
  | .ret=>.inr (.ret,F,H)
  |_=>.inl none
end
def oY(P:Program)(pu:FuncId->Bool)(g:Nat->Option Nat)(call:yN)(n:Nat):Array Oper->List Oper->List Value->Tr Value->AS->Option (Bool × Value) :=
 fun ops l A F H=>awN P pu g call A ops 300 n l F H
end
noncomputable section
theorem Facts.ofP{V:Ren}:∀ {l:List TB},zF V l->(∀ t∈l,t.ok V.length=true)->Facts V (l.map TB.enc)
 |[],_,_=>fun a h=>by cases h
 |t::l,h,hk=>fun a ha=>by
  rcases List.mem_cons.1 ha with rfl|ha
  .exact⟨t,rfl,hk t (by simp),(TB.P_iff V t).2 h.1⟩
  .exact Facts.ofP h.2 (fun x hx=>hk x (by simp[hx])) a ha
def zsT:Nat->TL
 |0=>.one (.lit 0)
 |n+1=>.app (.one (.lit 0)) (zsT n)
theorem afB(V:Ren):∀(n:Nat),(zsT n).den V=List.replicate (n+1) 0
 |0=>rfl
 |n+1=>by simp only[zsT,TL.den,afB V n];rfl
inductive BdT where
 |blk (B:Nat)
 |itm (e:TI)
 |ltm (e:TL)
 |btm (e:TB)
 |idn
 |opq (k:Nat)
 |val (v:Value)
 |ntm (e:TN)
 |new (B:Nat)
def BdT.enc(i:Nat):BdT->Bd
 | .blk B=>.blk B
 | .itm e=>.itm e.enc
 | .ltm e=>.ltm e.enc
 | .btm e=>.btm e.enc
 | .idn=>.val (.map (some (3*i+1)))
 | .opq k=>.val (.map (some (3*k+1)))
 | .val v=>.val v
 | .ntm e=>.ntm e.enc
 | .new B=>.blk B
abbrev SgT:=List (Nat × BdT)
def SgT.enc(σ:SgT):Sg:=σ.map fun p=>(p.1,p.2.enc p.1)
def BdT.P(V V1:Ren)(i:Nat):BdT->Prop
 | .blk B=>V1[i]?=V[B]?
 | .itm e=>gI V1 i=e.den V
 | .ltm e=>gL V1 i=e.den V
 | .btm e=>(gB V1 i=true↔e.P V)
 | .idn=>True
 | .opq k=>gV V1 i=gV V k
 | .val v=>∃ u,VR V v u/\gV V1 i=some u
 | .ntm e=>gN V1 i=e.den V
 | .new _=>True
def wA(V V1:Ren):SgT->Prop
 |[]=>True
 |(i,b)::σ=>b.P V V1 i/\wA V V1 σ
theorem VR.opq_inv{V:Ren}{k:Nat}{u:Value}(h:VR V (.map (some (3*k+1))) u):gV V k=some u:=by
 generalize hz:(Value.map (some (3*k+1)))=z at h;cases h<;>try cases hz
 .exfalso;have e:=Option.some.inj (Value.map.inj hz);omega
 .rename_i j' h' e1 e2;have e:=Option.some.inj (Value.map.inj hz);have:k=j':=by omega
  subst this;simp[gV,e1]
 .exfalso;have e:=Option.some.inj (Value.map.inj hz);omega
 .exfalso;have e:=Option.some.inj (Value.map.inj hz);omega
 .exfalso;have e:=Option.some.inj (Value.map.inj hz);omega
theorem BdT.P_of{V V1:Ren}{i:Nat}{b:BdT}(h:aaU V (b.enc i) V1[i]?):b.P V V1 i:=by
 cases b with
 |blk B=>obtain⟨q,h1,h2⟩:=h;exact h2.trans h1.symm
 |itm e =>
  obtain⟨t,h1,_,h3⟩:=h;have:=TI.inj _ _ h1;subst this;simp[BdT.P,gI,TI.den,h3,kR]
 |ltm e =>
  obtain⟨t,h1,_,h3⟩:=h;have:=TL.inj _ _ h1;subst this;simp[BdT.P,gL,TL.den,h3,pG]
 |btm e =>
  obtain⟨t,h1,_,h3⟩:=h;have:=TB.inj _ _ h1;subst this;simp only[BdT.P,gB,TB.den,h3,auN];exact TB.P_iff V _
 |idn=>trivial
 |opq k =>
  obtain⟨_,u,h1,h2,h3⟩:=h;simp only[BdT.P];rw[h1.opq_inv];simp[gV,h3]
 |val v =>
  obtain⟨_,u,h1,h2,h3⟩:=h;exact⟨u,h1,by simp[gV,h3]⟩
 |ntm e =>
  obtain⟨t,h1,_,h3⟩:=h;have:=TN.inj _ _ h1;subst this;simp[BdT.P,gN,TN.den,h3,w8]
 |new B=>trivial
def wR(m:Nat):SgT->List Nat->Bool
 |[],_=>true
 |(i,_)::σ,l=>Nat.blt i m&&(!(l.any (Nat.beq i))&&wR m σ (i::l))
theorem oP{m:Nat}:∀ {σ:SgT} {l:List Nat},wR m σ l=true->∀ p∈σ,p.1 ∉ l/\p.1<m
 |[],_,_,p,hp=>by cases hp
 |(i,b)::σ,l,h,p,hp=>by
  simp only[wR,Bool.and_eq_true,Bool.not_eq_true']at h;rcases List.mem_cons.1 hp with rfl|hp
  .refine⟨fun hm=>?_,Nat.le_of_ble_eq_true h.1⟩;have:l.any (Nat.beq i)=true:=List.any_eq_true.2 ⟨i,hm,Nat.beq_refl i⟩;rw[h.2.1]at this;cases this
  .have:=oP h.2.2 p hp;exact⟨fun hm=>this.1 (List.mem_cons_of_mem _ hm),this.2⟩
theorem Inst.get_of{V:Ren}{m:Nat}{V1:Ren}{σ:SgT}(hI:Inst V σ.enc m V1)(hk:wR m σ []=true):∀ p∈σ,aaU V (p.2.enc p.1) V1[p.1]?:=by
 have key:∀ (σ:SgT) (l:List Nat),wR m σ l=true->∀ p∈σ,σ.enc.get p.1=some (p.2.enc p.1):=by
  intro σ;induction σ with
  |nil=>intro l _ p hp;cases hp
  |cons q σ ih =>
   intro l h p hp;obtain⟨i,b⟩:=q;rcases List.mem_cons.1 hp with rfl|hp'
   .exact Sg.get_cons_self _ _ _
   .simp only[wR,Bool.and_eq_true,Bool.not_eq_true']at h;have hne:p.1≠i:=fun e=>(oP h.2.2 p hp').1 (by rw[e];simp);show Sg.get ((i,b.enc i)::SgT.enc σ) p.1=_;simp only[Sg.get];rw[if_neg (by intro e;exact hne (Nat.eq_of_beq_eq_true e))];exact ih _ h.2.2 p hp'
 intro p hp;exact hI.get _ _ (key σ [] hk p hp) (oP hk p hp).2
theorem Inst.toP{V:Ren}{m:Nat}{V1:Ren}{σ:SgT}(hI:Inst V σ.enc m V1)(hk:wR m σ []=true):wA V V1 σ:=by
 have h:=hI.get_of hk;clear hk hI;induction σ with
 |nil=>trivial
 |cons q σ ih=>exact⟨BdT.P_of (h q (by simp)),ih fun p hp=>h p (by simp[hp])⟩
def BdT.isIdn:BdT->Bool
 | .idn=>true
 |_=>false
def idns(σ:SgT):List Nat:=(σ.filter fun p=>p.2.isIdn).map (·.1)
theorem Inst.idns{V:Ren}{m:Nat}{V1:Ren}{σ:SgT}(hI:Inst V σ.enc m V1)(hk:wR m σ []=true):∀ i∈idns σ,gV V1 i=gV V i:=by
 intro i hi;unfold Go.SM.idns at hi;obtain⟨p,hp,rfl⟩:=List.mem_map.1 hi;obtain⟨hp1,hp2⟩:=List.mem_filter.1 hp;obtain⟨j,b⟩:=p;cases b<;>simp[BdT.isIdn]at hp2;obtain⟨_,u,h1,h2,h3⟩:=hI.get_of hk _ hp1;have:=h1.opq_inv;simp only at *;rw[this];simp[gV,h3]
theorem TB.P_app{V γ:Ren}{t:TB}(h:t.ok V.length=true):t.P (V++γ)↔t.P V:=by
 rw[<-TB.P_iff,<-TB.P_iff,TB.den_app V γ t h]
theorem zF.app{V γ:Ren}:∀ {l:List TB},l.all (fun t=>t.ok V.length)=true->zF (V++γ) l->zF V l
 |[],_,_=>trivial
 |t::l,h,hf=>by
  rw[List.all_cons,Bool.and_eq_true]at h;exact⟨(TB.P_app h.1).1 hf.1,zF.app h.2 hf.2⟩
def okI(n:Nat)(v:Value):Bool:=match v with
 | .func (.yield 0) ⟨[.int kp z,.map (some i),.int .i64 lo,.int .i64 hi]⟩ ⟨[]⟩=>decide (z=0)&&Nat.blt i n
 |_=>false
theorem am3{V γ:Ren}{v u:Value}(hc:okI V.length v=true)(h:VR (V++γ) v u):VR V v u:=by
 unfold okI at hc;split at hc
 .rename_i kp z i lo hi;rw[Bool.and_eq_true,decide_eq_true_eq]at hc;obtain⟨rfl,hi'⟩:=hc;have hlt:i<V.length:=Nat.le_of_ble_eq_true hi';obtain⟨t,h1,h2,rfl,h4,h5⟩:=yK (k:=kp) (e:=.map (some i)) (lo:=lo) (hi:=hi) h (by simp[asI]);have:t=.var i:=TI.inj t (.var i) h1.symm;subst this;have ok:(TI.var i).ok V.length=true:=by simp only[TI.ok];exact decide_eq_true hlt
  rw[TI.den_app V γ _ ok]at h4 h5 ⊢;exact .symI kp (.var i) lo hi ok h4 h5
 .cases hc
def BdT.ok(n:Nat):BdT->Bool
 | .blk B=>Nat.blt B n
 | .itm e=>e.ok n
 | .ltm e=>e.ok n
 | .btm e=>e.ok n
 | .idn=>true
 | .opq k=>Nat.blt k n
 | .val v=>zL v || okI n v
 | .ntm e=>e.ok n
 | .new _=>true
theorem BdT.P_app{V γ V1:Ren}{i:Nat}{b:BdT}(h:b.ok V.length=true)(hp:b.P (V++γ) V1 i):b.P V V1 i:=by
 cases b with
 |blk B =>
  simp only[BdT.ok,BdT.P]at *;rw[hp,List.getElem?_append_left (Nat.le_of_ble_eq_true h)]
 |itm e=>simp only[BdT.ok,BdT.P]at *;rw[hp,TI.den_app V γ e h]
 |ltm e=>simp only[BdT.ok,BdT.P]at *;rw[hp,TL.den_app V γ e h]
 |ntm e=>simp only[BdT.ok,BdT.P]at *;rw[hp,TN.den_app V γ e h]
 |new B=>trivial
 |btm e=>simp only[BdT.ok,BdT.P]at *;rw[hp,TB.P_app h]
 |idn=>trivial
 |opq k =>
  simp only[BdT.ok,BdT.P,gV]at *;rw[hp,List.getElem?_append_left (Nat.le_of_ble_eq_true h)]
 |val v =>
  obtain⟨u,h1,h2⟩:=hp;refine⟨u,?_,h2⟩;simp only[BdT.ok,Bool.or_eq_true]at h;rcases h with h|h
  .have:=h1.eq_of_ground h;subst this;exact VR.of_ground h
  .exact am3 h h1
theorem wA.app{V γ V1:Ren}:∀ {σ:SgT},σ.all (fun p=>p.2.ok V.length)=true->wA (V++γ) V1 σ->wA V V1 σ
 |[],_,_=>trivial
 |(i,b)::σ,h,hf=>by
  rw[List.all_cons,Bool.and_eq_true]at h;exact⟨BdT.P_app h.1 hf.1,wA.app h.2 hf.2⟩
theorem avF{G:Goal}{V:Ren}{n j m h:Nat}{rs A:List TB}{σ:SgT}(op:List Nat)(hn:V.length=n)(hk:wR m σ []=true)(hA:A.all (fun t=>t.ok n)=true)(hS:σ.all (fun p=>p.2.ok n)=true)
    (hop:op.all (fun i=>(idns σ).any (Nat.beq i)&&Nat.blt i n)=true) (H:∀ V1,V1.length=m->zF V A->zF V1 rs->(∀ i∈op,gV V1 i=gV V i)->wA V V1 σ->G.J j V1) :
    (Tre.leaf j m h rs σ.enc (A.map TB.enc)).Holds G V:=by
 subst hn
 intro γ _ hf V1 hI hr
 refine H V1 hI.len (zF.app hA hf.toP) hr (fun i hi=>?_) (wA.app hS (hI.toP hk))
 have:=List.all_eq_true.1 hop i hi
 rw[Bool.and_eq_true]at this
 obtain⟨x,hx,he⟩:=List.any_eq_true.1 this.1
 have:=Nat.eq_of_beq_eq_true he
 subst this
 rw[hI.idns hk i hx]
 simp only[gV]
 rw[List.getElem?_append_left (Nat.le_of_ble_eq_true (by assumption:_/\_).2)]
theorem arQ{G:Goal}{V:Ren}{n j m h:Nat}{rs A:List TB}{σ:SgT}(op:List Nat)(hn:V.length=n)(hk:wR m σ []=true)
    (hop:op.all (fun i=>(idns σ).any (Nat.beq i)&&Nat.blt i n)=true) (H:∀ γ V1,V1.length=m->zF (V++γ) A->zF V1 rs->(∀ i∈op,gV V1 i=gV V i)->wA (V++γ) V1 σ->G.J j V1) :
    (Tre.leaf j m h rs σ.enc (A.map TB.enc)).Holds G V:=by
 subst hn
 intro γ _ hf V1 hI hr
 refine H γ V1 hI.len hf.toP hr (fun i hi=>?_) (hI.toP hk)
 have:=List.all_eq_true.1 hop i hi
 rw[Bool.and_eq_true]at this
 obtain⟨x,hx,he⟩:=List.any_eq_true.1 this.1
 have:=Nat.eq_of_beq_eq_true he
 subst this
 rw[hI.idns hk i hx]
 simp only[gV]
 rw[List.getElem?_append_left (Nat.le_of_ble_eq_true (by assumption:_/\_).2)]
theorem N1{G:Goal}{V:Ren}{n j m h:Nat}{rs A:List TB}{σ:SgT}{c:Code}{ts:Tre}(op:List Nat)(hn:V.length=n)(hk:wR m σ []=true)(hA:A.all (fun t=>t.ok n)=true)(hS:σ.all (fun p=>p.2.ok n)=true)
    (hop:op.all (fun i=>(idns σ).any (Nat.beq i)&&Nat.blt i n)=true) (hW:G.W j c) (H:∀ V1,V1.length=m->zF V A->zF V1 rs->(∀ i∈op,gV V1 i=gV V i)->wA V V1 σ->G.L j V1/\ts.HoldsO G j 0 V1) :
    (Tre.loop j m h rs c σ.enc (A.map TB.enc) ts).Holds G V:=by
 subst hn
 refine⟨hW,fun γ _ hf V1 hI hr=>H V1 hI.len (zF.app hA hf.toP) hr (fun i hi=>?_) (wA.app hS (hI.toP hk))⟩
 have:=List.all_eq_true.1 hop i hi
 rw[Bool.and_eq_true]at this
 obtain⟨x,hx,he⟩:=List.any_eq_true.1 this.1
 have:=Nat.eq_of_beq_eq_true he
 subst this
 rw[hI.idns hk i hx]
 simp only[gV]
 rw[List.getElem?_append_left (Nat.le_of_ble_eq_true (by assumption:_/\_).2)]
theorem fO{G:Goal}{V:Ren}{t f:Tre}(h1:t.Holds G V)(h2:f.Holds G V):(Tre.fork t f).Holds G V:=⟨h1,h2⟩
theorem av0{G:Goal}{V:Ren}{n h:Nat}{A:List TB}{c:TB}{t:Tre}(hn:V.length=n)(hA:A.all (fun t=>t.ok n)=true)(hc:c.ok n=true)(H:zF V A->c.P V)(ht:t.Holds G V) :
    (Tre.need h (A.map TB.enc) c.enc t).Holds G V:=by
 subst hn
 refine⟨fun γ _ hf x hx=>?_,ht⟩
 have:=TB.inj _ _ hx
 subst this
 rw[TB.P_iff,TB.P_app hc]
 exact H (zF.app hA hf.toP)
theorem oN{G:Goal}{j i:Nat}{V1:Ren}:Tre.nil.HoldsO G j i V1:=trivial
theorem oC{G:Goal}{j i:Nat}{V1:Ren}{rs:List TB}{t ts:Tre}(h:∀ V2,zF V2 rs->G.O j i V1 V2->t.Holds G V2)(h2:ts.HoldsO G j (i+1) V1):(Tre.cons rs t ts).HoldsO G j i V1:=⟨h,h2⟩
theorem zE{V γ:Ren}{n m:Nat}(h:V.length=n)(h2:γ.length=m):(V++γ).length=n+m:=by rw[List.length_append,h,h2]
theorem ai7{V γ:Ren}{n:Nat}(h:V.length=n){i:Nat}(hi:i<n):(V++γ)[i]?=V[i]?:=List.getElem?_append_left (by omega)
theorem aiD{V γ:Ren}{n:Nat}(h:V.length=n){i:Nat}(hi:n<=i):(V++γ)[i]?=γ[i-n]?:=by subst h;exact List.getElem?_append_right hi
theorem aSA{V γ:Ren}{n:Nat}(h:V.length=n){i:Nat}(hi:i<n):gI (V++γ) i=gI V i:=by simp only[gI,TI.den,ai7 h hi]
theorem aZ0{V γ:Ren}{n:Nat}(h:V.length=n){i:Nat}(hi:n<=i):gI (V++γ) i=gI γ (i-n):=by simp only[gI,TI.den,aiD h hi]
theorem aZK{V γ:Ren}{n:Nat}(h:V.length=n){i:Nat}(hi:i<n):gL (V++γ) i=gL V i:=by simp only[gL,TL.den,ai7 h hi]
theorem aY7{V γ:Ren}{n:Nat}(h:V.length=n){i:Nat}(hi:n<=i):gL (V++γ) i=gL γ (i-n):=by simp only[gL,TL.den,aiD h hi]
theorem aY9{V γ:Ren}{n:Nat}(h:V.length=n){i:Nat}(hi:i<n):gN (V++γ) i=gN V i:=by simp only[gN,TN.den,ai7 h hi]
theorem aY6{V γ:Ren}{n:Nat}(h:V.length=n){i:Nat}(hi:n<=i):gN (V++γ) i=gN γ (i-n):=by simp only[gN,TN.den,aiD h hi]
theorem aZE{V γ:Ren}{n:Nat}(h:V.length=n){i:Nat}(hi:i<n):gB (V++γ) i=gB V i:=by simp only[gB,TB.den,ai7 h hi]
theorem aZF{V γ:Ren}{n:Nat}(h:V.length=n){i:Nat}(hi:n<=i):gB (V++γ) i=gB γ (i-n):=by simp only[gB,TB.den,aiD h hi]
theorem aSB{V γ:Ren}{n:Nat}(h:V.length=n){i:Nat}(hi:i<n):gV (V++γ) i=gV V i:=by simp only[gV,ai7 h hi]
theorem aY5{V γ:Ren}{n:Nat}(h:V.length=n){i:Nat}(hi:n<=i):gV (V++γ) i=gV γ (i-n):=by simp only[gV,aiD h hi]
theorem uU{V γ V1:Ren}{n:Nat}{op:List Nat}(h:V.length=n)(ho:op.all (fun i=>Nat.blt i n)=true)(hid:∀ i∈op,gV V1 i=gV (V++γ) i):∀ i∈op,gV V1 i=gV V i :=
 fun i hi=>(hid i hi).trans (aSB h (Nat.le_of_ble_eq_true (List.all_eq_true.1 ho i hi)))
theorem au7{G:Goal}{V:Ren}{n j m:Nat}{rs A:List TB}{σ:SgT}{ts:Tre}(op:List Nat)(hn:V.length=n)(hk:wR m σ []=true)
    (hop:op.all (fun i=>(idns σ).any (Nat.beq i)&&Nat.blt i n)=true) (H:∀ V1,V1.length=m->zF V A->zF V1 rs->(∀ i∈op,gV V1 i=gV V i)->wA V V1 σ->G.CL j V1/\ts.HoldsC G j 0 V V1) :
    (Tre.call j m n rs σ.enc (A.map TB.enc) ts).Holds G V:=by
 subst hn
 intro γ hγ hf V1 hI hr
 have:γ=[]:=List.eq_nil_of_length_eq_zero (by rw[List.length_append]at hγ;omega)
 subst this
 rw[List.append_nil]at hf hI ⊢
 refine H V1 hI.len hf.toP hr (fun i hi=>?_) (hI.toP hk)
 have:=List.all_eq_true.1 hop i hi
 rw[Bool.and_eq_true]at this
 obtain⟨x,hx,he⟩:=List.any_eq_true.1 this.1
 have:=Nat.eq_of_beq_eq_true he
 subst this
 exact hI.idns hk i hx
theorem aN{G:Goal}{j i:Nat}{V' V1:Ren}:Tre.nil.HoldsC G j i V' V1:=trivial
theorem aC{G:Goal}{j i:Nat}{V' V1:Ren}{rs:List TB}{t ts:Tre}(h:∀ V2,zF V2 rs->G.CO j i V1 V2->t.Holds G (V'++V2))(h2:ts.HoldsC G j (i+1) V' V1):(Tre.cons rs t ts).HoldsC G j i V' V1:=⟨h,h2⟩
theorem aZX(V:Ren):zF V []=True:=rfl
theorem aZM(V:Ren)(t:TB)(l:List TB):zF V (t::l)=(t.P V/\zF V l):=rfl
theorem aY1(V V1:Ren):wA V V1 []=True:=rfl
theorem a0J(V V1:Ren)(i:Nat)(b:BdT)(σ:SgT):wA V V1 ((i,b)::σ)=(b.P V V1 i/\wA V V1 σ):=rfl
theorem D_b(V V1:Ren)(i:Nat):(∀ B,BdT.P V V1 i (.blk B)=(V1[i]?=V[B]?))/\(∀ e,BdT.P V V1 i (.itm e)=(gI V1 i=e.den V))/\(∀ e,BdT.P V V1 i (.ltm e)=(gL V1 i=e.den V))/\(∀ e,BdT.P V V1 i (.btm e)=(gB V1 i=true↔e.P V))/\BdT.P V V1 i .idn=True/\(∀ k,BdT.P V V1 i (.opq k)=(gV V1 i=gV V k))/\(∀ v,BdT.P V V1 i (.val v)=∃ u,VR V v u/\gV V1 i=some u)/\(∀ e,BdT.P V V1 i (.ntm e)=(gN V1 i=e.den V))/\(∀ B,BdT.P V V1 i (.new B)=True) :=
 ⟨fun _=>rfl,fun _=>rfl,fun _=>rfl,fun _=>rfl,rfl,fun _=>rfl,fun _=>rfl,fun _=>rfl,fun _=>rfl⟩
theorem D_t(V:Ren):(∀ b,(TB.lit b).P V=(b=true))/\(∀ i,(TB.var i).P V=(gB V i=true))/\(∀ a b,(TB.lt a b).P V=(a.den V<b.den V))/\(∀ a b,(TB.le a b).P V=(a.den V<=b.den V))/\(∀ a b,(TB.eq a b).P V=(a.den V=b.den V))/\(∀ a b,(TB.eqL a b).P V=(a.den V=b.den V))/\(∀ a,(TB.not a).P V=¬ a.P V)/\(∀ a b,(TB.and a b).P V=(a.P V/\b.P V))/\(∀ a b,(TB.or a b).P V=(a.P V\/b.P V))/\(∀ c a b,(TB.ite c a b).P V=((c.P V/\a.P V)\/(¬ c.P V/\b.P V)))/\(∀ i x y z l m,(TB.pred i x y z l m).P V=(ahE V[i]? [x.den V,y.den V,z.den V] [l.den V,m.den V]=true)) :=
 ⟨fun _=>rfl,fun _=>rfl,fun _ _=>rfl,fun _ _=>rfl,fun _ _=>rfl,fun _ _=>rfl,fun _=>rfl,fun _ _=>rfl,fun _ _=>rfl,fun _ _ _=>rfl,fun _ _ _ _ _ _=>rfl⟩
theorem a0A(a b:Int):IOp.fn .add a b=a+b:=rfl
theorem aZC(a b:Int):IOp.fn .sub a b=a-b:=rfl
theorem LL:(∀(i:Nat)(l:List UInt8),(List.drop i l).length=l.length-i)/\(∀(i:Nat)(l:List UInt8),(List.take i l).length=min i l.length)/\(∀(i:Nat)(l:List Int),(List.drop i l).length=l.length-i)/\(∀(i:Nat)(l:List Int),(List.take i l).length=min i l.length):=⟨fun _ _=>List.length_drop,fun _ _=>List.length_take,fun _ _=>List.length_drop,fun _ _=>List.length_take⟩
def dn(a:Nat):Nat->List Nat
 |0=>[]
 |n+1=>a::dn (a-1) n
def ids:List Nat->SgT
 |[]=>[]
 |i::l=>(i,.idn)::ids l
theorem aVL(V V1:Ren)(l:List Nat)(σ:SgT):wA V V1 (ids l++σ)=wA V V1 σ:=by
 induction l with
 |nil=>rfl
 |cons i l ih=>show (True/\_)=_;rw[true_and];exact ih
theorem ad3(V:Ren)(a b c d:TI):(TI.ite (.eq a b) c d).den V=if a.den V=b.den V then c.den V else d.den V:=by
 simp only[TI.den,TB.den,decide_eq_true_eq]
instance (n : Nat) : OfNat TI n := ⟨.lit n⟩
instance : Add TI := ⟨.op .add⟩
instance : Sub TI := ⟨.op .sub⟩
instance : Mul TI := ⟨.op .mul⟩
abbrev v(i : Nat) : TI := .var i
abbrev N(i : Nat) : TI := .lit (-i)
abbrev sb(i : Nat)(e : TI) : TI := .sel (.var i) e
abbrev sn(i : Nat)(e : TI) : TI := .selN (.var i) e
abbrev lb(i : Nat) : TI := .len (.var i)
abbrev ln(i : Nat) : TI := .lenN (.var i)
abbrev nl(a b : TI) : TB := .not (.lt a b)
abbrev nq(a b : TI) : TB := .not (.eq a b)
abbrev im(i : Nat) : Nat × BdT := (i, .itm (.var i))
abbrev ij(i j : Nat) : Nat × BdT := (i, .itm (.var j))
abbrev ik(i : Nat)(n : Int) : Nat × BdT := (i, .itm (.lit n))
abbrev lm(i : Nat) : Nat × BdT := (i, .ltm (.var i))
abbrev lj(i j : Nat) : Nat × BdT := (i, .ltm (.var j))
abbrev nm(i : Nat) : Nat × BdT := (i, .ntm (.var i))
abbrev nj(i j : Nat) : Nat × BdT := (i, .ntm (.var j))
abbrev bm(i : Nat) : Nat × BdT := (i, .blk i)
abbrev bj(i j : Nat) : Nat × BdT := (i, .blk j)
abbrev rv(i : Nat)(a b : Int) : Value := .func (.yield 0) #[.int .i64 0, .map (some i), .int .i64 a, .int .i64 b] #[]
theorem D_n(V : Ren)(n : Nat) : TI.den V (no_index (OfNat.ofNat n)) = (OfNat.ofNat n : Int) := rfl
theorem D_a(V : Ren)(a b : TI) : (a+b).den V = a.den V+b.den V := rfl
theorem D_s(V : Ren)(a b : TI) : (a-b).den V = a.den V-b.den V := rfl
theorem D_m(V : Ren)(a b : TI) : (a*b).den V = a.den V*b.den V := rfl
theorem DD:(∀(V:Ren)(n:Nat),TI.den V (no_index (OfNat.ofNat n))=(OfNat.ofNat n:Int))/\(∀(V:Ren)(a b:TI),(a+b).den V=a.den V+b.den V)/\(∀(V:Ren)(a b:TI),(a-b).den V=a.den V-b.den V)/\(∀(V:Ren)(a b:TI),(a*b).den V=a.den V*b.den V)/\(∀(V:Ren),zF V []=True)/\(∀(V V1:Ren)(l:List Nat)(σ:SgT),wA V V1 (ids l++σ)=wA V V1 σ)/\(∀(V:Ren)(t:TB)(l:List TB),zF V (t::l)=(TB.P V t/\zF V l))/\(∀(V V1:Ren),wA V V1 []=True)/\(∀(V V1:Ren)(i:Nat)(b:BdT)(σ:SgT),wA V V1 ((i,b)::σ)=(BdT.P V V1 i b/\wA V V1 σ))/\(∀(V V1:Ren)(i:Nat),(∀(B:Nat),BdT.P V V1 i (BdT.blk B)=(V1[i]?=V[B]?))/\(∀(e:TI),BdT.P V V1 i (BdT.itm e)=(gI V1 i=TI.den V e))/\(∀(e:TL),BdT.P V V1 i (BdT.ltm e)=(gL V1 i=TL.den V e))/\(∀(e:TB),BdT.P V V1 i (BdT.btm e)=(gB V1 i=true↔TB.P V e))/\BdT.P V V1 i BdT.idn=True/\(∀(k:Nat),BdT.P V V1 i (BdT.opq k)=(gV V1 i=gV V k))/\(∀(v:Value),BdT.P V V1 i (BdT.val v)=∃ u,VR V v u/\gV V1 i=some u)/\(∀(e:TN),BdT.P V V1 i (BdT.ntm e)=(gN V1 i=TN.den V e))/\∀(B:Nat),BdT.P V V1 i (BdT.new B)=True)/\(∀(V:Ren),(∀(b:Bool),TB.P V (TB.lit b)=(b=true))/\(∀(i:Nat),TB.P V (TB.var i)=(gB V i=true))/\(∀(a b:TI),TB.P V (TB.lt a b)=(TI.den V a<TI.den V b))/\(∀(a b:TI),TB.P V (TB.le a b)=(TI.den V a<=TI.den V b))/\(∀(a b:TI),TB.P V (TB.eq a b)=(TI.den V a=TI.den V b))/\(∀(a b:TL),TB.P V (TB.eqL a b)=(TL.den V a=TL.den V b))/\(∀(a:TB),TB.P V a.not=¬TB.P V a)/\(∀(a b:TB),TB.P V (a.and b)=(TB.P V a/\TB.P V b))/\(∀(a b:TB),TB.P V (a.or b)=(TB.P V a\/TB.P V b))/\(∀(c a b:TB),TB.P V (c.ite a b)=(TB.P V c/\TB.P V a\/¬TB.P V c/\TB.P V b))/\∀(i:Nat)(x y z:TI)(l m:TL),TB.P V (TB.pred i x y z l m)=(ahE V[i]? [TI.den V x,TI.den V y,TI.den V z] [TL.den V l,TL.den V m]=true))/\(∀(a b:Int),IOp.add.fn a b=a+b)/\(∀(a b:Int),IOp.sub.fn a b=a-b)/\(∀(V:Ren)(i:Nat),TN.den V (TN.var i)=gN V i)/\(∀(V:Ren)(l:TN),TI.den V (TI.lenN l)=↑(TN.den V l).length)/\(∀(V:Ren)(l:TN)(i:TI),TI.den V (TI.selN l i)=(TN.den V l).getD (TI.den V i).toNat 0)/\(∀(V:Ren),TN.den V TN.nil=[])/\(∀(V:Ren)(v:TI),TN.den V (TN.one v)=[TI.den V v])/\(∀(V:Ren)(l m:TN),TN.den V (l.app m)=TN.den V l++TN.den V m)/\(∀(V:Ren)(l:TN)(a b:TI),TN.den V (l.sub a b)=List.drop (TI.den V a).toNat (List.take (TI.den V b).toNat (TN.den V l)))/\(∀(V:Ren)(n:Nat),TL.den V (zsT n)=List.replicate (n+1) 0)/\(∀(V:Ren)(n:Int),TI.den V (TI.lit n)=n)/\(∀(V:Ren)(i:Nat),TI.den V (TI.var i)=gI V i)/\(∀(V:Ren)(i:Nat),TL.den V (TL.var i)=gL V i)/\(∀(V:Ren)(l:List UInt8),TL.den V (TL.lit l)=l)/\(∀(V:Ren)(o:IOp)(a b:TI),TI.den V (TI.op o a b)=o.fn (TI.den V a) (TI.den V b))/\(∀(V:Ren)(k:IntKind)(a:TI),TI.den V (TI.wrap k a)=k.wrap (TI.den V a))/\(∀(V:Ren)(l:TL),TI.den V (TI.len l)=↑(TL.den V l).length)/\(∀(V:Ren)(l:TL)(i:TI),TI.den V (TI.sel l i)=↑((TL.den V l).getD (TI.den V i).toNat 0).toNat)/\(∀(V:Ren)(l:TL)(i v:TI),TL.den V (l.set i v)=(TL.den V l).set (TI.den V i).toNat (UInt8.ofNat (TI.den V v).toNat))/\(∀(V:Ren)(v:TI),TL.den V (TL.one v)=[UInt8.ofNat (TI.den V v).toNat])/\(∀(V:Ren)(l:TL)(a b:TI),TL.den V (l.sub a b)=List.drop (TI.den V a).toNat (List.take (TI.den V b).toNat (TL.den V l)))/\(∀(V:Ren)(l:TL)(i:TI)(m:TL),TL.den V (l.put i m)=putAt (TL.den V l) (TI.den V i).toNat (TL.den V m))/\(∀(V:Ren)(l m:TL),TL.den V (l.app m)=TL.den V l++TL.den V m)/\(∀(V:Ren)(a b c d:TI),TI.den V (TI.ite (TB.eq a b) c d)=if TI.den V a=TI.den V b then TI.den V c else TI.den V d)/\(∀(p:Prop),(True/\p)=p)/\∀(p:Prop),(p/\True)=p:=And.intro D_n <| And.intro D_a <| And.intro D_s <| And.intro D_m <| And.intro aZX <| And.intro aVL <| And.intro aZM <| And.intro aY1 <| And.intro a0J <| And.intro D_b <| And.intro D_t <| And.intro a0A <| And.intro aZC <| And.intro @arZ <| And.intro @aoJ <| And.intro @an9 <| And.intro @ajM <| And.intro @apF <| And.intro @aq7 <| And.intro @alD <| And.intro @afB <| And.intro @xW <| And.intro @xT <| And.intro @ak0 <| And.intro @ar1 <| And.intro @aOO <| And.intro @auC <| And.intro @av9 <| And.intro @av5 <| And.intro @apK <| And.intro @akE <| And.intro @atJ <| And.intro @alJ <| And.intro @alA <| And.intro ad3 <| And.intro @true_and @and_true
theorem aL{V γ:Ren}{n:Nat}(h:V.length=n):(∀ i,i<n->gI (V++γ) i=gI V i)/\(∀ i,i<n->gL (V++γ) i=gL V i)/\(∀ i,i<n->gB (V++γ) i=gB V i)/\(∀ i,i<n->(V++γ)[i]?=V[i]?)/\(∀ i,i<n->gV (V++γ) i=gV V i)/\(∀ i,i<n->gN (V++γ) i=gN V i) :=
 ⟨fun _=>aSA h,fun _=>aZK h,fun _=>aZE h,fun _=>ai7 h,fun _=>aSB h,fun _=>aY9 h⟩
theorem aA{V γ:Ren}{n:Nat}(h:V.length=n):((∀ i,i<n->gI (V++γ) i=gI V i)/\(∀ i,i<n->gL (V++γ) i=gL V i)/\(∀ i,i<n->gB (V++γ) i=gB V i)/\(∀ i,i<n->(V++γ)[i]?=V[i]?)/\(∀ i,i<n->gV (V++γ) i=gV V i)/\(∀ i,i<n->gN (V++γ) i=gN V i))/\(∀ i,gI (V++γ) (i+n)=gI γ i)/\(∀ i,gL (V++γ) (i+n)=gL γ i)/\(∀ i,gB (V++γ) (i+n)=gB γ i)/\(∀ i:Nat,(V++γ)[i+n]?=γ[i]?)/\(∀ i,gV (V++γ) (i+n)=gV γ i)/\(∀ i,gN (V++γ) (i+n)=gN γ i) := by
 have a:∀ i,n<=i+n:=fun i=>Nat.le_add_left n i;have e:∀ i:Nat,i+n-n=i:=fun i=>Nat.add_sub_cancel i n;exact⟨aL h,fun i=>by rw[aZ0 h (a i),e],fun i=>by rw[aY7 h (a i),e],fun i=>by rw[aZF h (a i),e],fun i=>by rw[aiD h (a i),e],fun i=>by rw[aY5 h (a i),e],fun i=>by rw[aY6 h (a i),e]⟩
theorem lG{G:Goal}{V:Ren}{n j m h:Nat}{rs A:List TB}{σ:SgT}(op:List Nat)(hn:V.length=n)(H:∀ γ V1,V1.length=m->zF (V++γ) A->zF V1 rs->(∀ i∈op,gV V1 i=gV V i)->wA (V++γ) V1 σ->G.J j V1)(hk:wR m σ []=true:=by kernel_rfl)(hop:op.all (fun i=>(idns σ).any (Nat.beq i)&&Nat.blt i n)=true:=by kernel_rfl):(Tre.leaf j m h rs σ.enc (A.map TB.enc)).Holds G V:=arQ op hn hk hop H
theorem cO{G:Goal}{V:Ren}{n j m:Nat}{rs A:List TB}{σ:SgT}{ts:Tre}(op:List Nat)(hn:V.length=n)(H:∀ V1,V1.length=m->zF V A->zF V1 rs->(∀ i∈op,gV V1 i=gV V i)->wA V V1 σ->G.CL j V1/\ts.HoldsC G j 0 V V1)(hk:wR m σ []=true:=by kernel_rfl)(hop:op.all (fun i=>(idns σ).any (Nat.beq i)&&Nat.blt i n)=true:=by kernel_rfl):(Tre.call j m n rs σ.enc (A.map TB.enc) ts).Holds G V:=au7 op hn hk hop H
theorem pO{G:Goal}{V:Ren}{n j m h:Nat}{rs A:List TB}{σ:SgT}{c:Code}{ts:Tre}(op:List Nat)(hn:V.length=n)(hW:G.W j c)(H:∀ V1,V1.length=m->zF V A->zF V1 rs->(∀ i∈op,gV V1 i=gV V i)->wA V V1 σ->G.L j V1/\ts.HoldsO G j 0 V1)(hk:wR m σ []=true:=by kernel_rfl)(hA:A.all (fun t=>t.ok n)=true:=by kernel_rfl)(hS:σ.all (fun p=>p.2.ok n)=true:=by kernel_rfl)(hop:op.all (fun i=>(idns σ).any (Nat.beq i)&&Nat.blt i n)=true:=by kernel_rfl):(Tre.loop j m h rs c σ.enc (A.map TB.enc) ts).Holds G V:=N1 op hn hk hA hS hop hW H
abbrev lf(j m h:Nat)(r:List TB)(σ:SgT)(A:List TB):Tre:=.leaf j m h r σ.enc (A.map TB.enc)
abbrev nd(h:Nat)(A:List TB)(c:TB)(t:Tre):Tre:=.need h (A.map TB.enc) c.enc t
theorem lO{G:Goal}{V:Ren}{n j m h:Nat}{rs A:List TB}{σ:SgT}(op:List Nat)(hn:V.length=n)(H:∀ V1,V1.length=m->zF V A->zF V1 rs->(∀ i∈op,gV V1 i=gV V i)->wA V V1 σ->G.J j V1)(hk:wR m σ []=true:=by kernel_rfl)(hA:A.all (fun t=>t.ok n)=true:=by kernel_rfl)(hS:σ.all (fun p=>p.2.ok n)=true:=by kernel_rfl)
    (hop:op.all (fun i=>(idns σ).any (Nat.beq i)&&Nat.blt i n)=true:=by kernel_rfl):(Tre.leaf j m h rs σ.enc (A.map TB.enc)).Holds G V:=avF op hn hk hA hS hop H
theorem nO{G:Goal}{V:Ren}{n h:Nat}{A:List TB}{c:TB}{t:Tre}(hn:V.length=n)(H:zF V A->c.P V)(ht:t.Holds G V)(hA:A.all (fun t=>t.ok n)=true:=by kernel_rfl)(hc:c.ok n=true:=by kernel_rfl):(Tre.need h (A.map TB.enc) c.enc t).Holds G V:=av0 hn hA hc H ht
end
def o6:yN:=fun _ _ _ _=>none
theorem tJ(P:Program)(G:Gl):xH P G o6:=⟨(fun _ _ _ _ _ _ _ h=>by cases h),(fun _ _ _ _ _ _ _ _ _ _ _ _ _=>by intro h;cases h)⟩
def aoR(P:Program)(pu ok:FuncId->Bool):Bool :=
 (List.range P.funcs.size).all fun f=>!ok f || match P.funcs[f]? with
  |some fn=>match fn.body with
   |some c=>codeOk P pu c
   |none=>true
  |none=>true
theorem rC{P:Program}{pu ok:FuncId->Bool}(h:aoR P pu ok=true):lF P pu ok:=by
 intro f fn c hf hfn hc;unfold aoR at h;rw[List.all_eq_true]at h;have hlt:f<P.funcs.size:=by
  rcases Nat.lt_or_ge f P.funcs.size with h|h
  .exact h
  .rw[Array.getElem?_eq_none h]at hfn;cases hfn
 have:=h f (List.mem_range.2 hlt);simp only[hf,Bool.not_true,Bool.false_or,hfn,hc]at this;exact this
def anC (P : Program) : Bool := P.funcs.toList.all fun fn => !(fn.name == "runtime.NumGoroutine")
theorem anY{P:Program}(h:anC P=true):vJ P:=by
 intro f fn hfn;unfold anC at h;rw[List.all_eq_true]at h;have hm:fn∈P.funcs.toList:=by
  rw[<-Array.getElem?_toList]at hfn;exact List.mem_of_getElem? hfn
 have:=h fn hm;simpa using this
end Go.SM
open Go Go.SM Go.Proofs
namespace U
def findLoop(r:Nat):Nat->Code->Option Code
 |0,_=>none
 |k+1,c=>match c with
  | .seq x y=>match findLoop r k x with
   |some i=>some i
   |none=>findLoop r k y
  | .cond _ x y=>match findLoop r k x with
   |some i=>some i
   |none=>findLoop r k y
  | .block _ c=>findLoop r k c
  | .loop c=>if vP 30 c=some r then some c else findLoop r k c
  | .scope c=>findLoop r k c
  |_=>none
def body(f:Nat):Code:=match Tryd.prog.funcs[f]? with
 |some f=>match f.body with
  |some c=>c
  |none=>.skip
 |none=>.skip
def ntmps(f:Nat):Nat:=match Tryd.prog.funcs[f]? with
 |some f=>f.ntmps
 |none=>0
def x(i:Nat):Value:=.map (some i)
def I(i:Nat)(lo hi:Int):Value:=sI .i64 (x i) lo hi
def Z(n:Int):Value:=.int .i64 n
def rX(upd:List (Nat × Value)):List Value:=(List.range 52).map fun i=>match upd.find? fun p=>Nat.beq p.1 i with
 |some p=>p.2
 |none=>.map (some (3*(20+i)+1))
def big:Int:=1125899906842624
def aiL:List (Nat × Value):=[(11,.func (.func 47) #[] #[]),(13,sL 16 (Z 0) (x 18) (x 72)),(14,I 19 0 2000000),(15,sB (x 11)),(20,sL 2 (Z 0) (x 6) (Z 512)),(21,I 7 0 512),(18,I 8 0 2000),(22,I 10 1 3),(23,I 9 0 10000000),(16,sL 1 (Z 0) (Z 1536) (Z 1536)),(45,.chan none)]
def HP(upd:List (Nat × Value)):List (Nat × Blk):=[(0,{ cells:=rX (upd++aiL),elem:=76,ro:=false,live:=true }),
 (1,{ cells:=[],elem:=5,ro:=false,live:=true,seq:=some (x 3) }),(2,{ cells:=[],elem:=5,ro:=false,live:=true,seq:=some (x 4) }),(16,{ cells:=[],elem:=5,ro:=true,live:=true,seq:=some (x 17) }),(73,{ cells:=[.iface 89 (.pointer (some ⟨74,0,none⟩))],elem:=86,ro:=true,live:=true })]
def FP(l:List (Nat × Value)):List (Nat × Value):=[(0,.pointer (some ⟨0,0,none⟩)),(1,I 12 0 100),(5,I 5 0 1536),(6,.bool false)]++l
def aZG:List (Nat × Value):=[(0,Z 2),(1,.chan none),(2,.chan none),(3,.chan none)]
def V13:Value:=sI .i32 (x 13) 0 1114111
def tA:Tpl:={ m:=90,F:=FP [],H:=HP [],G:=[73] }
def tE:Tpl:={ m:=90,F:=[(0,.pointer (some ⟨0,0,none⟩)),(4,.bool false)],H:=HP aZG,G:=[73] }
def sp4:LSpec:={ j:=4,tin:={ m:=90,F:=FP [(7,.int .i32 0),(8,Z 0),(9,I 15 0 512),(169,I 10 1 3)],H:=HP [],G:=[73] },outs:=[(.normal,{ m:=90,F:=FP [(7,V13),(8,I 14 1 4)],H:=HP [],G:=[73] },[]),(.exit 2,tA,[]),(.ret,tE,[])] }
def aiV:LSpec:={ j:=10,tin:={ m:=90,F:=FP [(7,V13),(8,I 14 1 4)],H:=HP [],G:=[73] },outs:=[(.normal,{ m:=90,F:=FP [(7,V13),(8,I 14 1 4)],H:=HP [],G:=[73] },[]),(.ret,tE,[])] }
def g0:Nat->Option Nat:=fun g=>if g=0 then some 73 else none
def pu0:FuncId->Bool:=fun _=>false
def okU(f:Nat):Bool:=Nat.ble 47 f&&Nat.ble f 50
def abA:yN:=rD Tryd.prog g0 pu0 okU o6 1000 5
def EP(bt:Nat->Option LSpec)(ft:AExit->Option (Nat × Tpl)):Env:={ P:=Tryd.prog,pu:=pu0,g:=g0,call:=abA,n:=ntmps 42,lt:=fun _=>none,bt:=bt,ft:=ft,orc:=oY Tryd.prog pu0 g0 abA (ntmps 42) }
def hU:Code:=(findLoop 25 100 (body 42)).getD .skip
def tG(r:Nat):Nat->Code->Option Code
 |0,_=>none
 |k+1,c=>match c with
  | .seq x y=>match tG r k x with
   |some i=>some i
   |none=>tG r k y
  | .cond _ x y=>match tG r k x with
   |some i=>some i
   |none=>tG r k y
  | .block id c=>if id=r then some (.block id c) else tG r k c
  | .loop c=>tG r k c
  | .scope c=>tG r k c
  |_=>none
def blk4:Code:=(tG 4 100 (body 42)).getD .skip
def V9:Code:=(tG 10 100 (body 42)).getD .skip
def tV:Tpl:={ m:=90,F:=FP [(7,V13),(8,I 14 1 4)],H:=HP [],G:=[73] }
def ft4:AExit->Option (Nat × Tpl):=fun e=>match e with
 | .normal=>some (0,tV)
 | .exit 2=>some (1,tA)
 | .ret=>some (2,tE)
 |_=>none
def ftI:AExit->Option (Nat × Tpl):=fun e=>match e with
 | .normal=>some (0,tA)
 | .exit 2=>some (1,tA)
 | .ret=>some (2,tE)
 |_=>none
def btI:Nat->Option LSpec:=fun n=>if n=4 then some sp4 else if n=10 then some aiV else none
def aZ9:Tre:=tre (EP btI ftI) 2000 hU [] [] tA.frame tA.heap
def aVB:Tre:=tre (EP (fun _=>none) ft4) 2000 V9 [] [] aiV.tin.frame aiV.tin.heap
def auU(A:List TB):Tre:=tre (EP (fun _=>none) ft4) 2000 blk4 [] (A.map TB.enc) sp4.tin.frame sp4.tin.heap
def e1:TB:=.eq (.var 10) (.lit 1)
def e2:TB:=.eq (.var 10) (.lit 2)
def e3:TB:=.eq (.var 10) (.lit 3)
def fA1:List TB:=[e1]
def fA2:List TB:=[.not e1,e2]
def fA3:List TB:=[.not e1,.not e2,e3]
end U
