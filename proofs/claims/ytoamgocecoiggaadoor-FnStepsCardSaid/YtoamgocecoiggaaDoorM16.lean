-- the statement of this claim: see YtoamgocecoiggaaDoorRs
import Derived.Scope
import Derived.Test.YtoamgocecoiggaaDoorM15
set_option linter.unusedVariables false
set_option linter.unusedSimpArgs false
set_option maxRecDepth 100000
noncomputable section
namespace Go.SM
noncomputable section
def wpL(P:Program)(c:Code)(Q:Exit->Act->World->Prop)(a:Act)(w:World):Prop :=
 ∀ (b:Frame) (k:List Item) (cs:List Frame),∃ e a' w',Q e a' w'/\Arrives P (lone (b.at a (.code c::.inLoop c::k)) cs w) b k cs e a' w'
theorem xU{P:Program}{c:Code}{Q:Exit->Act->World->Prop}{a:Act}{w:World}(h:wpL P c Q a w):(Code.loop c).wp P Q a w:=by
 intro b k cs;obtain⟨e,a',w',hq,harr⟩:=h b k cs;exact⟨e,a',w',hq,.of_steps (.one step_loop) harr⟩
theorem zR{P:Program}{c:Code}{Q:Exit->Act->World->Prop}{a:Act}{w:World}(h:c.wp P (Exit.then (wpL P c Q) Q) a w):wpL P c Q a w:=by
 intro b k cs;obtain⟨e,a₁,w₁,hq,harr⟩:=h b (.inLoop c::k) cs;cases e with
 |normal =>
  obtain⟨e₂,a₂,w₂,hq₂,harr₂⟩:=hq b k cs;exact⟨e₂,a₂,w₂,hq₂,.of_steps (Steps.trans harr (.one step_inLoop)) harr₂⟩
 |exit id=>exact⟨_,a₁,w₁,hq,.pass (x:=.inLoop c) rfl (fun _ _=>.inl (by simp)) harr⟩
 |goto l=>exact⟨_,a₁,w₁,hq,.pass (x:=.inLoop c) rfl (fun _ _=>.inl (by simp)) harr⟩
 |ret=>exact⟨_,a₁,w₁,hq,.pass (x:=.inLoop c) rfl (fun _ _=>.inl (by simp)) harr⟩
 |panic ch=>exact⟨_,a₁,w₁,hq,.pass (x:=.inLoop c) rfl (fun _ _=>.inl (by simp)) harr⟩
 |outgrown=>exact⟨_,a₁,w₁,hq,.pass (x:=.inLoop c) rfl (fun _ _=>.inl (by simp)) harr⟩
inductive Fr where
 |seq (y:Code)
 |blk (id:Nat)
 |scp
 |lp (b:Code)
def uH(P:Program):List Fr->(Exit->Act->World->Prop)->Exit->Act->World->Prop
 |[],Q=>Q
 | .seq y::K,Q=>Exit.then (y.wp P (uH P K Q)) (uH P K Q)
 | .blk id::K,Q=>Exit.inBlock id (uH P K Q)
 | .scp::K,Q=>Exit.noGoto (uH P K Q)
 | .lp b::K,Q=>Exit.then (wpL P b (uH P K Q)) (uH P K Q)
inductive Tre where
 |leaf (j m h:Nat) (rs:List TB) (σ:Sg) (A:List Value)
 |loop (j m h:Nat) (rs:List TB) (c:Code) (σ:Sg) (A:List Value) (ts:Tre)
 |fork (t f:Tre)
 |need (h:Nat) (A:List Value) (c:Value) (t:Tre)
 |call (j m h:Nat) (rs:List TB) (σ:Sg) (A:List Value) (ts:Tre)
 |cons (rs:List TB) (t ts:Tre)
 |nil
 |dead (n h:Nat) (A:List Value)
 |fail (n:Nat)
def Tre.len:Tre->Nat
 | .cons _ _ ts=>ts.len+1
 |_=>0
structure LSpec where
 j:Nat
 tin:Tpl
 outs:List (AExit × Tpl × List Value)
structure CSpec where
 j:Nat
 n:Nat
 tin:Tpl
 outs:List (Value × Tpl × List (Nat × Nat))
def ayU(A:List Value)(p v:Value):List Value:=match p with
 | .func (.yield 0) ⟨[.int kp z,.map (some i),.int .i64 lo,.int .i64 hi]⟩ ⟨[]⟩=>match asI v with
  |some (kv,e,lo',hi')=>(if lo<=lo'\/vH A (.int .i64 lo) e=true then [] else [nd1 35 (nd2 31 e (.int .i64 lo))])++(if hi'<=hi\/vH A e (.int .i64 hi)=true then [] else [nd1 35 (nd2 31 (.int .i64 hi) e)])
  |none=>[]
 |_=>[]
def atO(A:List Value):List Value->List Value->List Value
 |p::ps,v::vs=>ayU A p v++atO A ps vs
 |_,_=>[]
def missS(n:Nat)(A:List Value)(F:Tr Value):List (Nat × Value)->List Value
 |[]=>[]
 |(t,p)::l=>ayU A p (ung A (yW n F t))++missS n A F l
def aE1(m:Nat)(A:List Value)(H:AS):List (Nat × Blk)->Sg->List Value
 |[],_=>[]
 |(i,p)::l,σ=>(match σ.get i with
  |some (.blk B)=>match H.get B with
   |some b=>atO A p.cells b.cells
   |none=>[]
  |_=>[])++(match axB m A H σ i p with
  |some σ=>aE1 m A H l σ
  |none=>[])
def O7(tp:Tpl)(n:Nat)(A:List Value)(F:Tr Value)(H:AS):Option Value :=
 match missS n A F tp.F with
 |c::_=>some c
 |[]=>match gZ tp.m n A F tp.F (sg0 tp.G) with
  |none=>none
  |some σ=>match aE1 tp.m A H tp.H σ with
   |c::_=>some c
   |[]=>none
def vP:Nat->Code->Option Nat
 |0,_=>none
 |k+1,c=>match c with
  | .region id _ _=>some id
  | .seq x y=>match vP k x with
   |some i=>some i
   |none=>vP k y
  | .cond _ x y=>match vP k x with
   |some i=>some i
   |none=>vP k y
  | .block _ c=>vP k c
  | .loop c=>vP k c
  | .scope c=>vP k c
  |_=>none
def pZ(A:List Value):Nat->Value->Value
 |0,e=>e
 |k+1,e=>match e with
  | .func (.yield 36) ⟨[a,b]⟩ ⟨[]⟩=>(match dec A 60 a with
   |some _=>pZ A k b
   |none=>pZ A k a)
  | .func (.yield 37) ⟨[a,b]⟩ ⟨[]⟩=>(match dec A 60 a with
   |some _=>pZ A k b
   |none=>pZ A k a)
  | .func (.yield 35) ⟨[a]⟩ ⟨[]⟩=>pZ A k a
  |e=>e
structure Env where
 P:Program
 pu:FuncId->Bool
 g:Nat->Option Nat
 call:yN
 n:Nat
 lt:Nat->Option LSpec
 bt:Nat->Option LSpec
 ft:AExit->Option (Nat × Tpl)
 orc:Array Oper->List Oper->List Value->Tr Value->AS->Option (Bool × Value)
 ct:FuncId->Option CSpec:=fun _=>none
 rc:Nat->Bool:=fun _=>false
 ft2:AExit->Option (Nat × Tpl):=fun _=>none
 al:Nat->Option (List Nat):=fun _=>none
def Env.gl(E:Env)(A:List Value):Gl:={ g:=E.g,A:=A,pu:=E.pu }
def aQ0(n:Nat)(R1 R2:Tr Value)(H1 H2:AS)(R':Tr Value)(HE':AS):Bool:=(eqF n R1 R'&&eqH H1 HE') || (eqF n R2 R'&&eqH H2 HE')
def two(E:Env)(ops:Array Oper)(pm:List Nat)(A:List Value)(F:Tr Value)(H:AS):Option (Tr Value × AS × Tr Value × AS) :=
 match kO E.P { g:=E.g,A:=A,pu:=E.pu,m:=H.size } E.call ops E.n ops.toList F H,kO E.P { g:=E.g,A:=A,pu:=E.pu,m:=H.size } E.call ops E.n (pm.filterMap fun i=>ops[i]?) F H with
 |some (R1,H1),some (R2,H2)=>if sOk ops&&aaR E.P E.pu { g:=E.g,A:=A,pu:=E.pu,m:=H.size } E.call ops E.n (aQ0 E.n R1 R2 H1 H2) (ops.size+1) (fun _=>false) F H then some (R1,H1,R2,H2) else none
 |_,_=>none
def af2(E:Env)(A:List Value)(ops:Array Oper)(F:Tr Value)(H:AS)(o:Oper):Option (CSpec × List Value) :=
 match uM A ops E.n F o with
 |some .yes=>(match o.op with
  | .pick _ _ _=>none
  |_=>match aop E.P A (aev (E.gl A) E.n F) H o with
   |some (.call f args)=>(match E.ct f with
    |some s=>if Nat.beq args.length s.n&&Nat.ble s.n 4096 then some (s,args) else none
    |none=>none)
   |_=>none)
 |_=>none
def aDG(E:Env)(ops:Array Oper)(l:List Oper)(A:List Value)(F:Tr Value)(H:AS):Option Value :=
 if oZ A then (match E.orc ops l A F H with
  |some (false,c)=>some c
  |_=>none) else none
def aUJ(E:Env)(A:List Value)(ops:Array Oper)(F:Tr Value)(H:AS)(o:Oper):Option Value :=
 if oZ A then (match uM A ops E.n F o with
  |some (.grd c)=>some (pZ A 20 c)
  |some .yes=>(match af2 E A ops F H o with
   |some _=>none
   |none=>aDG E ops [o] A F H)
  |_=>none) else none
mutual
def tre(E:Env):Nat->Code->List Fr->List Value->Tr Value->AS->Tre
 |0,_,_,_,_,_=>.fail 0
 |k+1,c,K,A,F,H =>
  match c with
  | .skip=>ret E k .normal K A F H
  | .label _=>ret E k .normal K A F H
  | .exit id=>ret E k (.exit id) K A F H
  | .ret=>ret E k .ret K A F H
  | .seq x y=>tre E k x (.seq y::K) A F H
  | .block id c =>
   match E.bt id with
   |none=>tre E k c (.blk id::K) A F H
   |some s =>
    match O7 s.tin E.n A F H with
    |some c'=>if wfB 60 H.size c' then .need H.size A c' (tre E k (.block id c) K (vZ 9 c' A) F H) else .fail (300+s.j)
    |none =>
     match sN s.tin E.n A F H with
     |none=>.fail (100+s.j)
     |some σ=>if Nat.beq (outs E k K s.outs).len s.outs.length then .loop s.j s.tin.m H.size (rgs E.n s.tin) (.block id c) σ A (outs E k K s.outs) else .fail 6
  | .scope c=>tre E k c (.scp::K) A F H
  | .cond c x y =>
   match aev (E.gl A) E.n F c with
   | .bool t=>tre E k (if t then x else y) K A F H
   |v =>
    match asB v with
    |none=>.fail 1
    |some e =>
     match dec A 60 e with
     |some t=>tre E k (if t then x else y) K A F H
     |none =>
      if oZ A then
       (if wfB 60 H.size (pZ A 20 e) then .fork (tre E k (.cond c x y) K (vZ 9 (pZ A 20 e) A) F H) (tre E k (.cond c x y) K (vZ 9 (vB (pZ A 20 e)) A) F H) else .fail 12)
      else .fork (tre E k x K (vZ 9 e A) F H) (tre E k y K (vZ 9 (vB e) A) F H)
  | .loop b =>
   match (vP 30 b).bind E.lt with
   |none=>tre E k b (.lp b::K) A F H
   |some s =>
    match O7 s.tin E.n A F H with
    |some c'=>if wfB 60 H.size c' then .need H.size A c' (tre E k (.loop b) K (vZ 9 c' A) F H) else .fail (300+s.j)
    |none =>
     match sN s.tin E.n A F H with
     |none=>tre E k b (.lp b::K) A F H
     |some σ=>if Nat.beq (outs E k K s.outs).len s.outs.length then .loop s.j s.tin.m H.size (rgs E.n s.tin) (.loop b) σ A (outs E k K s.outs) else .fail 6
  | .region id ops d =>
   if E.rc id && !d then reg E k id ops ops.toList K A F H else
   match aDG E ops ops.toList A F H with
   |some c=>if wfB 60 H.size c then .fork (tre E k (.region id ops d) K (vZ 9 c A) F H) (tre E k (.region id ops d) K (vZ 9 (vB c) A) F H) else .fail (2000+id)
   |none =>
   match (if d then (match E.al id with
    |some pm=>two E ops pm A F H
    |none=>none) else none) with
   |some (R1,H1,R2,H2)=>.fork (ret E k .normal K A R1 H1) (ret E k .normal K A R2 H2)
   |none =>
   if codeOk E.P E.pu (.region id ops d) then
    match xY E.P E.pu (E.gl A) E.call E.n 1 (.region id ops d) F H with
    |some (.normal,R,HE)=>ret E k .normal K A R HE
    |_ =>
     match E.orc ops ops.toList A F H with
     |none=>.dead id H.size A
     |some (true,c)=>if wfB 60 H.size c then .need H.size A c (tre E k (.region id ops d) K (vZ 9 c A) F H) else .fail (2000+id)
     |some (false,c)=>if wfB 60 H.size c then .fork (tre E k (.region id ops d) K (vZ 9 c A) F H) (tre E k (.region id ops d) K (vZ 9 (vB c) A) F H) else .fail (2000+id)
   else .fail (3000+id)
  |_=>.fail 3
def ret(E:Env):Nat->AExit->List Fr->List Value->Tr Value->AS->Tre
 |0,_,_,_,_,_=>.fail 4
 |k+1,e,K,A,F,H =>
  match K with
  |[] =>
   match E.ft e with
   |none=>.fail 5
   |some (j,tp) =>
    match O7 tp E.n A F H with
    |some c'=>if wfB 60 H.size c' then .need H.size A c' (ret E k e [] (vZ 9 c' A) F H) else .fail (400+j)
    |none =>
     match sN tp E.n A F H with
     |some σ=>.leaf j tp.m H.size (rgs E.n tp) σ A
     |none =>
      match E.ft2 e with
      |none=>.fail (200+j)
      |some (j,tp) =>
       match O7 tp E.n A F H with
       |some c'=>if wfB 60 H.size c' then .need H.size A c' (ret E k e [] (vZ 9 c' A) F H) else .fail (400+j)
       |none =>
        match sN tp E.n A F H with
        |none=>.fail (800+j)
        |some σ=>.leaf j tp.m H.size (rgs E.n tp) σ A
  | .seq y::K =>
   match e with
   | .normal=>tre E k y K A F H
   |e=>ret E k e K A F H
  | .blk id::K =>
   match e with
   | .exit id'=>if id'=id then ret E k .normal K A F H else ret E k (.exit id') K A F H
   |e=>ret E k e K A F H
  | .scp::K=>ret E k e K A F H
  | .lp b::K =>
   match e with
   | .normal=>tre E k b (.lp b::K) A F H
   |e=>ret E k e K A F H
def outs(E:Env):Nat->List Fr->List (AExit × Tpl × List Value)->Tre
 |0,_,_=>.nil
 |k+1,K,l =>
  match l with
  |[]=>.nil
  |(e,tp,A)::l=>.cons (rgs E.n tp) (ret E k e K A tp.frame tp.heap) (outs E k K l)
def reg(E:Env):Nat->Nat->Array Oper->List Oper->List Fr->List Value->Tr Value->AS->Tre
 |0,_,_,_,_,_,_,_=>.fail 7
 |k+1,id,ops,l,K,A,F,H =>
  match l with
  |[]=>ret E k .normal K A F H
  |o::rest =>
   match aUJ E A ops F H o with
   |some c=>if wfB 60 H.size c then .fork (reg E k id ops (o::rest) K (vZ 9 c A) F H) (reg E k id ops (o::rest) K (vZ 9 (vB c) A) F H) else .fail (2000+id)
   |none =>
   match wT E.P { g:=E.g,A:=A,pu:=E.pu,m:=H.size } E.call ops E.n o F H with
   |some (v,H') =>
    (match sU E.n F o.dst v with
    |some F'=>reg E k id ops rest K A F' H'
    |none=>.fail 8)
   |none =>
    match af2 E A ops F H o with
    |some (s,args) =>
     (match O7 s.tin s.n A (qG args 0 .e) H with
     |some c'=>if wfB 60 H.size c' then .need H.size A c' (reg E k id ops (o::rest) K (vZ 9 c' A) F H) else .fail (500+s.j)
     |none =>
      match sN s.tin s.n A (qG args 0 .e) H with
      |none=>.fail (600+s.j)
      |some σ=>if Nat.beq (iQ E k id ops rest K A F H σ s o.dst s.outs).len s.outs.length then .call s.j s.tin.m H.size (rgs s.n s.tin) σ A (iQ E k id ops rest K A F H σ s o.dst s.outs) else .fail (700+s.j))
    |none =>
     match E.orc ops (o::rest) A F H with
     |none=>.dead id H.size A
     |some (true,c)=>if wfB 60 H.size c then .need H.size A c (reg E k id ops (o::rest) K (vZ 9 c A) F H) else .fail (2000+id)
     |some (false,c)=>if wfB 60 H.size c then .fork (reg E k id ops (o::rest) K (vZ 9 c A) F H) (reg E k id ops (o::rest) K (vZ 9 (vB c) A) F H) else .fail (2000+id)
def iQ(E:Env):Nat->Nat->Array Oper->List Oper->List Fr->List Value->Tr Value->AS->Sg->CSpec->Option Tmp->List (Value × Tpl × List (Nat × Nat))->Tre
 |0,_,_,_,_,_,_,_,_,_,_,_=>.nil
 |k+1,id,ops,rest,K,A,F,H,σ,s,dst,l =>
  match l with
  |[]=>.nil
  |(v,tp,sm)::l =>
   match aa2 σ sm s.tin tp H,kQ (qD σ sm) H.size 6 v with
   |some H3,some v' =>
    (match sU E.n F dst v' with
    |some F'=>.cons (rgs 0 tp++rgV v) (reg E k id ops rest K A F' H3) (iQ E k id ops rest K A F H σ s dst l)
    |none=>.nil)
   |_,_=>.nil
end
structure Goal where
 J:Nat->Ren->Prop
 L:Nat->Ren->Prop
 O:Nat->Nat->Ren->Ren->Prop
 W:Nat->Code->Prop
 CL:Nat->Ren->Prop:=fun _ _=>False
 CO:Nat->Nat->Ren->Ren->Prop:=fun _ _ _ _=>False
mutual
def Tre.Holds(G:Goal):Tre->Ren->Prop
 | .leaf j m h rs σ A,V=>∀ γ,(V++γ).length=h->Facts (V++γ) A->∀ V1,Inst (V++γ) σ m V1->zF V1 rs->G.J j V1
 | .loop j m h rs c σ A ts,V=>G.W j c/\∀ γ,(V++γ).length=h->Facts (V++γ) A->∀ V1,Inst (V++γ) σ m V1->zF V1 rs->G.L j V1/\ts.HoldsO G j 0 V1
 | .fork t f,V=>t.Holds G V/\f.Holds G V
 | .need h A c t,V=>(∀ γ,(V++γ).length=h->Facts (V++γ) A->∀ x:TB,c=x.enc->x.den (V++γ)=true)/\t.Holds G V
 | .call j m h rs σ A ts,V=>∀ γ,(V++γ).length=h->Facts (V++γ) A->∀ V1,Inst (V++γ) σ m V1->zF V1 rs->G.CL j V1/\ts.HoldsC G j 0 (V++γ) V1
 | .cons _ _ _,_=>False
 | .nil,_=>False
 | .dead _ h A,V=>∀ γ,(V++γ).length=h->Facts (V++γ) A->False
 | .fail _,_=>False
def Tre.HoldsO(G:Goal):Tre->Nat->Nat->Ren->Prop
 | .cons rs t ts,j,i,V1=>(∀ V2,zF V2 rs->G.O j i V1 V2->t.Holds G V2)/\ts.HoldsO G j (i+1) V1
 |_,_,_,_=>True
def Tre.HoldsC(G:Goal):Tre->Nat->Nat->Ren->Ren->Prop
 | .cons rs t ts,j,i,V',V1=>(∀ V2,zF V2 rs->G.CO j i V1 V2->t.Holds G (V'++V2))/\ts.HoldsC G j (i+1) V' V1
 |_,_,_,_,_=>True
end
def wV(g:Nat->Option Nat)(V:Ren):Prop:=∀ x B,g x=some B->hm V B=some (x,0)
theorem Env.gok{E:Env}{V γ:Ren}{A:List Value}(h:wV E.g V)(hA:Facts (V++γ) A):Gok (E.gl A) (V++γ):=⟨⟨fun x B hx=>zV (h x B hx),Nat.zero_le _⟩,hA⟩
section
variable {E:Env} {w0:W0} {Q:Exit->Act->World->Prop} {G:Goal}
def tW(E:Env)(w0:W0)(G:Goal)(s:LSpec)(c:Code):Prop :=
 ∀ (Q':Exit->Act->World->Prop) (V:Ren) (a:Act) (w:World),HR w0 V s.tin.heap w->FS V E.n s.tin.frame a->G.L s.j V ->
  (∀ (i:Nat) (e:AExit) (tp:Tpl) (B:List Value),s.outs[i]?=some (e,tp,B)->∀ (V2:Ren) (a':Act) (w':World),HR w0 V2 tp.heap w'->FS V2 E.n tp.frame a'->G.O s.j i V V2->Q' e.conc a' w')->c.wp E.P Q' a w
def yT(P:Program)(G:Goal)(f:FuncId)(s:CSpec):Prop :=
 ∀ (w0:W0) (V:Ren) (args:Array Value) (w:World),HR w0 V s.tin.heap w->FS V s.n s.tin.frame { tmps:=args,defers:=[] }->G.CL s.j V ->
  Calls P f args w fun e w'=>∃ (i:Nat) (v:Value) (tp:Tpl) (sm:List (Nat × Nat)) (V2:Ren) (u:Value),s.outs[i]?=some (v,tp,sm)/\e=.returned u/\HR w0 V2 tp.heap w'/\VR V2 v u/\G.CO s.j i V V2/\∀ p∈sm,SmK V V2 p
theorem X7{V:Ren}{H:AS}{w:World}{n:Nat}{A:List Value}{F:Tr Value}{a:Act}{tp:Tpl}{σ:Sg}(hA:Facts V A)(h:HR w0 V H w)(hF:FS V n F a)(hm:sN tp n A F H=some σ) :
    tp.m<=2 ^ 20/\(∀ p∈tp.H,p.1<tp.m)/\M7 H σ tp.H:=by
 unfold sN at hm
 split at hm
 rotate_left
 .cases hm
 rename_i hc
 simp only[Bool.and_eq_true,List.all_eq_true]at hc
 obtain⟨⟨⟨hc1,hc2⟩,hc3⟩,hc4⟩:=hc
 have hc4:∀ i∈tp.G,i<V.length:=fun i hi=>by rw[h.len];exact Nat.le_of_ble_eq_true (hc4 i hi)
 have hc1:tp.m<=2 ^ 20:=Nat.le_of_ble_eq_true hc1
 have hc2:∀ p∈tp.H,p.1<tp.m:=fun p hp=>Nat.le_of_ble_eq_true (hc2 p hp)
 split at hm
 rotate_left
 .cases hm
 rename_i σ1 h1
 split at hm
 rotate_left
 .cases hm
 rename_i σ2 h2
 split at hm
 rotate_left
 .cases hm
 cases hm
 obtain⟨a1,a2,a3⟩:=rV hA hF h1 (mS hc4)
 obtain⟨b1,b2,b3⟩:=qV hA h h2 a2
 refine⟨hc1,hc2,fun i p hp=>?_⟩
 obtain⟨B,b,e1,e2,e3,e4,_⟩:=b3 i p hp
 exact⟨B,b,by unfold cF;rw[e1],e2,e3,e4⟩
theorem ar0{V:Ren}{H:AS}{w:World}{a:Act}{i:Nat}{ops:Array Oper}{o:Oper}{F:Tr Value}{A:List Value}{s:CSpec}{args:List Value}{R:Exit->Act->World->Prop}
    (hN:vJ E.P) (hCT:∀ f s,E.ct f=some s->yT E.P G f s) (h:HR w0 V H w) (hG:Gok (E.gl A) V) (hF:FS V E.n F a) (hi:ops[i]?=some o) (hc:af2 E A ops F H o=some (s,args))
    {σ:Sg} (hm:sN s.tin s.n A (qG args 0 .e) H=some σ) (K:Act->World->Prop)
    (hL:∀ V1,Inst V σ s.tin.m V1->zF V1 (rgs s.n s.tin)->G.CL s.j V1/\∀ (x:Nat) (v:Value) (tp:Tpl) (sm:List (Nat × Nat)),s.outs[x]?=some (v,tp,sm)->∃ (v':Value) (H3:AS),aa2 σ sm s.tin tp H=some H3/\kQ (qD σ sm) H.size 6 v=some v' /\
     ∀ (V2:Ren) (u:Value) (w':World),zF V2 (rgs 0 tp++rgV v)->G.CO s.j x V1 V2->HR w0 (V++V2) H3 w'->VR (V++V2) v' u->K (a.put o.dst u) w'):wpOp E.P ops R i K a w:=by
 unfold af2 at hc
 split at hc
 rotate_left
 .cases hc
 rename_i hw
 obtain⟨t,t1,t2,t3,t4,t5⟩:=tB hG.2 hF.size (fun t _=>hF.slot t) hw
 unfold wpOp
 simp only[hi]
 rw[t2,t3 rfl,if_pos rfl]
 refine .inl ?_
 split at hc
 .cases hc
 split at hc
 rotate_left
 .cases hc
 rename_i f args0 hop
 split at hc
 rotate_left
 .cases hc
 rename_i s0 hs0
 split at hc
 rotate_left
 .cases hc
 rename_i hlen
 cases hc
 rw[Bool.and_eq_true]at hlen
 have hl:=Nat.eq_of_beq_eq_true hlen.1
 have hl2:s.n<=2 ^ 12:=Nat.le_of_ble_eq_true hlen.2
 have hρ:∀ x∈o.op.operands,VR V (aev (E.gl A) E.n F x) (a.eval x):=fun x hx=>y9 hG hF.size x fun t ht=>hF.slot t
 obtain⟨us,hrun,hus⟩:=wZ hN h hρ hG.2 hop
 unfold Oper.wp
 rw[hrun]
 have hfs:=lD (n:=s.n) hl2 hus (by omega)
 have hsz:us.size=s.n:=by rw[<-hl,<-hus.1,Array.length_toList]
 rw[hsz,Nat.sub_self,Array.replicate_zero,Array.append_empty]at hfs
 obtain⟨V1,hI,hH1,hF1⟩:=vX hG.2 h hfs hm
 obtain⟨m1,m2,m3⟩:=X7 hG.2 h hfs hm
 obtain⟨hcl,hout⟩:=hL V1 hI (yS hH1 hF1)
 refine (hCT f s hs0 (w0.call w V σ s.tin.H) V1 us w (HR.enter hI m2 m1 hH1 m3) hF1 hcl).mono ?_
 rintro e w' ⟨x,v,tp,sm,V2,u,hx,rfl,hr,hv,hco,hsm⟩
 obtain⟨v',H3,q1,q2,q3⟩:=hout x v tp sm hx
 obtain⟨r1,r2⟩:=HR.leave h hI m3 hsm hr q1
 refine q3 V2 u w' (zF.append (yS (a:={ tmps:=#[],defers:=[] }) hr ⟨rfl,by decide,fun t u hu=>by simp at hu,rfl⟩) (mF hv)) hco r1 (r2 q2 hv)
theorem pP(hN:vJ E.P)(hC:xH E.P (E.gl []) E.call)(hm:E.P.follows .mixedOrders=true)
    (hJ:∀ (j:Nat) (e:AExit) (tp:Tpl) (V1:Ren) (a:Act) (w:World),(E.ft e=some (j,tp)\/E.ft2 e=some (j,tp))->HR w0 V1 tp.heap w->FS V1 E.n tp.frame a->G.J j V1->Q e.conc a w)
    (hW:∀ (r:Nat) (s:LSpec) (c:Code),E.lt r=some s\/E.bt r=some s->G.W s.j c->tW E w0 G s c)
    (hO:∀ j i V1 V2,G.O j i V1 V2->wV E.g V2)
    (hO2:∀ (r:Nat) (s:LSpec),E.lt r=some s\/E.bt r=some s->∀ (i:Nat) (e:AExit) (tp:Tpl) (B:List Value),s.outs[i]?=some (e,tp,B)->∀ (V1 V2:Ren),G.O s.j i V1 V2->Facts V2 B)
    (hCT:∀ f s,E.ct f=some s->yT E.P G f s):∀ (k:Nat),
    (∀ (c:Code) (K:List Fr) (A:List Value) (F:Tr Value) (H:AS) (V γ:Ren) (a:Act) (w:World),(tre E k c K A F H).Holds G V->wV E.g V->HR w0 (V++γ) H w->Facts (V++γ) A->FS (V++γ) E.n F a->c.wp E.P (uH E.P K Q) a w) /\
    (∀ (e:AExit) (K:List Fr) (A:List Value) (F:Tr Value) (H:AS) (V γ:Ren) (a:Act) (w:World),(ret E k e K A F H).Holds G V->wV E.g V->HR w0 (V++γ) H w->Facts (V++γ) A->FS (V++γ) E.n F a->uH E.P K Q e.conc a w) /\
    (∀ (K:List Fr) (l:List (AExit × Tpl × List Value)) (j i:Nat) (V1:Ren),(outs E k K l).HoldsO G j i V1->(outs E k K l).len=l.length->(∀ (x:Nat) (e:AExit) (tp:Tpl) (B:List Value),l[x]?=some (e,tp,B)->∀ V2,G.O j (i+x) V1 V2->Facts V2 B)->∀ (x:Nat) (e:AExit) (tp:Tpl) (B:List Value),l[x]?=some (e,tp,B)->∀ (V2:Ren) (a':Act) (w':World),HR w0 V2 tp.heap w'->FS V2 E.n tp.frame a'->G.O j (i+x) V1 V2->uH E.P K Q e.conc a' w') /\
    (∀ (id:Nat) (ops:Array Oper) (l:List Oper) (i:Nat) (K:List Fr) (A:List Value) (F:Tr Value) (H:AS) (V γ:Ren) (a:Act) (w:World),ops.toList.drop i=l->(reg E k id ops l K A F H).Holds G V->wV E.g V->HR w0 (V++γ) H w->Facts (V++γ) A->FS (V++γ) E.n F a->wpOps E.P ops (uH E.P K Q) (List.range' i l.length) a w) /\
    (∀ (id:Nat) (ops:Array Oper) (l:List Oper) (y:Nat) (K:List Fr) (A:List Value) (F:Tr Value) (H:AS) (σ:Sg) (s:CSpec) (dst:Option Tmp) (lo:List (Value × Tpl × List (Nat × Nat))) (j i:Nat) (V1 V':Ren) (a:Act),ops.toList.drop y=l->(iQ E k id ops l K A F H σ s dst lo).HoldsC G j i V' V1->(iQ E k id ops l K A F H σ s dst lo).len=lo.length->wV E.g V'->Facts V' A->FS V' E.n F a ->
     ∀ (x:Nat) (v:Value) (tp:Tpl) (sm:List (Nat × Nat)),lo[x]?=some (v,tp,sm)->∃ (v':Value) (H3:AS),aa2 σ sm s.tin tp H=some H3/\kQ (qD σ sm) H.size 6 v=some v' /\
      ∀ (V2:Ren) (u:Value) (w':World),zF V2 (rgs 0 tp++rgV v)->G.CO j (i+x) V1 V2->HR w0 (V'++V2) H3 w'->VR (V'++V2) v' u->wpOps E.P ops (uH E.P K Q) (List.range' y l.length) (a.put dst u) w'):=by
 intro k
 induction k with
 |zero =>
  refine⟨fun c K A F H V γ a w h=>by simp[tre,Tre.Holds]at h,fun e K A F H V γ a w h=>by simp[ret,Tre.Holds]at h,fun K l j i V1 _ hl _ x e tp B hx=>?_,fun id ops l i K A F H V γ a w _ h=>by simp[reg,Tre.Holds]at h,fun id ops l y K A F H σ s dst lo j i V1 V' a _ _ hl _ _ _ x v tp sm hx=>?_⟩
  .simp only[outs,Tre.len]at hl
   have:l=[]:=List.eq_nil_of_length_eq_zero hl.symm
   subst this
   simp at hx
  .simp only[iQ,Tre.len]at hl
   have:lo=[]:=List.eq_nil_of_length_eq_zero hl.symm
   subst this
   simp at hx
 |succ k ih =>
  obtain⟨ih1,ih2,ih3,ih4,ih5⟩:=ih
  refine⟨?_,?_,?_,?_,?_⟩
  .intro c K A F H V γ a w h hg hH hA hF
   have hG:=E.gok hg hA
   cases c with
   |skip=>simp only[tre]at h;exact wp_skip (ih2 .normal K A F H V γ a w h hg hH hA hF)
   |label l=>simp only[tre]at h;exact wp_label (ih2 .normal K A F H V γ a w h hg hH hA hF)
   |exit id=>simp only[tre]at h;exact wp_exit (ih2 (.exit id) K A F H V γ a w h hg hH hA hF)
   |ret=>simp only[tre]at h;exact wp_ret (ih2 .ret K A F H V γ a w h hg hH hA hF)
   |seq x y=>simp only[tre]at h;exact wp_seq (ih1 x (.seq y::K) A F H V γ a w h hg hH hA hF)
   |block id c =>
    simp only[tre]at h
    split at h
    .exact wp_block (ih1 c (.blk id::K) A F H V γ a w h hg hH hA hF)
    rename_i s hs
    split at h
    .rename_i c' hc'
     split at h
     .rename_i hwf
      obtain⟨t,rfl,t1⟩:=(yX 60 H.size c').2.2 hwf
      simp only[Tre.Holds]at h
      rw[<-hH.len]at t1
      exact ih1 _ K _ F H V γ a w h.2 hg hH (zT 9 t A hA t1 (h.1 γ hH.len hA t rfl)) hF
     .simp[Tre.Holds]at h
    split at h
    .simp[Tre.Holds]at h
    rename_i σ hσ
    split at h
    rotate_left
    .simp[Tre.Holds]at h
    rename_i hlen
    have hlen:=Nat.eq_of_beq_eq_true hlen
    simp only[Tre.Holds]at h
    obtain⟨h1,h2⟩:=h
    obtain⟨V1,hI,hH1,hF1⟩:=vX hA hH hF hσ
    obtain⟨hL,hOs⟩:=h2 γ hH.len hA V1 hI (yS hH1 hF1)
    refine hW id s _ (.inr hs) h1 _ V1 a w hH1 hF1 hL ?_
    intro i e tp B hi V2 a' w' q1 q2 q3
    exact ih3 K s.outs s.j 0 V1 hOs hlen (fun x e tp B hx V2 hq=>hO2 id s (.inr hs) x e tp B hx V1 V2 (by rw[Nat.zero_add]at hq;exact hq)) i e tp B hi V2 a' w' q1 q2 (by rw[Nat.zero_add];exact q3)
   |scope c=>simp only[tre]at h;exact wp_scope_straight (ih1 c (.scp::K) A F H V γ a w h hg hH hA hF)
   |cond c x y =>
    simp only[tre]at h
    have hc:=y9 hG hF.size c (fun t _=>hF.slot t)
    split at h
    .rename_i t ht
     rw[ht]at hc
     exact wp_cond (hc.eq_of_ground rfl) (ih1 _ K A F H V γ a w h hg hH hA hF)
    .split at h
     .simp[Tre.Holds]at h
     rename_i e he
     obtain⟨tt,rfl,t1,t2⟩:=xJ hc he
     split at h
     .rename_i t hd
      have hdt:=yV hA 60 tt _ hd
      rw[hdt]at t2
      exact wp_cond t2 (ih1 _ K A F H V γ a w h hg hH hA hF)
     split at h
     .split at h
      .rename_i hwf
       obtain⟨ta,ea,t1a⟩:=(yX 60 H.size (pZ A 20 tt.enc)).2.2 hwf
       rw[ea]at h
       rw[<-hH.len]at t1a
       simp only[Tre.Holds]at h
       by_cases ht:ta.den (V++γ)=true
       .exact ih1 _ K _ F H V γ a w h.1 hg hH (zT 9 ta A hA t1a ht) hF
       .have ht':ta.den (V++γ)=false:=by cases h:ta.den (V++γ)<;>simp_all
        obtain⟨tn,n1,n2,n3⟩:=yJ ta
        rw[n1]at h
        exact ih1 _ K _ F H V γ a w h.2 hg hH (zT 9 tn A hA (n2 _ t1a) (by rw[n3,ht'];rfl)) hF
      .simp[Tre.Holds]at h
     .simp only[Tre.Holds]at h
      refine wp_cond t2 ?_
      by_cases ht:tt.den (V++γ)=true
      .rw[ht,if_pos rfl]
       exact ih1 x K _ F H V γ a w h.1 hg hH (zT 9 tt A hA t1 ht) hF
      .have ht':tt.den (V++γ)=false:=by cases h:tt.den (V++γ)<;>simp_all
       rw[ht',if_neg (by decide)]
       obtain⟨tn,n1,n2,n3⟩:=yJ tt
       rw[n1]at h
       exact ih1 y K _ F H V γ a w h.2 hg hH (zT 9 tn A hA (n2 _ t1) (by rw[n3,ht'];rfl)) hF
   |loop b =>
    simp only[tre]at h
    split at h
    .exact xU (zR (ih1 b (.lp b::K) A F H V γ a w h hg hH hA hF))
    rename_i s hs
    split at h
    .rename_i c' hc'
     split at h
     .rename_i hwf
      obtain⟨t,rfl,t1⟩:=(yX 60 H.size c').2.2 hwf
      simp only[Tre.Holds]at h
      rw[<-hH.len]at t1
      exact ih1 _ K _ F H V γ a w h.2 hg hH (zT 9 t A hA t1 (h.1 γ hH.len hA t rfl)) hF
     .simp[Tre.Holds]at h
    split at h
    .exact xU (zR (ih1 b (.lp b::K) A F H V γ a w h hg hH hA hF))
    rename_i σ hσ
    split at h
    rotate_left
    .simp[Tre.Holds]at h
    rename_i hlen
    have hlen:=Nat.eq_of_beq_eq_true hlen
    simp only[Tre.Holds]at h
    obtain⟨h1,h2⟩:=h
    obtain⟨r,_,hr⟩:=Option.bind_eq_some_iff.1 hs
    obtain⟨V1,hI,hH1,hF1⟩:=vX hA hH hF hσ
    obtain⟨hL,hOs⟩:=h2 γ hH.len hA V1 hI (yS hH1 hF1)
    refine hW r s _ (.inl hr) h1 _ V1 a w hH1 hF1 hL ?_
    intro i e tp B hi V2 a' w' q1 q2 q3
    exact ih3 K s.outs s.j 0 V1 hOs hlen (fun x e tp B hx V2 hq=>hO2 r s (.inl hr) x e tp B hx V1 V2 (by rw[Nat.zero_add]at hq;exact hq)) i e tp B hi V2 a' w' q1 q2 (by rw[Nat.zero_add];exact q3)
   |region id ops d =>
    simp only[tre]at h
    split at h
    .rename_i hd
     rw[Bool.and_eq_true]at hd
     have hd:d=false:=by simpa using hd.2
     subst hd
     refine wp_region ?_
     have:=ih4 id ops ops.toList 0 K A F H V γ a w rfl h hg hH hA hF
     rw[Array.length_toList,<-List.range_eq_range']at this
     exact this
    split at h
    .rename_i c hc
     split at h
     .rename_i hwf
      obtain⟨t,rfl,t1⟩:=(yX 60 H.size c).2.2 hwf
      simp only[Tre.Holds]at h
      rw[<-hH.len]at t1
      by_cases ht:t.den (V++γ)=true
      .exact ih1 _ K _ F H V γ a w h.1 hg hH (zT 9 t A hA t1 ht) hF
      .have ht':t.den (V++γ)=false:=by cases h:t.den (V++γ)<;>simp_all
       obtain⟨tn,n1,n2,n3⟩:=yJ t
       rw[n1]at h
       exact ih1 _ K _ F H V γ a w h.2 hg hH (zT 9 tn A hA (n2 _ t1) (by rw[n3,ht'];rfl)) hF
     .simp[Tre.Holds]at h
    split at h
    .rename_i R1 H1 R2 H2 htwo
     split at htwo
     rotate_left
     .cases htwo
     rename_i hd
     have hd:d=true:=by simpa using hd
     subst hd
     split at htwo
     rotate_left
     .cases htwo
     unfold two at htwo
     split at htwo
     rotate_left
     .cases htwo
     rename_i R1' H1' R2' H2' e1 e2
     split at htwo
     rotate_left
     .cases htwo
     rename_i hgo
     cases htwo
     rw[Bool.and_eq_true]at hgo
     simp only[Tre.Holds]at h
     have hGm:Gok { g:=E.g,A:=A,pu:=E.pu,m:=H.size } (V++γ):=⟨⟨hG.1.1,by rw[hH.len];exact Nat.le_refl _⟩,hG.2⟩
     refine lU hN (G:={ g:=E.g,A:=A,pu:=E.pu,m:=H.size }) hC (fun A f args H v H' hp hc=>hC.1 A f args H v H' hp hc) hm hgo.1 hH hGm hF hgo.2 ?_
     intro γ' R' HE' a' w' hchk q1 q2
     unfold aQ0 at hchk
     rw[Bool.or_eq_true,Bool.and_eq_true,Bool.and_eq_true]at hchk
     rw[List.append_assoc]at q1 q2
     rcases hchk with⟨c1,c2⟩|⟨c1,c2⟩
     .exact ih2 .normal K A R1 H1 V (γ++γ') a' w' h.1 hg (q1.as c2) (by rw[<-List.append_assoc];exact hA.mono) (q2.as c1)
     .exact ih2 .normal K A R2 H2 V (γ++γ') a' w' h.2 hg (q1.as c2) (by rw[<-List.append_assoc];exact hA.mono) (q2.as c1)
    split at h
    rotate_left
    .simp[Tre.Holds]at h
    rename_i hok
    split at h
    .rename_i R HE hrun
     refine lS hN (G:=E.gl A) hC (fun A f args H v H' hp hc=>hC.1 A f args H v H' hp hc) hm 1 (.region id ops d) (V++γ) F H a w .normal R HE _ hok hH hG hF hrun ?_
     intro γ' a' w' q1 q2
     rw[List.append_assoc]at q1 q2
     exact ih2 .normal K A R HE V (γ++γ') a' w' h hg q1 (by rw[<-List.append_assoc];exact hA.mono) q2
    .split at h
     .simp only[Tre.Holds]at h;exact (h γ hH.len hA).elim
     .rename_i c hc
      split at h
      .rename_i hwf
       obtain⟨t,rfl,t1⟩:=(yX 60 H.size c).2.2 hwf
       simp only[Tre.Holds]at h
       rw[<-hH.len]at t1
       exact ih1 _ K _ F H V γ a w h.2 hg hH (zT 9 t A hA t1 (h.1 γ hH.len hA t rfl)) hF
      .simp[Tre.Holds]at h
     .rename_i c hc
      split at h
      .rename_i hwf
       obtain⟨t,rfl,t1⟩:=(yX 60 H.size c).2.2 hwf
       simp only[Tre.Holds]at h
       rw[<-hH.len]at t1
       by_cases ht:t.den (V++γ)=true
       .exact ih1 _ K _ F H V γ a w h.1 hg hH (zT 9 t A hA t1 ht) hF
       .have ht':t.den (V++γ)=false:=by cases h:t.den (V++γ)<;>simp_all
        obtain⟨tn,n1,n2,n3⟩:=yJ t
        rw[n1]at h
        exact ih1 _ K _ F H V γ a w h.2 hg hH (zT 9 tn A hA (n2 _ t1) (by rw[n3,ht'];rfl)) hF
      .simp[Tre.Holds]at h
   |rangeFunc=>simp[tre,Tre.Holds]at h
   |goto=>simp[tre,Tre.Holds]at h
   |refuse=>simp[tre,Tre.Holds]at h
  .intro e K A F H V γ a w h hg hH hA hF
   cases K with
   |nil =>
    simp only[ret]at h
    split at h
    .simp[Tre.Holds]at h
    rename_i j tp hft
    split at h
    .rename_i c' hc'
     split at h
     .rename_i hwf
      obtain⟨t,rfl,t1⟩:=(yX 60 H.size c').2.2 hwf
      simp only[Tre.Holds]at h
      rw[<-hH.len]at t1
      exact ih2 e [] _ F H V γ a w h.2 hg hH (zT 9 t A hA t1 (h.1 γ hH.len hA t rfl)) hF
     .simp[Tre.Holds]at h
    split at h
    .rename_i σ hσ
     simp only[Tre.Holds]at h
     obtain⟨V1,hI,hH1,hF1⟩:=vX hA hH hF hσ
     exact hJ j e tp V1 a w (.inl hft) hH1 hF1 (h γ hH.len hA V1 hI (yS hH1 hF1))
    split at h
    .simp[Tre.Holds]at h
    rename_i j2 tp2 hft2
    split at h
    .rename_i c' hc'
     split at h
     .rename_i hwf
      obtain⟨t,rfl,t1⟩:=(yX 60 H.size c').2.2 hwf
      simp only[Tre.Holds]at h
      rw[<-hH.len]at t1
      exact ih2 e [] _ F H V γ a w h.2 hg hH (zT 9 t A hA t1 (h.1 γ hH.len hA t rfl)) hF
     .simp[Tre.Holds]at h
    split at h
    .simp[Tre.Holds]at h
    rename_i σ hσ
    simp only[Tre.Holds]at h
    obtain⟨V1,hI,hH1,hF1⟩:=vX hA hH hF hσ
    exact hJ j2 e tp2 V1 a w (.inr hft2) hH1 hF1 (h γ hH.len hA V1 hI (yS hH1 hF1))
   |cons fr K =>
    cases fr with
    |seq y =>
     simp only[ret]at h
     split at h
     .exact ih1 y K A F H V γ a w h hg hH hA hF
     .rename_i hne
      have:=ih2 e K A F H V γ a w h hg hH hA hF
      cases e with
      |normal=>exact (hne rfl).elim
      |ret=>exact this
      |exit id=>exact this
    |blk id =>
     simp only[ret]at h
     split at h
     .rename_i id'
      split at h
      .rename_i hid
       have:=ih2 .normal K A F H V γ a w h hg hH hA hF
       show Exit.inBlock id (uH E.P K Q) (.exit id') a w
       simp only[Exit.inBlock,hid,if_true];exact this
      .rename_i hid
       have:=ih2 (.exit id') K A F H V γ a w h hg hH hA hF
       show Exit.inBlock id (uH E.P K Q) (.exit id') a w
       simp only[Exit.inBlock,hid,if_false];exact this
     .rename_i hne
      have:=ih2 e K A F H V γ a w h hg hH hA hF
      cases e with
      |normal=>exact this
      |ret=>exact this
      |exit id'=>exact (hne id' rfl).elim
    |lp b =>
     simp only[ret]at h
     split at h
     .exact zR (ih1 b (.lp b::K) A F H V γ a w h hg hH hA hF)
     .rename_i hne
      have:=ih2 e K A F H V γ a w h hg hH hA hF
      cases e with
      |normal=>exact (hne rfl).elim
      |ret=>exact this
      |exit id=>exact this
    |scp =>
     simp only[ret]at h
     have:=ih2 e K A F H V γ a w h hg hH hA hF
     cases e<;>exact this
  .intro K l j i V1 h hl hB x e tp B hx V2 a' w' q1 q2 q3
   cases l with
   |nil=>simp at hx
   |cons p l =>
    obtain⟨e0,tp0,B0⟩:=p
    simp only[outs]at h hl
    simp only[Tre.HoldsO]at h
    simp only[Tre.len,List.length_cons]at hl
    cases x with
    |zero =>
     simp only[List.getElem?_cons_zero,Option.some.injEq,Prod.mk.injEq]at hx
     obtain⟨rfl,rfl,rfl⟩:=hx
     have hB0:=hB 0 e0 tp0 B0 (by simp) V2 q3
     rw[Nat.add_zero]at q3
     exact ih2 e0 K B0 _ _ V2 [] a' w' (h.1 V2 (yS q1 q2) q3) (hO j i V1 V2 q3) (by rw[List.append_nil];exact q1) (by rw[List.append_nil];exact hB0) (by rw[List.append_nil];exact q2)
    |succ x =>
     exact ih3 K l j (i+1) V1 h.2 (by omega) (fun x e tp B hx V2 hq=>hB (x+1) e tp B (by simpa using hx) V2 (by rw[show i+(x+1)=i+1+x from by omega];exact hq)) x e tp B (by simpa using hx) V2 a' w' q1 q2 (by rw[show i+1+x=i+(x+1) from by omega];exact q3)
  .intro id ops l i K A F H V γ a w hl h hg hH hA hF
   have hG:=E.gok hg hA
   cases l with
   |nil =>
    simp only[reg]at h
    exact ih2 .normal K A F H V γ a w h hg hH hA hF
   |cons o rest =>
    have hk:ops[i]?=some o:=by
     rw[<-Array.getElem?_toList];have:=congrArg (fun l=>l[0]?) hl;simpa using this
    have hl':ops.toList.drop (i+1)=rest:=by rw[<-List.tail_drop,hl];rfl
    simp only[reg]at h
    split at h
    .rename_i c hc
     split at h
     .rename_i hwf
      obtain⟨t,rfl,t1⟩:=(yX 60 H.size c).2.2 hwf
      simp only[Tre.Holds]at h
      rw[<-hH.len]at t1
      by_cases ht:t.den (V++γ)=true
      .exact ih4 id ops (o::rest) i K _ F H V γ a w hl h.1 hg hH (zT 9 t A hA t1 ht) hF
      .have ht':t.den (V++γ)=false:=by cases h:t.den (V++γ)<;>simp_all
       obtain⟨tn,n1,n2,n3⟩:=yJ t
       rw[n1]at h
       exact ih4 id ops (o::rest) i K _ F H V γ a w hl h.2 hg hH (zT 9 tn A hA (n2 _ t1) (by rw[n3,ht'];rfl)) hF
     .simp[Tre.Holds]at h
    split at h
    .rename_i v H' hst
     split at h
     rotate_left
     .simp[Tre.Holds]at h
     rename_i F' hp
     rw[List.length_cons,List.range'_succ,wpOps_cons]
     have hGm:Gok { g:=E.g,A:=A,pu:=E.pu,m:=H.size } (V++γ):=⟨⟨hG.1.1,by rw[hH.len];exact Nat.le_refl _⟩,hG.2⟩
     refine nP hN (G:={ g:=E.g,A:=A,pu:=E.pu,m:=H.size }) hC hH hGm hF.size hk (fun t _=>hF.slot t) hst _ ?_
     intro γ' u w' hr' hu
     exact ih4 id ops rest (i+1) K A F' H' V (γ++γ') _ w' hl' h hg (by rw[<-List.append_assoc];exact hr') (by rw[<-List.append_assoc];exact hA.mono) (by rw[<-List.append_assoc];exact hF.mono.put hp hu)
    .split at h
     .rename_i s args hcc
      split at h
      .rename_i c' hc'
       split at h
       .rename_i hwf
        obtain⟨t,rfl,t1⟩:=(yX 60 H.size c').2.2 hwf
        simp only[Tre.Holds]at h
        rw[<-hH.len]at t1
        exact ih4 id ops (o::rest) i K _ F H V γ a w hl h.2 hg hH (zT 9 t A hA t1 (h.1 γ hH.len hA t rfl)) hF
       .simp[Tre.Holds]at h
      split at h
      .simp[Tre.Holds]at h
      rename_i σ hσ
      split at h
      rotate_left
      .simp[Tre.Holds]at h
      rename_i hlen
      have hlen:=Nat.eq_of_beq_eq_true hlen
      simp only[Tre.Holds]at h
      rw[List.length_cons,List.range'_succ,wpOps_cons]
      refine ar0 hN hCT hH hG hF hk hcc hσ _ ?_
      intro V1 hI hrs
      obtain⟨h1,h2⟩:=h γ hH.len hA V1 hI hrs
      refine⟨h1,fun x v tp sm hx=>?_⟩
      obtain⟨v',H3,q1,q2,q3⟩:=ih5 id ops rest (i+1) K A F H σ s o.dst s.outs s.j 0 V1 (V++γ) a hl' h2 hlen (fun x B hx=>zV (hg x B hx)) hA hF x v tp sm hx
      exact⟨v',H3,q1,q2,fun V2 u w' f1 f2 f3 f4=>q3 V2 u w' f1 (by rw[Nat.zero_add];exact f2) f3 f4⟩
     .split at h
      .simp only[Tre.Holds]at h;exact (h γ hH.len hA).elim
      .rename_i c hc
       split at h
       .rename_i hwf
        obtain⟨t,rfl,t1⟩:=(yX 60 H.size c).2.2 hwf
        simp only[Tre.Holds]at h
        rw[<-hH.len]at t1
        exact ih4 id ops (o::rest) i K _ F H V γ a w hl h.2 hg hH (zT 9 t A hA t1 (h.1 γ hH.len hA t rfl)) hF
       .simp[Tre.Holds]at h
      .rename_i c hc
       split at h
       .rename_i hwf
        obtain⟨t,rfl,t1⟩:=(yX 60 H.size c).2.2 hwf
        simp only[Tre.Holds]at h
        rw[<-hH.len]at t1
        by_cases ht:t.den (V++γ)=true
        .exact ih4 id ops (o::rest) i K _ F H V γ a w hl h.1 hg hH (zT 9 t A hA t1 ht) hF
        .have ht':t.den (V++γ)=false:=by cases h:t.den (V++γ)<;>simp_all
         obtain⟨tn,n1,n2,n3⟩:=yJ t
         rw[n1]at h
         exact ih4 id ops (o::rest) i K _ F H V γ a w hl h.2 hg hH (zT 9 tn A hA (n2 _ t1) (by rw[n3,ht'];rfl)) hF
       .simp[Tre.Holds]at h
  .intro id ops l y K A F H σ s dst lo j i V1 V' a hl h hlen hg hA hF x v tp sm hx
   cases lo with
   |nil=>simp at hx
   |cons p lo =>
    obtain⟨v0,tp0,sm0⟩:=p
    simp only[iQ]at h hlen
    split at h
    rotate_left
    .rename_i hno
     split at hlen
     .rename_i a1 a2 a3 a4;exact (hno _ _ a3 a4).elim
     .simp[Tre.len]at hlen
    rename_i H3 v' hH3 hv'
    simp only[hH3,hv']at hlen
    split at h
    rotate_left
    .rename_i hno
     rw[hno]at hlen
     simp[Tre.len]at hlen
    rename_i F' hF'
    simp only[hF']at hlen
    simp only[Tre.HoldsC]at h
    simp only[Tre.len,List.length_cons]at hlen
    cases x with
    |zero =>
     simp only[List.getElem?_cons_zero,Option.some.injEq,Prod.mk.injEq]at hx
     obtain⟨rfl,rfl,rfl⟩:=hx
     refine⟨v',H3,hH3,hv',fun V2 u w' f1 f2 f3 f4=>?_⟩
     exact ih4 id ops l y K A F' H3 (V'++V2) [] _ w' hl (h.1 V2 f1 f2) (fun x B hx=>zV (hg x B hx)) (by rw[List.append_nil];exact f3) (by rw[List.append_nil];exact hA.mono) (by rw[List.append_nil];exact hF.mono.put hF' (.inl f4))
    |succ x =>
     obtain⟨v2,H2,q1,q2,q3⟩:=ih5 id ops l y K A F H σ s dst lo j (i+1) V1 V' a hl h.2 (by omega) hg hA hF x v tp sm (by simpa using hx)
     exact⟨v2,H2,q1,q2,fun V2 u w' f1 f2 f3 f4=>q3 V2 u w' f1 (by rw[show i+1+x=i+(x+1) from by omega];exact f2) f3 f4⟩
end
end
end Go.SM
