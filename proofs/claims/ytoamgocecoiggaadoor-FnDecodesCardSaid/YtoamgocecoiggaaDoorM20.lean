-- the statement of this claim: see YtoamgocecoiggaaDoorRw
import Derived.Scope
import Derived.Test.YtoamgocecoiggaaDoorM19
set_option linter.unusedVariables false
set_option linter.unusedSimpArgs false
namespace Go.SM
noncomputable section
def wpL (P:Program) (c:Code) (Q:Exit→Act→World→Prop) (a:Act) (w:World):Prop :=
 ∀ (b:Frame) (k:List Item) (cs:List Frame),∃ e a' w',Q e a' w'∧Arrives P (lone (b.at a (.code c::.inLoop c::k)) cs w) b k cs e a' w'
theorem wpL_loop {P:Program} {c:Code} {Q:Exit→Act→World→Prop} {a:Act} {w:World} (h:wpL P c Q a w):(Code.loop c).wp P Q a w:=by
 intro b k cs
 obtain ⟨e,a',w',hq,harr⟩:=h b k cs
 exact ⟨e,a',w',hq,.of_steps (.one step_loop) harr⟩
theorem wpL_round {P:Program} {c:Code} {Q:Exit→Act→World→Prop} {a:Act} {w:World} (h:c.wp P (Exit.then (wpL P c Q) Q) a w):wpL P c Q a w:=by
 intro b k cs
 obtain ⟨e,a₁,w₁,hq,harr⟩:=h b (.inLoop c::k) cs
 cases e with
 | normal =>
  obtain ⟨e₂,a₂,w₂,hq₂,harr₂⟩:=hq b k cs
  exact ⟨e₂,a₂,w₂,hq₂,.of_steps (Steps.trans harr (.one step_inLoop)) harr₂⟩
 | exit id=>exact ⟨_,a₁,w₁,hq,.pass (x:=.inLoop c) rfl (fun _ _=>.inl (by simp)) harr⟩
 | goto l=>exact ⟨_,a₁,w₁,hq,.pass (x:=.inLoop c) rfl (fun _ _=>.inl (by simp)) harr⟩
 | ret=>exact ⟨_,a₁,w₁,hq,.pass (x:=.inLoop c) rfl (fun _ _=>.inl (by simp)) harr⟩
 | panic ch=>exact ⟨_,a₁,w₁,hq,.pass (x:=.inLoop c) rfl (fun _ _=>.inl (by simp)) harr⟩
 | outgrown=>exact ⟨_,a₁,w₁,hq,.pass (x:=.inLoop c) rfl (fun _ _=>.inl (by simp)) harr⟩
inductive Fr where
 | seq (y:Code)
 | blk (id:Nat)
 | scp
 | lp (b:Code)
def stackQ (P:Program):List Fr→(Exit→Act→World→Prop)→Exit→Act→World→Prop
 | [],Q=>Q
 | .seq y::K,Q=>Exit.then (y.wp P (stackQ P K Q)) (stackQ P K Q)
 | .blk id::K,Q=>Exit.inBlock id (stackQ P K Q)
 | .scp::K,Q=>Exit.noGoto (stackQ P K Q)
 | .lp b::K,Q=>Exit.then (wpL P b (stackQ P K Q)) (stackQ P K Q)
inductive Tre where
 | leaf (j m h:Nat) (rs:List TB) (σ:Sg) (A:List Value)
 | loop (j m h:Nat) (rs:List TB) (c:Code) (σ:Sg) (A:List Value) (ts:Tre)
 | fork (t f:Tre)
 | need (h:Nat) (A:List Value) (c:Value) (t:Tre)
 | call (j m h:Nat) (rs:List TB) (σ:Sg) (A:List Value) (ts:Tre)
 | cons (rs:List TB) (t ts:Tre)
 | nil
 | dead (n h:Nat) (A:List Value)
 | fail (n:Nat)
def Tre.len:Tre→Nat
 | .cons _ _ ts=>ts.len + 1
 | _=>0
structure LSpec where
 j:Nat
 tin:Tpl
 outs:List (AExit × Tpl × List Value)
structure CSpec where
 j:Nat
 n:Nat
 tin:Tpl
 outs:List (Value × Tpl × List (Nat × Nat))
def missV (A:List Value) (p v:Value):List Value:=match p with
 | .func (.yield 0) ⟨[.int kp z,.map (some i),.int .i64 lo,.int .i64 hi]⟩ ⟨[]⟩=>match asI v with
  | some (kv,e,lo',hi')=>(if lo≤lo'∨leOk A (.int .i64 lo) e=true then [] else [nd1 35 (nd2 31 e (.int .i64 lo))])++(if hi'≤hi∨leOk A e (.int .i64 hi)=true then [] else [nd1 35 (nd2 31 (.int .i64 hi) e)])
  | none=>[]
 | _=>[]
def missVs (A:List Value):List Value→List Value→List Value
 | p::ps,v::vs=>missV A p v++missVs A ps vs
 | _,_=>[]
def missS (n:Nat) (A:List Value) (F:Tr Value):List (Nat × Value)→List Value
 | []=>[]
 | (t,p)::l=>missV A p (ung A (aslot n F t))++missS n A F l
def missB (m:Nat) (A:List Value) (H:AS):List (Nat × Blk)→Sg→List Value
 | [],_=>[]
 | (i,p)::l,σ=>(match σ.get i with
  | some (.blk B)=>match H.get B with
   | some b=>missVs A p.cells b.cells
   | none=>[]
  | _=>[])++(match mBlk m A H σ i p with
  | some σ=>missB m A H l σ
  | none=>[])
def missT (tp:Tpl) (n:Nat) (A:List Value) (F:Tr Value) (H:AS):Option Value :=
 match missS n A F tp.F with
 | c::_=>some c
 | []=>match mSlots tp.m n A F tp.F (sg0 tp.G) with
  | none=>none
  | some σ=>match missB tp.m A H tp.H σ with
   | c::_=>some c
   | []=>none
def firstReg:Nat→Code→Option Nat
 | 0,_=>none
 | k + 1,c=>match c with
  | .region id _ _=>some id
  | .seq x y=>match firstReg k x with
   | some i=>some i
   | none=>firstReg k y
  | .cond _ x y=>match firstReg k x with
   | some i=>some i
   | none=>firstReg k y
  | .block _ c=>firstReg k c
  | .loop c=>firstReg k c
  | .scope c=>firstReg k c
  | _=>none
structure Env where
 P:Program
 pu:FuncId→Bool
 g:Nat→Option Nat
 call:ACall
 n:Nat
 lt:Nat→Option LSpec
 bt:Nat→Option LSpec
 ft:AExit→Option (Nat × Tpl)
 orc:Array Oper→List Oper→List Value→Tr Value→AS→Option (Bool × Value)
 ct:FuncId→Option CSpec:=fun _=>none
 rc:Nat→Bool:=fun _=>false
 ft2:AExit→Option (Nat × Tpl):=fun _=>none
 al:Nat→Option (List Nat):=fun _=>none
def Env.gl (E:Env) (A:List Value):Gl:={ g:=E.g,A:=A,pu:=E.pu }
def chk2 (n:Nat) (R1 R2:Tr Value) (H1 H2:AS) (R':Tr Value) (HE':AS):Bool:=(eqF n R1 R' && eqH H1 HE') || (eqF n R2 R' && eqH H2 HE')
def two (E:Env) (ops:Array Oper) (pm:List Nat) (A:List Value) (F:Tr Value) (H:AS):Option (Tr Value × AS × Tr Value × AS) :=
 match arun E.P { g:=E.g,A:=A,pu:=E.pu,m:=H.size } E.call ops E.n ops.toList F H,arun E.P { g:=E.g,A:=A,pu:=E.pu,m:=H.size } E.call ops E.n (pm.filterMap fun i=>ops[i]?) F H with
 | some (R1,H1),some (R2,H2)=>if sOk ops && gpor E.P E.pu { g:=E.g,A:=A,pu:=E.pu,m:=H.size } E.call ops E.n (chk2 E.n R1 R2 H1 H2) (ops.size + 1) (fun _=>false) F H then some (R1,H1,R2,H2) else none
 | _,_=>none
def ccall (E:Env) (A:List Value) (ops:Array Oper) (F:Tr Value) (H:AS) (o:Oper):Option (CSpec × List Value) :=
 match awanted A ops E.n F o with
 | some .yes=>(match o.op with
  | .pick _ _ _=>none
  | _=>match aop E.P A (aev (E.gl A) E.n F) H o with
   | some (.call f args)=>(match E.ct f with
    | some s=>if Nat.beq args.length s.n && Nat.ble s.n 4096 then some (s,args) else none
    | none=>none)
   | _=>none)
 | _=>none
mutual
def tre (E:Env):Nat→Code→List Fr→List Value→Tr Value→AS→Tre
 | 0,_,_,_,_,_=>.fail 0
 | k + 1,c,K,A,F,H =>
  match c with
  | .skip=>ret E k .normal K A F H
  | .label _=>ret E k .normal K A F H
  | .exit id=>ret E k (.exit id) K A F H
  | .ret=>ret E k .ret K A F H
  | .seq x y=>tre E k x (.seq y::K) A F H
  | .block id c =>
   match E.bt id with
   | none=>tre E k c (.blk id::K) A F H
   | some s =>
    match missT s.tin E.n A F H with
    | some c'=>if wfB 60 H.size c' then .need H.size A c' (tre E k (.block id c) K (addF 9 c' A) F H) else .fail (300 + s.j)
    | none =>
     match tmatch s.tin E.n A F H with
     | none=>.fail (100 + s.j)
     | some σ=>if Nat.beq (outs E k K s.outs).len s.outs.length then .loop s.j s.tin.m H.size (rgs E.n s.tin) (.block id c) σ A (outs E k K s.outs) else .fail 6
  | .scope c=>tre E k c (.scp::K) A F H
  | .cond c x y =>
   match aev (E.gl A) E.n F c with
   | .bool t=>tre E k (if t then x else y) K A F H
   | v =>
    match asB v with
    | none=>.fail 1
    | some e =>
     match dec A 60 e with
     | some t=>tre E k (if t then x else y) K A F H
     | none=>.fork (tre E k x K (addF 9 e A) F H) (tre E k y K (addF 9 (mkNot e) A) F H)
  | .loop b =>
   match (firstReg 30 b).bind E.lt with
   | none=>tre E k b (.lp b::K) A F H
   | some s =>
    match missT s.tin E.n A F H with
    | some c'=>if wfB 60 H.size c' then .need H.size A c' (tre E k (.loop b) K (addF 9 c' A) F H) else .fail (300 + s.j)
    | none =>
     match tmatch s.tin E.n A F H with
     | none=>tre E k b (.lp b::K) A F H
     | some σ=>if Nat.beq (outs E k K s.outs).len s.outs.length then .loop s.j s.tin.m H.size (rgs E.n s.tin) (.loop b) σ A (outs E k K s.outs) else .fail 6
  | .region id ops d =>
   if E.rc id && !d then reg E k id ops ops.toList K A F H else
   match (if d then (match E.al id with
    | some pm=>two E ops pm A F H
    | none=>none) else none) with
   | some (R1,H1,R2,H2)=>.fork (ret E k .normal K A R1 H1) (ret E k .normal K A R2 H2)
   | none =>
   if codeOk E.P E.pu (.region id ops d) then
    match acode E.P E.pu (E.gl A) E.call E.n 1 (.region id ops d) F H with
    | some (.normal,R,HE)=>ret E k .normal K A R HE
    | _ =>
     match E.orc ops ops.toList A F H with
     | none=>.dead id H.size A
     | some (true,c)=>if wfB 60 H.size c then .need H.size A c (tre E k (.region id ops d) K (addF 9 c A) F H) else .fail (2000 + id)
     | some (false,c)=>if wfB 60 H.size c then .fork (tre E k (.region id ops d) K (addF 9 c A) F H) (tre E k (.region id ops d) K (addF 9 (mkNot c) A) F H) else .fail (2000 + id)
   else .fail (3000 + id)
  | _=>.fail 3
def ret (E:Env):Nat→AExit→List Fr→List Value→Tr Value→AS→Tre
 | 0,_,_,_,_,_=>.fail 4
 | k + 1,e,K,A,F,H =>
  match K with
  | [] =>
   match E.ft e with
   | none=>.fail 5
   | some (j,tp) =>
    match missT tp E.n A F H with
    | some c'=>if wfB 60 H.size c' then .need H.size A c' (ret E k e [] (addF 9 c' A) F H) else .fail (400 + j)
    | none =>
     match tmatch tp E.n A F H with
     | some σ=>.leaf j tp.m H.size (rgs E.n tp) σ A
     | none =>
      match E.ft2 e with
      | none=>.fail (200 + j)
      | some (j,tp) =>
       match missT tp E.n A F H with
       | some c'=>if wfB 60 H.size c' then .need H.size A c' (ret E k e [] (addF 9 c' A) F H) else .fail (400 + j)
       | none =>
        match tmatch tp E.n A F H with
        | none=>.fail (800 + j)
        | some σ=>.leaf j tp.m H.size (rgs E.n tp) σ A
  | .seq y::K =>
   match e with
   | .normal=>tre E k y K A F H
   | e=>ret E k e K A F H
  | .blk id::K =>
   match e with
   | .exit id'=>if id'=id then ret E k .normal K A F H else ret E k (.exit id') K A F H
   | e=>ret E k e K A F H
  | .scp::K=>ret E k e K A F H
  | .lp b::K =>
   match e with
   | .normal=>tre E k b (.lp b::K) A F H
   | e=>ret E k e K A F H
def outs (E:Env):Nat→List Fr→List (AExit × Tpl × List Value)→Tre
 | 0,_,_=>.nil
 | k + 1,K,l =>
  match l with
  | []=>.nil
  | (e,tp,A)::l=>.cons (rgs E.n tp) (ret E k e K A tp.frame tp.heap) (outs E k K l)
def reg (E:Env):Nat→Nat→Array Oper→List Oper→List Fr→List Value→Tr Value→AS→Tre
 | 0,_,_,_,_,_,_,_=>.fail 7
 | k + 1,id,ops,l,K,A,F,H =>
  match l with
  | []=>ret E k .normal K A F H
  | o::rest =>
   match astep E.P { g:=E.g,A:=A,pu:=E.pu,m:=H.size } E.call ops E.n o F H with
   | some (v,H') =>
    (match aput E.n F o.dst v with
    | some F'=>reg E k id ops rest K A F' H'
    | none=>.fail 8)
   | none =>
    match ccall E A ops F H o with
    | some (s,args) =>
     (match missT s.tin s.n A (aargs args 0 .e) H with
     | some c'=>if wfB 60 H.size c' then .need H.size A c' (reg E k id ops (o::rest) K (addF 9 c' A) F H) else .fail (500 + s.j)
     | none =>
      match tmatch s.tin s.n A (aargs args 0 .e) H with
      | none=>.fail (600 + s.j)
      | some σ=>if Nat.beq (outsC E k id ops rest K A F H σ s o.dst s.outs).len s.outs.length then .call s.j s.tin.m H.size (rgs s.n s.tin) σ A (outsC E k id ops rest K A F H σ s o.dst s.outs) else .fail (700 + s.j))
    | none =>
     match E.orc ops (o::rest) A F H with
     | none=>.dead id H.size A
     | some (true,c)=>if wfB 60 H.size c then .need H.size A c (reg E k id ops (o::rest) K (addF 9 c A) F H) else .fail (2000 + id)
     | some (false,c)=>if wfB 60 H.size c then .fork (reg E k id ops (o::rest) K (addF 9 c A) F H) (reg E k id ops (o::rest) K (addF 9 (mkNot c) A) F H) else .fail (2000 + id)
def outsC (E:Env):Nat→Nat→Array Oper→List Oper→List Fr→List Value→Tr Value→AS→Sg→CSpec→Option Tmp→List (Value × Tpl × List (Nat × Nat))→Tre
 | 0,_,_,_,_,_,_,_,_,_,_,_=>.nil
 | k + 1,id,ops,rest,K,A,F,H,σ,s,dst,l =>
  match l with
  | []=>.nil
  | (v,tp,sm)::l =>
   match callH σ sm s.tin tp H,renP (callK σ sm) H.size 6 v with
   | some H3,some v' =>
    (match aput E.n F dst v' with
    | some F'=>.cons (rgs 0 tp++rgV v) (reg E k id ops rest K A F' H3) (outsC E k id ops rest K A F H σ s dst l)
    | none=>.nil)
   | _,_=>.nil
end
structure Goal where
 J:Nat→Ren→Prop
 L:Nat→Ren→Prop
 O:Nat→Nat→Ren→Ren→Prop
 W:Nat→Code→Prop
 CL:Nat→Ren→Prop:=fun _ _=>False
 CO:Nat→Nat→Ren→Ren→Prop:=fun _ _ _ _=>False
mutual
def Tre.Holds (G:Goal):Tre→Ren→Prop
 | .leaf j m h rs σ A,β=>∀ γ,(β++γ).length=h→Facts (β++γ) A→∀ β1,Inst (β++γ) σ m β1→FactsP β1 rs→G.J j β1
 | .loop j m h rs c σ A ts,β=>G.W j c∧∀ γ,(β++γ).length=h→Facts (β++γ) A→∀ β1,Inst (β++γ) σ m β1→FactsP β1 rs→G.L j β1∧ts.HoldsO G j 0 β1
 | .fork t f,β=>t.Holds G β∧f.Holds G β
 | .need h A c t,β=>(∀ γ,(β++γ).length=h→Facts (β++γ) A→∀ x:TB,c=x.enc→x.den (β++γ)=true)∧t.Holds G β
 | .call j m h rs σ A ts,β=>∀ γ,(β++γ).length=h→Facts (β++γ) A→∀ β1,Inst (β++γ) σ m β1→FactsP β1 rs→G.CL j β1∧ts.HoldsC G j 0 (β++γ) β1
 | .cons _ _ _,_=>False
 | .nil,_=>False
 | .dead _ h A,β=>∀ γ,(β++γ).length=h→Facts (β++γ) A→False
 | .fail _,_=>False
def Tre.HoldsO (G:Goal):Tre→Nat→Nat→Ren→Prop
 | .cons rs t ts,j,i,β1=>(∀ β2,FactsP β2 rs→G.O j i β1 β2→t.Holds G β2)∧ts.HoldsO G j (i + 1) β1
 | _,_,_,_=>True
def Tre.HoldsC (G:Goal):Tre→Nat→Nat→Ren→Ren→Prop
 | .cons rs t ts,j,i,β',β1=>(∀ β2,FactsP β2 rs→G.CO j i β1 β2→t.Holds G (β'++β2))∧ts.HoldsC G j (i + 1) β' β1
 | _,_,_,_,_=>True
end
def GlobOk (g:Nat→Option Nat) (β:Ren):Prop:=∀ x B,g x=some B→hm β B=some (x,0)
theorem Env.gok {E:Env} {β γ:Ren} {A:List Value} (h:GlobOk E.g β) (hA:Facts (β++γ) A):Gok (E.gl A) (β++γ):=⟨⟨fun x B hx=>hm_append (h x B hx),Nat.zero_le _⟩,hA⟩
section
variable {E:Env} {w0:W0} {Q:Exit→Act→World→Prop} {G:Goal}
def LoopOk (E:Env) (w0:W0) (G:Goal) (s:LSpec) (c:Code):Prop :=
 ∀ (Q':Exit→Act→World→Prop) (β:Ren) (a:Act) (w:World),HR w0 β s.tin.heap w→FS β E.n s.tin.frame a→G.L s.j β →
  (∀ (i:Nat) (e:AExit) (tp:Tpl) (B:List Value),s.outs[i]?=some (e,tp,B)→∀ (β2:Ren) (a':Act) (w':World),HR w0 β2 tp.heap w'→FS β2 E.n tp.frame a'→G.O s.j i β β2→Q' e.conc a' w')→c.wp E.P Q' a w
def CLaw (P:Program) (G:Goal) (f:FuncId) (s:CSpec):Prop :=
 ∀ (w0:W0) (β:Ren) (args:Array Value) (w:World),HR w0 β s.tin.heap w→FS β s.n s.tin.frame { tmps:=args,defers:=[] }→G.CL s.j β →
  Calls P f args w fun e w'=>∃ (i:Nat) (v:Value) (tp:Tpl) (sm:List (Nat × Nat)) (β2:Ren) (u:Value),s.outs[i]?=some (v,tp,sm)∧e=.returned u∧HR w0 β2 tp.heap w'∧VR β2 v u∧G.CO s.j i β β2∧∀ p ∈ sm,SmK β β2 p
theorem tmatch_more {β:Ren} {H:AS} {w:World} {n:Nat} {A:List Value} {F:Tr Value} {a:Act} {tp:Tpl} {σ:Sg} (hA:Facts β A) (h:HR w0 β H w) (hF:FS β n F a) (hm:tmatch tp n A F H=some σ) :
    tp.m≤2 ^ 20∧(∀ p ∈ tp.H,p.1 < tp.m)∧MatchOk H σ tp.H:=by
 unfold tmatch at hm
 split at hm
 rotate_left
 ·cases hm
 rename_i hc
 simp only [Bool.and_eq_true,List.all_eq_true] at hc
 obtain ⟨⟨⟨hc1,hc2⟩,hc3⟩,hc4⟩:=hc
 have hc4:∀ i ∈ tp.G,i < β.length:=fun i hi=>by rw [h.len]; exact Nat.le_of_ble_eq_true (hc4 i hi)
 have hc1:tp.m≤2 ^ 20:=Nat.le_of_ble_eq_true hc1
 have hc2:∀ p ∈ tp.H,p.1 < tp.m:=fun p hp=>Nat.le_of_ble_eq_true (hc2 p hp)
 split at hm
 rotate_left
 ·cases hm
 rename_i σ1 h1
 split at hm
 rotate_left
 ·cases hm
 rename_i σ2 h2
 split at hm
 rotate_left
 ·cases hm
 cases hm
 obtain ⟨a1,a2,a3⟩:=mSlots_sound hA hF h1 (sg0_valid hc4)
 obtain ⟨b1,b2,b3⟩:=mBlks_sound hA h h2 a2
 refine ⟨hc1,hc2,fun i p hp=>?_⟩
 obtain ⟨B,b,e1,e2,e3,e4,_⟩:=b3 i p hp
 exact ⟨B,b,by unfold wBlk; rw [e1],e2,e3,e4⟩
theorem ccall_wp {β:Ren} {H:AS} {w:World} {a:Act} {i:Nat} {ops:Array Oper} {o:Oper} {F:Tr Value} {A:List Value} {s:CSpec} {args:List Value} {R:Exit→Act→World→Prop}
    (hN:NoNum E.P) (hCT:∀ f s,E.ct f=some s→CLaw E.P G f s) (h:HR w0 β H w) (hG:Gok (E.gl A) β) (hF:FS β E.n F a) (hi:ops[i]?=some o) (hc:ccall E A ops F H o=some (s,args))
    {σ:Sg} (hm:tmatch s.tin s.n A (aargs args 0 .e) H=some σ) (K:Act→World→Prop)
    (hL:∀ β1,Inst β σ s.tin.m β1→FactsP β1 (rgs s.n s.tin)→G.CL s.j β1∧∀ (x:Nat) (v:Value) (tp:Tpl) (sm:List (Nat × Nat)),s.outs[x]?=some (v,tp,sm)→∃ (v':Value) (H3:AS),callH σ sm s.tin tp H=some H3∧renP (callK σ sm) H.size 6 v=some v' ∧
     ∀ (β2:Ren) (u:Value) (w':World),FactsP β2 (rgs 0 tp++rgV v)→G.CO s.j x β1 β2→HR w0 (β++β2) H3 w'→VR (β++β2) v' u→K (a.put o.dst u) w'):wpOp E.P ops R i K a w:=by
 unfold ccall at hc
 split at hc
 rotate_left
 ·cases hc
 rename_i hw
 obtain ⟨t,t1,t2,t3,t4,t5⟩:=wanted_sound hG.2 hF.size (fun t _=>hF.slot t) hw
 unfold wpOp
 simp only [hi]
 rw [t2,t3 rfl,if_pos rfl]
 refine .inl ?_
 split at hc
 ·cases hc
 split at hc
 rotate_left
 ·cases hc
 rename_i f args0 hop
 split at hc
 rotate_left
 ·cases hc
 rename_i s0 hs0
 split at hc
 rotate_left
 ·cases hc
 rename_i hlen
 cases hc
 rw [Bool.and_eq_true] at hlen
 have hl:=Nat.eq_of_beq_eq_true hlen.1
 have hl2:s.n≤2 ^ 12:=Nat.le_of_ble_eq_true hlen.2
 have hρ:∀ x ∈ o.op.operands,VR β (aev (E.gl A) E.n F x) (a.eval x):=fun x hx=>aev_sound hG hF.size x fun t ht=>hF.slot t
 obtain ⟨us,hrun,hus⟩:=aop_sound_at hN h hρ hG.2 hop
 unfold Oper.wp
 rw [hrun]
 have hfs:=frame_start (n:=s.n) hl2 hus (by omega)
 have hsz:us.size=s.n:=by rw [← hl,← hus.1,Array.length_toList]
 rw [hsz,Nat.sub_self,Array.replicate_zero,Array.append_empty] at hfs
 obtain ⟨β1,hI,hH1,hF1⟩:=tmatch_sound hG.2 h hfs hm
 obtain ⟨m1,m2,m3⟩:=tmatch_more hG.2 h hfs hm
 obtain ⟨hcl,hout⟩:=hL β1 hI (rgs_sound hH1 hF1)
 refine (hCT f s hs0 (w0.call w β σ s.tin.H) β1 us w (HR.enter hI m2 m1 hH1 m3) hF1 hcl).mono ?_
 rintro e w' ⟨x,v,tp,sm,β2,u,hx,rfl,hr,hv,hco,hsm⟩
 obtain ⟨v',H3,q1,q2,q3⟩:=hout x v tp sm hx
 obtain ⟨r1,r2⟩:=HR.leave h hI m3 hsm hr q1
 refine q3 β2 u w' (FactsP.append (rgs_sound (a:={ tmps:=#[],defers:=[] }) hr ⟨rfl,by decide,fun t u hu=>by simp at hu,rfl⟩) (rgV_sound hv)) hco r1 (r2 q2 hv)
theorem tre_sound (hN:NoNum E.P) (hC:CallOk E.P (E.gl []) E.call) (hm:E.P.follows .mixedOrders=true)
    (hJ:∀ (j:Nat) (e:AExit) (tp:Tpl) (β1:Ren) (a:Act) (w:World),(E.ft e=some (j,tp)∨E.ft2 e=some (j,tp))→HR w0 β1 tp.heap w→FS β1 E.n tp.frame a→G.J j β1→Q e.conc a w)
    (hW:∀ (r:Nat) (s:LSpec) (c:Code),E.lt r=some s∨E.bt r=some s→G.W s.j c→LoopOk E w0 G s c)
    (hO:∀ j i β1 β2,G.O j i β1 β2→GlobOk E.g β2)
    (hO2:∀ (r:Nat) (s:LSpec),E.lt r=some s∨E.bt r=some s→∀ (i:Nat) (e:AExit) (tp:Tpl) (B:List Value),s.outs[i]?=some (e,tp,B)→∀ (β1 β2:Ren),G.O s.j i β1 β2→Facts β2 B)
    (hCT:∀ f s,E.ct f=some s→CLaw E.P G f s):∀ (k:Nat),
    (∀ (c:Code) (K:List Fr) (A:List Value) (F:Tr Value) (H:AS) (β γ:Ren) (a:Act) (w:World),(tre E k c K A F H).Holds G β→GlobOk E.g β→HR w0 (β++γ) H w→Facts (β++γ) A→FS (β++γ) E.n F a→c.wp E.P (stackQ E.P K Q) a w) ∧
    (∀ (e:AExit) (K:List Fr) (A:List Value) (F:Tr Value) (H:AS) (β γ:Ren) (a:Act) (w:World),(ret E k e K A F H).Holds G β→GlobOk E.g β→HR w0 (β++γ) H w→Facts (β++γ) A→FS (β++γ) E.n F a→stackQ E.P K Q e.conc a w) ∧
    (∀ (K:List Fr) (l:List (AExit × Tpl × List Value)) (j i:Nat) (β1:Ren),(outs E k K l).HoldsO G j i β1→(outs E k K l).len=l.length→(∀ (x:Nat) (e:AExit) (tp:Tpl) (B:List Value),l[x]?=some (e,tp,B)→∀ β2,G.O j (i + x) β1 β2→Facts β2 B)→∀ (x:Nat) (e:AExit) (tp:Tpl) (B:List Value),l[x]?=some (e,tp,B)→∀ (β2:Ren) (a':Act) (w':World),HR w0 β2 tp.heap w'→FS β2 E.n tp.frame a'→G.O j (i + x) β1 β2→stackQ E.P K Q e.conc a' w') ∧
    (∀ (id:Nat) (ops:Array Oper) (l:List Oper) (i:Nat) (K:List Fr) (A:List Value) (F:Tr Value) (H:AS) (β γ:Ren) (a:Act) (w:World),ops.toList.drop i=l→(reg E k id ops l K A F H).Holds G β→GlobOk E.g β→HR w0 (β++γ) H w→Facts (β++γ) A→FS (β++γ) E.n F a→wpOps E.P ops (stackQ E.P K Q) (List.range' i l.length) a w) ∧
    (∀ (id:Nat) (ops:Array Oper) (l:List Oper) (y:Nat) (K:List Fr) (A:List Value) (F:Tr Value) (H:AS) (σ:Sg) (s:CSpec) (dst:Option Tmp) (lo:List (Value × Tpl × List (Nat × Nat))) (j i:Nat) (β1 β':Ren) (a:Act),ops.toList.drop y=l→(outsC E k id ops l K A F H σ s dst lo).HoldsC G j i β' β1→(outsC E k id ops l K A F H σ s dst lo).len=lo.length→GlobOk E.g β'→Facts β' A→FS β' E.n F a →
     ∀ (x:Nat) (v:Value) (tp:Tpl) (sm:List (Nat × Nat)),lo[x]?=some (v,tp,sm)→∃ (v':Value) (H3:AS),callH σ sm s.tin tp H=some H3∧renP (callK σ sm) H.size 6 v=some v' ∧
      ∀ (β2:Ren) (u:Value) (w':World),FactsP β2 (rgs 0 tp++rgV v)→G.CO j (i + x) β1 β2→HR w0 (β'++β2) H3 w'→VR (β'++β2) v' u→wpOps E.P ops (stackQ E.P K Q) (List.range' y l.length) (a.put dst u) w'):=by
 intro k
 induction k with
 | zero =>
  refine ⟨fun c K A F H β γ a w h=>by simp [tre,Tre.Holds] at h,fun e K A F H β γ a w h=>by simp [ret,Tre.Holds] at h,fun K l j i β1 _ hl _ x e tp B hx=>?_,fun id ops l i K A F H β γ a w _ h=>by simp [reg,Tre.Holds] at h,fun id ops l y K A F H σ s dst lo j i β1 β' a _ _ hl _ _ _ x v tp sm hx=>?_⟩
  ·simp only [outs,Tre.len] at hl
   have:l=[]:=List.eq_nil_of_length_eq_zero hl.symm
   subst this
   simp at hx
  ·simp only [outsC,Tre.len] at hl
   have:lo=[]:=List.eq_nil_of_length_eq_zero hl.symm
   subst this
   simp at hx
 | succ k ih =>
  obtain ⟨ih1,ih2,ih3,ih4,ih5⟩:=ih
  refine ⟨?_,?_,?_,?_,?_⟩
  ·intro c K A F H β γ a w h hg hH hA hF
   have hG:=E.gok hg hA
   cases c with
   | skip=>simp only [tre] at h; exact wp_skip (ih2 .normal K A F H β γ a w h hg hH hA hF)
   | label l=>simp only [tre] at h; exact wp_label (ih2 .normal K A F H β γ a w h hg hH hA hF)
   | exit id=>simp only [tre] at h; exact wp_exit (ih2 (.exit id) K A F H β γ a w h hg hH hA hF)
   | ret=>simp only [tre] at h; exact wp_ret (ih2 .ret K A F H β γ a w h hg hH hA hF)
   | seq x y=>simp only [tre] at h; exact wp_seq (ih1 x (.seq y::K) A F H β γ a w h hg hH hA hF)
   | block id c =>
    simp only [tre] at h
    split at h
    ·exact wp_block (ih1 c (.blk id::K) A F H β γ a w h hg hH hA hF)
    rename_i s hs
    split at h
    ·rename_i c' hc'
     split at h
     ·rename_i hwf
      obtain ⟨t,rfl,t1⟩:=(wf_sound 60 H.size c').2.2 hwf
      simp only [Tre.Holds] at h
      rw [← hH.len] at t1
      exact ih1 _ K _ F H β γ a w h.2 hg hH (addF_sound 9 t A hA t1 (h.1 γ hH.len hA t rfl)) hF
     ·simp [Tre.Holds] at h
    split at h
    ·simp [Tre.Holds] at h
    rename_i σ hσ
    split at h
    rotate_left
    ·simp [Tre.Holds] at h
    rename_i hlen
    have hlen:=Nat.eq_of_beq_eq_true hlen
    simp only [Tre.Holds] at h
    obtain ⟨h1,h2⟩:=h
    obtain ⟨β1,hI,hH1,hF1⟩:=tmatch_sound hA hH hF hσ
    obtain ⟨hL,hOs⟩:=h2 γ hH.len hA β1 hI (rgs_sound hH1 hF1)
    refine hW id s _ (.inr hs) h1 _ β1 a w hH1 hF1 hL ?_
    intro i e tp B hi β2 a' w' q1 q2 q3
    exact ih3 K s.outs s.j 0 β1 hOs hlen (fun x e tp B hx β2 hq=>hO2 id s (.inr hs) x e tp B hx β1 β2 (by rw [Nat.zero_add] at hq; exact hq)) i e tp B hi β2 a' w' q1 q2 (by rw [Nat.zero_add]; exact q3)
   | scope c=>simp only [tre] at h; exact wp_scope_straight (ih1 c (.scp::K) A F H β γ a w h hg hH hA hF)
   | cond c x y =>
    simp only [tre] at h
    have hc:=aev_sound hG hF.size c (fun t _=>hF.slot t)
    split at h
    ·rename_i t ht
     rw [ht] at hc
     exact wp_cond (hc.eq_of_ground rfl) (ih1 _ K A F H β γ a w h hg hH hA hF)
    ·split at h
     ·simp [Tre.Holds] at h
     rename_i e he
     obtain ⟨tt,rfl,t1,t2⟩:=asB_sound hc he
     split at h
     ·rename_i t hd
      have hdt:=dec_sound hA 60 tt _ hd
      rw [hdt] at t2
      exact wp_cond t2 (ih1 _ K A F H β γ a w h hg hH hA hF)
     ·simp only [Tre.Holds] at h
      refine wp_cond t2 ?_
      by_cases ht:tt.den (β++γ)=true
      ·rw [ht,if_pos rfl]
       exact ih1 x K _ F H β γ a w h.1 hg hH (addF_sound 9 tt A hA t1 ht) hF
      ·have ht':tt.den (β++γ)=false:=by cases h:tt.den (β++γ) <;> simp_all
       rw [ht',if_neg (by decide)]
       obtain ⟨tn,n1,n2,n3⟩:=mkNot_sound tt
       rw [n1] at h
       exact ih1 y K _ F H β γ a w h.2 hg hH (addF_sound 9 tn A hA (n2 _ t1) (by rw [n3,ht']; rfl)) hF
   | loop b =>
    simp only [tre] at h
    split at h
    ·exact wpL_loop (wpL_round (ih1 b (.lp b::K) A F H β γ a w h hg hH hA hF))
    rename_i s hs
    split at h
    ·rename_i c' hc'
     split at h
     ·rename_i hwf
      obtain ⟨t,rfl,t1⟩:=(wf_sound 60 H.size c').2.2 hwf
      simp only [Tre.Holds] at h
      rw [← hH.len] at t1
      exact ih1 _ K _ F H β γ a w h.2 hg hH (addF_sound 9 t A hA t1 (h.1 γ hH.len hA t rfl)) hF
     ·simp [Tre.Holds] at h
    split at h
    ·exact wpL_loop (wpL_round (ih1 b (.lp b::K) A F H β γ a w h hg hH hA hF))
    rename_i σ hσ
    split at h
    rotate_left
    ·simp [Tre.Holds] at h
    rename_i hlen
    have hlen:=Nat.eq_of_beq_eq_true hlen
    simp only [Tre.Holds] at h
    obtain ⟨h1,h2⟩:=h
    obtain ⟨r,_,hr⟩:=Option.bind_eq_some_iff.1 hs
    obtain ⟨β1,hI,hH1,hF1⟩:=tmatch_sound hA hH hF hσ
    obtain ⟨hL,hOs⟩:=h2 γ hH.len hA β1 hI (rgs_sound hH1 hF1)
    refine hW r s _ (.inl hr) h1 _ β1 a w hH1 hF1 hL ?_
    intro i e tp B hi β2 a' w' q1 q2 q3
    exact ih3 K s.outs s.j 0 β1 hOs hlen (fun x e tp B hx β2 hq=>hO2 r s (.inl hr) x e tp B hx β1 β2 (by rw [Nat.zero_add] at hq; exact hq)) i e tp B hi β2 a' w' q1 q2 (by rw [Nat.zero_add]; exact q3)
   | region id ops d =>
    simp only [tre] at h
    split at h
    ·rename_i hd
     rw [Bool.and_eq_true] at hd
     have hd:d=false:=by simpa using hd.2
     subst hd
     refine wp_region ?_
     have:=ih4 id ops ops.toList 0 K A F H β γ a w rfl h hg hH hA hF
     rw [Array.length_toList,← List.range_eq_range'] at this
     exact this
    split at h
    ·rename_i R1 H1 R2 H2 htwo
     split at htwo
     rotate_left
     ·cases htwo
     rename_i hd
     have hd:d=true:=by simpa using hd
     subst hd
     split at htwo
     rotate_left
     ·cases htwo
     unfold two at htwo
     split at htwo
     rotate_left
     ·cases htwo
     rename_i R1' H1' R2' H2' e1 e2
     split at htwo
     rotate_left
     ·cases htwo
     rename_i hgo
     cases htwo
     rw [Bool.and_eq_true] at hgo
     simp only [Tre.Holds] at h
     have hGm:Gok { g:=E.g,A:=A,pu:=E.pu,m:=H.size } (β++γ):=⟨⟨hG.1.1,by rw [hH.len]; exact Nat.le_refl _⟩,hG.2⟩
     refine gpor_region hN (G:={ g:=E.g,A:=A,pu:=E.pu,m:=H.size }) hC (fun A f args H v H' hp hc=>hC.1 A f args H v H' hp hc) hm hgo.1 hH hGm hF hgo.2 ?_
     intro γ' R' HE' a' w' hchk q1 q2
     unfold chk2 at hchk
     rw [Bool.or_eq_true,Bool.and_eq_true,Bool.and_eq_true] at hchk
     rw [List.append_assoc] at q1 q2
     rcases hchk with ⟨c1,c2⟩ | ⟨c1,c2⟩
     ·exact ih2 .normal K A R1 H1 β (γ++γ') a' w' h.1 hg (q1.as c2) (by rw [← List.append_assoc]; exact hA.mono) (q2.as c1)
     ·exact ih2 .normal K A R2 H2 β (γ++γ') a' w' h.2 hg (q1.as c2) (by rw [← List.append_assoc]; exact hA.mono) (q2.as c1)
    split at h
    rotate_left
    ·simp [Tre.Holds] at h
    rename_i hok
    split at h
    ·rename_i R HE hrun
     refine acode_sound hN (G:=E.gl A) hC (fun A f args H v H' hp hc=>hC.1 A f args H v H' hp hc) hm 1 (.region id ops d) (β++γ) F H a w .normal R HE _ hok hH hG hF hrun ?_
     intro γ' a' w' q1 q2
     rw [List.append_assoc] at q1 q2
     exact ih2 .normal K A R HE β (γ++γ') a' w' h hg q1 (by rw [← List.append_assoc]; exact hA.mono) q2
    ·split at h
     ·simp only [Tre.Holds] at h; exact (h γ hH.len hA).elim
     ·rename_i c hc
      split at h
      ·rename_i hwf
       obtain ⟨t,rfl,t1⟩:=(wf_sound 60 H.size c).2.2 hwf
       simp only [Tre.Holds] at h
       rw [← hH.len] at t1
       exact ih1 _ K _ F H β γ a w h.2 hg hH (addF_sound 9 t A hA t1 (h.1 γ hH.len hA t rfl)) hF
      ·simp [Tre.Holds] at h
     ·rename_i c hc
      split at h
      ·rename_i hwf
       obtain ⟨t,rfl,t1⟩:=(wf_sound 60 H.size c).2.2 hwf
       simp only [Tre.Holds] at h
       rw [← hH.len] at t1
       by_cases ht:t.den (β++γ)=true
       ·exact ih1 _ K _ F H β γ a w h.1 hg hH (addF_sound 9 t A hA t1 ht) hF
       ·have ht':t.den (β++γ)=false:=by cases h:t.den (β++γ) <;> simp_all
        obtain ⟨tn,n1,n2,n3⟩:=mkNot_sound t
        rw [n1] at h
        exact ih1 _ K _ F H β γ a w h.2 hg hH (addF_sound 9 tn A hA (n2 _ t1) (by rw [n3,ht']; rfl)) hF
      ·simp [Tre.Holds] at h
   | rangeFunc=>simp [tre,Tre.Holds] at h
   | goto=>simp [tre,Tre.Holds] at h
   | refuse=>simp [tre,Tre.Holds] at h
  ·intro e K A F H β γ a w h hg hH hA hF
   cases K with
   | nil =>
    simp only [ret] at h
    split at h
    ·simp [Tre.Holds] at h
    rename_i j tp hft
    split at h
    ·rename_i c' hc'
     split at h
     ·rename_i hwf
      obtain ⟨t,rfl,t1⟩:=(wf_sound 60 H.size c').2.2 hwf
      simp only [Tre.Holds] at h
      rw [← hH.len] at t1
      exact ih2 e [] _ F H β γ a w h.2 hg hH (addF_sound 9 t A hA t1 (h.1 γ hH.len hA t rfl)) hF
     ·simp [Tre.Holds] at h
    split at h
    ·rename_i σ hσ
     simp only [Tre.Holds] at h
     obtain ⟨β1,hI,hH1,hF1⟩:=tmatch_sound hA hH hF hσ
     exact hJ j e tp β1 a w (.inl hft) hH1 hF1 (h γ hH.len hA β1 hI (rgs_sound hH1 hF1))
    split at h
    ·simp [Tre.Holds] at h
    rename_i j2 tp2 hft2
    split at h
    ·rename_i c' hc'
     split at h
     ·rename_i hwf
      obtain ⟨t,rfl,t1⟩:=(wf_sound 60 H.size c').2.2 hwf
      simp only [Tre.Holds] at h
      rw [← hH.len] at t1
      exact ih2 e [] _ F H β γ a w h.2 hg hH (addF_sound 9 t A hA t1 (h.1 γ hH.len hA t rfl)) hF
     ·simp [Tre.Holds] at h
    split at h
    ·simp [Tre.Holds] at h
    rename_i σ hσ
    simp only [Tre.Holds] at h
    obtain ⟨β1,hI,hH1,hF1⟩:=tmatch_sound hA hH hF hσ
    exact hJ j2 e tp2 β1 a w (.inr hft2) hH1 hF1 (h γ hH.len hA β1 hI (rgs_sound hH1 hF1))
   | cons fr K =>
    cases fr with
    | seq y =>
     simp only [ret] at h
     split at h
     ·exact ih1 y K A F H β γ a w h hg hH hA hF
     ·rename_i hne
      have:=ih2 e K A F H β γ a w h hg hH hA hF
      cases e with
      | normal=>exact (hne rfl).elim
      | ret=>exact this
      | exit id=>exact this
    | blk id =>
     simp only [ret] at h
     split at h
     ·rename_i id'
      split at h
      ·rename_i hid
       have:=ih2 .normal K A F H β γ a w h hg hH hA hF
       show Exit.inBlock id (stackQ E.P K Q) (.exit id') a w
       simp only [Exit.inBlock,hid,if_true]; exact this
      ·rename_i hid
       have:=ih2 (.exit id') K A F H β γ a w h hg hH hA hF
       show Exit.inBlock id (stackQ E.P K Q) (.exit id') a w
       simp only [Exit.inBlock,hid,if_false]; exact this
     ·rename_i hne
      have:=ih2 e K A F H β γ a w h hg hH hA hF
      cases e with
      | normal=>exact this
      | ret=>exact this
      | exit id'=>exact (hne id' rfl).elim
    | lp b =>
     simp only [ret] at h
     split at h
     ·exact wpL_round (ih1 b (.lp b::K) A F H β γ a w h hg hH hA hF)
     ·rename_i hne
      have:=ih2 e K A F H β γ a w h hg hH hA hF
      cases e with
      | normal=>exact (hne rfl).elim
      | ret=>exact this
      | exit id=>exact this
    | scp =>
     simp only [ret] at h
     have:=ih2 e K A F H β γ a w h hg hH hA hF
     cases e <;> exact this
  ·intro K l j i β1 h hl hB x e tp B hx β2 a' w' q1 q2 q3
   cases l with
   | nil=>simp at hx
   | cons p l =>
    obtain ⟨e0,tp0,B0⟩:=p
    simp only [outs] at h hl
    simp only [Tre.HoldsO] at h
    simp only [Tre.len,List.length_cons] at hl
    cases x with
    | zero =>
     simp only [List.getElem?_cons_zero,Option.some.injEq,Prod.mk.injEq] at hx
     obtain ⟨rfl,rfl,rfl⟩:=hx
     have hB0:=hB 0 e0 tp0 B0 (by simp) β2 q3
     rw [Nat.add_zero] at q3
     exact ih2 e0 K B0 _ _ β2 [] a' w' (h.1 β2 (rgs_sound q1 q2) q3) (hO j i β1 β2 q3) (by rw [List.append_nil]; exact q1) (by rw [List.append_nil]; exact hB0) (by rw [List.append_nil]; exact q2)
    | succ x =>
     exact ih3 K l j (i + 1) β1 h.2 (by omega) (fun x e tp B hx β2 hq=>hB (x + 1) e tp B (by simpa using hx) β2 (by rw [show i + (x + 1)=i + 1 + x from by omega]; exact hq)) x e tp B (by simpa using hx) β2 a' w' q1 q2 (by rw [show i + 1 + x=i + (x + 1) from by omega]; exact q3)
  ·intro id ops l i K A F H β γ a w hl h hg hH hA hF
   have hG:=E.gok hg hA
   cases l with
   | nil =>
    simp only [reg] at h
    exact ih2 .normal K A F H β γ a w h hg hH hA hF
   | cons o rest =>
    have hk:ops[i]?=some o:=by
     rw [← Array.getElem?_toList]
     have:=congrArg (fun l=>l[0]?) hl
     simpa using this
    have hl':ops.toList.drop (i + 1)=rest:=by rw [← List.tail_drop,hl]; rfl
    simp only [reg] at h
    split at h
    ·rename_i v H' hst
     split at h
     rotate_left
     ·simp [Tre.Holds] at h
     rename_i F' hp
     rw [List.length_cons,List.range'_succ,wpOps_cons]
     have hGm:Gok { g:=E.g,A:=A,pu:=E.pu,m:=H.size } (β++γ):=⟨⟨hG.1.1,by rw [hH.len]; exact Nat.le_refl _⟩,hG.2⟩
     refine step_wp hN (G:={ g:=E.g,A:=A,pu:=E.pu,m:=H.size }) hC hH hGm hF.size hk (fun t _=>hF.slot t) hst _ ?_
     intro γ' u w' hr' hu
     exact ih4 id ops rest (i + 1) K A F' H' β (γ++γ') _ w' hl' h hg (by rw [← List.append_assoc]; exact hr') (by rw [← List.append_assoc]; exact hA.mono) (by rw [← List.append_assoc]; exact hF.mono.put hp hu)
    ·split at h
     ·rename_i s args hcc
      split at h
      ·rename_i c' hc'
       split at h
       ·rename_i hwf
        obtain ⟨t,rfl,t1⟩:=(wf_sound 60 H.size c').2.2 hwf
        simp only [Tre.Holds] at h
        rw [← hH.len] at t1
        exact ih4 id ops (o::rest) i K _ F H β γ a w hl h.2 hg hH (addF_sound 9 t A hA t1 (h.1 γ hH.len hA t rfl)) hF
       ·simp [Tre.Holds] at h
      split at h
      ·simp [Tre.Holds] at h
      rename_i σ hσ
      split at h
      rotate_left
      ·simp [Tre.Holds] at h
      rename_i hlen
      have hlen:=Nat.eq_of_beq_eq_true hlen
      simp only [Tre.Holds] at h
      rw [List.length_cons,List.range'_succ,wpOps_cons]
      refine ccall_wp hN hCT hH hG hF hk hcc hσ _ ?_
      intro β1 hI hrs
      obtain ⟨h1,h2⟩:=h γ hH.len hA β1 hI hrs
      refine ⟨h1,fun x v tp sm hx=>?_⟩
      obtain ⟨v',H3,q1,q2,q3⟩:=ih5 id ops rest (i + 1) K A F H σ s o.dst s.outs s.j 0 β1 (β++γ) a hl' h2 hlen (fun x B hx=>hm_append (hg x B hx)) hA hF x v tp sm hx
      exact ⟨v',H3,q1,q2,fun β2 u w' f1 f2 f3 f4=>q3 β2 u w' f1 (by rw [Nat.zero_add]; exact f2) f3 f4⟩
     ·split at h
      ·simp only [Tre.Holds] at h; exact (h γ hH.len hA).elim
      ·rename_i c hc
       split at h
       ·rename_i hwf
        obtain ⟨t,rfl,t1⟩:=(wf_sound 60 H.size c).2.2 hwf
        simp only [Tre.Holds] at h
        rw [← hH.len] at t1
        exact ih4 id ops (o::rest) i K _ F H β γ a w hl h.2 hg hH (addF_sound 9 t A hA t1 (h.1 γ hH.len hA t rfl)) hF
       ·simp [Tre.Holds] at h
      ·rename_i c hc
       split at h
       ·rename_i hwf
        obtain ⟨t,rfl,t1⟩:=(wf_sound 60 H.size c).2.2 hwf
        simp only [Tre.Holds] at h
        rw [← hH.len] at t1
        by_cases ht:t.den (β++γ)=true
        ·exact ih4 id ops (o::rest) i K _ F H β γ a w hl h.1 hg hH (addF_sound 9 t A hA t1 ht) hF
        ·have ht':t.den (β++γ)=false:=by cases h:t.den (β++γ) <;> simp_all
         obtain ⟨tn,n1,n2,n3⟩:=mkNot_sound t
         rw [n1] at h
         exact ih4 id ops (o::rest) i K _ F H β γ a w hl h.2 hg hH (addF_sound 9 tn A hA (n2 _ t1) (by rw [n3,ht']; rfl)) hF
       ·simp [Tre.Holds] at h
  ·intro id ops l y K A F H σ s dst lo j i β1 β' a hl h hlen hg hA hF x v tp sm hx
   cases lo with
   | nil=>simp at hx
   | cons p lo =>
    obtain ⟨v0,tp0,sm0⟩:=p
    simp only [outsC] at h hlen
    split at h
    rotate_left
    ·rename_i hno
     split at hlen
     ·rename_i a1 a2 a3 a4; exact (hno _ _ a3 a4).elim
     ·simp [Tre.len] at hlen
    rename_i H3 v' hH3 hv'
    simp only [hH3,hv'] at hlen
    split at h
    rotate_left
    ·rename_i hno
     rw [hno] at hlen
     simp [Tre.len] at hlen
    rename_i F' hF'
    simp only [hF'] at hlen
    simp only [Tre.HoldsC] at h
    simp only [Tre.len,List.length_cons] at hlen
    cases x with
    | zero =>
     simp only [List.getElem?_cons_zero,Option.some.injEq,Prod.mk.injEq] at hx
     obtain ⟨rfl,rfl,rfl⟩:=hx
     refine ⟨v',H3,hH3,hv',fun β2 u w' f1 f2 f3 f4=>?_⟩
     exact ih4 id ops l y K A F' H3 (β'++β2) [] _ w' hl (h.1 β2 f1 f2) (fun x B hx=>hm_append (hg x B hx)) (by rw [List.append_nil]; exact f3) (by rw [List.append_nil]; exact hA.mono) (by rw [List.append_nil]; exact hF.mono.put hF' (.inl f4))
    | succ x =>
     obtain ⟨v2,H2,q1,q2,q3⟩:=ih5 id ops l y K A F H σ s dst lo j (i + 1) β1 β' a hl h.2 (by omega) hg hA hF x v tp sm (by simpa using hx)
     exact ⟨v2,H2,q1,q2,fun β2 u w' f1 f2 f3 f4=>q3 β2 u w' f1 (by rw [show i + 1 + x=i + (x + 1) from by omega]; exact f2) f3 f4⟩
end
end
end Go.SM
