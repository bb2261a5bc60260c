-- the statement of this claim: see YtoamgocecoiggaaDoorRs
import Derived.Test.YtoamgocecoiggaaDoorM2
set_option linter.unusedVariables false
set_option linter.unusedSimpArgs false
set_option maxRecDepth 100000
noncomputable section
namespace Go.SM
noncomputable section
def aOB(op:BinOp)(s u:ByteArray):Option Value :=
 match op with
 | .add=>if ((s.size+u.size:Nat):Int)<=IntKind.i64.max then some (.string (s++u)) else none
 | .eql=>some (.bool (decide (s.data.toList=u.data.toList)))
 | .neq=>some (.bool (!decide (s.data.toList=u.data.toList)))
 | .lss=>some (.bool (Op.bytesLess s.data.toList u.data.toList))
 | .geq=>some (.bool (!Op.bytesLess s.data.toList u.data.toList))
 | .leq=>some (.bool (Op.bytesLess s.data.toList u.data.toList || decide (s.data.toList=u.data.toList)))
 | .gtr=>some (.bool (!(Op.bytesLess s.data.toList u.data.toList || decide (s.data.toList=u.data.toList))))
 |_=>none
theorem anR(l m:List UInt8):(l == m)=decide (l=m):=by
 by_cases h:l=m
 .subst h;simp
 .rw[decide_eq_false h,beq_eq_false_iff_ne];exact h
theorem qN{P:Program}{w:World}{op:BinOp}{s u:ByteArray}{v:Value}(h:aOB op s u=some v):(Op.stringOp op s u).run P w=.ok v w/\zL v=true:=by
 unfold aOB at h;split at h<;>try (cases h;done)
 .split at h
  .rename_i hle;cases h;refine⟨?_,rfl⟩;simp only[Op.stringOp];rw[if_neg (by omega)];rfl
  .cases h
 all_goals
  cases h;refine⟨?_,rfl⟩;simp only[Op.stringOp,Lib.toList_data,anR];rfl
def awB(op:BinOp)(lo hi c:Int):Option Bool :=
 match op with
 | .eql=>if c<lo\/hi<c then some false else if lo=hi/\c=lo then some true else none
 | .neq=>if c<lo\/hi<c then some true else if lo=hi/\c=lo then some false else none
 | .lss=>if hi<c then some true else if c<=lo then some false else none
 | .leq=>if hi<=c then some true else if c<lo then some false else none
 | .gtr=>if c<lo then some true else if hi<=c then some false else none
 | .geq=>if c<=lo then some true else if hi<c then some false else none
 |_=>none
theorem X6{P:Program}{w:World}{op:BinOp}{lo hi c n:Int}{r:Bool}{t:TypeId}{k:IntKind}(h:awB op lo hi c=some r)(h1:lo<=n)(h2:n<=hi):(binOp op t (.int k n) (.int k c)).run P w=.ok (.bool r) w:=by
 have key:∀ (p q:Bool),p=q->Sem.run P (pure (Value.bool p)) w=.ok (.bool q) w:=by rintro p _ rfl;rfl
 unfold awB at h;split at h<;>try (cases h;done)
 all_goals
  simp only[binOp,ne_eq,not_true_eq_false,if_false,Op.intCmp];split at h
  .cases h;refine key _ _ ?_;first
    |exact decide_eq_true (by omega)
    |exact decide_eq_false (by omega)
    |exact beq_eq_false_iff_ne.2 (by omega)
    |exact bne_iff_ne.2 (by omega)
  .split at h
   .cases h;refine key _ _ ?_;first
     |exact decide_eq_true (by omega)
     |exact decide_eq_false (by omega)
     |exact beq_iff_eq.2 (by omega)
     |(rw[bne_eq_false_iff_eq];omega)
   .cases h
def asZ(op:BinOp)(c:Int):Option Bool :=
 match op with
 | .eql=>if c=0 then some false else none
 | .neq=>if c=0 then some true else none
 |_=>none
theorem ahX{P:Program}{w:World}{op:BinOp}{c n:Int}{r:Bool}{t:TypeId}(h:asZ op c=some r)(hn:n≠0):(binOp op t (.int .u32 n) (.int .u32 c)).run P w=.ok (.bool r) w:=by
 have key:∀ (p q:Bool),p=q->Sem.run P (pure (Value.bool p)) w=.ok (.bool q) w:=by rintro p _ rfl;rfl
 unfold asZ at h;split at h<;>try (cases h;done)
 all_goals
  simp only[binOp,ne_eq,not_true_eq_false,if_false,Op.intCmp];split at h
  .rename_i hc;subst hc;cases h;refine key _ _ ?_;first
    |exact beq_eq_false_iff_ne.2 hn
    |exact bne_iff_ne.2 hn
  .cases h
theorem aT6:∀ m:Fin 64,IntKind.i64.wrap (((BitVec.ofInt 64 (m.val:Int)) &&& (BitVec.ofInt 64 63)).toNat:Int)=(m.val:Int):=by decide
theorem aiB{P:Program}{w:World}{t:TypeId}(m:Nat)(hm:m<=63):(binOp .and t (.int .i64 (m:Int)) (.int .i64 63)).run P w=.ok (.int .i64 (m:Int)) w:=by
 simp only[binOp,ne_eq,not_true_eq_false,if_false,Op.intBits];exact congrArg (fun z=>Result.ok (Value.int .i64 z) w) (aT6 ⟨m,by omega⟩)
theorem jE{P:Program}{w:World}{t:TypeId}(q r:ByteArray)(h:q.size+r.size<=9223372036854775807):(binOp .add t (.string q) (.string r)).run P w=.ok (.string (q++r)) w:=by
 have:binOp .add t (.string q) (.string r)=Op.stringOp .add q r:=rfl;rw[this];simp only[Op.stringOp]
 rw [if_neg (by show ¬ ((q.size + r.size : Nat) : Int) > IntKind.i64.max; have : IntKind.i64.max = 9223372036854775807 := by decide
                omega)]
 rfl
def eD(a:Nat):Bool:=Nat.beq (a%12) 2 || Nat.beq (a%12) 5
def aFO(op:BinOp)(a:Nat):Option Value :=
 match op with
 | .add=>if eD a&&Nat.ble (a/12) 1000 then some (.map (some a)) else none
 | .eql=>if Nat.beq (a%12) 5 then some (.bool false) else none
 | .neq=>if Nat.beq (a%12) 5 then some (.bool true) else none
 |_=>none
def agR(op:BinOp)(a b:Nat):Option Value :=
 match op with
 | .add=>if eD a&&eD b&&Nat.ble (a/12+b/12) 1000 then
     some (.map (some (12*(a/12+b/12+1)+(if Nat.beq (a%12) 5 || Nat.beq (b%12) 5 then 5 else 2))))
  else none
 |_=>none
theorem VR.str_inv{V:Ren}{a:Nat}{u:Value}(h:VR V (.map (some a)) u)(ha:eD a=true):∃ s:ByteArray,u=.string s/\s.size<=(a/12+1)*2147483648/\(a%12=5->s.size≠0):=by
 have ha':a%12=2\/a%12=5:=by
  unfold eD at ha;rw[Bool.or_eq_true]at ha;exact ha.imp Nat.eq_of_beq_eq_true Nat.eq_of_beq_eq_true
 generalize hz:(Value.map (some a))=z at h;cases h<;>try cases hz
 .exfalso;omega
 .exfalso;omega
 .rename_i j s hs;exact⟨s,rfl,by rw[show (12*j+2)/12=j from by omega];exact hs,fun h=>by omega⟩
 .rename_i j s hs hs';exact⟨s,rfl,by rw[show (12*j+5)/12=j from by omega];exact hs,fun _=>hs'⟩
 .exfalso;omega
theorem VR.unz_inv{V:Ren}{u:Value}(h:VR V (.map (some 8)) u):∃ n:Int,u=.int .u32 n/\n≠0:=by
 generalize hz:(Value.map (some 8))=z at h;cases h<;>try cases hz
 .exfalso;have e:=Option.some.inj (Value.map.inj hz);omega
 .exfalso;have e:=Option.some.inj (Value.map.inj hz);omega
 .exfalso;have e:=Option.some.inj (Value.map.inj hz);omega
 .exfalso;have e:=Option.some.inj (Value.map.inj hz);omega
 .rename_i n hn;exact⟨n,rfl,hn⟩
theorem VR.str_mk{V:Ren}{j:Nat}{s:ByteArray}(b:Bool)(h:s.size<=(j+1)*2147483648)(hb:b=true->s.size≠0):VR V (.map (some (12*j+(if b then 5 else 2)))) (.string s):=by
 cases b with
 |true=>exact .sNe j s h (hb rfl)
 |false=>exact .sAny j s h
theorem W9{V:Ren}{a:Nat}{s:ByteArray}(ha:eD a=true)(h1:s.size<=(a/12+1)*2147483648)(h2:a%12=5->s.size≠0):VR V (.map (some a)) (.string s):=by
 have ha':a%12=2\/a%12=5:=by
  unfold eD at ha;rw[Bool.or_eq_true]at ha;exact ha.imp Nat.eq_of_beq_eq_true Nat.eq_of_beq_eq_true
 rcases ha' with h|h
 .have e:a=12*(a/12)+2:=by omega
  rw[e];exact .sAny _ s h1
 .have e:a=12*(a/12)+5:=by omega
  rw[e];exact .sNe _ s h1 (h2 h)
theorem anG{s:ByteArray}(h:Nat.beq s.size 0=true):s=ByteArray.empty:=by
 have h:=Nat.eq_of_beq_eq_true h;cases s with
 |mk d =>
  have:d=#[]:=Array.eq_empty_of_size_eq_zero h;subst this;rfl
theorem ao1{P:Program}{w:World}{t:TypeId}(q:ByteArray)(h:q.size<=9223372036854775807):(binOp .add t (.string ByteArray.empty) (.string q)).run P w=.ok (.string q) w:=by
 rw[jE ByteArray.empty q (by simpa using h)];rw[ByteArray.empty_append]
theorem aiI{P:Program}{w:World}{t:TypeId}(q:ByteArray)(h:q.size<=9223372036854775807):(binOp .add t (.string q) (.string ByteArray.empty)).run P w=.ok (.string q) w:=by
 rw[jE q ByteArray.empty (by simpa using h)];rw[ByteArray.append_empty]
theorem R9{P:Program}{w:World}{t:TypeId}(q:ByteArray)(h:q.size≠0):(binOp .eql t (.string q) (.string ByteArray.empty)).run P w=.ok (.bool false) w/\(binOp .neq t (.string q) (.string ByteArray.empty)).run P w=.ok (.bool true) w:=by
 have hd:decide (q.data.toList=ByteArray.empty.data.toList)=false:=by
  refine decide_eq_false fun e=>h ?_;have e1:q.data.toList.length=0:=by rw[e];rfl
  rw[Array.length_toList]at e1;exact e1
 have h1:=(qN (P:=P) (w:=w) (op:=.eql) (s:=q) (u:=ByteArray.empty) rfl).1;have h2:=(qN (P:=P) (w:=w) (op:=.neq) (s:=q) (u:=ByteArray.empty) rfl).1;rw[hd]at h1 h2;exact⟨h1,h2⟩
def apA(P:Program)(op:BinOp)(t:TypeId)(x y:Operand)(a b:Value):Option Value :=
 match a,b with
 | .string s,.string u=>aOB op s u
 |_,_ =>
  if zL a&&zL b then agr P (do eqGuard op t x y a b;binOp op t a b)
  else
   match a,b with
   | .complex .f32 lo hi,.int .u8 c=>(awB op lo hi c).map .bool
   | .complex .f64 lo hi,.int .i64 c =>
    match op with
    | .and=>if c=63/\Nat.ble hi 63=true then some (.complex .f64 lo hi) else none
    |_=>(awB op lo hi c).map .bool
   | .map (some 8),.int .u32 c=>(asZ op c).map .bool
   | .map (some a),.string s=>if Nat.beq s.size 0 then aFO op a else none
   | .string s,.map (some b)=>if Nat.beq s.size 0 then (match op with
    | .add=>if eD b&&Nat.ble (b/12) 1000 then some (.map (some b)) else none
    |_=>none) else none
   | .map (some a),.map (some b)=>agR op a b
   | .chan (some b),.int .i64 c =>
    match op with
    | .add=>if b%2=0/\0<=c/\b/2+c.toNat<=2 ^ 40 then some (.chan (some (2*(b/2+c.toNat)))) else none
    |_=>none
   |a,b =>
    match op with
    | .eql=>(sT P t a b).map .bool
    | .neq=>(sT P t a b).map fun r=>.bool (!r)
    |_=>none
theorem yH{P:Program}{w:World}{op:BinOp}{t:TypeId}{x y:Operand}{a b:Value}(h:∀ c d,¬ (a=.agg c/\b=.agg d))(h2:¬ (a=.nilIface/\b=.nilIface)):(eqGuard op t x y a b).run P w=.ok () w:=by
 unfold eqGuard;cases op<;>first
  |rfl
  |(cases a<;>cases b<;>first|rfl|exact (h2 ⟨rfl,rfl⟩).elim|exact (h _ _ ⟨rfl,rfl⟩).elim)
theorem Q7{P:Program}{t:TypeId}{a b:Value}{r:Bool}(h:sT P t a b=some r):(∀ c d,¬ (a=.agg c/\b=.agg d))/\¬ (a=.nilIface/\b=.nilIface) /\
    (∀ c d,¬ (a=.tuple c/\b=d))/\(∀ c d,¬ (a=d/\b=.tuple c)):=by
 unfold sT at h
 refine⟨?_,?_,?_,?_⟩<;>(intros;rintro⟨rfl,rfl⟩;split at h<;>simp_all)
theorem akP{P:Program}{w:World}{t:TypeId}{a b:Value}{r:Bool}(h:(Op.equal t a b).run P w=.ok r w)
    (hf:(∃ p,a=.pointer p)\/(∃ p n c,a=.slice p n c)\/a=.nilIface\/(∃ t v,a=.iface t v)\/a=.nilFunc\/(∃ f x c,a=.func f x c)) :
    (binOp .eql t a b).run P w=.ok (.bool r) w/\(binOp .neq t a b).run P w=.ok (.bool (!r)) w:=by
 have e1:binOp .eql t a b=(do pure (.bool (← Op.equal t a b))):=by
  rcases hf with⟨p,rfl⟩|⟨p,n,c,rfl⟩|rfl|⟨t,v,rfl⟩|rfl|⟨f,x,c,rfl⟩<;>(unfold binOp;cases b<;>rfl)
 have e2:binOp .neq t a b=(do pure (.bool (!(← Op.equal t a b)))):=by
  rcases hf with⟨p,rfl⟩|⟨p,n,c,rfl⟩|rfl|⟨t,v,rfl⟩|rfl|⟨f,x,c,rfl⟩<;>(unfold binOp;cases b<;>rfl)
 rw[e1,e2]
 simp only[Sem.run_bind,h,Result.andThen_ok]
 exact⟨rfl,rfl⟩
theorem acS{P:Program}{w:World}{V:Ren}{op:BinOp}{t:TypeId}{x y:Operand}{a b a' b' v:Value}(ha:VR V a a')(hb:VR V b b')(h:apA P op t x y a b=some v) :
    ∃ u,(do eqGuard op t x y a' b';binOp op t a' b':Sem Value).run P w=.ok u w/\VR V v u:=by
 unfold apA at h
 split at h
 .rename_i s u
  cases ha;cases hb
  obtain⟨h1,h2⟩:=qN (P:=P) (w:=w) h
  refine⟨v,?_,VR.of_ground h2⟩
  rw[Sem.run_bind,yH (by rintro c d ⟨h,_⟩;cases h) (by rintro⟨h,_⟩;cases h),Result.andThen_ok]
  have:binOp op t (.string s) (.string u)=Op.stringOp op s u:=by cases op<;>rfl
  rw[this];exact h1
 .split at h
  .rename_i hg
   simp only[Bool.and_eq_true]at hg
   have e1:=ha.eq_of_ground hg.1
   have e2:=hb.eq_of_ground hg.2
   subst e1 e2
   exact⟨v,(nD h w).1,VR.of_ground (nD h w).2⟩
  ·have main : ∀ r, sT P t a b = some r → (eqGuard op t x y a' b').run P w = .ok () w ∧ (binOp .eql t a' b').run P w = .ok (.bool r) w ∧ (binOp .neq t a' b').run P w = .ok (.bool (!r)) w := by
     intro r hr;have hE:=U0 (w:=w) ha hb hr;have hform:(∃ p,a=.pointer p)\/(∃ p n c,a=.slice p n c)\/a=.nilIface\/(∃ t v,a=.iface t v)\/a=.nilFunc\/(∃ f x c,a=.func f x c/\noY f=true):=by
      unfold sT at hr;split at hr<;>simp_all
     have hform':(∃ p,a'=.pointer p)\/(∃ p n c,a'=.slice p n c)\/a'=.nilIface\/(∃ t v,a'=.iface t v)\/a'=.nilFunc\/(∃ f x c,a'=.func f x c):=by
      rcases hform with⟨p,rfl⟩|⟨p,n,c,rfl⟩|rfl|⟨t,v,rfl⟩|rfl|⟨f,x,c,rfl,hy⟩<;>cases ha<;>first|(simp;done)|(simp[noY]at hy;done)
     obtain⟨b1,b2⟩:=akP hE hform';refine⟨yH ?_ ?_,b1,b2⟩
     .rintro c d ⟨rfl,rfl⟩;rcases hform' with⟨p,h⟩|⟨p,n,c,h⟩|h|⟨t,v,h⟩|h|⟨f,x,c,h⟩<;>cases h
     .rintro⟨rfl,rfl⟩;have hformb:(∃ p,b=.pointer p)\/(∃ p n c,b=.slice p n c)\/b=.nilIface\/(∃ t v,b=.iface t v)\/b=.nilFunc\/(∃ f x c,b=.func f x c/\noY f=true):=by
       unfold sT at hr;split at hr<;>simp_all
      have f1:a=.nilIface\/∃ u,a=.tuple u:=by
       rcases hform with⟨p,rfl⟩|⟨p,n,c,rfl⟩|rfl|⟨t,v,rfl⟩|rfl|⟨f,x,c,rfl,hy⟩<;>first|exact .inl rfl|cases ha
      have f2:b=.nilIface\/∃ u,b=.tuple u:=by
       rcases hformb with⟨p,rfl⟩|⟨p,n,c,rfl⟩|rfl|⟨t,v,rfl⟩|rfl|⟨f,x,c,rfl,hy⟩<;>first|exact .inl rfl|cases hb
      obtain⟨_,g2,g3,g4⟩:=Q7 hr;rcases f1 with rfl|⟨u,rfl⟩
      .rcases f2 with rfl|⟨u,rfl⟩
       .exact g2 ⟨rfl,rfl⟩
       .exact g4 _ _ ⟨rfl,rfl⟩
      .exact g3 _ _ ⟨rfl,rfl⟩
   split at h
   .rename_i lo hi c;simp only[Option.map_eq_some_iff]at h;obtain⟨r,hr,rfl⟩:=h;cases ha with
    |rng8 _ _ n h1 h2 =>
     cases hb;refine⟨_,?_,.bool _⟩;rw[Sem.run_bind,yH (by rintro _ _ ⟨h,_⟩;cases h) (by rintro⟨h,_⟩;cases h),Result.andThen_ok];exact X6 hr h1 h2
   .rename_i lo hi c;split at h
    .split at h
     .rename_i hc;obtain⟨rfl,hhi⟩:=hc;have hh:=Nat.le_of_ble_eq_true hhi;cases h;cases ha with
      |rng64 _ _ n h1 h2 =>
       cases hb;refine⟨.int .i64 n,?_,.rng64 _ _ n h1 h2⟩;rw[Sem.run_bind,yH (by rintro _ _ ⟨h,_⟩;cases h) (by rintro⟨h,_⟩;cases h),Result.andThen_ok];obtain⟨m,rfl⟩:∃ m:Nat,n=m:=⟨n.toNat,by omega⟩
       exact aiB m (by omega)
     .cases h
    .simp only[Option.map_eq_some_iff]at h;obtain⟨r,hr,rfl⟩:=h;cases ha with
     |rng64 _ _ n h1 h2 =>
      cases hb;refine⟨_,?_,.bool _⟩;rw[Sem.run_bind,yH (by rintro _ _ ⟨h,_⟩;cases h) (by rintro⟨h,_⟩;cases h),Result.andThen_ok];exact X6 hr h1 h2
   .rename_i c _;simp only[Option.map_eq_some_iff]at h;obtain⟨r,hr,rfl⟩:=h;obtain⟨n,rfl,hn⟩:=ha.unz_inv;cases hb;refine⟨_,?_,.bool _⟩;rw[Sem.run_bind,yH (by rintro _ _ ⟨h,_⟩;cases h) (by rintro⟨h,_⟩;cases h),Result.andThen_ok];exact ahX hr hn
   .rename_i a s _ _;split at h;rotate_left
    .cases h
    rename_i hs;have hs:=anG hs;subst hs;cases hb;unfold aFO at h;split at h
    .split at h
     .rename_i hA;rw[Bool.and_eq_true]at hA;obtain⟨hA,hA3⟩:=hA;have hA3:=Nat.le_of_ble_eq_true hA3;cases h;obtain⟨q,rfl,q1,q2⟩:=ha.str_inv hA;refine⟨.string q,?_,W9 hA q1 q2⟩;rw[Sem.run_bind,yH (by rintro _ _ ⟨h,_⟩;cases h) (by rintro⟨h,_⟩;cases h),Result.andThen_ok];exact aiI q (by omega)
     .cases h
    .split at h
     .rename_i hA;cases h;have hA5:=Nat.eq_of_beq_eq_true hA;obtain⟨q,rfl,q1,q2⟩:=ha.str_inv (by unfold eD;rw[hA,Bool.or_true]);refine⟨.bool false,?_,.bool _⟩;rw[Sem.run_bind,yH (by rintro _ _ ⟨h,_⟩;cases h) (by rintro⟨h,_⟩;cases h),Result.andThen_ok];exact (R9 q (q2 hA5)).1
     .cases h
    .split at h
     .rename_i hA;cases h;have hA5:=Nat.eq_of_beq_eq_true hA;obtain⟨q,rfl,q1,q2⟩:=ha.str_inv (by unfold eD;rw[hA,Bool.or_true]);refine⟨.bool true,?_,.bool _⟩;rw[Sem.run_bind,yH (by rintro _ _ ⟨h,_⟩;cases h) (by rintro⟨h,_⟩;cases h),Result.andThen_ok];exact (R9 q (q2 hA5)).2
     .cases h
    .cases h
   .rename_i s b _ _;split at h;rotate_left
    .cases h
    rename_i hs;have hs:=anG hs;subst hs;cases ha;split at h;rotate_left
    .cases h
    split at h;rotate_left
    .cases h
    rename_i hA;rw[Bool.and_eq_true]at hA;obtain⟨hA,hA3⟩:=hA;have hA3:=Nat.le_of_ble_eq_true hA3;cases h;obtain⟨q,rfl,q1,q2⟩:=hb.str_inv hA;refine⟨.string q,?_,W9 hA q1 q2⟩;rw[Sem.run_bind,yH (by rintro _ _ ⟨h,_⟩;cases h) (by rintro⟨h,_⟩;cases h),Result.andThen_ok];exact ao1 q (by omega)
   .rename_i a b _ _;unfold agR at h;split at h;rotate_left
    .cases h
    split at h;rotate_left
    .cases h
    rename_i hA;simp only[Bool.and_eq_true]at hA;obtain⟨⟨hA1,hA2⟩,hA3⟩:=hA;have hA3:=Nat.le_of_ble_eq_true hA3;cases h;obtain⟨q,rfl,q1,q2⟩:=ha.str_inv hA1;obtain⟨r,rfl,r1,r2⟩:=hb.str_inv hA2;refine⟨.string (q++r),?_,VR.str_mk _ (by rw[ByteArray.size_append];omega) ?_⟩
    .rw[Sem.run_bind,yH (by rintro _ _ ⟨h,_⟩;cases h) (by rintro⟨h,_⟩;cases h),Result.andThen_ok];exact jE q r (by omega)
    .intro hh;rw[Bool.or_eq_true]at hh;rw[ByteArray.size_append];rcases hh with hh|hh
     .have:=q2 (Nat.eq_of_beq_eq_true hh);omega
     .have:=r2 (Nat.eq_of_beq_eq_true hh);omega
   .rename_i m c _ _;split at h
    .split at h
     .rename_i hc;obtain⟨hc1,hc2,hc3⟩:=hc;cases h;cases hb;cases ha with
      |rsl=>exfalso;omega
      |rint k q h1 h2 h3 =>
       have e1:2*k/2=k:=by omega
       rw[e1]at hc3 ⊢;refine⟨.int .i64 ((q.b+(k+c.toNat):Nat):Int),?_,.rint _ q h1 hc3 h3⟩;rw[Sem.run_bind,yH (by rintro _ _ ⟨h,_⟩;cases h) (by rintro⟨h,_⟩;cases h),Result.andThen_ok];have e2:IntKind.i64.wrap (((q.b+k:Nat):Int)+c)=((q.b+(k+c.toNat):Nat):Int):=by
        rw[IntWalk.i64_in _ (by omega)];omega
       simp only[binOp,ne_eq,not_true_eq_false,if_false,Op.intArith];rw[e2];rfl
     .cases h
    .cases h
   split at h
   .simp only[Option.map_eq_some_iff]at h;obtain⟨r,hr,rfl⟩:=h;obtain⟨m1,m2,m3⟩:=main r hr;exact⟨_,by rw[Sem.run_bind,m1,Result.andThen_ok];exact m2,.bool _⟩
   .simp only[Option.map_eq_some_iff]at h;obtain⟨r,hr,rfl⟩:=h;obtain⟨m1,m2,m3⟩:=main r hr;exact⟨_,by rw[Sem.run_bind,m1,Result.andThen_ok];exact m3,.bool _⟩
   .cases h
end
noncomputable section
theorem IOp.code_inj{a b:IOp}(h:a.code=b.code):a=b:=by cases a<;>cases b<;>first|rfl|(simp[IOp.code]at h;done)
theorem pJ{n m:Nat}{a b:Value}(h:nd1 n a=nd1 m b):n=m/\a=b:=by simp[nd1]at h;exact h
theorem xF{n m:Nat}{a b a' b':Value}(h:nd2 n a b=nd2 m a' b'):n=m/\a=a'/\b=b':=by simp[nd2]at h;exact h
theorem sE{n m:Nat}{a b c a' b' c':Value}(h:nd3 n a b c=nd3 m a' b' c'):n=m/\a=a'/\b=b'/\c=c':=by simp[nd3]at h;exact h
mutual
theorem TI.inj:∀(a b:TI),a.enc=b.enc->a=b
 | .lit n,b,h=>by cases b<;>simp[TI.enc,nd1,nd2,nd3]at h;rw[h]
 | .var n,b,h=>by cases b<;>simp[TI.enc,nd1,nd2,nd3]at h;rw[h]
 | .op o x y,b,h=>by
  cases b<;>simp only[TI.enc]at h<;>try (simp[nd1,nd2,nd3]at h;done)
  .obtain⟨h1,h2,h3⟩:=xF h;rw[IOp.code_inj (Nat.add_left_cancel h1),TI.inj _ _ h2,TI.inj _ _ h3]
  .obtain⟨h1,_⟩:=xF h;omega
  .obtain⟨h1,_⟩:=xF h;omega
  .obtain⟨h1,_⟩:=xF h;omega
 | .wrap k x,b,h=>by
  cases b<;>simp only[TI.enc]at h<;>try (simp[nd1,nd2,nd3]at h;done)
  .obtain⟨h1,_⟩:=xF h;omega
  .obtain⟨h1,h2,h3⟩:=xF h;cases h2;rw[TI.inj _ _ h3]
 | .len l,b,h=>by
  cases b<;>simp only[TI.enc]at h<;>try (simp[nd1,nd2,nd3]at h;done)
  .rw[TL.inj _ _ (pJ h).2]
 | .lenN l,b,h=>by
  cases b<;>simp only[TI.enc]at h<;>try (simp[nd1,nd2,nd3]at h;done)
  .rw[TN.inj _ _ (pJ h).2]
 | .selN l i,b,h=>by
  cases b<;>simp only[TI.enc]at h<;>try (simp[nd1,nd2,nd3]at h;done)
  .obtain⟨h1,_⟩:=xF h;omega
  .obtain⟨h1,h2,h3⟩:=xF h;rw[TN.inj _ _ h2,TI.inj _ _ h3]
 | .sel l i,b,h=>by
  cases b<;>simp only[TI.enc]at h<;>try (simp[nd1,nd2,nd3]at h;done)
  .obtain⟨h1,_⟩:=xF h;omega
  .obtain⟨h1,h2,h3⟩:=xF h;rw[TL.inj _ _ h2,TI.inj _ _ h3]
 | .ite c x y,b,h=>by
  cases b<;>simp only[TI.enc]at h<;>try (simp[nd1,nd2,nd3]at h;done)
  .obtain⟨h1,h2,h3,h4⟩:=sE h;rw[TB.inj _ _ h2,TI.inj _ _ h3,TI.inj _ _ h4]
theorem TN.inj:∀(a b:TN),a.enc=b.enc->a=b
 | .var n,b,h=>by cases b<;>simp[TN.enc,nd1,nd2,nd3]at h;rw[h]
 | .nil,b,h=>by cases b<;>simp[TN.enc,nd1,nd2,nd3]at h;rfl
 | .app x y,b,h=>by
  cases b<;>simp only[TN.enc]at h<;>try (simp[nd1,nd2,nd3]at h;done)
  .obtain⟨h1,h2,h3⟩:=xF h;rw[TN.inj _ _ h2,TN.inj _ _ h3]
 | .one x,b,h=>by
  cases b<;>simp only[TN.enc]at h<;>try (simp[nd1,nd2,nd3]at h;done)
  .rw[TI.inj _ _ (pJ h).2]
 | .sub x y z,b,h=>by
  cases b<;>simp only[TN.enc]at h<;>try (simp[nd1,nd2,nd3]at h;done)
  .obtain⟨h1,h2,h3,h4⟩:=sE h;rw[TN.inj _ _ h2,TI.inj _ _ h3,TI.inj _ _ h4]
theorem TL.inj:∀(a b:TL),a.enc=b.enc->a=b
 | .lit n,b,h=>by
  cases b<;>simp[TL.enc,nd1,nd2,nd3]at h;rw[h]
 | .var n,b,h=>by cases b<;>simp[TL.enc,nd1,nd2,nd3]at h;rw[h]
 | .set x y z,b,h=>by
  cases b<;>simp only[TL.enc]at h<;>try (simp[nd1,nd2,nd3]at h;done)
  .obtain⟨h1,h2,h3,h4⟩:=sE h;rw[TL.inj _ _ h2,TI.inj _ _ h3,TI.inj _ _ h4]
 | .app x y,b,h=>by
  cases b<;>simp only[TL.enc]at h<;>try (simp[nd1,nd2,nd3]at h;done)
  .obtain⟨h1,h2,h3⟩:=xF h;rw[TL.inj _ _ h2,TL.inj _ _ h3]
 | .one x,b,h=>by
  cases b<;>simp only[TL.enc]at h<;>try (simp[nd1,nd2,nd3]at h;done)
  .rw[TI.inj _ _ (pJ h).2]
 | .sub x y z,b,h=>by
  cases b<;>simp only[TL.enc]at h<;>try (simp[nd1,nd2,nd3]at h;done)
  .obtain⟨h1,h2,h3,h4⟩:=sE h;rw[TL.inj _ _ h2,TI.inj _ _ h3,TI.inj _ _ h4]
 | .put x y z,b,h=>by
  cases b<;>simp only[TL.enc]at h<;>try (simp[nd1,nd2,nd3]at h;done)
  .obtain⟨h1,h2,h3,h4⟩:=sE h;rw[TL.inj _ _ h2,TI.inj _ _ h3,TL.inj _ _ h4]
theorem TB.inj:∀(a b:TB),a.enc=b.enc->a=b
 | .lit n,b,h=>by cases b<;>simp[TB.enc,nd1,nd2,nd3]at h;rw[h]
 | .var n,b,h=>by cases b<;>simp[TB.enc,nd1,nd2,nd3]at h;rw[h]
 | .lt x y,b,h=>by
  cases b<;>simp only[TB.enc]at h<;>try (simp[nd1,nd2,nd3]at h;done)
  .obtain⟨h1,h2,h3⟩:=xF h;rw[TI.inj _ _ h2,TI.inj _ _ h3]
 | .le x y,b,h=>by
  cases b<;>simp only[TB.enc]at h<;>try (simp[nd1,nd2,nd3]at h;done)
  .obtain⟨h1,h2,h3⟩:=xF h;rw[TI.inj _ _ h2,TI.inj _ _ h3]
 | .eq x y,b,h=>by
  cases b<;>simp only[TB.enc]at h<;>try (simp[nd1,nd2,nd3]at h;done)
  .obtain⟨h1,h2,h3⟩:=xF h;rw[TI.inj _ _ h2,TI.inj _ _ h3]
 | .eqL x y,b,h=>by
  cases b<;>simp only[TB.enc]at h<;>try (simp[nd1,nd2,nd3]at h;done)
  .obtain⟨h1,h2,h3⟩:=xF h;rw[TL.inj _ _ h2,TL.inj _ _ h3]
 | .not x,b,h=>by
  cases b<;>simp only[TB.enc]at h<;>try (simp[nd1,nd2,nd3]at h;done)
  .rw[TB.inj _ _ (pJ h).2]
 | .and x y,b,h=>by
  cases b<;>simp only[TB.enc]at h<;>try (simp[nd1,nd2,nd3]at h;done)
  .obtain⟨h1,h2,h3⟩:=xF h;rw[TB.inj _ _ h2,TB.inj _ _ h3]
 | .or x y,b,h=>by
  cases b<;>simp only[TB.enc]at h<;>try (simp[nd1,nd2,nd3]at h;done)
  .obtain⟨h1,h2,h3⟩:=xF h;rw[TB.inj _ _ h2,TB.inj _ _ h3]
 | .ite x y z,b,h=>by
  cases b<;>simp only[TB.enc]at h<;>try (simp[nd1,nd2,nd3]at h;done)
  .obtain⟨h1,h2,h3,h4⟩:=sE h;rw[TB.inj _ _ h2,TB.inj _ _ h3,TB.inj _ _ h4]
 | .pred i x y z l m,b,h=>by
  cases b<;>simp only[TB.enc]at h<;>try (simp[nd1,nd2,nd3]at h;done)
  .obtain⟨h1,h2,h3,h4⟩:=sE h;obtain⟨_,g1,g2,g3⟩:=sE h3;obtain⟨_,g4,g5⟩:=xF h4;rw[TI.inj _ _ g1,TI.inj _ _ g2,TI.inj _ _ g3,TL.inj _ _ g4,TL.inj _ _ g5];simp only[Value.int.injEq,true_and,Int.natCast_inj]at h2;rw[h2]
end
def teq:Nat->Value->Value->Bool
 |0,_,_=>false
 |n+1,a,b =>
  match a,b with
  | .int k x,.int k' y=>decide (k=k')&&decide (x=y)
  | .bool x,.bool y=>x == y
  | .map (some x),.map (some y)=>Nat.beq x y
  | .string x,.string y=>decide (x.data.toList=y.data.toList)
  | .func (.yield i) ⟨[x]⟩ ⟨[]⟩,.func (.yield j) ⟨[y]⟩ ⟨[]⟩=>Nat.beq i j&&teq n x y
  | .func (.yield i) ⟨[x,x2]⟩ ⟨[]⟩,.func (.yield j) ⟨[y,y2]⟩ ⟨[]⟩=>Nat.beq i j&&(teq n x y&&teq n x2 y2)
  | .func (.yield i) ⟨[x,x2,x3]⟩ ⟨[]⟩,.func (.yield j) ⟨[y,y2,y3]⟩ ⟨[]⟩=>Nat.beq i j&&(teq n x y&&(teq n x2 y2&&teq n x3 y3))
  |_,_=>false
theorem xK:∀(n:Nat)(a b:Value),teq n a b=true->a=b
 |0,_,_,h=>by cases h
 |n+1,a,b,h=>by
  unfold teq at h;split at h
  .simp only[Bool.and_eq_true,decide_eq_true_eq]at h;rw[h.1,h.2]
  .rw[eq_of_beq h]
  .rw[Nat.eq_of_beq_eq_true h]
  .rename_i x y;have h:=of_decide_eq_true h;have:x=y:=by
    cases x;cases y;congr 1;exact Array.ext' h
   rw[this]
  .simp only[Bool.and_eq_true]at h;rw[Nat.eq_of_beq_eq_true h.1,xK n _ _ h.2]
  .simp only[Bool.and_eq_true]at h;rw[Nat.eq_of_beq_eq_true h.1,xK n _ _ h.2.1,xK n _ _ h.2.2]
  .simp only[Bool.and_eq_true]at h;rw[Nat.eq_of_beq_eq_true h.1,xK n _ _ h.2.1,xK n _ _ h.2.2.1,xK n _ _ h.2.2.2]
  .cases h
def Facts(V:Ren)(A:List Value):Prop:=∀ a∈A,∃ t:TB,a=t.enc/\t.ok V.length=true/\t.den V=true
theorem Facts.mono{V γ:Ren}{A:List Value}(h:Facts V A):Facts (V++γ) A:=fun a ha=>by
 obtain⟨t,h1,h2,h3⟩:=h a ha;exact⟨t,h1,TB.ok_app _ _ (by simp) t h2,by rw[TB.den_app V γ t h2];exact h3⟩
theorem Facts.nil(V:Ren):Facts V []:=fun a ha=>by cases ha
theorem Facts.append{V:Ren}{A B:List Value}(h:Facts V A)(h2:Facts V B):Facts V (A++B):=fun a ha=>by
 rcases List.mem_append.1 ha with ha|ha
 .exact h a ha
 .exact h2 a ha
def has:List Value->Value->Bool
 |[],_=>false
 |a::A,e=>teq 200 a e || has A e
theorem agX:∀ {A:List Value} {e:Value},has A e=true->e∈A
 |[],e,h=>by cases h
 |a::A,e,h=>by
  simp only[has,Bool.or_eq_true]at h;rcases h with h|h
  .rw[xK _ _ _ h];exact List.mem_cons_self ..
  .exact List.mem_cons_of_mem _ (agX h)
theorem Facts.has{V:Ren}{A:List Value}(h:Facts V A){t:TB}(ht:has A t.enc=true):t.den V=true:=by
 obtain⟨t',h1,_,h3⟩:=h _ (agX ht);rw[TB.inj _ _ h1];exact h3
def oZ:List Value->Bool
 |[]=>false
 |[.bool b]=>b
 |_::A=>oZ A
def an1(e:Value):List Value->Option Int
 |[]=>none
 |a::A=>match a with
  | .func (.yield 33) ⟨[x,.int .i64 c]⟩ ⟨[]⟩=>if teq 60 x e then some c else an1 e A
  |_=>an1 e A
def opF:Nat->Option IOp
 |100=>some .add|101=>some .sub|103=>some .and|104=>some .or|107=>some .shl|108=>some .shr|_=>none
def evF(A:List Value):Nat->Value->Option Int
 |0,_=>none
 |n+1,e=>match e with
  | .int .i64 x=>some x
  |e=>match an1 e A with
   |some c=>some c
   |none=>match e with
    | .func (.yield g) ⟨[a,b]⟩ ⟨[]⟩=>(match opF g,evF A n a,evF A n b with
     |some o,some x,some y=>some (o.fn x y)
     |_,_,_=>none)
    |_=>none
theorem oK{V:Ren}{t:TI}:∀ {A:List Value} {v:Int},Facts V A->an1 t.enc A=some v->t.den V=v
 |[],v,_,h=>by cases h
 |a::A,v,hA,h=>by
  unfold an1 at h;split at h
  .split at h
   .rename_i x c ht;cases h;obtain⟨f,h1,_,h3⟩:=hA _ (List.mem_cons_self ..);have:f=.eq t (.lit v):=TB.inj _ _ (by rw[<-h1,xK _ _ _ ht];rfl);subst this;simp only[TB.den,TI.den]at h3;exact of_decide_eq_true h3
   .exact oK (fun b hb=>hA b (List.mem_cons_of_mem _ hb)) h
  .exact oK (fun b hb=>hA b (List.mem_cons_of_mem _ hb)) h
theorem avI{t:TI}{g:Nat}{a b:Value}{c:Array Value}{o:IOp}(h:t.enc=.func (.yield g) ⟨[a,b]⟩ c)(ho:opF g=some o):∃ x y:TI,t=.op o x y/\a=x.enc/\b=y.enc:=by
 cases t with
 |op o' x y =>
  simp only[TI.enc,nd2,Value.func.injEq,Fn.yield.injEq,Array.mk.injEq,List.cons.injEq,and_true]at h;obtain⟨h1,⟨h2,h3⟩,_⟩:=h;subst h1;refine⟨x,y,?_,h2.symm,h3.symm⟩;cases o'<;>simp[IOp.code,opF]at ho<;>rw[ho]
 |wrap k a=>simp[TI.enc,nd2]at h;obtain⟨h1,_⟩:=h;subst h1;simp[opF]at ho
 |sel l i=>simp[TI.enc,nd2]at h;obtain⟨h1,_⟩:=h;subst h1;simp[opF]at ho
 |selN l i=>simp[TI.enc,nd2]at h;obtain⟨h1,_⟩:=h;subst h1;simp[opF]at ho
 |_=>simp[TI.enc,nd1,nd3]at h
theorem eI{V:Ren}{A:List Value}(hA:Facts V A):∀(n:Nat)(t:TI)(v:Int),evF A n t.enc=some v->t.den V=v:=by
 intro n;induction n with
 |zero=>intro t v h;cases h
 |succ n ih =>
  intro t v h;generalize he:t.enc=e at h;unfold evF at h;split at h
  .cases h;cases t<;>simp[TI.enc,nd1,nd2,nd3]at he;rw[he];rfl
  split at h
  .rename_i hv;cases h;rw[<-he]at hv;exact oK hA hv
  split at h
  .split at h
   .rename_i o x y ho hx hy;cases h;obtain⟨p,q,rfl,rfl,rfl⟩:=avI he ho;simp only[TI.den,ih _ _ hx,ih _ _ hy]
   .cases h
  .cases h
theorem ao4{t:TB}{g:Nat}{a b:Value}{c:Array Value}(h:t.enc=.func (.yield g) ⟨[a,b]⟩ c)(hg:g=31\/g=32\/g=33):∃ x y:TI,a=x.enc/\b=y.enc/\((g=31/\t=.lt x y)\/(g=32/\t=.le x y)\/(g=33/\t=.eq x y)):=by
 cases t with
 |lt x y=>simp only[TB.enc,nd2,Value.func.injEq,Fn.yield.injEq,Array.mk.injEq,List.cons.injEq,and_true]at h;obtain⟨h1,⟨h2,h3⟩,_⟩:=h;exact⟨x,y,h2.symm,h3.symm,.inl ⟨h1.symm,rfl⟩⟩
 |le x y=>simp only[TB.enc,nd2,Value.func.injEq,Fn.yield.injEq,Array.mk.injEq,List.cons.injEq,and_true]at h;obtain⟨h1,⟨h2,h3⟩,_⟩:=h;exact⟨x,y,h2.symm,h3.symm,.inr (.inl ⟨h1.symm,rfl⟩)⟩
 |eq x y=>simp only[TB.enc,nd2,Value.func.injEq,Fn.yield.injEq,Array.mk.injEq,List.cons.injEq,and_true]at h;obtain⟨h1,⟨h2,h3⟩,_⟩:=h;exact⟨x,y,h2.symm,h3.symm,.inr (.inr ⟨h1.symm,rfl⟩)⟩
 |eqL x y=>simp[TB.enc,nd2]at h;omega
 |and x y=>simp[TB.enc,nd2]at h;omega
 |or x y=>simp[TB.enc,nd2]at h;omega
 |pred i x y z l m=>simp[TB.enc,nd2,nd3]at h
 |_=>simp[TB.enc,nd1,nd3]at h
def dec(A:List Value):Nat->Value->Option Bool
 |0,_=>none
 |n+1,e =>
  match e with
  | .bool b=>some b
  |e =>
   if has A e then some true
   else if has A (nd1 35 e) then some false
   else
    match e with
    | .func (.yield 35) ⟨[a]⟩ _ =>
     match dec A n a with
     |some r=>some (!r)
     |none=>none
    | .func (.yield 36) ⟨[a,b]⟩ _ =>
     match dec A n a,dec A n b with
     |some false,_=>some false
     |some true,r=>r
     |none,some false=>some false
     |none,_=>none
    | .func (.yield 37) ⟨[a,b]⟩ _ =>
     match dec A n a,dec A n b with
     |some true,_=>some true
     |some false,r=>r
     |none,some true=>some true
     |none,_=>none
    | .func (.yield 38) ⟨[c,a,b]⟩ _ =>
     match dec A n c with
     |some true=>dec A n a
     |some false=>dec A n b
     |none=>none
    | .func (.yield g) ⟨[a,b]⟩ _ =>
     if oZ A&&(Nat.beq g 31 || (Nat.beq g 32 || Nat.beq g 33)) then
      match evF A 6 a,evF A 6 b with
      |some x,some y=>some (if Nat.beq g 31 then decide (x<y) else if Nat.beq g 32 then decide (x<=y) else decide (x=y))
      |_,_=>none
     else none
    |_=>none
theorem bE{t:TB}{a:Value}{c:Array Value}(h:t.enc=.func (.yield 35) ⟨[a]⟩ c):∃ x:TB,t=.not x/\a=x.enc:=by
 cases t<;>simp[TB.enc,nd1,nd2,nd3]at h;exact⟨_,rfl,h.1.symm⟩
theorem ahL{t:TB}{a b:Value}{c:Array Value}(h:t.enc=.func (.yield 36) ⟨[a,b]⟩ c):∃ x y:TB,t=.and x y/\a=x.enc/\b=y.enc:=by
 cases t<;>simp[TB.enc,nd1,nd2,nd3]at h;exact⟨_,_,rfl,h.1.1.symm,h.1.2.symm⟩
theorem aeI{t:TB}{a b:Value}{c:Array Value}(h:t.enc=.func (.yield 37) ⟨[a,b]⟩ c):∃ x y:TB,t=.or x y/\a=x.enc/\b=y.enc:=by
 cases t<;>simp[TB.enc,nd1,nd2,nd3]at h;exact⟨_,_,rfl,h.1.1.symm,h.1.2.symm⟩
theorem avS{t:TB}{a b d:Value}{c:Array Value}(h:t.enc=.func (.yield 38) ⟨[d,a,b]⟩ c):∃ z x y:TB,t=.ite z x y/\d=z.enc/\a=x.enc/\b=y.enc:=by
 cases t<;>simp[TB.enc,nd1,nd2,nd3]at h;exact⟨_,_,_,rfl,h.1.1.symm,h.1.2.1.symm,h.1.2.2.symm⟩
theorem yV{V:Ren}{A:List Value}(hA:Facts V A):∀(n:Nat)(t:TB)(r:Bool),dec A n t.enc=some r->t.den V=r:=by
 intro n;induction n with
 |zero=>intro t r h;cases h
 |succ n ih =>
  intro t r h;generalize he:t.enc=e at h;unfold dec at h;split at h
  .cases h;cases t<;>simp[TB.enc,nd1,nd2,nd3]at he;rw[he];rfl
  split at h
  .rename_i h1;cases h;rw[<-he]at h1;exact hA.has h1
  split at h
  .rename_i h1;cases h;rw[<-he]at h1;have:(TB.not t).den V=true:=hA.has h1;simpa [TB.den] using this
  split at h
  .obtain⟨x,rfl,rfl⟩:=bE he;split at h
   .rename_i r' hr;cases h;simp only[TB.den,ih _ _ hr]
   .cases h
  .obtain⟨x,y,rfl,rfl,rfl⟩:=ahL he;split at h
   .rename_i h1;cases h;simp only[TB.den,ih _ _ h1,Bool.false_and]
   .rename_i r1 h1;simp only[TB.den,ih _ _ h1,ih _ _ h,Bool.true_and]
   .rename_i h1 h2;cases h;simp only[TB.den,ih _ _ h2,Bool.and_false]
   .cases h
  .obtain⟨x,y,rfl,rfl,rfl⟩:=aeI he;split at h
   .rename_i h1;cases h;simp only[TB.den,ih _ _ h1,Bool.true_or]
   .rename_i r1 h1;simp only[TB.den,ih _ _ h1,ih _ _ h,Bool.false_or]
   .rename_i h1 h2;cases h;simp only[TB.den,ih _ _ h2,Bool.or_true]
   .cases h
  .obtain⟨z,x,y,rfl,rfl,rfl,rfl⟩:=avS he;split at h
   .rename_i h1;simp only[TB.den,ih _ _ h1,ih _ _ h,if_true]
   .rename_i h1;simp only[TB.den,ih _ _ h1,ih _ _ h,Bool.false_eq_true,if_false]
   .cases h
  .split at h;rotate_left
   .cases h
   rename_i hc;simp only[Bool.and_eq_true,Bool.or_eq_true]at hc;have hg:=hc.2;split at h;rotate_left
   .cases h
   rename_i x y hx hy;cases h;obtain⟨p,q,rfl,rfl,hh⟩:=ao4 he (by rcases hg with hg|hg|hg;exact .inl (Nat.eq_of_beq_eq_true hg);exact .inr (.inl (Nat.eq_of_beq_eq_true hg));exact .inr (.inr (Nat.eq_of_beq_eq_true hg)));have h1:=eI hA _ _ _ hx;have h2:=eI hA _ _ _ hy;rcases hh with⟨rfl,rfl⟩|⟨rfl,rfl⟩|⟨rfl,rfl⟩
   .simp only[TB.den,h1,h2];rfl
   .simp only[TB.den,h1,h2];rfl
   .simp only[TB.den,h1,h2];rfl
  .cases h
end
noncomputable section
def asI:Value->Option (IntKind × Value × Int × Int)
 | .int k n=>some (k,.int .i64 n,n,n)
 | .func (.yield 0) ⟨[.int k _,e,.int _ lo,.int _ hi]⟩ _=>some (k,e,lo,hi)
 |_=>none
theorem yK{V:Ren}{x u e:Value}{k:IntKind}{lo hi:Int}(h:VR V x u)(ha:asI x=some (k,e,lo,hi)) :
    ∃ t:TI,e=t.enc/\t.ok V.length=true/\u=.int k (t.den V)/\lo<=t.den V/\t.den V<=hi:=by
 cases h with
 |int k n=>simp only[asI,Option.some.injEq,Prod.mk.injEq]at ha;obtain⟨rfl,rfl,rfl,rfl⟩:=ha;exact⟨.lit n,rfl,rfl,rfl,Int.le_refl _,Int.le_refl _⟩
 |symI k t lo hi h1 h2 h3=>simp only[asI,Option.some.injEq,Prod.mk.injEq]at ha;obtain⟨rfl,rfl,rfl,rfl⟩:=ha;exact⟨t,rfl,h1,rfl,h2,h3⟩
 |func fn a c a' c' h0 =>
  unfold asI at ha
  split at ha
  .rename_i heq;cases heq
  .rename_i heq
   simp only[Value.func.injEq]at heq
   rw[heq.1]at h0;cases h0
  .cases ha
 |_=>simp[asI]at ha
def asB:Value->Option Value
 | .bool b=>some (.bool b)
 | .func (.yield 1) ⟨[e]⟩ _=>some e
 |_=>none
theorem xJ{V:Ren}{x u e:Value}(h:VR V x u)(ha:asB x=some e):∃ t:TB,e=t.enc/\t.ok V.length=true/\u=.bool (t.den V):=by
 cases h with
 |bool b=>simp only[asB,Option.some.injEq]at ha;subst ha;exact⟨.lit b,rfl,rfl,rfl⟩
 |symB t h1=>simp only[asB,Option.some.injEq]at ha;subst ha;exact⟨t,rfl,h1,rfl⟩
 |func fn a c a' c' h0 =>
  unfold asB at ha;split at ha
  .rename_i heq;cases heq
  .rename_i heq;simp only[Value.func.injEq]at heq;rw[heq.1]at h0;cases h0
  .cases ha
 |_=>simp[asB]at ha
def asS:Value->Option (Value × Int)
 | .string s=>some (.string s,s.size)
 | .func (.yield 2) ⟨[e,.int _ hi]⟩ _=>some (e,hi)
 |_=>none
theorem wP{V:Ren}{x u e:Value}{hi:Int}(h:VR V x u)(ha:asS x=some (e,hi)) :
    ∃ t:TL,e=t.enc/\t.ok V.length=true/\u=.string ⟨(t.den V).toArray⟩/\((t.den V).length:Int)<=hi:=by
 cases h with
 |string s =>
  simp only[asS,Option.some.injEq,Prod.mk.injEq]at ha
  obtain⟨rfl,rfl⟩:=ha
  refine⟨.lit s.data.toList,by simp[TL.enc],rfl,by simp[TL.den],?_⟩
  simp only[TL.den,Array.length_toList]
  exact Int.le_refl _
 |symS t hi h1 h2=>simp only[asS,Option.some.injEq,Prod.mk.injEq]at ha;obtain⟨rfl,rfl⟩:=ha;exact⟨t,rfl,h1,rfl,h2⟩
 |func fn a c a' c' h0 =>
  unfold asS at ha
  split at ha
  .rename_i heq;cases heq
  .rename_i heq
   simp only[Value.func.injEq]at heq
   rw[heq.1]at h0;cases h0
  .cases ha
 |_=>simp[asS]at ha
def vB:Value->Value
 | .bool b=>.bool (!b)
 | .func (.yield 35) ⟨[a]⟩ _=>a
 |e=>nd1 35 e
theorem yJ(t:TB):∃ t':TB,vB t.enc=t'.enc/\(∀ n,t.ok n=true->t'.ok n=true)/\∀ V,t'.den V=!(t.den V):=by
 generalize he:t.enc=e;unfold vB;split
 .cases t<;>simp[TB.enc,nd1,nd2,nd3]at he;subst he;exact⟨.lit _,rfl,fun _ _=>rfl,fun _=>rfl⟩
 .obtain⟨x,rfl,rfl⟩:=bE he;exact⟨x,rfl,fun n h=>by simpa [TB.ok] using h,fun V=>by simp[TB.den]⟩
 .rw[<-he];exact⟨.not t,rfl,fun n h=>by simpa [TB.ok] using h,fun V=>rfl⟩
def mkB(A:List Value)(e:Value):Value:=match dec A 60 e with
 |some r=>.bool r
 |none=>sB e
theorem sX{V:Ren}{A:List Value}(hA:Facts V A)(t:TB)(h:t.ok V.length=true):VR V (mkB A t.enc) (.bool (t.den V)):=by
 unfold mkB;split
 .rename_i r hr;rw[yV hA _ _ _ hr];exact .bool r
 .exact .symB t h
def tN:IntKind->Int
 | .i8=>-128 | .i16=>-32768 | .i32=>-2147483648 | .i64=>-9223372036854775808|_=>0
def wN:IntKind->Int
 | .i8=>127 | .i16=>32767 | .i32=>2147483647 | .i64=>9223372036854775807 | .u8=>255 | .u16=>65535 | .u32=>4294967295 | .u64=>18446744073709551615
theorem wrap_in{k:IntKind}{n:Int}(h0:tN k<=n)(h1:n<=wN k):k.wrap n=n:=by
 cases k<;>simp only[tN,wN]at h0 h1
 .exact IntWalk.i8_in n ⟨h0,h1⟩
 .exact IntWalk.i16_in n ⟨h0,h1⟩
 .exact IntWalk.i32_in n ⟨h0,h1⟩
 .exact IntWalk.i64_in n ⟨h0,h1⟩
 .exact IntWalk.u8_in n ⟨h0,h1⟩
 .exact IntWalk.u16_in n ⟨h0,h1⟩
 .exact IntWalk.u32_in n ⟨h0,h1⟩
 .exact IntWalk.u64_in n ⟨h0,h1⟩
theorem rI(k:IntKind)(n:Int):tN k<=k.wrap n/\k.wrap n<=wN k:=by
 cases k<;>simp only[tN,wN,IntKind.wrap,IntKind.bits,IntKind.signed]<;>simp<;>(try split)<;>omega
def yM(a b:Value):Value :=
 match a,b with
 | .int _ x,.int _ y=>.int .i64 (x+y)
 |a,.int k y=>if y=0 then a else
  match a with
  | .func (.yield 100) ⟨[c,.int _ z]⟩ _=>if z+y=0 then c else nd2 100 c (.int .i64 (z+y))
  |a=>nd2 100 a (.int k y)
 | .int k x,b=>if x=0 then b else nd2 100 b (.int k x)
 |a,b=>match b with
  | .func (.yield 101) ⟨[c,d]⟩ _=>if teq 60 a d then c else nd2 100 a b
  |b=>nd2 100 a b
theorem xN{t:TI}{k:IntKind}{n:Int}(h:t.enc=.int k n):t=.lit n/\k=.i64:=by
 cases t<;>simp[TI.enc,nd1,nd2,nd3]at h;exact⟨by rw[h.2],h.1.symm⟩
theorem ahM{t:TI}{a b:Value}{c:Array Value}(h:t.enc=.func (.yield 100) ⟨[a,b]⟩ c):∃ x y:TI,t=.op .add x y/\a=x.enc/\b=y.enc:=by
 cases t<;>simp[TI.enc,nd1,nd2,nd3]at h;rename_i o x y;obtain⟨⟨h1,h2,h3⟩,_⟩|⟨h1,⟨h2,h3⟩,_⟩:(o.code=0/\x.enc=a/\y.enc=b)/\True\/o.code=0/\(x.enc=a/\y.enc=b)/\True:=by
  first|exact .inl ⟨⟨h.1.1,h.1.2.1,h.1.2.2⟩,trivial⟩|exact .inr ⟨h.1,⟨h.2.1.1,h.2.1.2⟩,trivial⟩|exact .inr ⟨h.1,⟨h.2.1,h.2.2⟩,trivial⟩
 all_goals
  refine⟨x,y,?_,h2.symm,h3.symm⟩;congr 1;exact IOp.code_inj h1
theorem awK{t:TI}{a b:Value}{c:Array Value}(h:t.enc=.func (.yield 101) ⟨[a,b]⟩ c):∃ x y:TI,t=.op .sub x y/\a=x.enc/\b=y.enc:=by
 cases t<;>simp[TI.enc,nd1,nd2,nd3]at h;rename_i o x y;obtain⟨⟨h1,h2,h3⟩,_⟩|⟨h1,⟨h2,h3⟩,_⟩:(o.code=1/\x.enc=a/\y.enc=b)/\True\/o.code=1/\(x.enc=a/\y.enc=b)/\True:=by
  first|exact .inl ⟨⟨by omega,h.1.2.1,h.1.2.2⟩,trivial⟩|exact .inr ⟨by omega,⟨h.2.1.1,h.2.1.2⟩,trivial⟩|exact .inr ⟨by omega,⟨h.2.1,h.2.2⟩,trivial⟩
 all_goals
  refine⟨x,y,?_,h2.symm,h3.symm⟩;congr 1;exact IOp.code_inj h1
theorem zX(s t:TI):∃ r:TI,yM s.enc t.enc=r.enc/\(∀ n,s.ok n=true->t.ok n=true->r.ok n=true)/\∀ V,r.den V=s.den V+t.den V:=by
 generalize hs:s.enc=a;generalize ht:t.enc=b;unfold yM;split
 .obtain⟨rfl,rfl⟩:=xN hs;obtain⟨rfl,rfl⟩:=xN ht;exact⟨.lit _,rfl,fun _ _ _=>rfl,fun _=>rfl⟩
 .rename_i y _;obtain⟨rfl,rfl⟩:=xN ht;split
  .rename_i h0;subst h0;exact⟨s,hs.symm,fun _ h _=>h,fun V=>by simp[TI.den]⟩
  .split
   .rename_i c k z _ _;obtain⟨x,y,rfl,rfl,hy⟩:=ahM hs;obtain⟨rfl,rfl⟩:=xN hy.symm;split
    .rename_i hz;exact⟨x,rfl,fun n h _=>by simp[TI.ok]at h;exact h,fun V=>by simp only[TI.den,IOp.fn];omega⟩
    .exact⟨.op .add x (.lit _),rfl,fun n h _=>by simpa [TI.ok] using h,fun V=>by simp only[TI.den,IOp.fn];omega⟩
   .exact⟨.op .add s (.lit y),by simp only[TI.enc,IOp.code,hs,Nat.add_zero],fun n h _=>by simpa [TI.ok] using h,fun V=>by simp only[TI.den,IOp.fn]⟩
 .rename_i x _;obtain⟨rfl,rfl⟩:=xN hs;split
  .rename_i h0;subst h0;exact⟨t,ht.symm,fun _ _ h=>h,fun V=>by simp[TI.den]⟩
  .exact⟨.op .add t (.lit x),by simp only[TI.enc,IOp.code,ht,Nat.add_zero],fun n _ h=>by simpa [TI.ok] using h,fun V=>by simp only[TI.den,IOp.fn];omega⟩
 ·have base : ∃ r : TI, nd2 100 a b = r.enc ∧ (∀ n, s.ok n = true → t.ok n = true → r.ok n = true) ∧ ∀ V, r.den V = s.den V + t.den V :=
    ⟨.op .add s t,by simp only[TI.enc,IOp.code,hs,ht,Nat.add_zero],fun n h h'=>by simp[TI.ok,h,h'],fun V=>rfl⟩
  split
  .rename_i c d _ _;obtain⟨x,y,rfl,rfl,rfl⟩:=awK ht;split
   .rename_i h;have h:=xK _ _ _ h;rw[<-hs]at h;have:=TI.inj _ _ h;subst this;exact⟨x,rfl,fun n _ h=>by simp[TI.ok]at h;exact h.1,fun V=>by simp only[TI.den,IOp.fn];omega⟩
   .exact base
  .exact base
def dJ(a b:Value):Value :=
 match b with
 | .int _ y=>yM a (.int .i64 (-y))
 |b=>if teq 60 a b then .int .i64 0 else nd2 101 a b
theorem pD(s t:TI):∃ r:TI,dJ s.enc t.enc=r.enc/\(∀ n,s.ok n=true->t.ok n=true->r.ok n=true)/\∀ V,r.den V=s.den V-t.den V:=by
 generalize ht:t.enc=b;unfold dJ;split
 .obtain⟨rfl,rfl⟩:=xN ht;obtain⟨r,h1,h2,h3⟩:=zX s (.lit (-_));exact⟨r,h1,fun n h _=>h2 n h rfl,fun V=>by rw[h3];simp only[TI.den];omega⟩
 .split
  .rename_i h;have h:=xK _ _ _ h;rw[<-ht]at h;have:=TI.inj _ _ h;subst this;exact⟨.lit 0,rfl,fun _ _ _=>rfl,fun V=>by simp only[TI.den];omega⟩
  .rw[<-ht];exact⟨.op .sub s t,rfl,fun n h h'=>by simp[TI.ok,h,h'],fun V=>rfl⟩
def fit(A:List Value)(k:IntKind)(e:Value)(lo hi:Int):Option Value :=
 if tN k<=lo/\hi<=wN k then some (sI k e lo hi)
 else if dec A 4 (nd2 31 e (.int .i64 (tN k)))=some false/\dec A 4 (nd2 31 (.int .i64 (wN k)) e)=some false then some (sI k e (if lo<tN k then tN k else lo) (if wN k<hi then wN k else hi))
 else match k with
  | .i64=>none
  |_=>some (sI k (nd2 10 (.int k 0) e) (tN k) (wN k))
theorem pS{V:Ren}{A:List Value}(hA:Facts V A){k:IntKind}{t:TI}{lo hi:Int}{v:Value}(h:t.ok V.length=true)(h0:lo<=t.den V)(h1:t.den V<=hi)(hf:fit A k t.enc lo hi=some v) :
    VR V v (.int k (k.wrap (t.den V))):=by
 unfold fit at hf
 split at hf
 .rename_i hc
  cases hf
  rw[wrap_in (Int.le_trans hc.1 h0) (Int.le_trans h1 hc.2)]
  exact .symI k t lo hi h h0 h1
 split at hf
 .rename_i hc
  cases hf
  have e1:=yV hA 4 (.lt t (.lit (tN k))) _ hc.1
  have e2:=yV hA 4 (.lt (.lit (wN k)) t) _ hc.2
  simp only[TB.den,TI.den]at e1 e2
  have e1:=of_decide_eq_false e1
  have e2:=of_decide_eq_false e2
  rw[wrap_in (by omega) (by omega)]
  exact .symI k t _ _ h (by split<;>omega) (by split<;>omega)
 ·have key : VR V (sI k (nd2 10 (.int k 0) t.enc) (tN k) (wN k)) (.int k (k.wrap (t.den V))) :=
    VR.symI k (.wrap k t) (tN k) (wN k) (by simpa [TI.ok] using h) (by simp only[TI.den];exact (rI k _).1) (by simp only[TI.den];exact (rI k _).2)
  split at hf
  .cases hf
  .cases hf;exact key
end
end Go.SM
