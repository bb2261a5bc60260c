-- the statement of this claim: see YtoamgocecoiggaaDoorRs
import Derived.Laws.StructEq
import Derived.Test.YtoamgocecoiggaaDoorM3
set_option linter.unusedVariables false
set_option linter.unusedSimpArgs false
set_option maxRecDepth 100000
noncomputable section
namespace Go.SM
noncomputable section
def ltT(e1:Value)(l1 h1:Int)(e2:Value)(l2 h2:Int):Value:=if h1<l2 then .bool true else if h2<=l1 then .bool false else nd2 31 e1 e2
def eqT(e1:Value)(l1 h1:Int)(e2:Value)(l2 h2:Int):Value:=if h1<l2\/h2<l1 then .bool false else if l1=h1/\l2=h2/\l1=l2 then .bool true else nd2 33 e1 e2
def aO9(op:BinOp)(e1:Value)(l1 h1:Int)(e2:Value)(l2 h2:Int):Option Value :=
 match op with
 | .lss=>some (ltT e1 l1 h1 e2 l2 h2)
 | .gtr=>some (ltT e2 l2 h2 e1 l1 h1)
 | .leq=>some (vB (ltT e2 l2 h2 e1 l1 h1))
 | .geq=>some (vB (ltT e1 l1 h1 e2 l2 h2))
 | .eql=>some (eqT e1 l1 h1 e2 l2 h2)
 | .neq=>some (vB (eqT e1 l1 h1 e2 l2 h2))
 |_=>none
theorem pM{V:Ren}{s t:TI}{l1 h1 l2 h2:Int}(hs:s.ok V.length=true)(ht:t.ok V.length=true)(a1:l1<=s.den V)(a2:s.den V<=h1)(b1:l2<=t.den V)(b2:t.den V<=h2) :
    ∃ r:TB,ltT s.enc l1 h1 t.enc l2 h2=r.enc/\r.ok V.length=true/\r.den V=decide (s.den V<t.den V):=by
 unfold ltT
 split
 .exact⟨.lit true,rfl,rfl,by simp only[TB.den];exact (decide_eq_true (by omega)).symm⟩
 .split
  .exact⟨.lit false,rfl,rfl,by simp only[TB.den];exact (decide_eq_false (by omega)).symm⟩
  .exact⟨.lt s t,rfl,by simp[TB.ok,hs,ht],by simp only[TB.den]⟩
theorem dZ{V:Ren}{s t:TI}{l1 h1 l2 h2:Int}(hs:s.ok V.length=true)(ht:t.ok V.length=true)(a1:l1<=s.den V)(a2:s.den V<=h1)(b1:l2<=t.den V)(b2:t.den V<=h2) :
    ∃ r:TB,eqT s.enc l1 h1 t.enc l2 h2=r.enc/\r.ok V.length=true/\r.den V=decide (s.den V=t.den V):=by
 unfold eqT
 split
 .exact⟨.lit false,rfl,rfl,by simp only[TB.den];exact (decide_eq_false (by omega)).symm⟩
 .split
  .exact⟨.lit true,rfl,rfl,by simp only[TB.den];exact (decide_eq_true (by omega)).symm⟩
  .exact⟨.eq s t,rfl,by simp[TB.ok,hs,ht],by simp only[TB.den]⟩
theorem pR{P:Program}{w:World}{op:BinOp}{t:TypeId}{k:IntKind}{x y:Int}{r:Bool}(h:(Op.intCmp op x y).run P w=.ok (.bool r) w)(ho:op≠.shl/\op≠.shr/\op≠.add/\op≠.sub/\op≠.mul/\op≠.quo/\op≠.rem/\op≠.and/\op≠.or/\op≠.xor/\op≠.andNot) :
    (binOp op t (.int k x) (.int k y)).run P w=.ok (.bool r) w:=by
 cases op<;>first|(simp at ho;done)|(simp only[binOp,ne_eq,not_true_eq_false,if_false];exact h)
theorem acJ{P:Program}{w:World}{V:Ren}{op:BinOp}{ty:TypeId}{k:IntKind}{s t:TI}{l1 h1 l2 h2:Int}{v:Value}(hs:s.ok V.length=true)(ht:t.ok V.length=true)(a1:l1<=s.den V)(a2:s.den V<=h1)(b1:l2<=t.den V)(b2:t.den V<=h2)
    (h:aO9 op s.enc l1 h1 t.enc l2 h2=some v):∃ r:TB,v=r.enc/\r.ok V.length=true/\(binOp op ty (.int k (s.den V)) (.int k (t.den V))).run P w=.ok (.bool (r.den V)) w:=by
 have ng:∀ {e:Value} {p:Bool},(∃ r:TB,e=r.enc/\r.ok V.length=true/\r.den V=p)->∃ r:TB,vB e=r.enc/\r.ok V.length=true/\r.den V=!p:=by
  rintro e p ⟨r,rfl,h1,h2⟩;obtain⟨r',g1,g2,g3⟩:=yJ r;exact⟨r',g1,g2 _ h1,by rw[g3,h2]⟩
 have key:∀ (p q:Bool),p=q->Sem.run P (pure (Value.bool p)) w=.ok (.bool q) w:=by rintro p _ rfl;rfl
 unfold aO9 at h
 split at h<;>try (cases h;done)
 .cases h
  obtain⟨r,e1,e2,e3⟩:=pM hs ht a1 a2 b1 b2
  exact⟨r,e1,e2,pR (key _ _ e3.symm) (by simp)⟩
 .cases h
  obtain⟨r,e1,e2,e3⟩:=pM ht hs b1 b2 a1 a2
  exact⟨r,e1,e2,pR (key _ _ e3.symm) (by simp)⟩
 .cases h
  obtain⟨r,e1,e2,e3⟩:=ng (pM ht hs b1 b2 a1 a2)
  refine⟨r,e1,e2,pR (key _ _ ?_) (by simp)⟩
  rw[e3,<-decide_not];exact decide_eq_decide.2 (by omega)
 .cases h
  obtain⟨r,e1,e2,e3⟩:=ng (pM hs ht a1 a2 b1 b2)
  refine⟨r,e1,e2,pR (key _ _ ?_) (by simp)⟩
  rw[e3,<-decide_not];exact decide_eq_decide.2 (by omega)
 .cases h
  obtain⟨r,e1,e2,e3⟩:=dZ hs ht a1 a2 b1 b2
  refine⟨r,e1,e2,pR (key _ _ ?_) (by simp)⟩
  rw[e3];rfl
 .cases h
  obtain⟨r,e1,e2,e3⟩:=ng (dZ hs ht a1 a2 b1 b2)
  refine⟨r,e1,e2,pR (key _ _ ?_) (by simp)⟩
  rw[e3];rfl
theorem ad2{P:Program}{w:World}{t:TypeId}{k:IntKind}{a b:Int}:(binOp .add t (.int k a) (.int k b)).run P w=.ok (.int k (k.wrap (a+b))) w/\(binOp .sub t (.int k a) (.int k b)).run P w=.ok (.int k (k.wrap (a-b))) w /\
    (binOp .mul t (.int k a) (.int k b)).run P w=.ok (.int k (k.wrap (a*b))) w:=by
 refine⟨?_,?_,?_⟩<;>(simp only[binOp,ne_eq,not_true_eq_false,if_false,Op.intArith];rfl)
theorem aw7(k:IntKind):wN k<2 ^ k.bits:=by cases k<;>decide
theorem lI{n:Nat}{a:Int}(h0:0<=a)(h1:a<2 ^ n):(BitVec.ofInt n a).toNat=a.toNat:=by
 rw[BitVec.toNat_ofInt];congr 1;rw[Int.emod_eq_of_lt h0 (by exact_mod_cast h1)]
theorem aYJ(k:IntKind):∃ m:Nat,wN k+1=2 ^ m:=by
 cases k
 .exact⟨7,rfl⟩
 .exact⟨15,rfl⟩
 .exact⟨31,rfl⟩
 .exact⟨63,rfl⟩
 .exact⟨8,rfl⟩
 .exact⟨16,rfl⟩
 .exact⟨32,rfl⟩
 .exact⟨64,rfl⟩
theorem afD(k:IntKind):tN k<=0:=by cases k<;>decide
theorem Q1{P:Program}{w:World}{t:TypeId}{k:IntKind}{a b:Int}(h0:0<=a)(h1:a<=wN k)(g0:0<=b)(g1:b<=wN k) :
    (binOp .and t (.int k a) (.int k b)).run P w=.ok (.int k (IOp.and.fn a b)) w/\(binOp .or t (.int k a) (.int k b)).run P w=.ok (.int k (IOp.or.fn a b)) w /\
    0<=IOp.and.fn a b/\IOp.and.fn a b<=a/\IOp.and.fn a b<=b/\0<=IOp.or.fn a b/\IOp.or.fn a b<=wN k:=by
 have hp:=aw7 k
 have ea:=lI h0 (by omega:a<2 ^ k.bits)
 have eb:=lI g0 (by omega:b<2 ^ k.bits)
 have i1:0<=IOp.and.fn a b:=by simp only[IOp.fn];omega
 have i2:IOp.and.fn a b<=a:=by simp only[IOp.fn];have:Nat.land a.toNat b.toNat<=a.toNat:=Nat.and_le_left;omega
 have i3:IOp.and.fn a b<=b:=by simp only[IOp.fn];have:Nat.land a.toNat b.toNat<=b.toNat:=Nat.and_le_right;omega
 have i4:0<=IOp.or.fn a b:=by simp only[IOp.fn];omega
 have i5:IOp.or.fn a b<=wN k:=by
  obtain⟨m,hm⟩:=aYJ k;have hm':wN k+1=((2 ^ m:Nat):Int):=by rw[hm];norm_cast
  simp only[IOp.fn];have:Nat.lor a.toNat b.toNat<2 ^ m:=Nat.or_lt_two_pow (by omega) (by omega);omega
 have hk:=afD k
 refine⟨?_,?_,i1,i2,i3,i4,i5⟩
 .simp only[binOp,ne_eq,not_true_eq_false,if_false,Op.intBits,BitVec.toNat_and,ea,eb]
  have:k.wrap ((a.toNat &&& b.toNat:Nat):Int)=IOp.and.fn a b:=wrap_in (n:=IOp.and.fn a b) (by omega) (by omega)
  rw[this];rfl
 .simp only[binOp,ne_eq,not_true_eq_false,if_false,Op.intBits,BitVec.toNat_or,ea,eb]
  have:k.wrap ((a.toNat ||| b.toNat:Nat):Int)=IOp.or.fn a b:=wrap_in (n:=IOp.or.fn a b) (by omega) (by omega)
  rw[this];rfl
theorem eW{P:Program}{w:World}{t:TypeId}{k k2:IntKind}{a b:Int}(h0:0<=b)(h1:b<k.bits) :
    (binOp .shl t (.int k a) (.int k2 b)).run P w=.ok (.int k (k.wrap (IOp.shl.fn a b))) w/\(binOp .shr t (.int k a) (.int k2 b)).run P w=.ok (.int k (IOp.shr.fn a b)) w:=by
 have hn:¬ b<0:=by omega
 have hm:min b.toNat k.bits=b.toNat:=by omega
 constructor
 .simp only[binOp,Op.shift,if_neg hn,hm];rfl
 .simp only[binOp,Op.shift,if_neg hn,hm];rfl
theorem ahC{P:Program}{w:World}{t:TypeId}{k:IntKind}{a b:Int}(hb:0<b)(h0:0<=a)(h1:a<=wN k):(binOp .quo t (.int k a) (.int k b)).run P w=.ok (.int k (IOp.quo.fn a b)) w/\(binOp .rem t (.int k a) (.int k b)).run P w=.ok (.int k (IOp.rem.fn a b)) w:=by
 have hn:¬ b=0:=by omega
 have hq:0<=a.tdiv b/\a.tdiv b<=a:=⟨Int.tdiv_nonneg h0 (by omega),by rw[Int.tdiv_eq_ediv_of_nonneg h0];exact Int.ediv_le_self _ h0⟩
 have hk:=afD k;constructor
 .simp only[binOp,ne_eq,not_true_eq_false,if_false,Op.intDiv,if_neg hn];rw[wrap_in (by omega) (by omega)];rfl
 .simp only[binOp,ne_eq,not_true_eq_false,if_false,Op.intDiv,if_neg hn];rfl
theorem aQA:∀(a b:Nat),a ||| b<=a+b:=by
 intro a;induction a using Nat.strongRecOn with
 |ind a ih =>
  intro b;by_cases h0:a=0
  .subst h0;simp
  have h:=ih (a/2) (by omega) (b/2);have e1:(a ||| b)/2=a/2 ||| b/2:=by
   apply Nat.eq_of_testBit_eq;intro i;simp[Nat.testBit_or,Nat.testBit_div_two]
  have e2:(a ||| b)%2<=a%2+b%2:=by
   by_cases hz:(a ||| b)%2=1
   .have:=Nat.or_mod_two_eq_one.1 hz;omega
   .omega
  omega
def loF(e:Value):List Value->Int->Int
 |[],l=>l
 |a::A,l=>loF e A (match a with
  | .func (.yield 35) ⟨[.func (.yield 31) ⟨[x,.int .i64 c]⟩ ⟨[]⟩]⟩ ⟨[]⟩=>if (l<c&&(50000<c&&c<100000))&&teq 60 x e then c else l
  | .func (.yield 31) ⟨[.int .i64 c,x]⟩ ⟨[]⟩=>if (l<c+1&&(50000<c&&c<100000))&&teq 60 x e then c+1 else l
  |_=>l)
def hiF(e:Value):List Value->Int->Int
 |[],h=>h
 |a::A,h=>hiF e A (match a with
  | .func (.yield 35) ⟨[.func (.yield 31) ⟨[.int .i64 c,x]⟩ ⟨[]⟩]⟩ ⟨[]⟩=>if (c<h&&(50000<c&&c<100000))&&teq 60 x e then c else h
  | .func (.yield 31) ⟨[x,.int .i64 c]⟩ ⟨[]⟩=>if (c-1<h&&(50000<c&&c<100000))&&teq 60 x e then c-1 else h
  |_=>h)
theorem ao3{V:Ren}{s:TI}{a x:Value}{c:Int}(ha:∃ t:TB,a=t.enc/\t.ok V.length=true/\t.den V=true)(h:a=.func (.yield 31) ⟨[x,.int .i64 c]⟩ ⟨[]⟩)(hx:x=s.enc):s.den V<c:=by
 obtain⟨t,h1,_,h3⟩:=ha;have:t=.lt s (.lit c):=TB.inj _ _ (by rw[<-h1,h,hx];rfl);subst this;simp only[TB.den,TI.den]at h3;exact of_decide_eq_true h3
theorem atW{V:Ren}{s:TI}{a x:Value}{c:Int}(ha:∃ t:TB,a=t.enc/\t.ok V.length=true/\t.den V=true)(h:a=.func (.yield 31) ⟨[.int .i64 c,x]⟩ ⟨[]⟩)(hx:x=s.enc):c<s.den V:=by
 obtain⟨t,h1,_,h3⟩:=ha;have:t=.lt (.lit c) s:=TB.inj _ _ (by rw[<-h1,h,hx];rfl);subst this;simp only[TB.den,TI.den]at h3;exact of_decide_eq_true h3
theorem ahT{V:Ren}{s:TI}{a x:Value}{c:Int}(ha:∃ t:TB,a=t.enc/\t.ok V.length=true/\t.den V=true)(h:a=.func (.yield 35) ⟨[.func (.yield 31) ⟨[x,.int .i64 c]⟩ ⟨[]⟩]⟩ ⟨[]⟩)(hx:x=s.enc):c<=s.den V:=by
 obtain⟨t,h1,_,h3⟩:=ha;have:t=.not (.lt s (.lit c)):=TB.inj _ _ (by rw[<-h1,h,hx];rfl);subst this;simp only[TB.den,TI.den,Bool.not_eq_true']at h3;have:=of_decide_eq_false h3;omega
theorem aiN{V:Ren}{s:TI}{a x:Value}{c:Int}(ha:∃ t:TB,a=t.enc/\t.ok V.length=true/\t.den V=true)(h:a=.func (.yield 35) ⟨[.func (.yield 31) ⟨[.int .i64 c,x]⟩ ⟨[]⟩]⟩ ⟨[]⟩)(hx:x=s.enc):s.den V<=c:=by
 obtain⟨t,h1,_,h3⟩:=ha;have:t=.not (.lt (.lit c) s):=TB.inj _ _ (by rw[<-h1,h,hx];rfl);subst this;simp only[TB.den,TI.den,Bool.not_eq_true']at h3;have:=of_decide_eq_false h3;omega
theorem mA{V:Ren}{s:TI}:∀ {A:List Value} {l:Int},Facts V A->l<=s.den V->loF s.enc A l<=s.den V
 |[],l,_,h=>h
 |a::A,l,hA,h=>by
  unfold loF;refine mA (fun b hb=>hA b (List.mem_cons_of_mem _ hb)) ?_;have ha:=hA a (List.mem_cons_self ..);split
  .split
   .rename_i hc;rw[Bool.and_eq_true]at hc;exact ahT ha rfl (xK _ _ _ hc.2)
   .exact h
  .split
   .rename_i hc;rw[Bool.and_eq_true]at hc;exact atW ha rfl (xK _ _ _ hc.2)
   .exact h
  .exact h
theorem mI{V:Ren}{s:TI}:∀ {A:List Value} {l:Int},Facts V A->s.den V<=l->s.den V<=hiF s.enc A l
 |[],l,_,h=>h
 |a::A,l,hA,h=>by
  unfold hiF;refine mI (fun b hb=>hA b (List.mem_cons_of_mem _ hb)) ?_;have ha:=hA a (List.mem_cons_self ..);split
  .split
   .rename_i hc;rw[Bool.and_eq_true]at hc;exact aiN ha rfl (xK _ _ _ hc.2)
   .exact h
  .split
   .rename_i hc;rw[Bool.and_eq_true]at hc;have:=ao3 ha rfl (xK _ _ _ hc.2);omega
   .exact h
  .exact h
def arT(A:List Value)(op:BinOp)(k:IntKind)(e1:Value)(l1 h1:Int)(e2:Value)(l2 h2:Int):Option Value :=
 match op with
 | .add=>fit A k (yM e1 e2) (loF e1 A l1+loF e2 A l2) (hiF e1 A h1+hiF e2 A h2)
 | .sub=>fit A k (dJ e1 e2) (loF e1 A l1-hiF e2 A h2) (hiF e1 A h1-loF e2 A l2)
 | .mul=>if 0<=l1/\0<=l2 then fit A k (nd2 102 e1 e2) (l1*l2) (h1*h2) else none
 | .and=>if 0<=l1/\0<=l2/\h1<=wN k/\h2<=wN k then some (sI k (nd2 103 e1 e2) 0 (if h1<h2 then h1 else h2)) else none
 | .or=>if 0<=l1/\0<=l2/\h1<=wN k/\h2<=wN k then some (sI k (nd2 104 e1 e2) 0 (if h1+h2<wN k then h1+h2 else wN k)) else none
 | .quo=>if 0<=l1/\h1<=wN k/\0<l2 then some (sI k (nd2 109 e1 e2) 0 h1) else none
 | .rem=>if 0<=l1/\h1<=wN k/\0<l2 then some (sI k (nd2 110 e1 e2) 0 (if h1<h2-1 then h1 else h2-1)) else none
 |op=>(aO9 op e1 l1 h1 e2 l2 h2).map (mkB A)
theorem aiG{P:Program}{w:World}{V:Ren}{A:List Value}(hA:Facts V A){op:BinOp}{ty:TypeId}{k:IntKind}{s t:TI}{l1 h1 l2 h2:Int}{v:Value}(hs:s.ok V.length=true)(ht:t.ok V.length=true)(a1:l1<=s.den V)(a2:s.den V<=h1)(b1:l2<=t.den V)(b2:t.den V<=h2)
    (h:arT A op k s.enc l1 h1 t.enc l2 h2=some v):∃ u,(binOp op ty (.int k (s.den V)) (.int k (t.den V))).run P w=.ok u w/\VR V v u:=by
 have two:∀ o:IOp,(TI.op o s t).ok V.length=true:=fun o=>by simp[TI.ok,hs,ht]
 have c1:=mA hA a1;have c2:=mI hA a2;have d1:=mA hA b1;have d2:=mI hA b2
 unfold arT at h
 split at h
 .obtain⟨r,e1,e2,e3⟩:=zX s t
  rw[e1]at h
  refine⟨_,ad2.1,?_⟩
  rw[<-e3]
  exact pS hA (e2 _ hs ht) (by rw[e3];omega) (by rw[e3];omega) h
 .obtain⟨r,e1,e2,e3⟩:=pD s t
  rw[e1]at h
  refine⟨_,ad2.2.1,?_⟩
  rw[<-e3]
  exact pS hA (e2 _ hs ht) (by rw[e3];omega) (by rw[e3];omega) h
 .split at h
  .rename_i hc
   refine⟨_,ad2.2.2,?_⟩
   have:s.den V*t.den V=(TI.op .mul s t).den V:=rfl
   rw[this]
   refine pS hA (two _) ?_ ?_ h
   .rw[<-this];exact Int.mul_le_mul a1 b1 hc.2 (by omega)
   .rw[<-this];exact Int.mul_le_mul a2 b2 (by omega) (by omega)
  .cases h
 .split at h
  .rename_i hc
   cases h
   obtain⟨g1,_,g3,g4,g5,_⟩:=Q1 (P:=P) (w:=w) (t:=ty) (k:=k) (show 0<=s.den V by omega) (by omega) (show 0<=t.den V by omega) (by omega)
   exact⟨_,g1,.symI k (.op .and s t) _ _ (two _) g3 (by show IOp.and.fn (s.den V) (t.den V)<=_;split<;>omega)⟩
  .cases h
 .split at h
  .rename_i hc
   cases h
   obtain⟨_,g1,_,_,_,g3,g4⟩:=Q1 (P:=P) (w:=w) (t:=ty) (k:=k) (show 0<=s.den V by omega) (by omega) (show 0<=t.den V by omega) (by omega)
   exact⟨_,g1,.symI k (.op .or s t) _ _ (two _) g3 (by
    have:=aQA (s.den V).toNat (t.den V).toNat;have h5:IOp.or.fn (s.den V) (t.den V)<=s.den V+t.den V:=by
     show ((Nat.lor (s.den V).toNat (t.den V).toNat:Nat):Int)<=_;have e:Nat.lor (s.den V).toNat (t.den V).toNat=(s.den V).toNat ||| (t.den V).toNat:=rfl;rw[e];omega
    split
    .show IOp.or.fn (s.den V) (t.den V)<=_;omega
    .exact g4)⟩
  .cases h
 .split at h
  .rename_i hc
   cases h
   refine⟨_,(ahC (by omega) (by omega) (by omega)).1,.symI k (.op .quo s t) _ _ (two _) (Int.tdiv_nonneg (by omega) (by omega)) ?_⟩
   show (s.den V).tdiv (t.den V)<=_
   rw[Int.tdiv_eq_ediv_of_nonneg (by omega)]
   exact Int.le_trans (Int.ediv_le_self _ (by omega)) a2
  .cases h
 .split at h
  .rename_i hc
   cases h
   have e:(s.den V).tmod (t.den V)=s.den V%t.den V:=Int.tmod_eq_emod_of_nonneg (by omega)
   have m1:=Int.emod_nonneg (s.den V) (show t.den V≠0 by omega)
   have m2:=Int.emod_lt_of_pos (s.den V) (show 0<t.den V by omega)
   have m4:=Int.mul_ediv_add_emod (s.den V) (t.den V)
   have m5:0<=t.den V*(s.den V/t.den V):=Int.mul_nonneg (by omega) (Int.ediv_nonneg (by omega) (by omega))
   have m3:s.den V%t.den V<=s.den V:=by omega
   refine⟨_,(ahC (by omega) (by omega) (by omega)).2,.symI k (.op .rem s t) _ _ (two _) ?_ ?_⟩
   .show 0<=(s.den V).tmod (t.den V);rw[e];exact m1
   .show (s.den V).tmod (t.den V)<=_;rw[e];split<;>omega
  .cases h
 .simp only[Option.map_eq_some_iff]at h
  obtain⟨e,he,rfl⟩:=h
  obtain⟨r,rfl,g1,g2⟩:=acJ (P:=P) (w:=w) (ty:=ty) (k:=k) hs ht a1 a2 b1 b2 he
  exact⟨_,g2,sX hA r g1⟩
end
noncomputable section
def alC(A:List Value)(op:BinOp)(a b:Value):Option Value :=
 match asI a,asI b with
 |some (k,e1,l1,h1),some (k2,e2,l2,h2) =>
  match op with
  | .shl=>if l2=h2/\0<=l2/\l2<k.bits/\0<=l1 then fit A k (nd2 107 e1 e2) (l1*2 ^ l2.toNat) (h1*2 ^ l2.toNat) else none
  | .shr=>if l2=h2/\0<=l2/\l2<k.bits/\0<=l1 then some (sI k (nd2 108 e1 e2) (l1.fdiv (2 ^ l2.toNat)) (h1.fdiv (2 ^ l2.toNat))) else none
  |op=>if k=k2 then arT A op k e1 l1 h1 e2 l2 h2 else none
 |_,_ =>
  match asS a,asS b with
  |some (e1,h1),some (e2,h2) =>
   match op with
   | .eql=>some (mkB A (nd2 34 e1 e2))
   | .neq=>some (mkB A (vB (nd2 34 e1 e2)))
   | .add=>if h1+h2<=2 ^ 50 then some (sS (nd2 21 e1 e2) (h1+h2)) else none
   |_=>none
  |_,_=>none
theorem sY(a b:List UInt8):decide ((⟨a.toArray⟩:ByteArray).data.toList=(⟨b.toArray⟩:ByteArray).data.toList)=decide (a=b):=by simp
theorem acL{P:Program}{w:World}{V:Ren}{A:List Value}(hA:Facts V A){op:BinOp}{t:TypeId}{x y:Operand}{a b a' b' v:Value}(ha:VR V a a')(hb:VR V b b')(h:alC A op a b=some v) :
    ∃ u,(do eqGuard op t x y a' b';binOp op t a' b':Sem Value).run P w=.ok u w/\VR V v u:=by
 unfold alC at h
 split at h
 .rename_i k e1 l1 h1 k2 e2 l2 h2 q1 q2
  obtain⟨s,rfl,s1,rfl,s2,s3⟩:=yK ha q1
  obtain⟨r,rfl,r1,rfl,r2,r3⟩:=yK hb q2
  have skip:∀ (op:BinOp),(eqGuard op t x y (.int k (s.den V)) (.int k2 (r.den V))).run P w=.ok () w:=fun op=>yH (by rintro c d ⟨h,_⟩;cases h) (by rintro⟨h,_⟩;cases h)
  split at h
  .split at h
   .rename_i hc
    have hb2:0<=r.den V/\r.den V<k.bits:=by omega
    refine⟨_,by rw[Sem.run_bind,skip,Result.andThen_ok];exact (eW hb2.1 hb2.2).1,?_⟩
    have e:r.den V=l2:=by omega
    have hp:(0:Int)<2 ^ l2.toNat:=Int.pow_pos (by decide)
    have:IOp.shl.fn (s.den V) (r.den V)=(TI.op .shl s r).den V:=rfl
    rw[this]
    refine pS hA (by simp[TI.ok,s1,r1]) ?_ ?_ h
    .rw[<-this];simp only[IOp.fn,e];exact Int.mul_le_mul_of_nonneg_right s2 (Int.le_of_lt hp)
    .rw[<-this];simp only[IOp.fn,e];exact Int.mul_le_mul_of_nonneg_right s3 (Int.le_of_lt hp)
   .cases h
  .split at h
   .rename_i hc
    cases h
    have hb2:0<=r.den V/\r.den V<k.bits:=by omega
    refine⟨_,by rw[Sem.run_bind,skip,Result.andThen_ok];exact (eW hb2.1 hb2.2).2,?_⟩
    have e:r.den V=l2:=by omega
    have hp:(0:Int)<2 ^ l2.toNat:=Int.pow_pos (by decide)
    have hf:∀ z:Int,0<=z->z.fdiv (2 ^ l2.toNat)=z/2 ^ l2.toNat:=fun z _=>Int.fdiv_eq_ediv_of_nonneg z (Int.le_of_lt hp)
    refine .symI k (.op .shr s r) _ _ (by simp[TI.ok,s1,r1]) ?_ ?_
    .show l1.fdiv (2 ^ l2.toNat)<=(s.den V).fdiv (2 ^ (r.den V).toNat)
     rw[e,hf _ (by omega),hf _ (by omega)];exact Int.ediv_le_ediv hp s2
    .show (s.den V).fdiv (2 ^ (r.den V).toNat)<=h1.fdiv (2 ^ l2.toNat)
     rw[e,hf _ (by omega),hf _ (by omega)];exact Int.ediv_le_ediv hp s3
   .cases h
  .split at h
   .rename_i hk
    subst hk
    obtain⟨u,g1,g2⟩:=aiG (P:=P) (w:=w) (ty:=t) hA s1 r1 s2 s3 r2 r3 h
    exact⟨u,by rw[Sem.run_bind,skip,Result.andThen_ok];exact g1,g2⟩
   .cases h
 .split at h
  .rename_i e1 h1 e2 h2 q1 q2
   obtain⟨s,rfl,s1,rfl,s2⟩:=wP ha q1
   obtain⟨r,rfl,r1,rfl,r2⟩:=wP hb q2
   have skip:∀ (op:BinOp),(eqGuard op t x y (.string ⟨(s.den V).toArray⟩) (.string ⟨(r.den V).toArray⟩)).run P w=.ok () w:=fun op=>yH (by rintro c d ⟨h,_⟩;cases h) (by rintro⟨h,_⟩;cases h)
   have hop:∀ op:BinOp,binOp op t (.string ⟨(s.den V).toArray⟩) (.string ⟨(r.den V).toArray⟩)=Op.stringOp op ⟨(s.den V).toArray⟩ ⟨(r.den V).toArray⟩:=by intro op;cases op<;>rfl
   have hE:(TB.eqL s r).ok V.length=true:=by simp[TB.ok,s1,r1]
   split at h
   .cases h
    refine⟨_,by rw[Sem.run_bind,skip,Result.andThen_ok,hop];exact (qN (v:=.bool (decide _)) rfl).1,?_⟩
    rw[sY]
    have:=sX hA (.eqL s r) hE
    simp only[TB.den]at this
    exact this
   .cases h
    refine⟨_,by rw[Sem.run_bind,skip,Result.andThen_ok,hop];exact (qN (v:=.bool (!decide _)) rfl).1,?_⟩
    rw[sY]
    obtain⟨r',g1,g2,g3⟩:=yJ (.eqL s r)
    have:=sX hA r' (g2 _ hE)
    rw[<-g1,g3]at this
    simp only[TB.den]at this
    exact this
   .split at h
    .rename_i hle
     cases h
     have hsz:(⟨(s.den V).toArray⟩:ByteArray).size+(⟨(r.den V).toArray⟩:ByteArray).size<=9223372036854775807:=by
      show (s.den V).toArray.size+(r.den V).toArray.size<=_;simp only[List.size_toArray];omega
     refine⟨_,by rw[Sem.run_bind,skip,Result.andThen_ok];exact jE _ _ hsz,?_⟩
     have e:(⟨(s.den V).toArray⟩++⟨(r.den V).toArray⟩:ByteArray)=⟨((TL.app s r).den V).toArray⟩:=by
      have:∀ (p q:List UInt8),(⟨p.toArray⟩++⟨q.toArray⟩:ByteArray)=⟨(p++q).toArray⟩:=by
       intro p q;apply ByteArray.ext;rw[ByteArray.data_append];simp
      rw[this];simp only[TL.den]
     rw[e]
     refine .symS (.app s r) _ (by simp[TL.ok,s1,r1]) ?_
     simp only[TL.den,List.length_append]
     omega
    .cases h
   .cases h
  .cases h
def ad4(P:Program)(t:TypeId):Bool:=match P.underlying t with
 |some (.int _)=>true
 |_=>false
def aNW(P:Program)(t:TypeId):Bool:=match P.underlying t with
 |some (.struct fs)=>(match fs.toList with
  | [f0, f1, f2] => (f0.name != "_" && (f1.name != "_" && f2.name != "_")) && ((Nat.beq f0.offset 0 && (Nat.beq f1.offset 1 && Nat.beq f2.offset 2)) && ((ad4 P f0.type && (ad4 P f1.type && ad4 P f2.type)) && (!(P.stoodInHeld t) && !(P.eqGuardType P.depth t))))
  |_=>false)
 |_=>false
def eqI(a b:Value):Option Value:=match asI a,asI b with
 |some (.i64,e,_,_),some (.i64,f,_,_)=>some (nd2 33 e f)
 |_,_=>none
def aqZ(P:Program)(A:List Value)(op:BinOp)(t:TypeId)(a b:Value):Option Value :=
 match a,b with
 | .agg ⟨[a0,a1,a2]⟩,.agg ⟨[b0,b1,b2]⟩ =>
  (match eqI a0 b0,eqI a1 b1,eqI a2 b2 with
  |some q0,some q1,some q2=>if aNW P t=true then (match op with
   | .eql=>some (mkB A (nd2 36 q0 (nd2 36 q1 q2)))
   | .neq=>some (mkB A (vB (nd2 36 q0 (nd2 36 q1 q2))))
   |_=>none) else none
  |_,_,_=>none)
 |_,_=>none
theorem rU{P:Program}{w:World}{t:TypeId}{cs:Array Value}{off:Nat}{v:Value}(ht:ad4 P t=true)(hv:cs[off]?=some v):(part t cs off).run P w=.ok v w:=by
 unfold ad4 at ht;split at ht
 .rename_i k hk;unfold part;simp only[Sem.run_bind,vA hk,Result.andThen_ok,qT,Bool.false_eq_true,if_false,Sem.run_ite,hv,Sem.run_pure]
 .cases ht
theorem mL{V:Ren}{a b u v q:Value}(ha:VR V a u)(hb:VR V b v)(h:eqI a b=some q):∃ s t:TI,q=(TB.eq s t).enc/\s.ok V.length=true/\t.ok V.length=true/\u=.int .i64 (s.den V)/\v=.int .i64 (t.den V):=by
 unfold eqI at h;split at h
 .rename_i e _ _ f _ _ h1 h2;obtain⟨s,rfl,s1,rfl,_,_⟩:=yK ha h1;obtain⟨t,rfl,t1,rfl,_,_⟩:=yK hb h2;cases h;exact⟨s,t,rfl,s1,t1,rfl,rfl⟩
 .cases h
theorem mE{P:Program}{w:World}{d:Nat}{t:TypeId}{a b:Int}(ht:ad4 P t=true):(Op.equalIn (d+1) t (.int .i64 a) (.int .i64 b)).run P w=.ok (a == b) w:=by
 unfold ad4 at ht;split at ht
 .rename_i k hk;exact run_equalIn_int w d t .i64 k a b hk
 .cases ht
theorem ac6{P:Program}{w:World}{t:TypeId}(h:aNW P t=true){a b:Array Value}{x0 x1 x2 y0 y1 y2:Int}(ha:a=#[.int .i64 x0,.int .i64 x1,.int .i64 x2])(hb:b=#[.int .i64 y0,.int .i64 y1,.int .i64 y2]) :
    (∀ op x y,(eqGuard op t x y (.agg a) (.agg b)).run P w=.ok () w)/\(Op.equalIn 10000 t (.agg a) (.agg b)).run P w=.ok (x0 == y0&&(x1 == y1&&x2 == y2)) w:=by
 unfold aNW at h
 split at h
 .rename_i fs hfs
  split at h
  .rename_i f0 f1 f2 hl
   simp only[Bool.and_eq_true,bne_iff_ne,Bool.not_eq_true']at h
   obtain⟨⟨n0,n1,n2⟩,⟨o0,o1,o2⟩,⟨i0,i1,i2⟩,hs,hg⟩:=h
   have o0:=Nat.eq_of_beq_eq_true o0;have o1:=Nat.eq_of_beq_eq_true o1;have o2:=Nat.eq_of_beq_eq_true o2
   refine⟨fun op x y=>run_eqGuard_agg w op t x y a b hg,?_⟩
   have hf:P.fieldsOf t=fs:=by unfold Program.fieldsOf;rw[hfs]
   rw[show (10000:Nat)=9999+1 from rfl,run_equalIn_agg w 9999 t a b (by rw[hf];exact hfs) hs,hf,hl]
   subst ha hb
   have p0:∀ (z0 z1 z2:Int),(part f0.type #[.int .i64 z0,.int .i64 z1,.int .i64 z2] f0.offset).run P w=.ok (.int .i64 z0) w:=fun z0 z1 z2=>rU i0 (by rw[o0];rfl)
   have p1:∀ (z0 z1 z2:Int),(part f1.type #[.int .i64 z0,.int .i64 z1,.int .i64 z2] f1.offset).run P w=.ok (.int .i64 z1) w:=fun z0 z1 z2=>rU i1 (by rw[o1];rfl)
   have p2:∀ (z0 z1 z2:Int),(part f2.type #[.int .i64 z0,.int .i64 z1,.int .i64 z2] f2.offset).run P w=.ok (.int .i64 z2) w:=fun z0 z1 z2=>rU i2 (by rw[o2];rfl)
   simp only[Op.eqFields,if_pos n0,if_pos n1,if_pos n2,Sem.run_bind,p0,p1,p2,Result.andThen_ok,mE (d:=9998) i0,mE (d:=9998) i1,mE (d:=9998) i2,show (9999:Nat)=9998+1 from rfl,Sem.run_ite,Sem.run_pure]
   by_cases h0:x0=y0<;>by_cases h1:x1=y1<;>by_cases h2:x2=y2<;>simp[h0,h1,h2]
  .cases h
 .cases h
theorem acX{P:Program}{w:World}{V:Ren}{A:List Value}(hA:Facts V A){op:BinOp}{t:TypeId}{x y:Operand}{a b a' b' v:Value}(ha:VR V a a')(hb:VR V b b')(h:aqZ P A op t a b=some v) :
    ∃ u,(do eqGuard op t x y a' b';binOp op t a' b':Sem Value).run P w=.ok u w/\VR V v u:=by
 unfold aqZ at h
 split at h
 .rename_i a0 a1 a2 b0 b1 b2
  split at h
  .rename_i q0 q1 q2 e0 e1 e2
   split at h
   .rename_i ht
    cases ha with
    |agg c c' hs hc =>
    cases hb with
    |agg d d' hs' hd =>
    obtain⟨c'⟩:=c'
    obtain⟨d'⟩:=d'
    match c',hs,d',hs' with
    |[u0,u1,u2],hs,[v0,v1,v2],hs' =>
     obtain⟨s0,t0,rfl,k0,l0,rfl,rfl⟩:=mL (hc 0 a0 u0 rfl rfl) (hd 0 b0 v0 rfl rfl) e0
     obtain⟨s1,t1,rfl,k1,l1,rfl,rfl⟩:=mL (hc 1 a1 u1 rfl rfl) (hd 1 b1 v1 rfl rfl) e1
     obtain⟨s2,t2,rfl,k2,l2,rfl,rfl⟩:=mL (hc 2 a2 u2 rfl rfl) (hd 2 b2 v2 rfl rfl) e2
     obtain⟨g1,g2⟩:=ac6 (w:=w) ht (a:=#[.int .i64 (s0.den V),.int .i64 (s1.den V),.int .i64 (s2.den V)]) (b:=#[.int .i64 (t0.den V),.int .i64 (t1.den V),.int .i64 (t2.den V)]) rfl rfl
     have hE:(nd2 36 (TB.eq s0 t0).enc (nd2 36 (TB.eq s1 t1).enc (TB.eq s2 t2).enc))=(TB.and (.eq s0 t0) (.and (.eq s1 t1) (.eq s2 t2))).enc:=rfl
     have hok:(TB.and (.eq s0 t0) (.and (.eq s1 t1) (.eq s2 t2))).ok V.length=true:=by simp[TB.ok,k0,k1,k2,l0,l1,l2]
     have hden:(TB.and (.eq s0 t0) (.and (.eq s1 t1) (.eq s2 t2))).den V=(s0.den V == t0.den V&&(s1.den V == t1.den V&&s2.den V == t2.den V)):=by simp only[TB.den];rfl
     split at h
     .cases h
      refine⟨_,by rw[Sem.run_bind,g1,Result.andThen_ok,run_eql_struct,g2];rfl,?_⟩
      rw[hE,<-hden]
      exact sX hA _ hok
     .cases h
      refine⟨_,by rw[Sem.run_bind,g1,Result.andThen_ok,run_neq_struct,g2];rfl,?_⟩
      obtain⟨r,r1,r2,r3⟩:=yJ (TB.and (.eq s0 t0) (.and (.eq s1 t1) (.eq s2 t2)))
      rw[hE,r1,<-hden,<-r3]
      exact sX hA r (r2 _ hok)
     .cases h
   .cases h
  .cases h
 .cases h
def aPR(P:Program)(A:List Value)(op:BinOp)(t:TypeId)(x y:Operand)(a b:Value):Option Value :=
 match apA P op t x y a b with
 |some v=>some v
 |none=>match alC A op a b with
  |some v=>some v
  |none=>aqZ P A op t a b
theorem ah4{P:Program}{w:World}{V:Ren}{A:List Value}(hA:Facts V A){op:BinOp}{t:TypeId}{x y:Operand}{a b a' b' v:Value}(ha:VR V a a')(hb:VR V b b')(h:aPR P A op t x y a b=some v) :
    ∃ u,(do eqGuard op t x y a' b';binOp op t a' b':Sem Value).run P w=.ok u w/\VR V v u:=by
 unfold aPR at h
 split at h
 .rename_i hv
  cases h
  exact acS ha hb hv
 .split at h
  .rename_i hv
   cases h
   exact acL hA ha hb hv
  .exact acX hA ha hb h
def aun(P:Program)(op:UnOp)(x:Value):Option Value :=
 if zL x then agr P (Op.unary op x)
 else match op,asB x with
  | .not,some e=>some (match vB e with
   | .bool r=>.bool r
   |e=>sB e)
  |_,_=>none
theorem an0{P:Program}{w:World}{V:Ren}{op:UnOp}{x x' v:Value}(hx:VR V x x')(h:aun P op x=some v):∃ u,(Op.unary op x').run P w=.ok u w/\VR V v u:=by
 unfold aun at h;split at h
 .rename_i hg;have:=hx.eq_of_ground hg;subst this;exact⟨v,(nD h w).1,VR.of_ground (nD h w).2⟩
 .split at h
  .rename_i e he;obtain⟨t,rfl,h1,rfl⟩:=xJ hx he;obtain⟨r,g1,g2,g3⟩:=yJ t;refine⟨.bool (!(t.den V)),rfl,?_⟩;rw[<-g3];rw[g1]at h;split at h
   .rename_i b hb;cases h;have:r=.lit b:=TB.inj _ _ hb;rw[this];exact .bool b
   .cases h;exact .symB r (g2 _ h1)
  .cases h
def bZ(P:Program)(A:List Value)(src dst:TypeId)(x:Value):Option Value :=
 match P.underlying src,P.underlying dst,asI x with
 |some _,some (.int k),some (_,e,lo,hi) =>
  if tN k<=lo/\hi<=wN k then some (sI k e lo hi)
  else if dec A 4 (nd2 31 e (.int .i64 (tN k)))=some false/\dec A 4 (nd2 31 (.int .i64 (wN k)) e)=some false then some (sI k e (if lo<tN k then tN k else lo) (if wN k<hi then wN k else hi))
  else some (sI k (nd2 10 (.int k 0) e) (tN k) (wN k))
 |_,_,_=>none
theorem P5{P:Program}{w:World}{V:Ren}{A:List Value}(hA:Facts V A){src dst:TypeId}{x x' v:Value}(hx:VR V x x')(h:bZ P A src dst x=some v):∃ u,(convert src dst x').run P w=.ok u w/\VR V v u:=by
 unfold bZ at h;split at h;rotate_left
 .cases h
 rename_i d k k0 e lo hi hs hd hx';obtain⟨t,rfl,h1,rfl,h2,h3⟩:=yK hx hx';have hrun:(convert src dst (.int k0 (t.den V))).run P w=.ok (.int k (k.wrap (t.den V))) w:=by
  simp only[convert,Sem.run_bind,run_underlying hs,run_underlying hd,Result.andThen_ok,Conv.intToInt];rfl
 refine⟨_,hrun,?_⟩;split at h
 .rename_i hc;cases h;rw[wrap_in (Int.le_trans hc.1 h2) (Int.le_trans h3 hc.2)];exact .symI k t lo hi h1 h2 h3
 split at h
 .rename_i hc;cases h;have e1:=yV hA 4 (.lt t (.lit (tN k))) _ hc.1;have e2:=yV hA 4 (.lt (.lit (wN k)) t) _ hc.2;simp only[TB.den,TI.den]at e1 e2;have e1:=of_decide_eq_false e1;have e2:=of_decide_eq_false e2;rw[wrap_in (by omega) (by omega)];exact .symI k t _ _ h1 (by split<;>omega) (by split<;>omega)
 .cases h;exact .symI k (.wrap k t) (tN k) (wN k) (by simpa [TI.ok] using h1) (by simp only[TI.den];exact (rI k _).1) (by simp only[TI.den];exact (rI k _).2)
end
noncomputable section
def nn:Nat->Value->Bool
 |0,_=>false
 |k+1,e=>match e with
  | .int _ n=>decide (0<=n)
  | .func (.yield 11) ⟨[_]⟩ ⟨[]⟩=>true
  | .func (.yield 12) ⟨[_,_]⟩ ⟨[]⟩=>true
  | .func (.yield 100) ⟨[a,b]⟩ ⟨[]⟩=>nn k a&&nn k b
  |_=>false
theorem auW{t:TI}{a:Value}{c:Array Value}(h:t.enc=.func (.yield 11) ⟨[a]⟩ c):∃ l:TL,t=.len l/\a=l.enc:=by
 cases t<;>simp[TI.enc,nd1,nd2,nd3]at h;exact⟨_,rfl,h.1.symm⟩
theorem auY{t:TI}{a b:Value}{c:Array Value}(h:t.enc=.func (.yield 12) ⟨[a,b]⟩ c):∃ (l:TL) (i:TI),t=.sel l i/\a=l.enc/\b=i.enc:=by
 cases t<;>simp[TI.enc,nd1,nd2,nd3]at h
 .exfalso;omega
 .exact⟨_,_,rfl,h.1.1.symm,h.1.2.symm⟩
theorem akZ(V:Ren):∀(k:Nat)(t:TI),nn k t.enc=true->0<=t.den V:=by
 intro k;induction k with
 |zero=>intro t h;cases h
 |succ k ih =>
  intro t h;generalize he:t.enc=e at h;unfold nn at h;split at h
  .obtain⟨rfl,rfl⟩:=xN he;exact of_decide_eq_true h
  .obtain⟨l,rfl,_⟩:=auW he;simp only[TI.den];omega
  .obtain⟨l,i,rfl,_⟩:=auY he;simp only[TI.den];omega
  .obtain⟨x,y,rfl,rfl,rfl⟩:=ahM he;rw[Bool.and_eq_true]at h;have:=ih x h.1;have:=ih y h.2;simp only[TI.den,IOp.fn];omega
  .cases h
def af8(A:List Value)(a b:Value):Bool:=match dec A 8 (nd2 31 b a) with
 |some false=>true
 |_=>(match dec A 8 (nd2 31 a b) with
  |some true=>true
  |_=>false)
def vH(A:List Value)(a b:Value):Bool :=
 match a,b with
 | .int _ x,.int _ y=>decide (x<=y)
 | .int k x,b=>(decide (x<=0)&&nn 9 b) || af8 A (.int k x) b
 |a,b=>teq 60 a b || af8 A a b
def nS(A:List Value)(a b:Value):Bool :=
 match a,b with
 | .int _ x,.int _ y=>decide (x<y)
 |a,b=>match dec A 8 (nd2 31 a b) with
  |some true=>true
  |_=>false
theorem as9{V:Ren}{A:List Value}(hA:Facts V A){s t:TI}(h:af8 A s.enc t.enc=true):s.den V<=t.den V:=by
 unfold af8 at h;split at h
 .rename_i hd;have:=yV hA 8 (.lt t s) _ hd;simp only[TB.den]at this;have:=of_decide_eq_false this;omega
 .split at h
  .rename_i hd;have:=yV hA 8 (.lt s t) _ hd;simp only[TB.den]at this;have:=of_decide_eq_true this;omega
  .cases h
theorem zO{V:Ren}{A:List Value}(hA:Facts V A){s t:TI}(h:vH A s.enc t.enc=true):s.den V<=t.den V:=by
 generalize hs:s.enc=a at h;generalize ht:t.enc=b at h;unfold vH at h;split at h
 .obtain⟨rfl,rfl⟩:=xN hs;obtain⟨rfl,rfl⟩:=xN ht;exact of_decide_eq_true h
 .rw[Bool.or_eq_true,Bool.and_eq_true]at h;rcases h with⟨h1,h2⟩|h
  .obtain⟨rfl,rfl⟩:=xN hs;rw[<-ht]at h2;have:=akZ V 9 t h2;have:=of_decide_eq_true h1;simp only[TI.den];omega
  .rw[<-hs,<-ht]at h;exact as9 hA h
 .rw[Bool.or_eq_true]at h;rcases h with h|h
  .have:=xK _ _ _ h;rw[<-hs,<-ht]at this;rw[TI.inj _ _ this];exact Int.le_refl _
  .rw[<-hs,<-ht]at h;exact as9 hA h
theorem xM{V:Ren}{A:List Value}(hA:Facts V A){s t:TI}(h:nS A s.enc t.enc=true):s.den V<t.den V:=by
 generalize hs:s.enc=a at h;generalize ht:t.enc=b at h;unfold nS at h;split at h
 .obtain⟨rfl,rfl⟩:=xN hs;obtain⟨rfl,rfl⟩:=xN ht;exact of_decide_eq_true h
 .split at h
  .rename_i hd;rw[<-hs,<-ht]at hd;have:=yV hA 8 (.lt s t) _ hd;simp only[TB.den]at this;exact of_decide_eq_true this
  .cases h
def xX:Nat->Value->Value
 |0,e=>nd1 11 e
 |k+1,e=>match e with
  | .string s=>.int .i64 s.size
  | .func (.yield 20) ⟨[l,_,_]⟩ ⟨[]⟩=>xX k l
  | .func (.yield 21) ⟨[l,m]⟩ ⟨[]⟩=>yM (xX k l) (xX k m)
  | .func (.yield 22) ⟨[_]⟩ ⟨[]⟩=>.int .i64 1
  |e=>nd1 11 e
theorem aa4{t:TL}{s:ByteArray}(h:t.enc=.string s):t=.lit s.data.toList:=by
 cases t<;>simp[TL.enc,nd1,nd2,nd3]at h;subst h;simp
theorem amU{t:TL}{a b d:Value}{c:Array Value}(h:t.enc=.func (.yield 20) ⟨[a,b,d]⟩ c):∃ (l:TL) (i v:TI),t=.set l i v/\a=l.enc/\b=i.enc/\d=v.enc:=by
 cases t<;>simp[TL.enc,nd1,nd2,nd3]at h;exact⟨_,_,_,rfl,h.1.1.symm,h.1.2.1.symm,h.1.2.2.symm⟩
theorem O0{t:TL}{a b:Value}{c:Array Value}(h:t.enc=.func (.yield 21) ⟨[a,b]⟩ c):∃ (l m:TL),t=.app l m/\a=l.enc/\b=m.enc:=by
 cases t<;>simp[TL.enc,nd1,nd2,nd3]at h;exact⟨_,_,rfl,h.1.1.symm,h.1.2.symm⟩
theorem apJ{t:TL}{a:Value}{c:Array Value}(h:t.enc=.func (.yield 22) ⟨[a]⟩ c):∃ (v:TI),t=.one v/\a=v.enc:=by
 cases t<;>simp[TL.enc,nd1,nd2,nd3]at h;exact⟨_,rfl,h.1.symm⟩
theorem yL:∀(k:Nat)(t:TL),∃ r:TI,xX k t.enc=r.enc/\(∀ n,t.ok n=true->r.ok n=true)/\∀ V,r.den V=(t.den V).length:=by
 intro k;induction k with
 |zero=>intro t;exact⟨.len t,rfl,fun n h=>h,fun V=>rfl⟩
 |succ k ih =>
  intro t;generalize he:t.enc=e;unfold xX;split
  .rename_i s;have:=aa4 he;subst this;exact⟨.lit s.size,rfl,fun _ _=>rfl,fun V=>by simp only[TI.den,TL.den,Array.length_toList];rfl⟩
  .obtain⟨l,i,v,rfl,rfl,rfl,rfl⟩:=amU he;obtain⟨r,h1,h2,h3⟩:=ih l;exact⟨r,h1,fun n h=>by simp[TL.ok]at h;exact h2 n h.1.1,fun V=>by rw[h3];simp[TL.den]⟩
  .obtain⟨l,m,rfl,rfl,rfl⟩:=O0 he;obtain⟨r,h1,h2,h3⟩:=ih l;obtain⟨r',g1,g2,g3⟩:=ih m;rw[h1,g1];obtain⟨q,f1,f2,f3⟩:=zX r r';exact⟨q,f1,fun n h=>by simp[TL.ok]at h;exact f2 n (h2 n h.1) (g2 n h.2),fun V=>by rw[f3,h3,g3];simp[TL.den]⟩
  .obtain⟨v,rfl,rfl⟩:=apJ he;exact⟨.lit 1,rfl,fun _ _=>rfl,fun V=>by simp[TI.den,TL.den]⟩
  .rw[<-he];exact⟨.len t,rfl,fun n h=>h,fun V=>rfl⟩
def mK(A:List Value)(l a b:Value):Value :=
 if teq 60 a b then .string .empty else
 match l,a with
 | .func (.yield 21) ⟨[x,y]⟩ ⟨[]⟩,.int k z=>if z=0/\teq 60 (xX 20 x) b=true then x else if z=0/\teq 60 (xX 20 l) b=true then l else nd3 23 l a b
 |l,.int k z=>if z=0/\teq 60 (xX 20 l) b=true then l else nd3 23 l a b
 |l,a=>nd3 23 l a b
theorem rL(A:List Value)(l:TL)(a b:TI):∃ r:TL,mK A l.enc a.enc b.enc=r.enc/\(∀ n,l.ok n=true->a.ok n=true->b.ok n=true->r.ok n=true) /\
    ∀ V,r.den V=((l.den V).take (b.den V).toNat).drop (a.den V).toNat:=by
 have whole:∀ {z:Int},a=.lit z->z=0->teq 60 (xX 20 l.enc) b.enc=true->∀ V,l.den V=((l.den V).take (b.den V).toNat).drop (a.den V).toNat:=by
  rintro z rfl rfl hb V;obtain⟨r,h1,h2,h3⟩:=yL 20 l;have:=xK _ _ _ hb;rw[h1]at this;have:=TI.inj _ _ this;subst this;rw[h3];simp[TI.den]
 have base:∃ r:TL,nd3 23 l.enc a.enc b.enc=r.enc/\(∀ n,l.ok n=true->a.ok n=true->b.ok n=true->r.ok n=true)/\∀ V,r.den V=((l.den V).take (b.den V).toNat).drop (a.den V).toNat :=
  ⟨.sub l a b,rfl,fun n h1 h2 h3=>by simp[TL.ok,h1,h2,h3],fun V=>rfl⟩
 generalize hl:l.enc=e at base whole ⊢
 generalize ha:a.enc=f at base ⊢
 unfold mK
 split
 .rename_i hab
  have:=xK _ _ _ hab
  rw[<-ha]at this
  have:=TI.inj _ _ this
  subst this
  exact⟨.lit [],rfl,fun n _ _ _=>rfl,fun V=>by
   simp only[TL.den];rw[List.drop_eq_nil_of_le (by rw[List.length_take];omega)]⟩
 split
 .rename_i x y k z
  obtain⟨p,q,rfl,rfl,rfl⟩:=O0 hl
  obtain⟨rfl,rfl⟩:=xN ha
  split
  .rename_i hc
   obtain⟨rfl,hc⟩:=hc
   refine⟨p,rfl,fun n h _ _=>by simp[TL.ok]at h;exact h.1,fun V=>?_⟩
   obtain⟨r,h1,h2,h3⟩:=yL 20 p
   have:=xK _ _ _ hc
   rw[h1]at this
   have:=TI.inj _ _ this
   subst this
   rw[h3];simp[TI.den,TL.den]
  .split
   .rename_i hc
    exact⟨.app p q,hl.symm,fun n h _ _=>h,whole rfl hc.1 hc.2⟩
   .exact base
 .obtain⟨rfl,rfl⟩:=xN ha
  split
  .rename_i hc
   exact⟨l,hl.symm,fun n h _ _=>h,whole rfl hc.1 hc.2⟩
  .exact base
 .exact base
end
end Go.SM
