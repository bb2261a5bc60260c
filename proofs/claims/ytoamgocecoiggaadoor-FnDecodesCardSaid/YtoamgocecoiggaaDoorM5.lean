-- the statement of this claim: see YtoamgocecoiggaaDoorRw
import Derived.Test.YtoamgocecoiggaaDoorM4
set_option linter.unusedVariables false
set_option linter.unusedSimpArgs false
namespace Go.SM
noncomputable section
def ltT (e1:Value) (l1 h1:Int) (e2:Value) (l2 h2:Int):Value:=if h1 < l2 then .bool true else if h2≤l1 then .bool false else nd2 31 e1 e2
def eqT (e1:Value) (l1 h1:Int) (e2:Value) (l2 h2:Int):Value:=if h1 < l2∨h2 < l1 then .bool false else if l1=h1∧l2=h2∧l1=l2 then .bool true else nd2 33 e1 e2
def cmpT (op:BinOp) (e1:Value) (l1 h1:Int) (e2:Value) (l2 h2:Int):Option Value :=
 match op with
 | .lss=>some (ltT e1 l1 h1 e2 l2 h2)
 | .gtr=>some (ltT e2 l2 h2 e1 l1 h1)
 | .leq=>some (mkNot (ltT e2 l2 h2 e1 l1 h1))
 | .geq=>some (mkNot (ltT e1 l1 h1 e2 l2 h2))
 | .eql=>some (eqT e1 l1 h1 e2 l2 h2)
 | .neq=>some (mkNot (eqT e1 l1 h1 e2 l2 h2))
 | _=>none
theorem ltT_sound {β:Ren} {s t:TI} {l1 h1 l2 h2:Int} (hs:s.ok β.length=true) (ht:t.ok β.length=true) (a1:l1≤s.den β) (a2:s.den β≤h1) (b1:l2≤t.den β) (b2:t.den β≤h2) :
    ∃ r:TB,ltT s.enc l1 h1 t.enc l2 h2=r.enc∧r.ok β.length=true∧r.den β=decide (s.den β < t.den β):=by
 unfold ltT
 split
 ·exact ⟨.lit true,rfl,rfl,by simp only [TB.den]; exact (decide_eq_true (by omega)).symm⟩
 ·split
  ·exact ⟨.lit false,rfl,rfl,by simp only [TB.den]; exact (decide_eq_false (by omega)).symm⟩
  ·exact ⟨.lt s t,rfl,by simp [TB.ok,hs,ht],by simp only [TB.den]⟩
theorem eqT_sound {β:Ren} {s t:TI} {l1 h1 l2 h2:Int} (hs:s.ok β.length=true) (ht:t.ok β.length=true) (a1:l1≤s.den β) (a2:s.den β≤h1) (b1:l2≤t.den β) (b2:t.den β≤h2) :
    ∃ r:TB,eqT s.enc l1 h1 t.enc l2 h2=r.enc∧r.ok β.length=true∧r.den β=decide (s.den β=t.den β):=by
 unfold eqT
 split
 ·exact ⟨.lit false,rfl,rfl,by simp only [TB.den]; exact (decide_eq_false (by omega)).symm⟩
 ·split
  ·exact ⟨.lit true,rfl,rfl,by simp only [TB.den]; exact (decide_eq_true (by omega)).symm⟩
  ·exact ⟨.eq s t,rfl,by simp [TB.ok,hs,ht],by simp only [TB.den]⟩
theorem run_cmp {P:Program} {w:World} {op:BinOp} {t:TypeId} {k:IntKind} {x y:Int} {r:Bool} (h:(Op.intCmp op x y).run P w=.ok (.bool r) w) (ho:op≠.shl∧op≠.shr∧op≠.add∧op≠.sub∧op≠.mul∧op≠.quo∧op≠.rem∧op≠.and∧op≠.or∧op≠.xor∧op≠.andNot) :
    (binOp op t (.int k x) (.int k y)).run P w=.ok (.bool r) w:=by
 cases op <;> first | (simp at ho; done) | (simp only [binOp,ne_eq,not_true_eq_false,if_false]; exact h)
theorem cmpT_sound {P:Program} {w:World} {β:Ren} {op:BinOp} {ty:TypeId} {k:IntKind} {s t:TI} {l1 h1 l2 h2:Int} {v:Value} (hs:s.ok β.length=true) (ht:t.ok β.length=true) (a1:l1≤s.den β) (a2:s.den β≤h1) (b1:l2≤t.den β) (b2:t.den β≤h2)
    (h:cmpT op s.enc l1 h1 t.enc l2 h2=some v):∃ r:TB,v=r.enc∧r.ok β.length=true∧(binOp op ty (.int k (s.den β)) (.int k (t.den β))).run P w=.ok (.bool (r.den β)) w:=by
 have ng:∀ {e:Value} {p:Bool},(∃ r:TB,e=r.enc∧r.ok β.length=true∧r.den β=p)→∃ r:TB,mkNot e=r.enc∧r.ok β.length=true∧r.den β=!p:=by
  rintro e p ⟨r,rfl,h1,h2⟩
  obtain ⟨r',g1,g2,g3⟩:=mkNot_sound r
  exact ⟨r',g1,g2 _ h1,by rw [g3,h2]⟩
 have key:∀ (p q:Bool),p=q→Sem.run P (pure (Value.bool p)) w=.ok (.bool q) w:=by rintro p _ rfl; rfl
 unfold cmpT at h
 split at h <;> try (cases h; done)
 ·cases h
  obtain ⟨r,e1,e2,e3⟩:=ltT_sound hs ht a1 a2 b1 b2
  exact ⟨r,e1,e2,run_cmp (key _ _ e3.symm) (by simp)⟩
 ·cases h
  obtain ⟨r,e1,e2,e3⟩:=ltT_sound ht hs b1 b2 a1 a2
  exact ⟨r,e1,e2,run_cmp (key _ _ e3.symm) (by simp)⟩
 ·cases h
  obtain ⟨r,e1,e2,e3⟩:=ng (ltT_sound ht hs b1 b2 a1 a2)
  refine ⟨r,e1,e2,run_cmp (key _ _ ?_) (by simp)⟩
  rw [e3,← decide_not]; exact decide_eq_decide.2 (by omega)
 ·cases h
  obtain ⟨r,e1,e2,e3⟩:=ng (ltT_sound hs ht a1 a2 b1 b2)
  refine ⟨r,e1,e2,run_cmp (key _ _ ?_) (by simp)⟩
  rw [e3,← decide_not]; exact decide_eq_decide.2 (by omega)
 ·cases h
  obtain ⟨r,e1,e2,e3⟩:=eqT_sound hs ht a1 a2 b1 b2
  refine ⟨r,e1,e2,run_cmp (key _ _ ?_) (by simp)⟩
  rw [e3]; rfl
 ·cases h
  obtain ⟨r,e1,e2,e3⟩:=ng (eqT_sound hs ht a1 a2 b1 b2)
  refine ⟨r,e1,e2,run_cmp (key _ _ ?_) (by simp)⟩
  rw [e3]; rfl
theorem run_ar {P:Program} {w:World} {t:TypeId} {k:IntKind} {a b:Int}:(binOp .add t (.int k a) (.int k b)).run P w=.ok (.int k (k.wrap (a + b))) w∧(binOp .sub t (.int k a) (.int k b)).run P w=.ok (.int k (k.wrap (a - b))) w ∧
    (binOp .mul t (.int k a) (.int k b)).run P w=.ok (.int k (k.wrap (a * b))) w:=by
 refine ⟨?_,?_,?_⟩ <;> (simp only [binOp,ne_eq,not_true_eq_false,if_false,Op.intArith]; rfl)
theorem pow_max (k:IntKind):kmax k < 2 ^ k.bits:=by cases k <;> decide
theorem ofInt_toNat {n:Nat} {a:Int} (h0:0≤a) (h1:a < 2 ^ n):(BitVec.ofInt n a).toNat=a.toNat:=by
 rw [BitVec.toNat_ofInt]
 congr 1
 rw [Int.emod_eq_of_lt h0 (by exact_mod_cast h1)]
theorem kbits (k:IntKind):∃ m:Nat,kmax k + 1=2 ^ m:=by
 cases k
 ·exact ⟨7,rfl⟩
 ·exact ⟨15,rfl⟩
 ·exact ⟨31,rfl⟩
 ·exact ⟨63,rfl⟩
 ·exact ⟨8,rfl⟩
 ·exact ⟨16,rfl⟩
 ·exact ⟨32,rfl⟩
 ·exact ⟨64,rfl⟩
theorem kmin_le (k:IntKind):kmin k≤0:=by cases k <;> decide
theorem run_bits {P:Program} {w:World} {t:TypeId} {k:IntKind} {a b:Int} (h0:0≤a) (h1:a≤kmax k) (g0:0≤b) (g1:b≤kmax k) :
    (binOp .and t (.int k a) (.int k b)).run P w=.ok (.int k (IOp.and.fn a b)) w∧(binOp .or t (.int k a) (.int k b)).run P w=.ok (.int k (IOp.or.fn a b)) w ∧
    0≤IOp.and.fn a b∧IOp.and.fn a b≤a∧IOp.and.fn a b≤b∧0≤IOp.or.fn a b∧IOp.or.fn a b≤kmax k:=by
 have hp:=pow_max k
 have ea:=ofInt_toNat h0 (by omega:a < 2 ^ k.bits)
 have eb:=ofInt_toNat g0 (by omega:b < 2 ^ k.bits)
 have i1:0≤IOp.and.fn a b:=by simp only [IOp.fn]; omega
 have i2:IOp.and.fn a b≤a:=by simp only [IOp.fn]; have:Nat.land a.toNat b.toNat≤a.toNat:=Nat.and_le_left; omega
 have i3:IOp.and.fn a b≤b:=by simp only [IOp.fn]; have:Nat.land a.toNat b.toNat≤b.toNat:=Nat.and_le_right; omega
 have i4:0≤IOp.or.fn a b:=by simp only [IOp.fn]; omega
 have i5:IOp.or.fn a b≤kmax k:=by
  obtain ⟨m,hm⟩:=kbits k
  have hm':kmax k + 1=((2 ^ m:Nat):Int):=by rw [hm]; norm_cast
  simp only [IOp.fn]
  have:Nat.lor a.toNat b.toNat < 2 ^ m:=Nat.or_lt_two_pow (by omega) (by omega)
  omega
 have hk:=kmin_le k
 refine ⟨?_,?_,i1,i2,i3,i4,i5⟩
 ·simp only [binOp,ne_eq,not_true_eq_false,if_false,Op.intBits,BitVec.toNat_and,ea,eb]
  have:k.wrap ((a.toNat &&& b.toNat:Nat):Int)=IOp.and.fn a b:=wrap_in (n:=IOp.and.fn a b) (by omega) (by omega)
  rw [this]; rfl
 ·simp only [binOp,ne_eq,not_true_eq_false,if_false,Op.intBits,BitVec.toNat_or,ea,eb]
  have:k.wrap ((a.toNat ||| b.toNat:Nat):Int)=IOp.or.fn a b:=wrap_in (n:=IOp.or.fn a b) (by omega) (by omega)
  rw [this]; rfl
theorem run_shift {P:Program} {w:World} {t:TypeId} {k k2:IntKind} {a b:Int} (h0:0≤b) (h1:b < k.bits) :
    (binOp .shl t (.int k a) (.int k2 b)).run P w=.ok (.int k (k.wrap (IOp.shl.fn a b))) w∧(binOp .shr t (.int k a) (.int k2 b)).run P w=.ok (.int k (IOp.shr.fn a b)) w:=by
 have hn:¬ b < 0:=by omega
 have hm:min b.toNat k.bits=b.toNat:=by omega
 constructor
 ·simp only [binOp,Op.shift,if_neg hn,hm]; rfl
 ·simp only [binOp,Op.shift,if_neg hn,hm]; rfl
theorem run_div {P:Program} {w:World} {t:TypeId} {k:IntKind} {a b:Int} (hb:0 < b) (h0:0≤a) (h1:a≤kmax k):(binOp .quo t (.int k a) (.int k b)).run P w=.ok (.int k (IOp.quo.fn a b)) w∧(binOp .rem t (.int k a) (.int k b)).run P w=.ok (.int k (IOp.rem.fn a b)) w:=by
 have hn:¬ b=0:=by omega
 have hq:0≤a.tdiv b∧a.tdiv b≤a:=⟨Int.tdiv_nonneg h0 (by omega),by rw [Int.tdiv_eq_ediv_of_nonneg h0]; exact Int.ediv_le_self _ h0⟩
 have hk:=kmin_le k
 constructor
 ·simp only [binOp,ne_eq,not_true_eq_false,if_false,Op.intDiv,if_neg hn]
  rw [wrap_in (by omega) (by omega)]; rfl
 ·simp only [binOp,ne_eq,not_true_eq_false,if_false,Op.intDiv,if_neg hn]; rfl
theorem lor_le:∀ (a b:Nat),a ||| b≤a + b:=by
 intro a
 induction a using Nat.strongRecOn with
 | ind a ih =>
  intro b
  by_cases h0:a=0
  ·subst h0; simp
  have h:=ih (a / 2) (by omega) (b / 2)
  have e1:(a ||| b) / 2=a / 2 ||| b / 2:=by
   apply Nat.eq_of_testBit_eq
   intro i
   simp [Nat.testBit_or,Nat.testBit_div_two]
  have e2:(a ||| b) % 2≤a % 2 + b % 2:=by
   by_cases hz:(a ||| b) % 2=1
   ·have:=Nat.or_mod_two_eq_one.1 hz
    omega
   ·omega
  omega
def loF (e:Value):List Value→Int→Int
 | [],l=>l
 | a::A,l=>loF e A (match a with
  | .func (.yield 35) ⟨[.func (.yield 31) ⟨[x,.int .i64 c]⟩ ⟨[]⟩]⟩ ⟨[]⟩=>if (l < c && (50000 < c && c < 100000)) && teq 60 x e then c else l
  | .func (.yield 31) ⟨[.int .i64 c,x]⟩ ⟨[]⟩=>if (l < c + 1 && (50000 < c && c < 100000)) && teq 60 x e then c + 1 else l
  | _=>l)
def hiF (e:Value):List Value→Int→Int
 | [],h=>h
 | a::A,h=>hiF e A (match a with
  | .func (.yield 35) ⟨[.func (.yield 31) ⟨[.int .i64 c,x]⟩ ⟨[]⟩]⟩ ⟨[]⟩=>if (c < h && (50000 < c && c < 100000)) && teq 60 x e then c else h
  | .func (.yield 31) ⟨[x,.int .i64 c]⟩ ⟨[]⟩=>if (c - 1 < h && (50000 < c && c < 100000)) && teq 60 x e then c - 1 else h
  | _=>h)
theorem fact_ltl {β:Ren} {s:TI} {a x:Value} {c:Int} (ha:∃ t:TB,a=t.enc∧t.ok β.length=true∧t.den β=true) (h:a=.func (.yield 31) ⟨[x,.int .i64 c]⟩ ⟨[]⟩) (hx:x=s.enc):s.den β < c:=by
 obtain ⟨t,h1,_,h3⟩:=ha
 have:t=.lt s (.lit c):=TB.inj _ _ (by rw [← h1,h,hx]; rfl)
 subst this
 simp only [TB.den,TI.den] at h3; exact of_decide_eq_true h3
theorem fact_ltr {β:Ren} {s:TI} {a x:Value} {c:Int} (ha:∃ t:TB,a=t.enc∧t.ok β.length=true∧t.den β=true) (h:a=.func (.yield 31) ⟨[.int .i64 c,x]⟩ ⟨[]⟩) (hx:x=s.enc):c < s.den β:=by
 obtain ⟨t,h1,_,h3⟩:=ha
 have:t=.lt (.lit c) s:=TB.inj _ _ (by rw [← h1,h,hx]; rfl)
 subst this
 simp only [TB.den,TI.den] at h3; exact of_decide_eq_true h3
theorem fact_nltl {β:Ren} {s:TI} {a x:Value} {c:Int} (ha:∃ t:TB,a=t.enc∧t.ok β.length=true∧t.den β=true) (h:a=.func (.yield 35) ⟨[.func (.yield 31) ⟨[x,.int .i64 c]⟩ ⟨[]⟩]⟩ ⟨[]⟩) (hx:x=s.enc):c≤s.den β:=by
 obtain ⟨t,h1,_,h3⟩:=ha
 have:t=.not (.lt s (.lit c)):=TB.inj _ _ (by rw [← h1,h,hx]; rfl)
 subst this
 simp only [TB.den,TI.den,Bool.not_eq_true'] at h3; have:=of_decide_eq_false h3; omega
theorem fact_nltr {β:Ren} {s:TI} {a x:Value} {c:Int} (ha:∃ t:TB,a=t.enc∧t.ok β.length=true∧t.den β=true) (h:a=.func (.yield 35) ⟨[.func (.yield 31) ⟨[.int .i64 c,x]⟩ ⟨[]⟩]⟩ ⟨[]⟩) (hx:x=s.enc):s.den β≤c:=by
 obtain ⟨t,h1,_,h3⟩:=ha
 have:t=.not (.lt (.lit c) s):=TB.inj _ _ (by rw [← h1,h,hx]; rfl)
 subst this
 simp only [TB.den,TI.den,Bool.not_eq_true'] at h3; have:=of_decide_eq_false h3; omega
theorem loF_sound {β:Ren} {s:TI}:∀ {A:List Value} {l:Int},Facts β A→l≤s.den β→loF s.enc A l≤s.den β
 | [],l,_,h=>h
 | a::A,l,hA,h=>by
  unfold loF
  refine loF_sound (fun b hb=>hA b (List.mem_cons_of_mem _ hb)) ?_
  have ha:=hA a (List.mem_cons_self ..)
  split
  ·split
   ·rename_i hc; rw [Bool.and_eq_true] at hc; exact fact_nltl ha rfl (teq_eq _ _ _ hc.2)
   ·exact h
  ·split
   ·rename_i hc; rw [Bool.and_eq_true] at hc; exact fact_ltr ha rfl (teq_eq _ _ _ hc.2)
   ·exact h
  ·exact h
theorem hiF_sound {β:Ren} {s:TI}:∀ {A:List Value} {l:Int},Facts β A→s.den β≤l→s.den β≤hiF s.enc A l
 | [],l,_,h=>h
 | a::A,l,hA,h=>by
  unfold hiF
  refine hiF_sound (fun b hb=>hA b (List.mem_cons_of_mem _ hb)) ?_
  have ha:=hA a (List.mem_cons_self ..)
  split
  ·split
   ·rename_i hc; rw [Bool.and_eq_true] at hc; exact fact_nltr ha rfl (teq_eq _ _ _ hc.2)
   ·exact h
  ·split
   ·rename_i hc; rw [Bool.and_eq_true] at hc
    have:=fact_ltl ha rfl (teq_eq _ _ _ hc.2)
    omega
   ·exact h
  ·exact h
def arT (A:List Value) (op:BinOp) (k:IntKind) (e1:Value) (l1 h1:Int) (e2:Value) (l2 h2:Int):Option Value :=
 match op with
 | .add=>fit A k (mkAdd e1 e2) (loF e1 A l1 + loF e2 A l2) (hiF e1 A h1 + hiF e2 A h2)
 | .sub=>fit A k (mkSub e1 e2) (loF e1 A l1 - hiF e2 A h2) (hiF e1 A h1 - loF e2 A l2)
 | .mul=>if 0≤l1∧0≤l2 then fit A k (nd2 102 e1 e2) (l1 * l2) (h1 * h2) else none
 | .and=>if 0≤l1∧0≤l2∧h1≤kmax k∧h2≤kmax k then some (sI k (nd2 103 e1 e2) 0 (if h1 < h2 then h1 else h2)) else none
 | .or=>if 0≤l1∧0≤l2∧h1≤kmax k∧h2≤kmax k then some (sI k (nd2 104 e1 e2) 0 (if h1 + h2 < kmax k then h1 + h2 else kmax k)) else none
 | .quo=>if 0≤l1∧h1≤kmax k∧0 < l2 then some (sI k (nd2 109 e1 e2) 0 h1) else none
 | .rem=>if 0≤l1∧h1≤kmax k∧0 < l2 then some (sI k (nd2 110 e1 e2) 0 (if h1 < h2 - 1 then h1 else h2 - 1)) else none
 | op=>(cmpT op e1 l1 h1 e2 l2 h2).map (mkB A)
theorem arT_sound {P:Program} {w:World} {β:Ren} {A:List Value} (hA:Facts β A) {op:BinOp} {ty:TypeId} {k:IntKind} {s t:TI} {l1 h1 l2 h2:Int} {v:Value} (hs:s.ok β.length=true) (ht:t.ok β.length=true) (a1:l1≤s.den β) (a2:s.den β≤h1) (b1:l2≤t.den β) (b2:t.den β≤h2)
    (h:arT A op k s.enc l1 h1 t.enc l2 h2=some v):∃ u,(binOp op ty (.int k (s.den β)) (.int k (t.den β))).run P w=.ok u w∧VR β v u:=by
 have two:∀ o:IOp,(TI.op o s t).ok β.length=true:=fun o=>by simp [TI.ok,hs,ht]
 have c1:=loF_sound hA a1; have c2:=hiF_sound hA a2; have d1:=loF_sound hA b1; have d2:=hiF_sound hA b2
 unfold arT at h
 split at h
 ·obtain ⟨r,e1,e2,e3⟩:=mkAdd_sound s t
  rw [e1] at h
  refine ⟨_,run_ar.1,?_⟩
  rw [← e3]
  exact fit_sound hA (e2 _ hs ht) (by rw [e3]; omega) (by rw [e3]; omega) h
 ·obtain ⟨r,e1,e2,e3⟩:=mkSub_sound s t
  rw [e1] at h
  refine ⟨_,run_ar.2.1,?_⟩
  rw [← e3]
  exact fit_sound hA (e2 _ hs ht) (by rw [e3]; omega) (by rw [e3]; omega) h
 ·split at h
  ·rename_i hc
   refine ⟨_,run_ar.2.2,?_⟩
   have:s.den β * t.den β=(TI.op .mul s t).den β:=rfl
   rw [this]
   refine fit_sound hA (two _) ?_ ?_ h
   ·rw [← this]; exact Int.mul_le_mul a1 b1 hc.2 (by omega)
   ·rw [← this]; exact Int.mul_le_mul a2 b2 (by omega) (by omega)
  ·cases h
 ·split at h
  ·rename_i hc
   cases h
   obtain ⟨g1,_,g3,g4,g5,_⟩:=run_bits (P:=P) (w:=w) (t:=ty) (k:=k) (show 0≤s.den β by omega) (by omega) (show 0≤t.den β by omega) (by omega)
   exact ⟨_,g1,.symI k (.op .and s t) _ _ (two _) g3 (by show IOp.and.fn (s.den β) (t.den β)≤_; split <;> omega)⟩
  ·cases h
 ·split at h
  ·rename_i hc
   cases h
   obtain ⟨_,g1,_,_,_,g3,g4⟩:=run_bits (P:=P) (w:=w) (t:=ty) (k:=k) (show 0≤s.den β by omega) (by omega) (show 0≤t.den β by omega) (by omega)
   exact ⟨_,g1,.symI k (.op .or s t) _ _ (two _) g3 (by
    have:=lor_le (s.den β).toNat (t.den β).toNat
    have h5:IOp.or.fn (s.den β) (t.den β)≤s.den β + t.den β:=by
     show ((Nat.lor (s.den β).toNat (t.den β).toNat:Nat):Int)≤_
     have e:Nat.lor (s.den β).toNat (t.den β).toNat=(s.den β).toNat ||| (t.den β).toNat:=rfl
     rw [e]; omega
    split
    ·show IOp.or.fn (s.den β) (t.den β)≤_; omega
    ·exact g4)⟩
  ·cases h
 ·split at h
  ·rename_i hc
   cases h
   refine ⟨_,(run_div (by omega) (by omega) (by omega)).1,.symI k (.op .quo s t) _ _ (two _) (Int.tdiv_nonneg (by omega) (by omega)) ?_⟩
   show (s.den β).tdiv (t.den β)≤_
   rw [Int.tdiv_eq_ediv_of_nonneg (by omega)]
   exact Int.le_trans (Int.ediv_le_self _ (by omega)) a2
  ·cases h
 ·split at h
  ·rename_i hc
   cases h
   have e:(s.den β).tmod (t.den β)=s.den β % t.den β:=Int.tmod_eq_emod_of_nonneg (by omega)
   have m1:=Int.emod_nonneg (s.den β) (show t.den β≠0 by omega)
   have m2:=Int.emod_lt_of_pos (s.den β) (show 0 < t.den β by omega)
   have m4:=Int.mul_ediv_add_emod (s.den β) (t.den β)
   have m5:0≤t.den β * (s.den β / t.den β):=Int.mul_nonneg (by omega) (Int.ediv_nonneg (by omega) (by omega))
   have m3:s.den β % t.den β≤s.den β:=by omega
   refine ⟨_,(run_div (by omega) (by omega) (by omega)).2,.symI k (.op .rem s t) _ _ (two _) ?_ ?_⟩
   ·show 0≤(s.den β).tmod (t.den β); rw [e]; exact m1
   ·show (s.den β).tmod (t.den β)≤_; rw [e]; split <;> omega
  ·cases h
 ·simp only [Option.map_eq_some_iff] at h
  obtain ⟨e,he,rfl⟩:=h
  obtain ⟨r,rfl,g1,g2⟩:=cmpT_sound (P:=P) (w:=w) (ty:=ty) (k:=k) hs ht a1 a2 b1 b2 he
  exact ⟨_,g2,mkB_sound hA r g1⟩
end
end Go.SM
namespace Go.SM
noncomputable section
def abinS (A:List Value) (op:BinOp) (a b:Value):Option Value :=
 match asI a,asI b with
 | some (k,e1,l1,h1),some (k2,e2,l2,h2) =>
  match op with
  | .shl=>if l2=h2∧0≤l2∧l2 < k.bits∧0≤l1 then fit A k (nd2 107 e1 e2) (l1 * 2 ^ l2.toNat) (h1 * 2 ^ l2.toNat) else none
  | .shr=>if l2=h2∧0≤l2∧l2 < k.bits∧0≤l1 then some (sI k (nd2 108 e1 e2) (l1.fdiv (2 ^ l2.toNat)) (h1.fdiv (2 ^ l2.toNat))) else none
  | op=>if k=k2 then arT A op k e1 l1 h1 e2 l2 h2 else none
 | _,_ =>
  match asS a,asS b with
  | some (e1,h1),some (e2,h2) =>
   match op with
   | .eql=>some (mkB A (nd2 34 e1 e2))
   | .neq=>some (mkB A (mkNot (nd2 34 e1 e2)))
   | .add=>if h1 + h2≤2 ^ 50 then some (sS (nd2 21 e1 e2) (h1 + h2)) else none
   | _=>none
  | _,_=>none
theorem list_toArray_beq (a b:List UInt8):decide ((⟨a.toArray⟩:ByteArray).data.toList=(⟨b.toArray⟩:ByteArray).data.toList)=decide (a=b):=by simp
theorem binS_sound {P:Program} {w:World} {β:Ren} {A:List Value} (hA:Facts β A) {op:BinOp} {t:TypeId} {x y:Operand} {a b a' b' v:Value} (ha:VR β a a') (hb:VR β b b') (h:abinS A op a b=some v) :
    ∃ u,(do eqGuard op t x y a' b'; binOp op t a' b':Sem Value).run P w=.ok u w∧VR β v u:=by
 unfold abinS at h
 split at h
 ·rename_i k e1 l1 h1 k2 e2 l2 h2 q1 q2
  obtain ⟨s,rfl,s1,rfl,s2,s3⟩:=asI_sound ha q1
  obtain ⟨r,rfl,r1,rfl,r2,r3⟩:=asI_sound hb q2
  have skip:∀ (op:BinOp),(eqGuard op t x y (.int k (s.den β)) (.int k2 (r.den β))).run P w=.ok () w:=fun op=>eqGuard_skip (by rintro c d ⟨h,_⟩; cases h) (by rintro ⟨h,_⟩; cases h)
  split at h
  ·split at h
   ·rename_i hc
    have hb2:0≤r.den β∧r.den β < k.bits:=by omega
    refine ⟨_,by rw [Sem.run_bind,skip,Result.andThen_ok]; exact (run_shift hb2.1 hb2.2).1,?_⟩
    have e:r.den β=l2:=by omega
    have hp:(0:Int) < 2 ^ l2.toNat:=Int.pow_pos (by decide)
    have:IOp.shl.fn (s.den β) (r.den β)=(TI.op .shl s r).den β:=rfl
    rw [this]
    refine fit_sound hA (by simp [TI.ok,s1,r1]) ?_ ?_ h
    ·rw [← this]; simp only [IOp.fn,e]; exact Int.mul_le_mul_of_nonneg_right s2 (Int.le_of_lt hp)
    ·rw [← this]; simp only [IOp.fn,e]; exact Int.mul_le_mul_of_nonneg_right s3 (Int.le_of_lt hp)
   ·cases h
  ·split at h
   ·rename_i hc
    cases h
    have hb2:0≤r.den β∧r.den β < k.bits:=by omega
    refine ⟨_,by rw [Sem.run_bind,skip,Result.andThen_ok]; exact (run_shift hb2.1 hb2.2).2,?_⟩
    have e:r.den β=l2:=by omega
    have hp:(0:Int) < 2 ^ l2.toNat:=Int.pow_pos (by decide)
    have hf:∀ z:Int,0≤z→z.fdiv (2 ^ l2.toNat)=z / 2 ^ l2.toNat:=fun z _=>Int.fdiv_eq_ediv_of_nonneg z (Int.le_of_lt hp)
    refine .symI k (.op .shr s r) _ _ (by simp [TI.ok,s1,r1]) ?_ ?_
    ·show l1.fdiv (2 ^ l2.toNat)≤(s.den β).fdiv (2 ^ (r.den β).toNat)
     rw [e,hf _ (by omega),hf _ (by omega)]; exact Int.ediv_le_ediv hp s2
    ·show (s.den β).fdiv (2 ^ (r.den β).toNat)≤h1.fdiv (2 ^ l2.toNat)
     rw [e,hf _ (by omega),hf _ (by omega)]; exact Int.ediv_le_ediv hp s3
   ·cases h
  ·split at h
   ·rename_i hk
    subst hk
    obtain ⟨u,g1,g2⟩:=arT_sound (P:=P) (w:=w) (ty:=t) hA s1 r1 s2 s3 r2 r3 h
    exact ⟨u,by rw [Sem.run_bind,skip,Result.andThen_ok]; exact g1,g2⟩
   ·cases h
 ·split at h
  ·rename_i e1 h1 e2 h2 q1 q2
   obtain ⟨s,rfl,s1,rfl,s2⟩:=asS_sound ha q1
   obtain ⟨r,rfl,r1,rfl,r2⟩:=asS_sound hb q2
   have skip:∀ (op:BinOp),(eqGuard op t x y (.string ⟨(s.den β).toArray⟩) (.string ⟨(r.den β).toArray⟩)).run P w=.ok () w:=fun op=>eqGuard_skip (by rintro c d ⟨h,_⟩; cases h) (by rintro ⟨h,_⟩; cases h)
   have hop:∀ op:BinOp,binOp op t (.string ⟨(s.den β).toArray⟩) (.string ⟨(r.den β).toArray⟩)=Op.stringOp op ⟨(s.den β).toArray⟩ ⟨(r.den β).toArray⟩:=by intro op; cases op <;> rfl
   have hE:(TB.eqL s r).ok β.length=true:=by simp [TB.ok,s1,r1]
   split at h
   ·cases h
    refine ⟨_,by rw [Sem.run_bind,skip,Result.andThen_ok,hop]; exact (astr_run (v:=.bool (decide _)) rfl).1,?_⟩
    rw [list_toArray_beq]
    have:=mkB_sound hA (.eqL s r) hE
    simp only [TB.den] at this
    exact this
   ·cases h
    refine ⟨_,by rw [Sem.run_bind,skip,Result.andThen_ok,hop]; exact (astr_run (v:=.bool (!decide _)) rfl).1,?_⟩
    rw [list_toArray_beq]
    obtain ⟨r',g1,g2,g3⟩:=mkNot_sound (.eqL s r)
    have:=mkB_sound hA r' (g2 _ hE)
    rw [← g1,g3] at this
    simp only [TB.den] at this
    exact this
   ·split at h
    ·rename_i hle
     cases h
     have hsz:(⟨(s.den β).toArray⟩:ByteArray).size + (⟨(r.den β).toArray⟩:ByteArray).size≤9223372036854775807:=by
      show (s.den β).toArray.size + (r.den β).toArray.size≤_
      simp only [List.size_toArray]; omega
     refine ⟨_,by rw [Sem.run_bind,skip,Result.andThen_ok]; exact cat_run _ _ hsz,?_⟩
     have e:(⟨(s.den β).toArray⟩++⟨(r.den β).toArray⟩:ByteArray)=⟨((TL.app s r).den β).toArray⟩:=by
      have:∀ (p q:List UInt8),(⟨p.toArray⟩++⟨q.toArray⟩:ByteArray)=⟨(p++q).toArray⟩:=by
       intro p q
       apply ByteArray.ext
       rw [ByteArray.data_append]
       simp
      rw [this]; simp only [TL.den]
     rw [e]
     refine .symS (.app s r) _ (by simp [TL.ok,s1,r1]) ?_
     simp only [TL.den,List.length_append]
     omega
    ·cases h
   ·cases h
  ·cases h
def abin (P:Program) (A:List Value) (op:BinOp) (t:TypeId) (x y:Operand) (a b:Value):Option Value :=
 match abin0 P op t x y a b with
 | some v=>some v
 | none=>abinS A op a b
theorem bin_sound {P:Program} {w:World} {β:Ren} {A:List Value} (hA:Facts β A) {op:BinOp} {t:TypeId} {x y:Operand} {a b a' b' v:Value} (ha:VR β a a') (hb:VR β b b') (h:abin P A op t x y a b=some v) :
    ∃ u,(do eqGuard op t x y a' b'; binOp op t a' b':Sem Value).run P w=.ok u w∧VR β v u:=by
 unfold abin at h
 split at h
 ·rename_i hv
  cases h
  exact bin0_sound ha hb hv
 ·exact binS_sound hA ha hb h
def aun (P:Program) (op:UnOp) (x:Value):Option Value :=
 if ground x then agr P (Op.unary op x)
 else match op,asB x with
  | .not,some e=>some (match mkNot e with
   | .bool r=>.bool r
   | e=>sB e)
  | _,_=>none
theorem un_sound {P:Program} {w:World} {β:Ren} {op:UnOp} {x x' v:Value} (hx:VR β x x') (h:aun P op x=some v):∃ u,(Op.unary op x').run P w=.ok u w∧VR β v u:=by
 unfold aun at h
 split at h
 ·rename_i hg
  have:=hx.eq_of_ground hg
  subst this
  exact ⟨v,(agr_run h w).1,VR.of_ground (agr_run h w).2⟩
 ·split at h
  ·rename_i e he
   obtain ⟨t,rfl,h1,rfl⟩:=asB_sound hx he
   obtain ⟨r,g1,g2,g3⟩:=mkNot_sound t
   refine ⟨.bool (!(t.den β)),rfl,?_⟩
   rw [← g3]
   rw [g1] at h
   split at h
   ·rename_i b hb
    cases h
    have:r=.lit b:=TB.inj _ _ hb
    rw [this]; exact .bool b
   ·cases h
    exact .symB r (g2 _ h1)
  ·cases h
def aconvI (P:Program) (A:List Value) (src dst:TypeId) (x:Value):Option Value :=
 match P.underlying src,P.underlying dst,asI x with
 | some _,some (.int k),some (_,e,lo,hi) =>
  if kmin k≤lo∧hi≤kmax k then some (sI k e lo hi)
  else if dec A 4 (nd2 31 e (.int .i64 (kmin k)))=some false∧dec A 4 (nd2 31 (.int .i64 (kmax k)) e)=some false then some (sI k e (if lo < kmin k then kmin k else lo) (if kmax k < hi then kmax k else hi))
  else some (sI k (nd2 10 (.int k 0) e) (kmin k) (kmax k))
 | _,_,_=>none
theorem convI_sound {P:Program} {w:World} {β:Ren} {A:List Value} (hA:Facts β A) {src dst:TypeId} {x x' v:Value} (hx:VR β x x') (h:aconvI P A src dst x=some v):∃ u,(convert src dst x').run P w=.ok u w∧VR β v u:=by
 unfold aconvI at h
 split at h
 rotate_left
 ·cases h
 rename_i d k k0 e lo hi hs hd hx'
 obtain ⟨t,rfl,h1,rfl,h2,h3⟩:=asI_sound hx hx'
 have hrun:(convert src dst (.int k0 (t.den β))).run P w=.ok (.int k (k.wrap (t.den β))) w:=by
  simp only [convert,Sem.run_bind,run_underlying hs,run_underlying hd,Result.andThen_ok,Conv.intToInt]
  rfl
 refine ⟨_,hrun,?_⟩
 split at h
 ·rename_i hc
  cases h
  rw [wrap_in (Int.le_trans hc.1 h2) (Int.le_trans h3 hc.2)]
  exact .symI k t lo hi h1 h2 h3
 split at h
 ·rename_i hc
  cases h
  have e1:=dec_sound hA 4 (.lt t (.lit (kmin k))) _ hc.1
  have e2:=dec_sound hA 4 (.lt (.lit (kmax k)) t) _ hc.2
  simp only [TB.den,TI.den] at e1 e2
  have e1:=of_decide_eq_false e1
  have e2:=of_decide_eq_false e2
  rw [wrap_in (by omega) (by omega)]
  exact .symI k t _ _ h1 (by split <;> omega) (by split <;> omega)
 ·cases h
  exact .symI k (.wrap k t) (kmin k) (kmax k) (by simpa [TI.ok] using h1) (by simp only [TI.den]; exact (wrap_range k _).1) (by simp only [TI.den]; exact (wrap_range k _).2)
end
end Go.SM
namespace Go.SM
noncomputable section
def nn:Nat→Value→Bool
 | 0,_=>false
 | k + 1,e=>match e with
  | .int _ n=>decide (0≤n)
  | .func (.yield 11) ⟨[_]⟩ ⟨[]⟩=>true
  | .func (.yield 12) ⟨[_,_]⟩ ⟨[]⟩=>true
  | .func (.yield 100) ⟨[a,b]⟩ ⟨[]⟩=>nn k a && nn k b
  | _=>false
theorem enc_len {t:TI} {a:Value} {c:Array Value} (h:t.enc=.func (.yield 11) ⟨[a]⟩ c):∃ l:TL,t=.len l∧a=l.enc:=by
 cases t <;> simp [TI.enc,nd1,nd2,nd3] at h
 exact ⟨_,rfl,h.1.symm⟩
theorem enc_sel {t:TI} {a b:Value} {c:Array Value} (h:t.enc=.func (.yield 12) ⟨[a,b]⟩ c):∃ (l:TL) (i:TI),t=.sel l i∧a=l.enc∧b=i.enc:=by
 cases t <;> simp [TI.enc,nd1,nd2,nd3] at h
 ·exfalso; omega
 ·exact ⟨_,_,rfl,h.1.1.symm,h.1.2.symm⟩
theorem nn_sound (β:Ren):∀ (k:Nat) (t:TI),nn k t.enc=true→0≤t.den β:=by
 intro k
 induction k with
 | zero=>intro t h; cases h
 | succ k ih =>
  intro t h
  generalize he:t.enc=e at h
  unfold nn at h
  split at h
  ·obtain ⟨rfl,rfl⟩:=enc_int he
   exact of_decide_eq_true h
  ·obtain ⟨l,rfl,_⟩:=enc_len he
   simp only [TI.den]; omega
  ·obtain ⟨l,i,rfl,_⟩:=enc_sel he
   simp only [TI.den]; omega
  ·obtain ⟨x,y,rfl,rfl,rfl⟩:=enc_add he
   rw [Bool.and_eq_true] at h
   have:=ih x h.1
   have:=ih y h.2
   simp only [TI.den,IOp.fn]; omega
  ·cases h
def decLe (A:List Value) (a b:Value):Bool:=match dec A 8 (nd2 31 b a) with
 | some false=>true
 | _=>(match dec A 8 (nd2 31 a b) with
  | some true=>true
  | _=>false)
def leOk (A:List Value) (a b:Value):Bool :=
 match a,b with
 | .int _ x,.int _ y=>decide (x≤y)
 | .int k x,b=>(decide (x≤0) && nn 9 b) || decLe A (.int k x) b
 | a,b=>teq 60 a b || decLe A a b
def ltOk (A:List Value) (a b:Value):Bool :=
 match a,b with
 | .int _ x,.int _ y=>decide (x < y)
 | a,b=>match dec A 8 (nd2 31 a b) with
  | some true=>true
  | _=>false
theorem dec_le {β:Ren} {A:List Value} (hA:Facts β A) {s t:TI} (h:decLe A s.enc t.enc=true):s.den β≤t.den β:=by
 unfold decLe at h
 split at h
 ·rename_i hd
  have:=dec_sound hA 8 (.lt t s) _ hd
  simp only [TB.den] at this
  have:=of_decide_eq_false this
  omega
 ·split at h
  ·rename_i hd
   have:=dec_sound hA 8 (.lt s t) _ hd
   simp only [TB.den] at this
   have:=of_decide_eq_true this
   omega
  ·cases h
theorem leOk_sound {β:Ren} {A:List Value} (hA:Facts β A) {s t:TI} (h:leOk A s.enc t.enc=true):s.den β≤t.den β:=by
 generalize hs:s.enc=a at h
 generalize ht:t.enc=b at h
 unfold leOk at h
 split at h
 ·obtain ⟨rfl,rfl⟩:=enc_int hs
  obtain ⟨rfl,rfl⟩:=enc_int ht
  exact of_decide_eq_true h
 ·rw [Bool.or_eq_true,Bool.and_eq_true] at h
  rcases h with ⟨h1,h2⟩ | h
  ·obtain ⟨rfl,rfl⟩:=enc_int hs
   rw [← ht] at h2
   have:=nn_sound β 9 t h2
   have:=of_decide_eq_true h1
   simp only [TI.den]; omega
  ·rw [← hs,← ht] at h
   exact dec_le hA h
 ·rw [Bool.or_eq_true] at h
  rcases h with h | h
  ·have:=teq_eq _ _ _ h
   rw [← hs,← ht] at this
   rw [TI.inj _ _ this]; exact Int.le_refl _
  ·rw [← hs,← ht] at h
   exact dec_le hA h
theorem ltOk_sound {β:Ren} {A:List Value} (hA:Facts β A) {s t:TI} (h:ltOk A s.enc t.enc=true):s.den β < t.den β:=by
 generalize hs:s.enc=a at h
 generalize ht:t.enc=b at h
 unfold ltOk at h
 split at h
 ·obtain ⟨rfl,rfl⟩:=enc_int hs
  obtain ⟨rfl,rfl⟩:=enc_int ht
  exact of_decide_eq_true h
 ·split at h
  ·rename_i hd
   rw [← hs,← ht] at hd
   have:=dec_sound hA 8 (.lt s t) _ hd
   simp only [TB.den] at this
   exact of_decide_eq_true this
  ·cases h
def mkLen:Nat→Value→Value
 | 0,e=>nd1 11 e
 | k + 1,e=>match e with
  | .string s=>.int .i64 s.size
  | .func (.yield 20) ⟨[l,_,_]⟩ ⟨[]⟩=>mkLen k l
  | .func (.yield 21) ⟨[l,m]⟩ ⟨[]⟩=>mkAdd (mkLen k l) (mkLen k m)
  | .func (.yield 22) ⟨[_]⟩ ⟨[]⟩=>.int .i64 1
  | e=>nd1 11 e
theorem encL_str {t:TL} {s:ByteArray} (h:t.enc=.string s):t=.lit s.data.toList:=by
 cases t <;> simp [TL.enc,nd1,nd2,nd3] at h
 subst h; simp
theorem encL_set {t:TL} {a b d:Value} {c:Array Value} (h:t.enc=.func (.yield 20) ⟨[a,b,d]⟩ c):∃ (l:TL) (i v:TI),t=.set l i v∧a=l.enc∧b=i.enc∧d=v.enc:=by
 cases t <;> simp [TL.enc,nd1,nd2,nd3] at h
 exact ⟨_,_,_,rfl,h.1.1.symm,h.1.2.1.symm,h.1.2.2.symm⟩
theorem encL_app {t:TL} {a b:Value} {c:Array Value} (h:t.enc=.func (.yield 21) ⟨[a,b]⟩ c):∃ (l m:TL),t=.app l m∧a=l.enc∧b=m.enc:=by
 cases t <;> simp [TL.enc,nd1,nd2,nd3] at h
 exact ⟨_,_,rfl,h.1.1.symm,h.1.2.symm⟩
theorem encL_one {t:TL} {a:Value} {c:Array Value} (h:t.enc=.func (.yield 22) ⟨[a]⟩ c):∃ (v:TI),t=.one v∧a=v.enc:=by
 cases t <;> simp [TL.enc,nd1,nd2,nd3] at h
 exact ⟨_,rfl,h.1.symm⟩
theorem mkLen_sound:∀ (k:Nat) (t:TL),∃ r:TI,mkLen k t.enc=r.enc∧(∀ n,t.ok n=true→r.ok n=true)∧∀ β,r.den β=(t.den β).length:=by
 intro k
 induction k with
 | zero=>intro t; exact ⟨.len t,rfl,fun n h=>h,fun β=>rfl⟩
 | succ k ih =>
  intro t
  generalize he:t.enc=e
  unfold mkLen
  split
  ·rename_i s
   have:=encL_str he
   subst this
   exact ⟨.lit s.size,rfl,fun _ _=>rfl,fun β=>by simp only [TI.den,TL.den,Array.length_toList]; rfl⟩
  ·obtain ⟨l,i,v,rfl,rfl,rfl,rfl⟩:=encL_set he
   obtain ⟨r,h1,h2,h3⟩:=ih l
   exact ⟨r,h1,fun n h=>by simp [TL.ok] at h; exact h2 n h.1.1,fun β=>by rw [h3]; simp [TL.den]⟩
  ·obtain ⟨l,m,rfl,rfl,rfl⟩:=encL_app he
   obtain ⟨r,h1,h2,h3⟩:=ih l
   obtain ⟨r',g1,g2,g3⟩:=ih m
   rw [h1,g1]
   obtain ⟨q,f1,f2,f3⟩:=mkAdd_sound r r'
   exact ⟨q,f1,fun n h=>by simp [TL.ok] at h; exact f2 n (h2 n h.1) (g2 n h.2),fun β=>by rw [f3,h3,g3]; simp [TL.den]⟩
  ·obtain ⟨v,rfl,rfl⟩:=encL_one he
   exact ⟨.lit 1,rfl,fun _ _=>rfl,fun β=>by simp [TI.den,TL.den]⟩
  ·rw [← he]; exact ⟨.len t,rfl,fun n h=>h,fun β=>rfl⟩
def mkSubL (A:List Value) (l a b:Value):Value :=
 if teq 60 a b then .string .empty else
 match l,a with
 | .func (.yield 21) ⟨[x,y]⟩ ⟨[]⟩,.int k z=>if z=0∧teq 60 (mkLen 20 x) b=true then x else if z=0∧teq 60 (mkLen 20 l) b=true then l else nd3 23 l a b
 | l,.int k z=>if z=0∧teq 60 (mkLen 20 l) b=true then l else nd3 23 l a b
 | l,a=>nd3 23 l a b
theorem mkSubL_sound (A:List Value) (l:TL) (a b:TI):∃ r:TL,mkSubL A l.enc a.enc b.enc=r.enc∧(∀ n,l.ok n=true→a.ok n=true→b.ok n=true→r.ok n=true) ∧
    ∀ β,r.den β=((l.den β).take (b.den β).toNat).drop (a.den β).toNat:=by
 have whole:∀ {z:Int},a=.lit z→z=0→teq 60 (mkLen 20 l.enc) b.enc=true→∀ β,l.den β=((l.den β).take (b.den β).toNat).drop (a.den β).toNat:=by
  rintro z rfl rfl hb β
  obtain ⟨r,h1,h2,h3⟩:=mkLen_sound 20 l
  have:=teq_eq _ _ _ hb
  rw [h1] at this
  have:=TI.inj _ _ this
  subst this
  rw [h3]; simp [TI.den]
 have base:∃ r:TL,nd3 23 l.enc a.enc b.enc=r.enc∧(∀ n,l.ok n=true→a.ok n=true→b.ok n=true→r.ok n=true)∧∀ β,r.den β=((l.den β).take (b.den β).toNat).drop (a.den β).toNat :=
  ⟨.sub l a b,rfl,fun n h1 h2 h3=>by simp [TL.ok,h1,h2,h3],fun β=>rfl⟩
 generalize hl:l.enc=e at base whole ⊢
 generalize ha:a.enc=f at base ⊢
 unfold mkSubL
 split
 ·rename_i hab
  have:=teq_eq _ _ _ hab
  rw [← ha] at this
  have:=TI.inj _ _ this
  subst this
  exact ⟨.lit [],rfl,fun n _ _ _=>rfl,fun β=>by
   simp only [TL.den]
   rw [List.drop_eq_nil_of_le (by rw [List.length_take]; omega)]⟩
 split
 ·rename_i x y k z
  obtain ⟨p,q,rfl,rfl,rfl⟩:=encL_app hl
  obtain ⟨rfl,rfl⟩:=enc_int ha
  split
  ·rename_i hc
   obtain ⟨rfl,hc⟩:=hc
   refine ⟨p,rfl,fun n h _ _=>by simp [TL.ok] at h; exact h.1,fun β=>?_⟩
   obtain ⟨r,h1,h2,h3⟩:=mkLen_sound 20 p
   have:=teq_eq _ _ _ hc
   rw [h1] at this
   have:=TI.inj _ _ this
   subst this
   rw [h3]; simp [TI.den,TL.den]
  ·split
   ·rename_i hc
    exact ⟨.app p q,hl.symm,fun n h _ _=>h,whole rfl hc.1 hc.2⟩
   ·exact base
 ·obtain ⟨rfl,rfl⟩:=enc_int ha
  split
  ·rename_i hc
   exact ⟨l,hl.symm,fun n h _ _=>h,whole rfl hc.1 hc.2⟩
  ·exact base
 ·exact base
end
end Go.SM
