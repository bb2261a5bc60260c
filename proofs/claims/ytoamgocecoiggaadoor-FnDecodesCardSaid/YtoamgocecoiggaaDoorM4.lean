-- the statement of this claim: see YtoamgocecoiggaaDoorRw
import Derived.Test.YtoamgocecoiggaaDoorM3
set_option linter.unusedVariables false
set_option linter.unusedSimpArgs false
namespace Go.SM
noncomputable section
theorem IOp.code_inj {a b:IOp} (h:a.code=b.code):a=b:=by cases a <;> cases b <;> first | rfl | (simp [IOp.code] at h; done)
theorem nd1_inj {n m:Nat} {a b:Value} (h:nd1 n a=nd1 m b):n=m∧a=b:=by simp [nd1] at h; exact h
theorem nd2_inj {n m:Nat} {a b a' b':Value} (h:nd2 n a b=nd2 m a' b'):n=m∧a=a'∧b=b':=by simp [nd2] at h; exact h
theorem nd3_inj {n m:Nat} {a b c a' b' c':Value} (h:nd3 n a b c=nd3 m a' b' c'):n=m∧a=a'∧b=b'∧c=c':=by simp [nd3] at h; exact h
mutual
theorem TI.inj:∀ (a b:TI),a.enc=b.enc→a=b
 | .lit n,b,h=>by cases b <;> simp [TI.enc,nd1,nd2,nd3] at h; rw [h]
 | .var n,b,h=>by cases b <;> simp [TI.enc,nd1,nd2,nd3] at h; rw [h]
 | .op o x y,b,h=>by
  cases b <;> simp only [TI.enc] at h <;> try (simp [nd1,nd2,nd3] at h; done)
  ·obtain ⟨h1,h2,h3⟩:=nd2_inj h
   rw [IOp.code_inj (Nat.add_left_cancel h1),TI.inj _ _ h2,TI.inj _ _ h3]
  ·obtain ⟨h1,_⟩:=nd2_inj h; omega
  ·obtain ⟨h1,_⟩:=nd2_inj h; omega
  ·obtain ⟨h1,_⟩:=nd2_inj h; omega
 | .wrap k x,b,h=>by
  cases b <;> simp only [TI.enc] at h <;> try (simp [nd1,nd2,nd3] at h; done)
  ·obtain ⟨h1,_⟩:=nd2_inj h; omega
  ·obtain ⟨h1,h2,h3⟩:=nd2_inj h
   cases h2
   rw [TI.inj _ _ h3]
 | .len l,b,h=>by
  cases b <;> simp only [TI.enc] at h <;> try (simp [nd1,nd2,nd3] at h; done)
  ·rw [TL.inj _ _ (nd1_inj h).2]
 | .lenN l,b,h=>by
  cases b <;> simp only [TI.enc] at h <;> try (simp [nd1,nd2,nd3] at h; done)
  ·rw [TN.inj _ _ (nd1_inj h).2]
 | .selN l i,b,h=>by
  cases b <;> simp only [TI.enc] at h <;> try (simp [nd1,nd2,nd3] at h; done)
  ·obtain ⟨h1,_⟩:=nd2_inj h; omega
  ·obtain ⟨h1,h2,h3⟩:=nd2_inj h
   rw [TN.inj _ _ h2,TI.inj _ _ h3]
 | .sel l i,b,h=>by
  cases b <;> simp only [TI.enc] at h <;> try (simp [nd1,nd2,nd3] at h; done)
  ·obtain ⟨h1,_⟩:=nd2_inj h; omega
  ·obtain ⟨h1,h2,h3⟩:=nd2_inj h
   rw [TL.inj _ _ h2,TI.inj _ _ h3]
 | .ite c x y,b,h=>by
  cases b <;> simp only [TI.enc] at h <;> try (simp [nd1,nd2,nd3] at h; done)
  ·obtain ⟨h1,h2,h3,h4⟩:=nd3_inj h
   rw [TB.inj _ _ h2,TI.inj _ _ h3,TI.inj _ _ h4]
theorem TN.inj:∀ (a b:TN),a.enc=b.enc→a=b
 | .var n,b,h=>by cases b <;> simp [TN.enc,nd1,nd2,nd3] at h; rw [h]
 | .nil,b,h=>by cases b <;> simp [TN.enc,nd1,nd2,nd3] at h; rfl
 | .app x y,b,h=>by
  cases b <;> simp only [TN.enc] at h <;> try (simp [nd1,nd2,nd3] at h; done)
  ·obtain ⟨h1,h2,h3⟩:=nd2_inj h
   rw [TN.inj _ _ h2,TN.inj _ _ h3]
 | .one x,b,h=>by
  cases b <;> simp only [TN.enc] at h <;> try (simp [nd1,nd2,nd3] at h; done)
  ·rw [TI.inj _ _ (nd1_inj h).2]
 | .sub x y z,b,h=>by
  cases b <;> simp only [TN.enc] at h <;> try (simp [nd1,nd2,nd3] at h; done)
  ·obtain ⟨h1,h2,h3,h4⟩:=nd3_inj h
   rw [TN.inj _ _ h2,TI.inj _ _ h3,TI.inj _ _ h4]
theorem TL.inj:∀ (a b:TL),a.enc=b.enc→a=b
 | .lit n,b,h=>by
  cases b <;> simp [TL.enc,nd1,nd2,nd3] at h; rw [h]
 | .var n,b,h=>by cases b <;> simp [TL.enc,nd1,nd2,nd3] at h; rw [h]
 | .set x y z,b,h=>by
  cases b <;> simp only [TL.enc] at h <;> try (simp [nd1,nd2,nd3] at h; done)
  ·obtain ⟨h1,h2,h3,h4⟩:=nd3_inj h
   rw [TL.inj _ _ h2,TI.inj _ _ h3,TI.inj _ _ h4]
 | .app x y,b,h=>by
  cases b <;> simp only [TL.enc] at h <;> try (simp [nd1,nd2,nd3] at h; done)
  ·obtain ⟨h1,h2,h3⟩:=nd2_inj h
   rw [TL.inj _ _ h2,TL.inj _ _ h3]
 | .one x,b,h=>by
  cases b <;> simp only [TL.enc] at h <;> try (simp [nd1,nd2,nd3] at h; done)
  ·rw [TI.inj _ _ (nd1_inj h).2]
 | .sub x y z,b,h=>by
  cases b <;> simp only [TL.enc] at h <;> try (simp [nd1,nd2,nd3] at h; done)
  ·obtain ⟨h1,h2,h3,h4⟩:=nd3_inj h
   rw [TL.inj _ _ h2,TI.inj _ _ h3,TI.inj _ _ h4]
 | .put x y z,b,h=>by
  cases b <;> simp only [TL.enc] at h <;> try (simp [nd1,nd2,nd3] at h; done)
  ·obtain ⟨h1,h2,h3,h4⟩:=nd3_inj h
   rw [TL.inj _ _ h2,TI.inj _ _ h3,TL.inj _ _ h4]
theorem TB.inj:∀ (a b:TB),a.enc=b.enc→a=b
 | .lit n,b,h=>by cases b <;> simp [TB.enc,nd1,nd2,nd3] at h; rw [h]
 | .var n,b,h=>by cases b <;> simp [TB.enc,nd1,nd2,nd3] at h; rw [h]
 | .lt x y,b,h=>by
  cases b <;> simp only [TB.enc] at h <;> try (simp [nd1,nd2,nd3] at h; done)
  ·obtain ⟨h1,h2,h3⟩:=nd2_inj h
   rw [TI.inj _ _ h2,TI.inj _ _ h3]
 | .le x y,b,h=>by
  cases b <;> simp only [TB.enc] at h <;> try (simp [nd1,nd2,nd3] at h; done)
  ·obtain ⟨h1,h2,h3⟩:=nd2_inj h
   rw [TI.inj _ _ h2,TI.inj _ _ h3]
 | .eq x y,b,h=>by
  cases b <;> simp only [TB.enc] at h <;> try (simp [nd1,nd2,nd3] at h; done)
  ·obtain ⟨h1,h2,h3⟩:=nd2_inj h
   rw [TI.inj _ _ h2,TI.inj _ _ h3]
 | .eqL x y,b,h=>by
  cases b <;> simp only [TB.enc] at h <;> try (simp [nd1,nd2,nd3] at h; done)
  ·obtain ⟨h1,h2,h3⟩:=nd2_inj h
   rw [TL.inj _ _ h2,TL.inj _ _ h3]
 | .not x,b,h=>by
  cases b <;> simp only [TB.enc] at h <;> try (simp [nd1,nd2,nd3] at h; done)
  ·rw [TB.inj _ _ (nd1_inj h).2]
 | .and x y,b,h=>by
  cases b <;> simp only [TB.enc] at h <;> try (simp [nd1,nd2,nd3] at h; done)
  ·obtain ⟨h1,h2,h3⟩:=nd2_inj h
   rw [TB.inj _ _ h2,TB.inj _ _ h3]
 | .or x y,b,h=>by
  cases b <;> simp only [TB.enc] at h <;> try (simp [nd1,nd2,nd3] at h; done)
  ·obtain ⟨h1,h2,h3⟩:=nd2_inj h
   rw [TB.inj _ _ h2,TB.inj _ _ h3]
 | .ite x y z,b,h=>by
  cases b <;> simp only [TB.enc] at h <;> try (simp [nd1,nd2,nd3] at h; done)
  ·obtain ⟨h1,h2,h3,h4⟩:=nd3_inj h
   rw [TB.inj _ _ h2,TB.inj _ _ h3,TB.inj _ _ h4]
 | .pred i x y z l m,b,h=>by
  cases b <;> simp only [TB.enc] at h <;> try (simp [nd1,nd2,nd3] at h; done)
  ·obtain ⟨h1,h2,h3,h4⟩:=nd3_inj h
   obtain ⟨_,g1,g2,g3⟩:=nd3_inj h3
   obtain ⟨_,g4,g5⟩:=nd2_inj h4
   rw [TI.inj _ _ g1,TI.inj _ _ g2,TI.inj _ _ g3,TL.inj _ _ g4,TL.inj _ _ g5]
   simp only [Value.int.injEq,true_and,Int.natCast_inj] at h2
   rw [h2]
end
def teq:Nat→Value→Value→Bool
 | 0,_,_=>false
 | n + 1,a,b =>
  match a,b with
  | .int k x,.int k' y=>decide (k=k') && decide (x=y)
  | .bool x,.bool y=>x == y
  | .map (some x),.map (some y)=>Nat.beq x y
  | .string x,.string y=>decide (x.data.toList=y.data.toList)
  | .func (.yield i) ⟨[x]⟩ ⟨[]⟩,.func (.yield j) ⟨[y]⟩ ⟨[]⟩=>Nat.beq i j && teq n x y
  | .func (.yield i) ⟨[x,x2]⟩ ⟨[]⟩,.func (.yield j) ⟨[y,y2]⟩ ⟨[]⟩=>Nat.beq i j && (teq n x y && teq n x2 y2)
  | .func (.yield i) ⟨[x,x2,x3]⟩ ⟨[]⟩,.func (.yield j) ⟨[y,y2,y3]⟩ ⟨[]⟩=>Nat.beq i j && (teq n x y && (teq n x2 y2 && teq n x3 y3))
  | _,_=>false
theorem teq_eq:∀ (n:Nat) (a b:Value),teq n a b=true→a=b
 | 0,_,_,h=>by cases h
 | n + 1,a,b,h=>by
  unfold teq at h
  split at h
  ·simp only [Bool.and_eq_true,decide_eq_true_eq] at h; rw [h.1,h.2]
  ·rw [eq_of_beq h]
  ·rw [Nat.eq_of_beq_eq_true h]
  ·rename_i x y
   have h:=of_decide_eq_true h
   have:x=y:=by
    cases x; cases y; congr 1; exact Array.ext' h
   rw [this]
  ·simp only [Bool.and_eq_true] at h; rw [Nat.eq_of_beq_eq_true h.1,teq_eq n _ _ h.2]
  ·simp only [Bool.and_eq_true] at h; rw [Nat.eq_of_beq_eq_true h.1,teq_eq n _ _ h.2.1,teq_eq n _ _ h.2.2]
  ·simp only [Bool.and_eq_true] at h; rw [Nat.eq_of_beq_eq_true h.1,teq_eq n _ _ h.2.1,teq_eq n _ _ h.2.2.1,teq_eq n _ _ h.2.2.2]
  ·cases h
def Facts (β:Ren) (A:List Value):Prop:=∀ a ∈ A,∃ t:TB,a=t.enc∧t.ok β.length=true∧t.den β=true
theorem Facts.mono {β γ:Ren} {A:List Value} (h:Facts β A):Facts (β++γ) A:=fun a ha=>by
 obtain ⟨t,h1,h2,h3⟩:=h a ha
 exact ⟨t,h1,TB.ok_app _ _ (by simp) t h2,by rw [TB.den_app β γ t h2]; exact h3⟩
theorem Facts.nil (β:Ren):Facts β []:=fun a ha=>by cases ha
theorem Facts.append {β:Ren} {A B:List Value} (h:Facts β A) (h2:Facts β B):Facts β (A++B):=fun a ha=>by
 rcases List.mem_append.1 ha with ha | ha
 ·exact h a ha
 ·exact h2 a ha
def has:List Value→Value→Bool
 | [],_=>false
 | a::A,e=>teq 200 a e || has A e
theorem has_mem:∀ {A:List Value} {e:Value},has A e=true→e ∈ A
 | [],e,h=>by cases h
 | a::A,e,h=>by
  simp only [has,Bool.or_eq_true] at h
  rcases h with h | h
  ·rw [teq_eq _ _ _ h]; exact List.mem_cons_self ..
  ·exact List.mem_cons_of_mem _ (has_mem h)
theorem Facts.has {β:Ren} {A:List Value} (h:Facts β A) {t:TB} (ht:has A t.enc=true):t.den β=true:=by
 obtain ⟨t',h1,_,h3⟩:=h _ (has_mem ht)
 rw [TB.inj _ _ h1]; exact h3
def dec (A:List Value):Nat→Value→Option Bool
 | 0,_=>none
 | n + 1,e =>
  match e with
  | .bool b=>some b
  | e =>
   if has A e then some true
   else if has A (nd1 35 e) then some false
   else
    match e with
    | .func (.yield 35) ⟨[a]⟩ _ =>
     match dec A n a with
     | some r=>some (!r)
     | none=>none
    | .func (.yield 36) ⟨[a,b]⟩ _ =>
     match dec A n a,dec A n b with
     | some false,_=>some false
     | some true,r=>r
     | none,some false=>some false
     | none,_=>none
    | .func (.yield 37) ⟨[a,b]⟩ _ =>
     match dec A n a,dec A n b with
     | some true,_=>some true
     | some false,r=>r
     | none,some true=>some true
     | none,_=>none
    | .func (.yield 38) ⟨[c,a,b]⟩ _ =>
     match dec A n c with
     | some true=>dec A n a
     | some false=>dec A n b
     | none=>none
    | _=>none
theorem enc_not {t:TB} {a:Value} {c:Array Value} (h:t.enc=.func (.yield 35) ⟨[a]⟩ c):∃ x:TB,t=.not x∧a=x.enc:=by
 cases t <;> simp [TB.enc,nd1,nd2,nd3] at h
 exact ⟨_,rfl,h.1.symm⟩
theorem enc_and {t:TB} {a b:Value} {c:Array Value} (h:t.enc=.func (.yield 36) ⟨[a,b]⟩ c):∃ x y:TB,t=.and x y∧a=x.enc∧b=y.enc:=by
 cases t <;> simp [TB.enc,nd1,nd2,nd3] at h
 exact ⟨_,_,rfl,h.1.1.symm,h.1.2.symm⟩
theorem enc_or {t:TB} {a b:Value} {c:Array Value} (h:t.enc=.func (.yield 37) ⟨[a,b]⟩ c):∃ x y:TB,t=.or x y∧a=x.enc∧b=y.enc:=by
 cases t <;> simp [TB.enc,nd1,nd2,nd3] at h
 exact ⟨_,_,rfl,h.1.1.symm,h.1.2.symm⟩
theorem enc_ite {t:TB} {a b d:Value} {c:Array Value} (h:t.enc=.func (.yield 38) ⟨[d,a,b]⟩ c):∃ z x y:TB,t=.ite z x y∧d=z.enc∧a=x.enc∧b=y.enc:=by
 cases t <;> simp [TB.enc,nd1,nd2,nd3] at h
 exact ⟨_,_,_,rfl,h.1.1.symm,h.1.2.1.symm,h.1.2.2.symm⟩
theorem dec_sound {β:Ren} {A:List Value} (hA:Facts β A):∀ (n:Nat) (t:TB) (r:Bool),dec A n t.enc=some r→t.den β=r:=by
 intro n
 induction n with
 | zero=>intro t r h; cases h
 | succ n ih =>
  intro t r h
  generalize he:t.enc=e at h
  unfold dec at h
  split at h
  ·cases h
   cases t <;> simp [TB.enc,nd1,nd2,nd3] at he
   rw [he]; rfl
  split at h
  ·rename_i h1
   cases h
   rw [← he] at h1
   exact hA.has h1
  split at h
  ·rename_i h1
   cases h
   rw [← he] at h1
   have:(TB.not t).den β=true:=hA.has h1
   simpa [TB.den] using this
  split at h
  ·obtain ⟨x,rfl,rfl⟩:=enc_not he
   split at h
   ·rename_i r' hr
    cases h
    simp only [TB.den,ih _ _ hr]
   ·cases h
  ·obtain ⟨x,y,rfl,rfl,rfl⟩:=enc_and he
   split at h
   ·rename_i h1; cases h; simp only [TB.den,ih _ _ h1,Bool.false_and]
   ·rename_i r1 h1; simp only [TB.den,ih _ _ h1,ih _ _ h,Bool.true_and]
   ·rename_i h1 h2; cases h; simp only [TB.den,ih _ _ h2,Bool.and_false]
   ·cases h
  ·obtain ⟨x,y,rfl,rfl,rfl⟩:=enc_or he
   split at h
   ·rename_i h1; cases h; simp only [TB.den,ih _ _ h1,Bool.true_or]
   ·rename_i r1 h1; simp only [TB.den,ih _ _ h1,ih _ _ h,Bool.false_or]
   ·rename_i h1 h2; cases h; simp only [TB.den,ih _ _ h2,Bool.or_true]
   ·cases h
  ·obtain ⟨z,x,y,rfl,rfl,rfl,rfl⟩:=enc_ite he
   split at h
   ·rename_i h1; simp only [TB.den,ih _ _ h1,ih _ _ h,if_true]
   ·rename_i h1; simp only [TB.den,ih _ _ h1,ih _ _ h,Bool.false_eq_true,if_false]
   ·cases h
  ·cases h
end
end Go.SM
namespace Go.SM
noncomputable section
def asI:Value→Option (IntKind × Value × Int × Int)
 | .int k n=>some (k,.int .i64 n,n,n)
 | .func (.yield 0) ⟨[.int k _,e,.int _ lo,.int _ hi]⟩ _=>some (k,e,lo,hi)
 | _=>none
theorem asI_sound {β:Ren} {x u e:Value} {k:IntKind} {lo hi:Int} (h:VR β x u) (ha:asI x=some (k,e,lo,hi)) :
    ∃ t:TI,e=t.enc∧t.ok β.length=true∧u=.int k (t.den β)∧lo≤t.den β∧t.den β≤hi:=by
 cases h with
 | int k n=>simp only [asI,Option.some.injEq,Prod.mk.injEq] at ha; obtain ⟨rfl,rfl,rfl,rfl⟩:=ha; exact ⟨.lit n,rfl,rfl,rfl,Int.le_refl _,Int.le_refl _⟩
 | symI k t lo hi h1 h2 h3=>simp only [asI,Option.some.injEq,Prod.mk.injEq] at ha; obtain ⟨rfl,rfl,rfl,rfl⟩:=ha; exact ⟨t,rfl,h1,rfl,h2,h3⟩
 | func fn a c a' c' h0 =>
  unfold asI at ha
  split at ha
  ·rename_i heq; cases heq
  ·rename_i heq
   simp only [Value.func.injEq] at heq
   rw [heq.1] at h0; cases h0
  ·cases ha
 | _=>simp [asI] at ha
def asB:Value→Option Value
 | .bool b=>some (.bool b)
 | .func (.yield 1) ⟨[e]⟩ _=>some e
 | _=>none
theorem asB_sound {β:Ren} {x u e:Value} (h:VR β x u) (ha:asB x=some e):∃ t:TB,e=t.enc∧t.ok β.length=true∧u=.bool (t.den β):=by
 cases h with
 | bool b=>simp only [asB,Option.some.injEq] at ha; subst ha; exact ⟨.lit b,rfl,rfl,rfl⟩
 | symB t h1=>simp only [asB,Option.some.injEq] at ha; subst ha; exact ⟨t,rfl,h1,rfl⟩
 | func fn a c a' c' h0 =>
  unfold asB at ha
  split at ha
  ·rename_i heq; cases heq
  ·rename_i heq
   simp only [Value.func.injEq] at heq
   rw [heq.1] at h0; cases h0
  ·cases ha
 | _=>simp [asB] at ha
def asS:Value→Option (Value × Int)
 | .string s=>some (.string s,s.size)
 | .func (.yield 2) ⟨[e,.int _ hi]⟩ _=>some (e,hi)
 | _=>none
theorem asS_sound {β:Ren} {x u e:Value} {hi:Int} (h:VR β x u) (ha:asS x=some (e,hi)) :
    ∃ t:TL,e=t.enc∧t.ok β.length=true∧u=.string ⟨(t.den β).toArray⟩∧((t.den β).length:Int)≤hi:=by
 cases h with
 | string s =>
  simp only [asS,Option.some.injEq,Prod.mk.injEq] at ha
  obtain ⟨rfl,rfl⟩:=ha
  refine ⟨.lit s.data.toList,by simp [TL.enc],rfl,by simp [TL.den],?_⟩
  simp only [TL.den,Array.length_toList]
  exact Int.le_refl _
 | symS t hi h1 h2=>simp only [asS,Option.some.injEq,Prod.mk.injEq] at ha; obtain ⟨rfl,rfl⟩:=ha; exact ⟨t,rfl,h1,rfl,h2⟩
 | func fn a c a' c' h0 =>
  unfold asS at ha
  split at ha
  ·rename_i heq; cases heq
  ·rename_i heq
   simp only [Value.func.injEq] at heq
   rw [heq.1] at h0; cases h0
  ·cases ha
 | _=>simp [asS] at ha
def mkNot:Value→Value
 | .bool b=>.bool (!b)
 | .func (.yield 35) ⟨[a]⟩ _=>a
 | e=>nd1 35 e
theorem mkNot_sound (t:TB):∃ t':TB,mkNot t.enc=t'.enc∧(∀ n,t.ok n=true→t'.ok n=true)∧∀ β,t'.den β=!(t.den β):=by
 generalize he:t.enc=e
 unfold mkNot
 split
 ·cases t <;> simp [TB.enc,nd1,nd2,nd3] at he
  subst he
  exact ⟨.lit _,rfl,fun _ _=>rfl,fun _=>rfl⟩
 ·obtain ⟨x,rfl,rfl⟩:=enc_not he
  exact ⟨x,rfl,fun n h=>by simpa [TB.ok] using h,fun β=>by simp [TB.den]⟩
 ·rw [← he]
  exact ⟨.not t,rfl,fun n h=>by simpa [TB.ok] using h,fun β=>rfl⟩
def mkB (A:List Value) (e:Value):Value:=match dec A 60 e with
 | some r=>.bool r
 | none=>sB e
theorem mkB_sound {β:Ren} {A:List Value} (hA:Facts β A) (t:TB) (h:t.ok β.length=true):VR β (mkB A t.enc) (.bool (t.den β)):=by
 unfold mkB
 split
 ·rename_i r hr
  rw [dec_sound hA _ _ _ hr]; exact .bool r
 ·exact .symB t h
def kmin:IntKind→Int
 | .i8=>-128 | .i16=>-32768 | .i32=>-2147483648 | .i64=>-9223372036854775808 | _=>0
def kmax:IntKind→Int
 | .i8=>127 | .i16=>32767 | .i32=>2147483647 | .i64=>9223372036854775807 | .u8=>255 | .u16=>65535 | .u32=>4294967295 | .u64=>18446744073709551615
theorem wrap_in {k:IntKind} {n:Int} (h0:kmin k≤n) (h1:n≤kmax k):k.wrap n=n:=by
 cases k <;> simp only [kmin,kmax] at h0 h1
 ·exact IntWalk.i8_in n ⟨h0,h1⟩
 ·exact IntWalk.i16_in n ⟨h0,h1⟩
 ·exact IntWalk.i32_in n ⟨h0,h1⟩
 ·exact IntWalk.i64_in n ⟨h0,h1⟩
 ·exact IntWalk.u8_in n ⟨h0,h1⟩
 ·exact IntWalk.u16_in n ⟨h0,h1⟩
 ·exact IntWalk.u32_in n ⟨h0,h1⟩
 ·exact IntWalk.u64_in n ⟨h0,h1⟩
theorem wrap_range (k:IntKind) (n:Int):kmin k≤k.wrap n∧k.wrap n≤kmax k:=by
 cases k <;> simp only [kmin,kmax,IntKind.wrap,IntKind.bits,IntKind.signed] <;> simp <;> (try split) <;> omega
def mkAdd (a b:Value):Value :=
 match a,b with
 | .int _ x,.int _ y=>.int .i64 (x + y)
 | a,.int k y=>if y=0 then a else
  match a with
  | .func (.yield 100) ⟨[c,.int _ z]⟩ _=>if z + y=0 then c else nd2 100 c (.int .i64 (z + y))
  | a=>nd2 100 a (.int k y)
 | .int k x,b=>if x=0 then b else nd2 100 b (.int k x)
 | a,b=>match b with
  | .func (.yield 101) ⟨[c,d]⟩ _=>if teq 60 a d then c else nd2 100 a b
  | b=>nd2 100 a b
theorem enc_int {t:TI} {k:IntKind} {n:Int} (h:t.enc=.int k n):t=.lit n∧k=.i64:=by
 cases t <;> simp [TI.enc,nd1,nd2,nd3] at h
 exact ⟨by rw [h.2],h.1.symm⟩
theorem enc_add {t:TI} {a b:Value} {c:Array Value} (h:t.enc=.func (.yield 100) ⟨[a,b]⟩ c):∃ x y:TI,t=.op .add x y∧a=x.enc∧b=y.enc:=by
 cases t <;> simp [TI.enc,nd1,nd2,nd3] at h
 rename_i o x y
 obtain ⟨⟨h1,h2,h3⟩,_⟩ | ⟨h1,⟨h2,h3⟩,_⟩:(o.code=0∧x.enc=a∧y.enc=b)∧True∨o.code=0∧(x.enc=a∧y.enc=b)∧True:=by
  first | exact .inl ⟨⟨h.1.1,h.1.2.1,h.1.2.2⟩,trivial⟩ | exact .inr ⟨h.1,⟨h.2.1.1,h.2.1.2⟩,trivial⟩ | exact .inr ⟨h.1,⟨h.2.1,h.2.2⟩,trivial⟩
 all_goals
  refine ⟨x,y,?_,h2.symm,h3.symm⟩
  congr 1
  exact IOp.code_inj h1
theorem enc_sub {t:TI} {a b:Value} {c:Array Value} (h:t.enc=.func (.yield 101) ⟨[a,b]⟩ c):∃ x y:TI,t=.op .sub x y∧a=x.enc∧b=y.enc:=by
 cases t <;> simp [TI.enc,nd1,nd2,nd3] at h
 rename_i o x y
 obtain ⟨⟨h1,h2,h3⟩,_⟩ | ⟨h1,⟨h2,h3⟩,_⟩:(o.code=1∧x.enc=a∧y.enc=b)∧True∨o.code=1∧(x.enc=a∧y.enc=b)∧True:=by
  first | exact .inl ⟨⟨by omega,h.1.2.1,h.1.2.2⟩,trivial⟩ | exact .inr ⟨by omega,⟨h.2.1.1,h.2.1.2⟩,trivial⟩ | exact .inr ⟨by omega,⟨h.2.1,h.2.2⟩,trivial⟩
 all_goals
  refine ⟨x,y,?_,h2.symm,h3.symm⟩
  congr 1
  exact IOp.code_inj h1
theorem mkAdd_sound (s t:TI):∃ r:TI,mkAdd s.enc t.enc=r.enc∧(∀ n,s.ok n=true→t.ok n=true→r.ok n=true)∧∀ β,r.den β=s.den β + t.den β:=by
 generalize hs:s.enc=a
 generalize ht:t.enc=b
 unfold mkAdd
 split
 ·obtain ⟨rfl,rfl⟩:=enc_int hs
  obtain ⟨rfl,rfl⟩:=enc_int ht
  exact ⟨.lit _,rfl,fun _ _ _=>rfl,fun _=>rfl⟩
 ·rename_i y _
  obtain ⟨rfl,rfl⟩:=enc_int ht
  split
  ·rename_i h0; subst h0
   exact ⟨s,hs.symm,fun _ h _=>h,fun β=>by simp [TI.den]⟩
  ·split
   ·rename_i c k z _ _
    obtain ⟨x,y,rfl,rfl,hy⟩:=enc_add hs
    obtain ⟨rfl,rfl⟩:=enc_int hy.symm
    split
    ·rename_i hz
     exact ⟨x,rfl,fun n h _=>by simp [TI.ok] at h; exact h,fun β=>by simp only [TI.den,IOp.fn]; omega⟩
    ·exact ⟨.op .add x (.lit _),rfl,fun n h _=>by simpa [TI.ok] using h,fun β=>by simp only [TI.den,IOp.fn]; omega⟩
   ·exact ⟨.op .add s (.lit y),by simp only [TI.enc,IOp.code,hs,Nat.add_zero],fun n h _=>by simpa [TI.ok] using h,fun β=>by simp only [TI.den,IOp.fn]⟩
 ·rename_i x _
  obtain ⟨rfl,rfl⟩:=enc_int hs
  split
  ·rename_i h0; subst h0
   exact ⟨t,ht.symm,fun _ _ h=>h,fun β=>by simp [TI.den]⟩
  ·exact ⟨.op .add t (.lit x),by simp only [TI.enc,IOp.code,ht,Nat.add_zero],fun n _ h=>by simpa [TI.ok] using h,fun β=>by simp only [TI.den,IOp.fn]; omega⟩
 ·have base : ∃ r : TI, nd2 100 a b = r.enc ∧ (∀ n, s.ok n = true → t.ok n = true → r.ok n = true) ∧ ∀ β, r.den β = s.den β + t.den β :=
    ⟨.op .add s t,by simp only [TI.enc,IOp.code,hs,ht,Nat.add_zero],fun n h h'=>by simp [TI.ok,h,h'],fun β=>rfl⟩
  split
  ·rename_i c d _ _
   obtain ⟨x,y,rfl,rfl,rfl⟩:=enc_sub ht
   split
   ·rename_i h
    have h:=teq_eq _ _ _ h
    rw [← hs] at h
    have:=TI.inj _ _ h
    subst this
    exact ⟨x,rfl,fun n _ h=>by simp [TI.ok] at h; exact h.1,fun β=>by simp only [TI.den,IOp.fn]; omega⟩
   ·exact base
  ·exact base
def mkSub (a b:Value):Value :=
 match b with
 | .int _ y=>mkAdd a (.int .i64 (-y))
 | b=>if teq 60 a b then .int .i64 0 else nd2 101 a b
theorem mkSub_sound (s t:TI):∃ r:TI,mkSub s.enc t.enc=r.enc∧(∀ n,s.ok n=true→t.ok n=true→r.ok n=true)∧∀ β,r.den β=s.den β - t.den β:=by
 generalize ht:t.enc=b
 unfold mkSub
 split
 ·obtain ⟨rfl,rfl⟩:=enc_int ht
  obtain ⟨r,h1,h2,h3⟩:=mkAdd_sound s (.lit (-_))
  exact ⟨r,h1,fun n h _=>h2 n h rfl,fun β=>by rw [h3]; simp only [TI.den]; omega⟩
 ·split
  ·rename_i h
   have h:=teq_eq _ _ _ h
   rw [← ht] at h
   have:=TI.inj _ _ h
   subst this
   exact ⟨.lit 0,rfl,fun _ _ _=>rfl,fun β=>by simp only [TI.den]; omega⟩
  ·rw [← ht]
   exact ⟨.op .sub s t,rfl,fun n h h'=>by simp [TI.ok,h,h'],fun β=>rfl⟩
def fit (A:List Value) (k:IntKind) (e:Value) (lo hi:Int):Option Value :=
 if kmin k≤lo∧hi≤kmax k then some (sI k e lo hi)
 else if dec A 4 (nd2 31 e (.int .i64 (kmin k)))=some false∧dec A 4 (nd2 31 (.int .i64 (kmax k)) e)=some false then some (sI k e (if lo < kmin k then kmin k else lo) (if kmax k < hi then kmax k else hi))
 else match k with
  | .i64=>none
  | _=>some (sI k (nd2 10 (.int k 0) e) (kmin k) (kmax k))
theorem fit_sound {β:Ren} {A:List Value} (hA:Facts β A) {k:IntKind} {t:TI} {lo hi:Int} {v:Value} (h:t.ok β.length=true) (h0:lo≤t.den β) (h1:t.den β≤hi) (hf:fit A k t.enc lo hi=some v) :
    VR β v (.int k (k.wrap (t.den β))):=by
 unfold fit at hf
 split at hf
 ·rename_i hc
  cases hf
  rw [wrap_in (Int.le_trans hc.1 h0) (Int.le_trans h1 hc.2)]
  exact .symI k t lo hi h h0 h1
 split at hf
 ·rename_i hc
  cases hf
  have e1:=dec_sound hA 4 (.lt t (.lit (kmin k))) _ hc.1
  have e2:=dec_sound hA 4 (.lt (.lit (kmax k)) t) _ hc.2
  simp only [TB.den,TI.den] at e1 e2
  have e1:=of_decide_eq_false e1
  have e2:=of_decide_eq_false e2
  rw [wrap_in (by omega) (by omega)]
  exact .symI k t _ _ h (by split <;> omega) (by split <;> omega)
 ·have key : VR β (sI k (nd2 10 (.int k 0) t.enc) (kmin k) (kmax k)) (.int k (k.wrap (t.den β))) :=
    VR.symI k (.wrap k t) (kmin k) (kmax k) (by simpa [TI.ok] using h) (by simp only [TI.den]; exact (wrap_range k _).1) (by simp only [TI.den]; exact (wrap_range k _).2)
  split at hf
  ·cases hf
  ·cases hf; exact key
end
end Go.SM
