-- the statement of this claim: see YtoamgocecoiggaaDoorRw
import Derived.Test.YtoamgocecoiggaaDoorM12
set_option linter.unusedVariables false
set_option linter.unusedSimpArgs false
namespace Go.SM
noncomputable section
def cls (P:Program) (pu:FuncId→Bool) (o:Oper):Nat :=
 match o.op with
 | .move _ | .assign _ | .pick .. | .build .. | .nilCheck _ | .binOp .. | .unOp .. | .makeInterface .. | .makeFunc .. | .slice .. | .fieldAddr .. | .field .. | .indexAddr .. | .index .. | .extract ..=>0
 | .load ..=>1
 | .convert src dst _ =>
  match P.underlying src,P.underlying dst with
  | some (.slice _),some .string=>1
  | some _,some (.slice _)=>2
  | some _,some _=>0
  | _,_=>2
 | .call c =>
  match c.callee with
  | .builtin .len=>0
  | .builtin .cap=>0
  | .value (.func f)=>if pu f then 1 else 2
  | _=>2
 | _=>2
theorem qv_inv {H:AS} {x:Option Value} {r:ARes} (h:qv H x=some r):∃ v,x=some v∧r=.val v H:=by
 unfold qv at h
 simp only [Option.map_eq_some_iff] at h
 obtain ⟨v,h1,h2⟩:=h
 exact ⟨v,h1,h2.symm⟩
theorem qv_orO {H:AS} {a b:Option Value}:orO (qv H a) (qv H b)=qv H (orO a b):=by cases a <;> rfl
theorem quiet_any {P:Program} {A:List Value} {pu:FuncId→Bool} {ρ:Operand→Value} {H:AS} {o:Oper} {r:ARes} (hc:cls P pu o=0) (h:aop P A ρ H o=some r):∃ v,r=.val v H∧∀ H2,aop P A ρ H2 o=some (.val v H2):=by
 obtain ⟨dst,op,type,pos,after,guard⟩:=o
 have q:∀ {x:Option Value} {f:AS→Option ARes},(∀ H2,f H2=qv H2 x)→f H=some r→∃ v,r=.val v H∧∀ H2,f H2=some (.val v H2):=by
  intro x f hf h
  rw [hf] at h
  obtain ⟨v,h1,h2⟩:=qv_inv h
  exact ⟨v,h2,fun H2=>by rw [hf,h1]; rfl⟩
 cases op <;> simp only [cls] at hc <;> try (cases hc; done)
 case move x=>simp only [aop] at h ⊢; cases h; exact ⟨_,rfl,fun _=>rfl⟩
 case assign x=>simp only [aop] at h ⊢; cases h; exact ⟨_,rfl,fun _=>rfl⟩
 case pick c a b =>
  simp only [aop] at h ⊢
  cases hρ:ρ c <;> simp only [hρ] at h ⊢ <;> first | (cases h; done) | (cases h; exact ⟨_,rfl,fun _=>rfl⟩)
 case build t ps=>exact q (f:=fun H=>aop P A ρ H _) (fun _=>rfl) h
 case nilCheck x=>exact q (f:=fun H=>aop P A ρ H _) (fun _=>rfl) h
 case binOp=>exact q (f:=fun H=>aop P A ρ H _) (fun _=>rfl) h
 case unOp=>exact q (f:=fun H=>aop P A ρ H _) (fun _=>rfl) h
 case makeInterface=>exact q (f:=fun H=>aop P A ρ H _) (fun _=>rfl) h
 case makeFunc =>
  simp only [aop] at h ⊢
  split at h
  ·rename_i hy; cases h; exact ⟨_,rfl,fun _=>by rw [if_pos hy]⟩
  ·cases h
 case slice t x lo hi mx =>
  simp only [aop] at h ⊢
  cases hx:ρ x <;> simp only [hx] at h ⊢ <;> first
   | (exact q (f:=fun H=>qv H _) (fun _=>rfl) h)
   | (split at h
      ·rename_i hg; obtain ⟨v,h1,h2⟩:=qv_inv h; exact ⟨v,h2,fun H2=>by rw [if_pos hg,h1]; rfl⟩
      ·cases h)
 case fieldAddr=>exact q (f:=fun H=>aop P A ρ H _) (fun _=>rfl) h
 case field=>exact q (f:=fun H=>aop P A ρ H _) (fun _=>rfl) h
 case indexAddr=>exact q (f:=fun H=>aop P A ρ H _) (fun _=>rfl) h
 case index t x ix =>
  simp only [aop] at h ⊢
  cases hx:ρ x <;> simp only [hx] at h ⊢ <;> first
   | (exact q (f:=fun H=>qv H _) (fun _=>rfl) h)
   | (split at h
      ·rename_i hg; obtain ⟨v,h1,h2⟩:=qv_inv h; exact ⟨v,h2,fun H2=>by rw [if_pos hg,h1]; rfl⟩
      ·rename_i hg; obtain ⟨v,h1,h2⟩:=qv_inv h; exact ⟨v,h2,fun H2=>by rw [if_neg hg,h1]; rfl⟩)
 case extract=>exact q (f:=fun H=>aop P A ρ H _) (fun _=>rfl) h
 case convert src dst x =>
  have key:∀ H2,aconv P A H2 src dst (ρ x)=qv H2 (orO (aconvq P src dst (ρ x)) (aconvI P A src dst (ρ x))):=by
   intro H2
   split at hc <;> try (cases hc; done)
   rename_i a b hnb hna hs hd
   rw [← qv_orO]
   unfold aconv
   congr 1
   ·unfold aconv0
    rw [hs,hd]
    split
    ·rename_i h1 h2 _
     cases h2
     first | exact (hnb _ rfl).elim | exact (hna _ rfl).elim
    ·rename_i h1 h2 _
     cases h1; cases h2
     first | exact (hnb _ rfl rfl).elim | exact (hna _ rfl rfl).elim
    ·rename_i h1 h2 _
     cases h2
     first | exact (hnb _ rfl).elim | exact (hna _ rfl).elim
    ·rfl
   ·unfold aconvS
    rw [hs,hd]
    split
    ·rename_i h1 h2
     cases h1; cases h2
     first | exact (hnb _ rfl rfl).elim | exact (hna _ rfl rfl).elim
    ·rename_i h1 h2
     cases h2
     first | exact (hnb _ rfl).elim | exact (hna _ rfl).elim
    ·rfl
  simp only [aop,key] at h ⊢
  obtain ⟨v,h1,h2⟩:=qv_inv h
  exact ⟨v,h2,fun H2=>by rw [h1]; rfl⟩
 case call c =>
  simp only [aop] at h ⊢
  have one:∀ (g:List Value→Option Value) (l:List Value) (f:AS→List Value→Option ARes),(∀ H2 x,f H2 [x]=qv H2 (g [x]))→(∀ H2 l,(∀ x,l≠[x])→f H2 l=none)→f H l=some r→∃ v,r=.val v H∧∀ H2,f H2 l=some (.val v H2):=by
   intro g l f h1 h2 h3
   by_cases hl:∃ x,l=[x]
   ·obtain ⟨x,rfl⟩:=hl
    rw [h1] at h3
    obtain ⟨v,a1,a2⟩:=qv_inv h3
    exact ⟨v,a2,fun H2=>by rw [h1,a1]; rfl⟩
   ·rw [h2 H l (fun x hx=>hl ⟨x,hx⟩)] at h3; cases h3
  cases hcal:c.callee with
  | value f =>
   simp only [hcal] at hc
   cases f <;> simp only at hc <;> first | (cases hc; done) | (split at hc <;> cases hc)
  | invoke=>simp only [hcal] at hc; cases hc
  | builtin b =>
   simp only [hcal] at h hc ⊢
   cases b <;> simp only at hc <;> try (cases hc; done)
   ·refine one (fun l=>orO (acap P c.argTypes (l.getD 0 undef)) (acapS P c.argTypes (l.getD 0 undef))) _ (fun H l=>abuiltin P A H .cap c.argTypes l) (fun H2 x=>rfl) ?_ h
    intro H2 l hl
    unfold abuiltin
    split <;> simp_all
   ·refine one (fun l=>orO (alen P c.argTypes (l.getD 0 undef)) (alenS P c.argTypes (l.getD 0 undef))) _ (fun H l=>abuiltin P A H .len c.argTypes l) (fun H2 x=>rfl) ?_ h
    intro H2 l hl
    unfold abuiltin
    split <;> simp_all
theorem aconv_read {P:Program} {A:List Value} {H:AS} {src dst e:TypeId} {x:Value} {r:ARes} (hs:P.underlying src=some (.slice e)) (hd:P.underlying dst=some .string) (h:aconv P A H src dst x=some r):∃ v,r=.val v H:=by
 unfold aconv at h
 rcases orO_inv h with h' | h'
 ·unfold aconv0 at h'
  rw [hs,hd] at h'
  replace h:=h'
  clear h'
  split at h
  ·rename_i h2
   cases h2
  ·split at h
   ·obtain ⟨v2,_,h2⟩:=qv_inv h; exact ⟨v2,h2⟩
   ·cases h
  ·rename_i _ h2
   cases h2
  ·obtain ⟨v2,_,h2⟩:=qv_inv h; exact ⟨v2,h2⟩
 ·unfold aconvS at h'
  rw [hs,hd] at h'
  replace h:=h'
  clear h'
  simp only at h
  split at h
  ·obtain ⟨v2,_,h2⟩:=qv_inv h; exact ⟨v2,h2⟩
  ·cases h
def clsF (P:Program) (pu:FuncId→Bool) (ops:Array Oper) (o:Oper):Nat:=match forget ops o with
 | true=>0
 | false=>cls P pu o
theorem reader_form {P:Program} {A:List Value} {pu:FuncId→Bool} {G:Gl} {n:Nat} {o:Oper} {F:Tr Value} {H:AS} {r:ARes} (hc:cls P pu o≤1) (hop:aop P A (aev G n F) H o=some r) :
    (∃ v,r=.val v H)∨∃ f args,r=.call f args∧pu f=true:=by
 rcases Nat.lt_or_ge (cls P pu o) 1 with hlt | hge
 ·obtain ⟨v2,h2,_⟩:=quiet_any (pu:=pu) (by omega) hop
  exact .inl ⟨v2,h2⟩
 have hc1:cls P pu o=1:=by omega
 obtain ⟨dst,op,type,pos,after,guard⟩:=o
 cases op <;> simp only [cls] at hc1 <;> try (cases hc1; done)
 case load t a =>
  simp only [aop] at hop
  obtain ⟨v2,_,h2⟩:=qv_inv hop
  exact .inl ⟨v2,h2⟩
 case convert src dst x =>
  split at hc1 <;> try (cases hc1; done)
  rename_i hs hd
  exact .inl (aconv_read hs hd hop)
 case call c =>
  simp only [aop] at hop
  cases hcal:c.callee with
  | invoke=>simp only [hcal] at hc1; cases hc1
  | builtin b=>simp only [hcal] at hc1; cases b <;> simp only at hc1 <;> cases hc1
  | value fo =>
   simp only [hcal] at hc1 hop
   cases fo <;> simp only at hc1 <;> try (cases hc1; done)
   case func g =>
    split at hc1
    ·rename_i hpu
     simp only [aev,acallee] at hop
     split at hop
     ·split at hop
      ·cases hop; exact .inr ⟨_,_,rfl,hpu⟩
      ·cases hop
     ·cases hop
    ·cases hc1
theorem reader_same {P:Program} {pu:FuncId→Bool} {G:Gl} {call:ACall} {ops:Array Oper} {n:Nat} {o:Oper} {F:Tr Value} {H H':AS} {v:Value}
    (hp:∀ A f args H v H',pu f=true→call A f args H=some (v,H')→H'=H) (hc:clsF P pu ops o≤1) (h:astep P G call ops n o F H=some (v,H')):H'=H:=by
 unfold astep at h
 split at h
 ·cases h
 ·cases h; rfl
 ·unfold aval at h
  unfold clsF at hc
  split at h
  ·split at h
   ·cases h; rfl
   ·cases h
  split at h
  ·split at h
   rotate_left
   ·cases h
   split at h
   ·split at h
    ·cases h; rfl
    ·cases h
   ·cases h
  rename_i hf
  rw [hf] at hc
  split at h
  ·rename_i v' H2 hop
   cases h
   rcases reader_form hc hop with ⟨v2,h2⟩ | ⟨f,args,h2,_⟩
   ·cases h2; rfl
   ·cases h2
  ·rename_i f args hop
   rcases reader_form hc hop with ⟨v2,h2⟩ | ⟨f,args,h2,hpu⟩
   ·cases h2
   ·cases h2; exact hp _ _ _ _ _ _ hpu h
  ·cases h
 ·split at h
  ·cases h; rfl
  ·cases h
theorem quiet_step {P:Program} {pu:FuncId→Bool} {G:Gl} {call:ACall} {ops:Array Oper} {n:Nat} {o:Oper} {F:Tr Value} {H H':AS} {v:Value}
    (hc:clsF P pu ops o=0) (h:astep P G call ops n o F H=some (v,H')) (H2:AS):astep P G call ops n o F H2=some (v,H2):=by
 unfold astep at h ⊢
 split at h
 ·cases h
 ·cases h; rfl
 ·unfold aval at h ⊢
  unfold clsF at hc
  split at h
  ·split at h
   ·cases h; rfl
   ·cases h
  split at h
  ·split at h
   rotate_left
   ·cases h
   rename_i hg
   split at h
   rotate_left
   ·cases h
   rename_i v' H3 hop
   split at h
   rotate_left
   ·cases h
   rename_i hone
   cases h
   rw [if_pos hg]
   simp only [if_pos hone]
  rename_i hf
  rw [hf] at hc
  split at h
  ·rename_i v' H3 hop
   cases h
   obtain ⟨v2,h2,h3⟩:=quiet_any hc hop
   cases h2
   simp only [h3 H2]
  ·rename_i f args hop
   obtain ⟨v2,h2,_⟩:=quiet_any hc hop
   cases h2
  ·cases h
 ·rename_i c hw
  split at h
  rotate_left
  ·cases h
  rename_i v' hv
  cases h
  suffices hs:agrd P G call n o F H2 c=some v by simp only [hs]
  unfold agrd at hv ⊢
  have key:∀ {G:Gl} {v0:Value},agrd0 P G call n o F H=some v0→agrd0 P G call n o F H2=some v0:=by
   intro G v0 hv0
   unfold agrd0 at hv0 ⊢
   split at hv0
   ·exact hv0
   ·have hcls : cls P pu o = 0 := by
      unfold clsF at hc
      split at hc
      ·rename_i hfg
       exfalso
       unfold forget at hfg
       rw [Bool.and_eq_true] at hfg
       have hmk:=hfg.1
       unfold isMk at hmk
       split at hmk
       ·rename_i hop
        split at hv0
        ·split at hv0
         ·rename_i hrd; unfold rdOp at hrd; rw [hop] at hrd; cases hrd
         ·cases hv0
        ·rename_i hop2
         unfold aop at hop2; rw [hop] at hop2
         simp only [mv,Option.map_eq_some_iff] at hop2
         obtain ⟨_,_,e⟩:=hop2; cases e
        ·cases hv0
       ·cases hmk
      ·exact hc
    split at hv0
    ·rename_i v1 H1 hop
     obtain ⟨v2,h2,h3⟩:=quiet_any hcls hop
     cases h2
     simp only [h3 H2]
     exact hv0
    ·rename_i f args hop
     obtain ⟨v2,h2,_⟩:=quiet_any hcls hop
     cases h2
    ·cases hv0
  split at hv
  ·cases hv
  ·rename_i v0 hv0
   rw [key hv0]
   exact hv
end
end Go.SM
namespace Go.SM
noncomputable section
def bpreds (o:Oper):List Nat:=(o.after.toList.filter (Region.binds .any)).map (·.on)
def masks:List Oper→List Nat→List Nat
 | [],acc=>acc
 | o::rest,acc=>masks rest (acc++[(bpreds o).foldl (fun m k=>m ||| (acc.getD k 0 ||| 2 ^ k)) 0])
theorem fold_bits (f:Nat→Nat) (i:Nat):∀ (l:List Nat) (m:Nat),(l.foldl (fun m k=>m ||| f k) m).testBit i=true→m.testBit i=true∨∃ e ∈ l,(f e).testBit i=true
 | [],m,h=>.inl h
 | k::l,m,h=>by
  rw [List.foldl_cons] at h
  rcases fold_bits f i l _ h with h | ⟨e,he,h⟩
  ·rw [Nat.testBit_or,Bool.or_eq_true] at h
   rcases h with h | h
   ·exact .inl h
   ·exact .inr ⟨k,by simp,h⟩
  ·exact .inr ⟨e,by simp [he],h⟩
theorem masks_spec:∀ (l:List Oper) (acc:List Nat),(∀ k,k < acc.length→(masks l acc).getD k 0=acc.getD k 0) ∧
    (∀ (j:Nat) (o:Oper),l[j]?=some o→∀ i,((masks l acc).getD (acc.length + j) 0).testBit i=true→∃ e ∈ bpreds o,i=e∨((masks l acc).getD e 0).testBit i=true)
 | [],acc=>⟨fun _ _=>rfl,fun j o h=>by simp at h⟩
 | o::rest,acc=>by
  obtain ⟨h1,h2⟩:=masks_spec rest (acc++[(bpreds o).foldl (fun m k=>m ||| (acc.getD k 0 ||| 2 ^ k)) 0])
  have g1:∀ k,k < acc.length→(masks (o::rest) acc).getD k 0=acc.getD k 0:=by
   intro k hk
   show (masks rest _).getD k 0=_
   rw [h1 k (by simp; omega)]
   simp only [List.getD_eq_getElem?_getD]
   rw [List.getElem?_append_left hk]
  refine ⟨g1,?_⟩
  intro j oj hj i hb
  cases j with
  | zero =>
   simp only [List.getElem?_cons_zero,Option.some.injEq] at hj
   subst hj
   rw [Nat.add_zero] at hb
   change ((masks rest _).getD acc.length 0).testBit i=true at hb
   rw [h1 _ (by simp)] at hb
   simp only [List.getD_eq_getElem?_getD,List.getElem?_append_right (Nat.le_refl _),Nat.sub_self,List.getElem?_cons_zero,Option.getD_some] at hb
   rcases fold_bits _ i _ _ hb with h | ⟨e,he,h⟩
   ·simp at h
   ·rw [Nat.testBit_or,Bool.or_eq_true] at h
    rcases h with h | h
    ·refine ⟨e,he,.inr ?_⟩
     rcases Nat.lt_or_ge e acc.length with hlt | hge
     ·rw [g1 e hlt,List.getD_eq_getElem?_getD]; exact h
     ·rw [List.getElem?_eq_none hge] at h; simp at h
    ·refine ⟨e,he,.inl ?_⟩
     rw [Nat.testBit_two_pow] at h
     simpa using (of_decide_eq_true h).symm
  | succ j =>
   have:=h2 j oj (by simpa using hj) i
   simp only [List.length_append,List.length_cons,List.length_nil] at this
   rw [show acc.length + (0 + 1) + j=acc.length + (j + 1) from by omega] at this
   exact this hb
def conf (P:Program) (pu:FuncId→Bool) (ops:Array Oper) (oi oj:Oper):Bool :=
 !(oi.apart ops oj) || (decide (clsF P pu ops oi=2) && decide (1≤clsF P pu ops oj)) || (decide (1≤clsF P pu ops oi) && decide (clsF P pu ops oj=2))
def drawOk (P:Program) (pu:FuncId→Bool) (ops:Array Oper):Bool :=
 (List.range ops.size).all fun j =>
  match ops[j]? with
  | none=>true
  | some oj=>(bpreds oj).all (fun e=>decide (e < j)) && (List.range j).all fun i =>
      match ops[i]? with
      | none=>true
      | some oi=>!(conf P pu ops oi oj) || ((masks ops.toList []).getD j 0).testBit i
theorem lt_of_get {ops:Array Oper} {j:Nat} {o:Oper} (h:ops[j]?=some o):j < ops.size:=by
 rcases Nat.lt_or_ge j ops.size with hl | hl
 ·exact hl
 ·rw [Array.getElem?_eq_none hl] at h; cases h
theorem drawOk_spec {P:Program} {pu:FuncId→Bool} {ops:Array Oper} (h:drawOk P pu ops=true) :
    (∀ (j:Nat) (oj:Oper),ops[j]?=some oj→∀ e ∈ bpreds oj,e < j) ∧
    (∀ (i j:Nat) (oi oj:Oper),i < j→ops[i]?=some oi→ops[j]?=some oj→conf P pu ops oi oj=true→((masks ops.toList []).getD j 0).testBit i=true):=by
 unfold drawOk at h
 rw [List.all_eq_true] at h
 refine ⟨fun j oj hj e he=>?_,fun i j oi oj hij hi hj hc=>?_⟩
 ·have:=h j (List.mem_range.2 (lt_of_get hj))
  simp only [hj,Bool.and_eq_true,List.all_eq_true] at this
  exact of_decide_eq_true (this.1 e he)
 ·have:=h j (List.mem_range.2 (lt_of_get hj))
  simp only [hj,Bool.and_eq_true,List.all_eq_true] at this
  have:=this.2 i (List.mem_range.2 hij)
  simp only [hi,hc,Bool.not_true,Bool.false_or] at this
  exact this
def Closed (ops:Array Oper) (S:Nat→Bool):Prop:=∀ (j:Nat) (oj:Oper),ops[j]?=some oj→S j=true→∀ e ∈ bpreds oj,S e=true
theorem anc_in {ops:Array Oper} {S:Nat→Bool} (hlt:∀ (j:Nat) (oj:Oper),ops[j]?=some oj→∀ e ∈ bpreds oj,e < j) (hc:Closed ops S) (i:Nat):∀ (j:Nat) (oj:Oper),ops[j]?=some oj→(∀ e ∈ bpreds oj,S e=true) →
    ((masks ops.toList []).getD j 0).testBit i=true→S i=true:=by
 intro j
 induction j using Nat.strongRecOn with
 | ind j ih =>
  intro oj hj hp hb
  have hspec:=(masks_spec ops.toList []).2 j oj (by rw [Array.getElem?_toList]; exact hj) i
  simp only [List.length_nil,Nat.zero_add] at hspec
  obtain ⟨e,he,h⟩:=hspec hb
  rcases h with rfl | h
  ·exact hp _ he
  ·have hej:=hlt j oj hj e he
   have hes:e < ops.size:=by have:=lt_of_get hj; omega
   have hoe:ops[e]?=some ops[e]:=Array.getElem?_eq_getElem hes
   exact ih e hej ops[e] hoe (hc e ops[e] hoe (hp e he)) h
theorem arun_trace {P:Program} {G:Gl} {call:ACall} {ops:Array Oper} {n:Nat} {R:Tr Value} {HE:AS}:∀ (l:List Oper) (F:Tr Value) (H:AS),arun P G call ops n l F H=some (R,HE) →
    ∃ (Fs:Nat→Tr Value) (Hs:Nat→AS) (vs:Nat→Value),Fs 0=F∧Hs 0=H∧Fs l.length=R∧Hs l.length=HE ∧
     ∀ (i:Nat) (o:Oper),l[i]?=some o→astep P G call ops n o (Fs i) (Hs i)=some (vs i,Hs (i + 1))∧aput n (Fs i) o.dst (vs i)=some (Fs (i + 1))
 | [],F,H,h=>by
  simp only [arun,Option.some.injEq,Prod.mk.injEq] at h
  obtain ⟨rfl,rfl⟩:=h
  exact ⟨fun _=>F,fun _=>H,fun _=>undef,rfl,rfl,rfl,rfl,fun i o h=>by simp at h⟩
 | o::rest,F,H,h=>by
  simp only [arun] at h
  split at h
  ·cases h
  ·rename_i v H' hst
   split at h
   ·cases h
   ·rename_i F' hp
    obtain ⟨Fs,Hs,vs,h1,h2,h3,h4,h5⟩:=arun_trace rest F' H' h
    refine ⟨fun i=>if i=0 then F else Fs (i - 1),fun i=>if i=0 then H else Hs (i - 1),fun i=>if i=0 then v else vs (i - 1),rfl,rfl,by simp [h3],by simp [h4],?_⟩
    intro i oi hi
    cases i with
    | zero =>
     simp only [List.getElem?_cons_zero,Option.some.injEq] at hi
     subst hi
     simp only [if_true,Nat.zero_add,Nat.one_ne_zero,if_false,Nat.sub_self,h1,h2]
     exact ⟨hst,hp⟩
    | succ i =>
     have:=h5 i oi (by simpa using hi)
     simp only [Nat.add_one_ne_zero,if_false,Nat.add_sub_cancel]
     exact this
def cont (ops:Array Oper) (vs:Nat→Value) (S:Nat→Bool) (t:Nat):Nat→Option Value
 | 0=>none
 | k + 1=>if S k=true∧(ops[k]?).bind (·.dst)=some t then some (vs k) else cont ops vs S t k
def isW (P:Program) (pu:FuncId→Bool) (ops:Array Oper) (k:Nat):Bool :=
 match ops[k]? with
 | some o=>decide (clsF P pu ops o=2)
 | none=>false
def hcont (P:Program) (pu:FuncId→Bool) (ops:Array Oper) (Hs:Nat→AS) (S:Nat→Bool):Nat→AS
 | 0=>Hs 0
 | k + 1=>if S k=true∧isW P pu ops k=true then Hs (k + 1) else hcont P pu ops Hs S k
section
variable {P:Program} {pu:FuncId→Bool} {ops:Array Oper} {vs:Nat→Value} {Hs:Nat→AS} {S S':Nat→Bool} {t:Nat}
theorem cont_congr:∀ (m:Nat),(∀ k,k < m→(ops[k]?).bind (·.dst)=some t→S k=S' k)→cont ops vs S t m=cont ops vs S' t m
 | 0,_=>rfl
 | m + 1,h=>by
  simp only [cont]
  rw [cont_congr m fun k hk hd=>h k (by omega) hd]
  by_cases hd:(ops[m]?).bind (·.dst)=some t
  ·rw [h m (by omega) hd]
  ·simp [hd]
theorem cont_cut {i:Nat}:∀ (m:Nat),i≤m→(∀ k,i≤k→k < m→(ops[k]?).bind (·.dst)=some t→S k=false)→cont ops vs S t m=cont ops vs S t i
 | 0, h, _ => by obtain rfl : i = 0 := by omega
                 rfl
 | m + 1,h,hk=>by
  by_cases him:i=m + 1
  ·rw [him]
  ·simp only [cont]
   rw [if_neg (fun hc=>by rw [hk m (by omega) (by omega) hc.2] at hc; cases hc.1)]
   exact cont_cut m (by omega) fun k h1 h2 h3=>hk k h1 (by omega) h3
theorem hcont_congr:∀ (m:Nat),(∀ k,k < m→isW P pu ops k=true→S k=S' k)→hcont P pu ops Hs S m=hcont P pu ops Hs S' m
 | 0,_=>rfl
 | m + 1,h=>by
  simp only [hcont]
  rw [hcont_congr m fun k hk hd=>h k (by omega) hd]
  by_cases hd:isW P pu ops m=true
  ·rw [h m (by omega) hd]
  ·simp [hd]
theorem hcont_cut {i:Nat}:∀ (m:Nat),i≤m→(∀ k,i≤k→k < m→isW P pu ops k=true→S k=false)→hcont P pu ops Hs S m=hcont P pu ops Hs S i
 | 0, h, _ => by obtain rfl : i = 0 := by omega
                 rfl
 | m + 1,h,hk=>by
  by_cases him:i=m + 1
  ·rw [him]
  ·simp only [hcont]
   rw [if_neg (fun hc=>by rw [hk m (by omega) (by omega) hc.2] at hc; cases hc.1)]
   exact hcont_cut m (by omega) fun k h1 h2 h3=>hk k h1 (by omega) h3
end
def cnt (S:Nat→Bool):Nat→Nat
 | 0=>0
 | k + 1=>(if S k then 0 else 1) + cnt S k
theorem cnt_set {S S':Nat→Bool} {i:Nat} (hi:S i=false) (hi':S' i=true) (h:∀ k,k≠i→S' k=S k):∀ (m:Nat),(m≤i→cnt S' m=cnt S m)∧(i < m→cnt S' m + 1=cnt S m)
 | 0=>⟨fun _=>rfl,fun h=>by omega⟩
 | m + 1=>by
  obtain ⟨h1,h2⟩:=cnt_set hi hi' h m
  refine ⟨fun hm=>?_,fun hm=>?_⟩
  ·simp only [cnt]; rw [h1 (by omega),h m (by omega)]
  ·simp only [cnt]
   by_cases hmi:m=i
   ·subst hmi; rw [h1 (Nat.le_refl _),hi,hi']; simp; omega
   ·have:=h2 (by omega); rw [h m hmi]; omega
theorem cnt_zero {S:Nat→Bool}:∀ (m:Nat),cnt S m=0→∀ k,k < m→S k=true
 | m + 1,h,k,hk=>by
  simp only [cnt] at h
  by_cases hkm:k=m
  ·subst hkm
   cases hs:S k with
   | true=>rfl
   | false=>rw [hs] at h; simp at h
  ·exact cnt_zero m (by omega) k (by omega)
end
end Go.SM
