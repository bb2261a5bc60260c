-- the statement of this claim: see YtoamgocecoiggaaDoorRw
import Derived.Test.YtoamgocecoiggaaDoorM17
set_option linter.unusedVariables false
set_option linter.unusedSimpArgs false
namespace Go.SM
noncomputable section
def frm:List (Nat × Value)→Tr Value
 | []=>.e
 | (t,v)::l=>(frm l).set DF t v
theorem frm_get {n:Nat} (hn:n≤2 ^ 12):∀ (l:List (Nat × Value)) (t:Nat),t < n→(∀ p ∈ l,p.1 < n)→(frm l).get DF t=(l.find? fun p=>Nat.beq p.1 t).map (·.2)
 | [],t,_,_=>rfl
 | (s,v)::l,t,ht,h=>by
  have hs:s < n:=h (s,v) (List.mem_cons_self ..)
  unfold frm
  by_cases hst:s=t
  ·subst hst
   rw [Tr.get_set,List.find?_cons]
   simp
  ·rw [Tr.get_set_ne v s t DF _ (bits_ne 12 s t (by omega) (by omega) hst),frm_get hn l t ht (fun p hp=>h p (List.mem_cons_of_mem _ hp)),List.find?_cons]
   have:Nat.beq s t=false:=by cases h:Nat.beq s t with
    | true=>exact absurd (Nat.eq_of_beq_eq_true h) hst
    | false=>rfl
   simp [this]
structure Tpl where
 m:Nat
 F:List (Nat × Value)
 H:List (Nat × Blk)
 G:List Nat:=[]
def sg0:List Nat→Sg
 | []=>[]
 | i::l=>(i,.blk i)::sg0 l
theorem sg0_valid {β:Ren}:∀ {l:List Nat},(∀ i ∈ l,i < β.length)→(sg0 l).Valid β
 | [],_=>fun i b hb=>by cases hb
 | j::l,h=>fun i b hb=>by
  rcases Sg.get_cons hb with ⟨rfl,rfl⟩ | hb
  ·have hj:=h i (by simp)
   exact ⟨β[i],β[i],List.getElem?_eq_getElem hj,rfl⟩
  ·exact sg0_valid (fun k hk=>h k (by simp [hk])) i b hb
def heapOf (m:Nat):List (Nat × Blk)→AS
 | []=>{ heap:=.e,size:=m }
 | (i,b)::l=>{ heap:=(heapOf m l).heap.set D i b,size:=m }
theorem heapOf_size (m:Nat) (l:List (Nat × Blk)):(heapOf m l).size=m:=by cases l <;> rfl
theorem heapOf_get {m:Nat} (hm:m≤2 ^ 20):∀ (l:List (Nat × Blk)) (B:Nat) (b:Blk),(∀ p ∈ l,p.1 < m)→(heapOf m l).get B=some b→(B,b) ∈ l
 | [],B,b,_,h=>by
  unfold AS.get heapOf at h
  split at h
  ·rw [Tr.get_e] at h; cases h
  ·cases h
 | (i,c)::l,B,b,hl,h=>by
  have hi:i < m:=hl (i,c) (List.mem_cons_self ..)
  unfold AS.get at h
  rw [heapOf_size] at h
  split at h
  ·rename_i hB
   simp only [heapOf] at h
   by_cases hiB:i=B
   ·subst hiB
    rw [Tr.get_set] at h; cases h
    exact List.mem_cons_self ..
   ·rw [Tr.get_set_ne c i B D _ (bits_ne 20 i B (by omega) (by omega) hiB)] at h
    refine List.mem_cons_of_mem _ (heapOf_get hm l B b (fun p hp=>hl p (List.mem_cons_of_mem _ hp)) ?_)
    unfold AS.get
    rw [heapOf_size,if_pos hB]; exact h
  ·cases h
def mSlots (m n:Nat) (A:List Value) (F:Tr Value):List (Nat × Value)→Sg→Option Sg
 | [],σ=>some σ
 | (t,p)::l,σ =>
  if Nat.blt t n then
   match mV m A 6 σ p (ung A (aslot n F t)) with
   | some σ=>mSlots m n A F l σ
   | none=>none
  else none
theorem mSlots_sound {β:Ren} {m n:Nat} {A:List Value} {F:Tr Value} {a:Act} (hA:Facts β A) (hF:FS β n F a):∀ {l:List (Nat × Value)} {σ σ':Sg},mSlots m n A F l σ=some σ'→σ.Valid β →
    σ.le σ'∧σ'.Valid β∧∀ σ2 β1,σ'.le σ2→Inst β σ2 m β1→∀ t p u,(t,p) ∈ l→a.tmps[t]?=some u→t < n∧VR β1 p u
 | [],σ,σ',h,hv=>by cases h; exact ⟨Sg.le.refl _,hv,fun _ _ _ _ t p u hm=>by cases hm⟩
 | (t,p)::l,σ,σ',h,hv=>by
  simp only [mSlots] at h
  split at h
  rotate_left
  ·cases h
  rename_i ht
  have ht:t < n:=Nat.le_of_ble_eq_true ht
  split at h
  rotate_left
  ·cases h
  rename_i σ1 h1
  have hlt:t < a.tmps.size:=by rw [hF.size]; exact ht
  have hu:=(hF.slot t a.tmps[t] (Array.getElem?_eq_getElem hlt)).ung hA
  obtain ⟨a1,a2,a3⟩:=mV_sound hA 6 h1 hv hu
  obtain ⟨b1,b2,b3⟩:=mSlots_sound hA hF h a2
  refine ⟨a1.trans b1,b2,fun σ2 β1 hle hI t' p' u' hm hu'=>?_⟩
  rcases List.mem_cons.1 hm with e | hm
  ·cases e
   rw [Array.getElem?_eq_getElem hlt] at hu'
   cases hu'
   exact ⟨ht,a3 σ2 β1 (b1.trans hle) hI⟩
  ·exact b3 σ2 β1 hle hI t' p' u' hm hu'
def mVs (m:Nat) (A:List Value):List Value→List Value→Sg→Option Sg
 | [],[],σ=>some σ
 | p::ps,v::vs,σ =>
  match mV m A 6 σ p v with
  | some σ=>mVs m A ps vs σ
  | none=>none
 | _,_,_=>none
theorem mVs_sound {β:Ren} {m:Nat} {A:List Value} (hA:Facts β A):∀ {ps vs us:List Value} {σ σ':Sg},mVs m A ps vs σ=some σ'→σ.Valid β→VRs β vs us →
    σ.le σ'∧σ'.Valid β∧∀ σ2 β1,σ'.le σ2→Inst β σ2 m β1→VRs β1 ps us
 | [],[],us,σ,σ',h,hv,hr=>by
  cases h
  have:us=[]:=List.eq_nil_of_length_eq_zero hr.1
  subst this
  exact ⟨Sg.le.refl _,hv,fun _ _ _ _=>VRs.nil _⟩
 | p::ps,v::vs,us,σ,σ',h,hv,hr=>by
  simp only [mVs] at h
  split at h
  rotate_left
  ·cases h
  rename_i σ1 h1
  obtain ⟨u,us',rfl,q1,q2⟩:=hr.cons_inv
  obtain ⟨a1,a2,a3⟩:=mV_sound hA 6 h1 hv q1
  obtain ⟨b1,b2,b3⟩:=mVs_sound hA h a2 q2
  exact ⟨a1.trans b1,b2,fun σ2 β1 hle hI=>VRs.cons (a3 σ2 β1 (b1.trans hle) hI) (b3 σ2 β1 hle hI)⟩
 | [],_::_,_,_,_,h,_,_=>by simp [mVs] at h
 | _::_,[],_,_,_,h,_,_=>by simp [mVs] at h
def isU8:Value→Bool
 | .int .u8 n=>decide (0≤n) && decide (n≤255)
 | _=>false
def toU8:Value→UInt8
 | .int _ n=>UInt8.ofNat n.toNat
 | _=>0
def litB (vs:List Value):Option Value:=if Nat.ble 64 vs.length && vs.all isU8 then some (.string ⟨(vs.map toU8).toArray⟩) else none
theorem litB_sound {β:Ren} {vs us:List Value} {e:Value} (h:VRs β vs us) (hl:litB vs=some e):∃ t:TL,e=t.enc∧t.ok β.length=true∧us=bv (t.den β)∧(t.den β).length=vs.length:=by
 unfold litB at hl
 split at hl
 rotate_left
 ·cases hl
 rename_i hc
 rw [Bool.and_eq_true] at hc
 cases hl
 refine ⟨.lit (vs.map toU8),by simp [TL.enc],rfl,?_,by simp [TL.den]⟩
 apply List.ext_getElem?
 intro i
 simp only [TL.den,bv,List.getElem?_map]
 rcases Nat.lt_or_ge i vs.length with hi | hi
 ·have hu:i < us.length:=by rw [h.1]; exact hi
  have hv:=h.2 i _ _ (List.getElem?_eq_getElem hi) (List.getElem?_eq_getElem hu)
  have hb:=List.all_eq_true.1 hc.2 vs[i] (List.getElem_mem hi)
  rw [List.getElem?_eq_getElem hi,List.getElem?_eq_getElem hu]
  simp only [Option.map_some,Option.some.injEq]
  unfold isU8 at hb
  split at hb
  ·rename_i n hn
   rw [Bool.and_eq_true,decide_eq_true_eq,decide_eq_true_eq] at hb
   rw [hn] at hv ⊢
   rw [hv.eq_of_ground rfl]
   simp only [toU8,UInt8.toNat_ofNat',Value.int.injEq,true_and]
   rw [Nat.mod_eq_of_lt (by omega)]; omega
  ·cases hb
 ·rw [List.getElem?_eq_none hi,List.getElem?_eq_none (by rw [h.1]; exact hi)]; rfl
def onesB (vs:List Value):Option Value:=match litB vs with
 | some e=>some e
 | none=>onesT vs
theorem onesB_sound {β:Ren} {vs us:List Value} {e:Value} (h:VRs β vs us) (ho:onesB vs=some e):∃ t:TL,e=t.enc∧t.ok β.length=true∧us=bv (t.den β)∧(t.den β).length=vs.length:=by
 unfold onesB at ho
 split at ho
 ·rename_i e' he; cases ho; exact litB_sound h he
 ·exact onesT_sound h ho
def mBlk (m:Nat) (A:List Value) (H:AS) (σ:Sg) (i:Nat) (p:Blk):Option Sg :=
 match σ.get i with
 | some (.blk B) =>
  match H.get B with
  | none=>none
  | some b =>
   if b.live && p.live && Nat.blt i m && (p.ro || !b.ro) && Nat.beq p.elem b.elem then
    match p.seq with
    | none=>if b.seq.isNone then mVs m A p.cells b.cells σ else none
    | some (.map (some j)) =>
     if p.cells.isEmpty && Nat.blt j m then
      match b.sq with
      | some e=>bind1 σ j (.ltm e)
      | none=>if b.seq.isNone then (match onesB b.cells with
       | some e=>bind1 σ j (.ltm e)
       | none=>none) else none
     else none
    | some (.func (.yield 28) ⟨[.map (some j)]⟩ ⟨[]⟩) =>
     if p.cells.isEmpty && Nat.blt j m then
      match b.seq with
      | some (.func (.yield 28) ⟨[e]⟩ ⟨[]⟩)=>bind1 σ j (.ntm e)
      | some _=>none
      | none=>match onesN b.cells with
       | some e=>bind1 σ j (.ntm e)
       | none=>none
     else none
    | some _=>none
   else none
 | _=>none
theorem mBlk_sound {w0:W0} {β:Ren} {H:AS} {w:World} {m:Nat} {A:List Value} (hA:Facts β A) (h:HR w0 β H w) {σ σ':Sg} {i:Nat} {p:Blk} (hm:mBlk m A H σ i p=some σ') (hv:σ.Valid β) :
    σ.le σ'∧σ'.Valid β∧∃ B b,σ.get i=some (.blk B)∧H.get B=some b∧b.live=true∧(p.ro=false→b.ro=false)∧∀ σ2 β1,σ'.le σ2→Inst β σ2 m β1 →
     ∃ (c s:Nat) (C:Array Value) (fr:Nat × Nat),Go.SM.hm β1 i=some (c,s)∧HC w c C p fr∧(∀ h,β1[i]?=some h→h.top=C.size)∧p.cells.length + s≤C.size∧(p.ro=false→∀ i,i < C.size→¬ (fr.1≤i∧i < fr.2)) ∧
      (∀ i v,p.cells[i]?=some v→∃ u,C[i + s]?=some u∧VR β1 v u)∧((p.ro=false→¬ w0.keep c)∧SeqOk β1 p C s):=by
 unfold mBlk at hm
 split at hm
 rotate_left
 ·cases hm
 rename_i B hB
 split at hm
 ·cases hm
 rename_i b hg
 split at hm
 rotate_left
 ·cases hm
 rename_i hc
 simp only [Bool.and_eq_true,Bool.or_eq_true,Bool.not_eq_true'] at hc
 obtain ⟨⟨⟨⟨c1,c2⟩,c3⟩,c4⟩,c5⟩:=hc
 have him:i < m:=Nat.le_of_ble_eq_true c3
 have hel:=Nat.eq_of_beq_eq_true c5
 have hro:p.ro=false→b.ro=false:=fun e=>by rcases c4 with h1 | h1; rw [e] at h1; cases h1; exact h1
 obtain ⟨c,s,C,fr,hβ,⟨el,hw,hel2⟩,htop,hsz,hfr,hcl,hbase,hsq⟩:=h.blk B b hg c1
 have home:∀ {σ2:Sg} {β1:Ren},σ.le σ2→Inst β σ2 m β1→Go.SM.hm β1 i=some (c,s)∧∀ h,β1[i]?=some h→h.top=C.size:=by
  intro σ2 β1 hle hI
  have e:=hI.blk (hle _ _ hB) him
  refine ⟨?_,fun q hq=>htop q (by rw [← e]; exact hq)⟩
  unfold Go.SM.hm at hβ ⊢
  rw [e]; exact hβ
 have hHC:HC w c C p fr:=⟨el,hw,fun e=>by rw [hel2 (hro e),hel]⟩
 have pre:∀ (l:List Value),VRs β b.cells l→l=(C.toList.drop s).take b.cells.length→True:=fun _ _ _=>trivial
 have cellsOf:∃ us:List Value,VRs β b.cells us∧(∀ k u,us[k]?=some u→C[k + s]?=some u)∧us=(C.toList.drop s).take b.cells.length:=by
  refine ⟨(C.toList.drop s).take b.cells.length,⟨by rw [List.length_take,List.length_drop,Array.length_toList]; omega,fun k v u hv' hu'=>?_⟩,fun k u hk=>?_,rfl⟩
  ·have hk : k < b.cells.length := by
     rcases Nat.lt_or_ge k b.cells.length with hl | hl
     ·exact hl
     ·rw [List.getElem?_eq_none hl] at hv'; cases hv'
   rw [List.getElem?_take_of_lt hk,List.getElem?_drop,Array.getElem?_toList] at hu'
   obtain ⟨u2,hu2,hr⟩:=hcl k v hv'
   rw [Nat.add_comm k s,hu'] at hu2
   cases hu2
   exact hr
  ·have hk' : k < b.cells.length := by
     rcases Nat.lt_or_ge k ((C.toList.drop s).take b.cells.length).length with hl | hl
     ·rw [List.length_take] at hl; omega
     ·rw [List.getElem?_eq_none hl] at hk; cases hk
   rw [List.getElem?_take_of_lt hk',List.getElem?_drop,Array.getElem?_toList] at hk
   rw [Nat.add_comm]; exact hk
 obtain ⟨us,hus,hget,huse⟩:=cellsOf
 split at hm
 ·rename_i hps
  split at hm
  rotate_left
  ·cases hm
  obtain ⟨a1,a2,a3⟩:=mVs_sound hA hm hv hus
  refine ⟨a1,a2,B,b,hB,hg,c1,hro,fun σ2 β1 hle hI=>?_⟩
  obtain ⟨e1,e2⟩:=home (a1.trans hle) hI
  have hr:=a3 σ2 β1 hle hI
  refine ⟨c,s,C,fr,e1,hHC,e2,?_,fun e=>hfr (hro e),fun k v hk=>?_,fun e=>hbase (hro e),SeqOk.none hps⟩
  ·rw [← hr.1,hus.1]; exact hsz
  ·obtain ⟨u,hu,hvu⟩:=hr.get hk
   exact ⟨u,hget k u hu,hvu⟩
 ·rename_i j hps
  split at hm
  rotate_left
  ·cases hm
  rename_i hc2
  rw [Bool.and_eq_true] at hc2
  have hpc:p.cells=[]:=by simpa using hc2.1
  have hjm:j < m:=Nat.le_of_ble_eq_true hc2.2
  have fin:∀ {e:Value} {t:TL} {pr po:List Value},bind1 σ j (.ltm e)=some σ'→e=t.enc→t.ok β.length=true→pr.length=s→C.toList=pr++bv (t.den β)++po →
      σ.le σ'∧σ'.Valid β∧∃ B b,σ.get i=some (.blk B)∧H.get B=some b∧b.live=true∧(p.ro=false→b.ro=false)∧∀ σ2 β1,σ'.le σ2→Inst β σ2 m β1 →
       ∃ (c s:Nat) (C:Array Value) (fr:Nat × Nat),Go.SM.hm β1 i=some (c,s)∧HC w c C p fr∧(∀ h,β1[i]?=some h→h.top=C.size)∧p.cells.length + s≤C.size∧(p.ro=false→∀ i,i < C.size→¬ (fr.1≤i∧i < fr.2)) ∧
        (∀ i v,p.cells[i]?=some v→∃ u,C[i + s]?=some u∧VR β1 v u)∧((p.ro=false→¬ w0.keep c)∧SeqOk β1 p C s):=by
   intro e t pr po hb he hok hpr hC
   subst he
   obtain ⟨a1,a2,a3⟩:=bind1_sound hb hv ⟨_,t,rfl,hok,rfl⟩
   refine ⟨a1,a2,B,b,hB,hg,c1,hro,fun σ2 β1 hle hI=>?_⟩
   obtain ⟨e1,e2⟩:=home (a1.trans hle) hI
   obtain ⟨q1,q2⟩:=hI.ltm (hle _ _ a3) hjm
   refine ⟨c,s,C,fr,e1,hHC,e2,by rw [hpc]; simp; omega,fun e=>hfr (hro e),fun k v hk=>by rw [hpc] at hk; simp at hk,fun e=>hbase (hro e),?_⟩
   intro x hx
   rw [hps] at hx
   cases hx
   exact .inl ⟨.var j,pr,po,rfl,q2,hpr,by rw [q1]; exact hC⟩
  split at hm
  ·rename_i e hbs
   obtain ⟨t,pr,po,he,hok,hpr,hC⟩:=hsq.get hbs
   exact fin hm he hok hpr hC
  ·split at hm
   rotate_left
   ·cases hm
   split at hm
   ·rename_i e ho
    obtain ⟨t,he,hok,hut,hlen⟩:=onesB_sound hus ho
    refine fin (pr:=C.toList.take s) (po:=(C.toList.drop s).drop b.cells.length) hm he hok (by rw [List.length_take,Array.length_toList]; omega) ?_
    rw [← hut,huse,List.append_assoc,List.take_append_drop,List.take_append_drop]
   ·cases hm
 ·rename_i j hps
  split at hm
  rotate_left
  ·cases hm
  rename_i hc2
  rw [Bool.and_eq_true] at hc2
  have hpc:p.cells=[]:=by simpa using hc2.1
  have hjm:j < m:=Nat.le_of_ble_eq_true hc2.2
  have fin:∀ {e:Value} {t:TN} {pr po:List Value},bind1 σ j (.ntm e)=some σ'→e=t.enc→t.ok β.length=true→pr.length=s→C.toList=pr++nv (t.den β)++po→(∀ x ∈ t.den β,0≤x∧x≤4194303) →
      σ.le σ'∧σ'.Valid β∧∃ B b,σ.get i=some (.blk B)∧H.get B=some b∧b.live=true∧(p.ro=false→b.ro=false)∧∀ σ2 β1,σ'.le σ2→Inst β σ2 m β1 →
       ∃ (c s:Nat) (C:Array Value) (fr:Nat × Nat),Go.SM.hm β1 i=some (c,s)∧HC w c C p fr∧(∀ h,β1[i]?=some h→h.top=C.size)∧p.cells.length + s≤C.size∧(p.ro=false→∀ i,i < C.size→¬ (fr.1≤i∧i < fr.2)) ∧
        (∀ i v,p.cells[i]?=some v→∃ u,C[i + s]?=some u∧VR β1 v u)∧((p.ro=false→¬ w0.keep c)∧SeqOk β1 p C s):=by
   intro e t pr po hb he hok hpr hC hrg
   subst he
   obtain ⟨a1,a2,a3⟩:=bind1_sound hb hv ⟨_,t,rfl,hok,rfl⟩
   refine ⟨a1,a2,B,b,hB,hg,c1,hro,fun σ2 β1 hle hI=>?_⟩
   obtain ⟨e1,e2⟩:=home (a1.trans hle) hI
   obtain ⟨q1,q2⟩:=hI.ntm (hle _ _ a3) hjm
   refine ⟨c,s,C,fr,e1,hHC,e2,by rw [hpc]; simp; omega,fun e=>hfr (hro e),fun k v hk=>by rw [hpc] at hk; simp at hk,fun e=>hbase (hro e),?_⟩
   intro x hx
   rw [hps] at hx
   cases hx
   exact .inr ⟨.var j,pr,po,rfl,q2,hpr,by rw [q1]; exact hC,by rw [q1]; exact hrg⟩
  split at hm
  ·rename_i e hbs
   obtain ⟨t,pr,po,he,hok,hpr,hC,hrg⟩:=hsq.getN hbs
   exact fin hm he hok hpr hC hrg
  ·cases hm
  ·split at hm
   ·rename_i e ho
    obtain ⟨t,he,hok,hut,hlen,hrg⟩:=onesN_sound hus ho
    refine fin (pr:=C.toList.take s) (po:=(C.toList.drop s).drop b.cells.length) hm he hok (by rw [List.length_take,Array.length_toList]; omega) ?_ hrg
    rw [← hut,huse,List.append_assoc,List.take_append_drop,List.take_append_drop]
   ·cases hm
 ·cases hm
def mBlks (m:Nat) (A:List Value) (H:AS):List (Nat × Blk)→Sg→Option Sg
 | [],σ=>some σ
 | (i,p)::l,σ =>
  match mBlk m A H σ i p with
  | some σ=>mBlks m A H l σ
  | none=>none
def apartOk (σ:Sg) (l:List (Nat × Blk)):Bool :=
 l.all fun p=>l.all fun q=>Nat.beq p.1 q.1 || (p.2.ro && q.2.ro) || (match σ.get p.1,σ.get q.1 with
  | some (.blk B),some (.blk C)=>!(Nat.beq B C)
  | _,_=>false)
def tmatch (tp:Tpl) (n:Nat) (A:List Value) (F:Tr Value) (H:AS):Option Sg :=
 if Nat.ble tp.m 1048576 && (tp.H.all fun p=>Nat.blt p.1 tp.m) && (tp.F.all fun p=>Nat.blt p.1 n) && (tp.G.all fun i=>Nat.blt i H.size) then
  match mSlots tp.m n A F tp.F (sg0 tp.G) with
  | some σ =>
   match mBlks tp.m A H tp.H σ with
   | some σ=>if apartOk σ tp.H then some σ else none
   | none=>none
  | none=>none
 else none
def Tpl.heap (tp:Tpl):AS:=heapOf tp.m tp.H
def Tpl.frame (tp:Tpl):Tr Value:=frm tp.F
theorem mBlks_sound {w0:W0} {β:Ren} {H:AS} {w:World} {m:Nat} {A:List Value} (hA:Facts β A) (h:HR w0 β H w):∀ {l:List (Nat × Blk)} {σ σ':Sg},mBlks m A H l σ=some σ'→σ.Valid β →
    σ.le σ'∧σ'.Valid β∧∀ i p,(i,p) ∈ l→∃ B b,σ'.get i=some (.blk B)∧H.get B=some b∧b.live=true∧(p.ro=false→b.ro=false)∧∀ σ2 β1,σ'.le σ2→Inst β σ2 m β1 →
     ∃ (c s:Nat) (C:Array Value) (fr:Nat × Nat),Go.SM.hm β1 i=some (c,s)∧HC w c C p fr∧(∀ h,β1[i]?=some h→h.top=C.size)∧p.cells.length + s≤C.size∧(p.ro=false→∀ i,i < C.size→¬ (fr.1≤i∧i < fr.2)) ∧
      (∀ i v,p.cells[i]?=some v→∃ u,C[i + s]?=some u∧VR β1 v u)∧((p.ro=false→¬ w0.keep c)∧SeqOk β1 p C s)
 | [],σ,σ',hm,hv=>by cases hm; exact ⟨Sg.le.refl _,hv,fun i p hp=>by cases hp⟩
 | (i,p)::l,σ,σ',hm,hv=>by
  simp only [mBlks] at hm
  split at hm
  rotate_left
  ·cases hm
  rename_i σ1 h1
  obtain ⟨a1,a2,B,b,a3,a4,a5,a6,a7⟩:=mBlk_sound hA h h1 hv
  obtain ⟨b1,b2,b3⟩:=mBlks_sound hA h hm a2
  refine ⟨a1.trans b1,b2,fun i' p' hp=>?_⟩
  rcases List.mem_cons.1 hp with e | hp
  ·cases e
   exact ⟨B,b,b1 _ _ (a1 _ _ a3),a4,a5,a6,fun σ2 β1 hle hI=>a7 σ2 β1 (b1.trans hle) hI⟩
  ·exact b3 i' p' hp
theorem tmatch_sound {w0:W0} {β:Ren} {H:AS} {w:World} {n:Nat} {A:List Value} {F:Tr Value} {a:Act} {tp:Tpl} {σ:Sg} (hA:Facts β A) (h:HR w0 β H w) (hF:FS β n F a) (hm:tmatch tp n A F H=some σ) :
    ∃ β1,Inst β σ tp.m β1∧HR w0 β1 tp.heap w∧FS β1 n tp.frame a:=by
 unfold tmatch at hm
 split at hm
 rotate_left
 ·cases hm
 rename_i hc
 simp only [Bool.and_eq_true,List.all_eq_true] at hc
 obtain ⟨⟨⟨hc1,hc2⟩,hc3⟩,hc4⟩:=hc
 have hc4:∀ i ∈ tp.G,i < β.length:=fun i hi=>by rw [h.len]; exact Nat.le_of_ble_eq_true (hc4 i hi)
 have hc1:tp.m≤2 ^ 20:=Nat.le_of_ble_eq_true hc1
 have hc2:∀ p ∈ tp.H,p.1 < tp.m:=fun p hp=>Nat.le_of_ble_eq_true (hc2 p hp)
 have hc3:∀ p ∈ tp.F,p.1 < n:=fun p hp=>Nat.le_of_ble_eq_true (hc3 p hp)
 split at hm
 rotate_left
 ·cases hm
 rename_i σ1 h1
 split at hm
 rotate_left
 ·cases hm
 rename_i σ2 h2
 split at hm
 rotate_left
 ·cases hm
 rename_i hap
 cases hm
 obtain ⟨a1,a2,a3⟩:=mSlots_sound hA hF h1 (sg0_valid hc4)
 obtain ⟨b1,b2,b3⟩:=mBlks_sound hA h h2 a2
 obtain ⟨β1,hI⟩:=b2.inst tp.m
 refine ⟨β1,hI,⟨by rw [hI.len]; exact (heapOf_size _ _).symm,by show (heapOf tp.m tp.H).size≤_; rw [heapOf_size]; exact hc1,?_,?_,h.below⟩,⟨hF.size,hF.small,fun t u hu=>.inl ?_,hF.nodef⟩⟩
 ·intro i p hg hl
  have hmem:=heapOf_get hc1 tp.H i p hc2 hg
  obtain ⟨B,b,_,_,_,_,q⟩:=b3 i p hmem
  exact q σ β1 (Sg.le.refl _) hI
 ·intro i j p q hg hg' hl hl' hro hne
  have hmem:=heapOf_get hc1 tp.H i p hc2 hg
  have hmem':=heapOf_get hc1 tp.H j q hc2 hg'
  obtain ⟨B,b,e1,e2,e3,e4,_⟩:=b3 i p hmem
  obtain ⟨C,c,f1,f2,f3,f4,_⟩:=b3 j q hmem'
  unfold apartOk at hap
  rw [List.all_eq_true] at hap
  have:=hap (i,p) hmem
  rw [List.all_eq_true] at this
  have:=this (j,q) hmem'
  simp only [Bool.or_eq_true,Bool.and_eq_true] at this
  rcases this with (this | this) | this
  ·exact absurd (Nat.eq_of_beq_eq_true this) hne
  ·rw [hro] at this; cases this.1
  ·rw [e1,f1] at this
   have hBC:B≠C:=by
    intro e; subst e; simp at this
   have g1:=hI.blk e1 (hc2 _ hmem)
   have g2:=hI.blk f1 (hc2 _ hmem')
   have:=h.inj B C b c e2 f2 e3 f3 (e4 hro) hBC
   unfold Go.SM.hm at this ⊢
   rw [g1,g2]; exact this
 ·have htn : t < n := by
    have:t < a.tmps.size:=by
     rcases Nat.lt_or_ge t a.tmps.size with hl | hl
     ·exact hl
     ·rw [Array.getElem?_eq_none hl] at hu; cases hu
    rw [hF.size] at this; exact this
  unfold aslot
  rw [if_pos htn]
  show VR β1 (match (frm tp.F).get DF t with
   | some v=>v
   | none=>.tuple #[]) u
  rw [frm_get hF.small tp.F t htn hc3]
  cases hf:tp.F.find? (fun p=>Nat.beq p.1 t) with
  | none=>exact .any u
  | some p =>
   have h1':=List.find?_some hf
   have h2':=List.mem_of_find?_eq_some hf
   have h3:p.1=t:=Nat.eq_of_beq_eq_true h1'
   exact (a3 σ β1 b1 hI t p.2 u (by rw [← h3]; exact h2') hu).2
end
end Go.SM
namespace Go.SM
noncomputable section
def gI (β:Ren) (i:Nat):Int:=(TI.var i).den β
def gL (β:Ren) (i:Nat):List UInt8:=(TL.var i).den β
def gB (β:Ren) (i:Nat):Bool:=(TB.var i).den β
def gN (β:Ren) (i:Nat):List Int:=(TN.var i).den β
def gV (β:Ren) (i:Nat):Option Value:=β[i]?.map (·.v)
theorem den_varI (β:Ren) (i:Nat):(TI.var i).den β=gI β i:=rfl
theorem den_varL (β:Ren) (i:Nat):(TL.var i).den β=gL β i:=rfl
theorem den_litI (β:Ren) (n:Int):(TI.lit n).den β=n:=by simp [TI.den]
theorem den_op (β:Ren) (o:IOp) (a b:TI):(TI.op o a b).den β=o.fn (a.den β) (b.den β):=by simp [TI.den]
theorem den_wrap (β:Ren) (k:IntKind) (a:TI):(TI.wrap k a).den β=k.wrap (a.den β):=by simp [TI.den]
theorem den_len (β:Ren) (l:TL):(TI.len l).den β=((l.den β).length:Int):=by simp [TI.den]
theorem den_sel (β:Ren) (l:TL) (i:TI):(TI.sel l i).den β=(((l.den β).getD (i.den β).toNat 0).toNat:Int):=by simp [TI.den]
theorem den_varN (β:Ren) (i:Nat):(TN.var i).den β=gN β i:=rfl
theorem den_lenN (β:Ren) (l:TN):(TI.lenN l).den β=((l.den β).length:Int):=by simp [TI.den]
theorem den_selN (β:Ren) (l:TN) (i:TI):(TI.selN l i).den β=(l.den β).getD (i.den β).toNat 0:=by simp [TI.den]
theorem den_nilN (β:Ren):TN.nil.den β=[]:=by simp [TN.den]
theorem den_oneN (β:Ren) (v:TI):(TN.one v).den β=[v.den β]:=by simp [TN.den]
theorem den_appN (β:Ren) (l m:TN):(TN.app l m).den β=l.den β++m.den β:=by simp [TN.den]
theorem den_subN (β:Ren) (l:TN) (a b:TI):(TN.sub l a b).den β=((l.den β).take (b.den β).toNat).drop (a.den β).toNat:=by simp [TN.den]
theorem den_litL (β:Ren) (l:List UInt8):(TL.lit l).den β=l:=by simp [TL.den]
theorem den_setL (β:Ren) (l:TL) (i v:TI):(TL.set l i v).den β=(l.den β).set (i.den β).toNat (UInt8.ofNat (v.den β).toNat):=by simp [TL.den]
theorem den_appL (β:Ren) (l m:TL):(TL.app l m).den β=l.den β++m.den β:=by simp [TL.den]
theorem den_oneL (β:Ren) (v:TI):(TL.one v).den β=[UInt8.ofNat (v.den β).toNat]:=by simp [TL.den]
theorem den_subL (β:Ren) (l:TL) (a b:TI):(TL.sub l a b).den β=((l.den β).take (b.den β).toNat).drop (a.den β).toNat:=by simp [TL.den]
theorem den_putL (β:Ren) (l:TL) (i:TI) (m:TL):(TL.put l i m).den β=putAt (l.den β) (i.den β).toNat (m.den β):=by simp [TL.den]
def TB.P (β:Ren):TB→Prop
 | .lit b=>b=true
 | .var i=>gB β i=true
 | .lt a b=>a.den β < b.den β
 | .le a b=>a.den β≤b.den β
 | .eq a b=>a.den β=b.den β
 | .eqL a b=>a.den β=b.den β
 | .not a=>¬ a.P β
 | .and a b=>a.P β∧b.P β
 | .or a b=>a.P β∨b.P β
 | .ite c a b=>(c.P β∧a.P β)∨(¬ c.P β∧b.P β)
 | .pred i x y z l m=>predB β[i]? [x.den β,y.den β,z.den β] [l.den β,m.den β]=true
theorem TB.P_iff (β:Ren):∀ (t:TB),t.den β=true↔t.P β
 | .lit b=>by simp [TB.den,TB.P]
 | .var i=>Iff.rfl
 | .lt a b=>by simp [TB.den,TB.P]
 | .le a b=>by simp [TB.den,TB.P]
 | .eq a b=>by simp [TB.den,TB.P]
 | .eqL a b=>by simp [TB.den,TB.P]
 | .not a=>by have:=TB.P_iff β a; simp only [TB.den,TB.P]; rw [← this]; simp
 | .and a b=>by have h1:=TB.P_iff β a; have h2:=TB.P_iff β b; simp only [TB.den,TB.P]; rw [← h1,← h2]; simp
 | .or a b=>by have h1:=TB.P_iff β a; have h2:=TB.P_iff β b; simp only [TB.den,TB.P]; rw [← h1,← h2]; simp
 | .ite c a b=>by
  have h1:=TB.P_iff β a; have h2:=TB.P_iff β b; have h3:=TB.P_iff β c
  simp only [TB.den,TB.P]; rw [← h1,← h2,← h3]
  cases c.den β <;> simp
 | .pred i x y z l m=>by simp [TB.den,TB.P]
def FactsP (β:Ren):List TB→Prop
 | []=>True
 | t::l=>t.P β∧FactsP β l
theorem Facts.toP {β:Ren}:∀ {l:List TB},Facts β (l.map TB.enc)→FactsP β l
 | [],_=>trivial
 | t::l,h=>by
  obtain ⟨t',h1,h2,h3⟩:=h t.enc (by simp)
  have:=TB.inj _ _ h1
  subst this
  exact ⟨(TB.P_iff β _).1 h3,Facts.toP fun a ha=>h a (by simp at ha ⊢; exact .inr ha)⟩
theorem FactsP.append {β:Ren}:∀ {l l':List TB},FactsP β l→FactsP β l'→FactsP β (l++l')
 | [],_,_,h=>h
 | _::_,_,h,h'=>⟨h.1,FactsP.append h.2 h'⟩
theorem FactsP.flat {β:Ren} {α:Type} {f:α→List TB}:∀ {l:List α},(∀ a ∈ l,FactsP β (f a))→FactsP β (l.flatMap f)
 | [],_=>trivial
 | a::l,h=>by
  rw [List.flatMap_cons]
  exact FactsP.append (h a (by simp)) (FactsP.flat fun b hb=>h b (by simp [hb]))
def tmOf:Value→Option TI
 | .map (some i)=>some (.var i)
 | .int .i64 z=>some (.lit z)
 | _=>none
theorem tmOf_enc {v:Value} {t:TI} (h:tmOf v=some t):v=t.enc:=by
 unfold tmOf at h
 split at h <;> first | (cases h; rfl) | cases h
def rgV:Value→List TB
 | .func (.yield 0) ⟨[.int kp z,.map (some i),.int .i64 lo,.int .i64 hi]⟩ ⟨[]⟩=>[.le (.lit lo) (.var i),.le (.var i) (.lit hi)]
 | .func (.yield 2) ⟨[.map (some i),.int .i64 hi]⟩ ⟨[]⟩=>[.le (.len (.var i)) (.lit hi)]
 | .func (.yield 4) ⟨[.int .i64 (.ofNat B),o,n,c]⟩ ⟨[]⟩=>(match tmOf o,tmOf n,tmOf c with
  | some o,some n,some c=>[.le (.lit 0) o,.le (.lit 0) n,.le n c]
  | _,_,_=>[])
 | _=>[]
theorem rgV_sound {β:Ren} {v u:Value} (h:VR β v u):FactsP β (rgV v):=by
 unfold rgV
 split
 ·rename_i kp z i lo hi
  by_cases hz:z=0
  ·subst hz
   obtain ⟨t,h1,_,_,h4,h5⟩:=asI_sound (k:=kp) (e:=.map (some i)) (lo:=lo) (hi:=hi) h (by simp [asI])
   have:t=.var i:=TI.inj t (.var i) h1.symm
   subst this
   exact ⟨by simpa [TB.P,TI.den] using h4,by simpa [TB.P,TI.den] using h5,trivial⟩
  ·exfalso
   generalize hv:(Value.func (.yield 0) ⟨[.int kp z,.map (some i),.int .i64 lo,.int .i64 hi]⟩ ⟨[]⟩)=v at h
   cases h <;> simp at hv
   ·exact hz hv.1.2
   ·rename_i h0 _ _ _ _
    rw [← hv.1] at h0; cases h0
 ·rename_i i hi
  obtain ⟨t,h1,_,_,h4⟩:=asS_sound (e:=.map (some i)) (hi:=hi) h (by simp [asS])
  have:t=.var i:=TL.inj t (.var i) h1.symm
  subst this
  exact ⟨by simpa [TB.P,TI.den] using h4,trivial⟩
 ·rename_i B o n c
  split
  ·rename_i o' n' c' e1 e2 e3
   rw [tmOf_enc e1,tmOf_enc e2,tmOf_enc e3] at h
   obtain ⟨o2,n2,c2,b,s,e1,e2,e3,hk,_⟩:=asL_sound (B:=B) (o:=o'.enc) (n:=n'.enc) (c:=c'.enc) h (by simp [asL])
   rw [← TI.inj _ _ e1,← TI.inj _ _ e2,← TI.inj _ _ e3] at hk
   refine ⟨?_,?_,?_,trivial⟩
   ·simpa [TB.P,TI.den] using hk.o0
   ·simpa [TB.P,TI.den] using hk.n0
   ·simpa [TB.P,TI.den] using hk.nc
  ·trivial
 ·trivial
def rgs (n:Nat) (tp:Tpl):List TB :=
 (tp.F.flatMap fun p=>match aslot n tp.frame p.1 with
  | .map none=>[]
  | .func (.yield 5) _ _=>[]
  | v=>if Nat.blt p.1 n then rgV v else []) ++
 tp.H.flatMap fun p=>match tp.heap.get p.1 with
  | some b=>if b.live then b.cells.flatMap rgV else []
  | none=>[]
theorem rgs_sound {w0:W0} {β:Ren} {n:Nat} {tp:Tpl} {w:World} {a:Act} (h:HR w0 β tp.heap w) (hF:FS β n tp.frame a):FactsP β (rgs n tp):=by
 refine FactsP.append (FactsP.flat fun p hp=>?_) (FactsP.flat fun p hp=>?_)
 ·split
  ·trivial
  ·trivial
  ·rename_i v h1 h2
   split
   ·rename_i ht
    have ht:p.1 < a.tmps.size:=by rw [hF.size]; exact Nat.le_of_ble_eq_true ht
    rcases hF.slot p.1 _ (Array.getElem?_eq_getElem ht) with hs | hs | hs
    ·exact rgV_sound hs
    ·exact absurd hs.1 h1
    ·obtain ⟨g,x,e,_⟩:=hs
     exact absurd e (h2 _ _)
   ·trivial
 ·split
  ·rename_i b hb
   split
   ·rename_i hl
    obtain ⟨c,s,C,fr,_,_,_,_,_,hcl,_⟩:=h.blk _ _ hb hl
    refine FactsP.flat fun v hv=>?_
    obtain ⟨k,hk⟩:=List.mem_iff_getElem?.1 hv
    obtain ⟨u,_,hu⟩:=hcl k v hk
    exact rgV_sound hu
   ·trivial
  ·trivial
end
end Go.SM
