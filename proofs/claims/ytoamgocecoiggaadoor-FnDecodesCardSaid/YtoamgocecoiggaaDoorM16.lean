-- the statement of this claim: see YtoamgocecoiggaaDoorRw
import Derived.Scope
import Derived.LoopN
import Derived.Test.YtoamgocecoiggaaDoorM15
set_option linter.unusedVariables false
set_option linter.unusedSimpArgs false
namespace Go.SM
noncomputable section
def isLd (o:Oper):Bool:=match o.op with
 | .load ..=>true
 | _=>false
def isCl (o:Oper):Bool:=match o.op with
 | .call c=>match c.callee with
  | .value _=>true
  | _=>false
 | _=>false
def isSt (o:Oper):Bool:=match o.op with
 | .store ..=>true
 | _=>false
def hardR (ops:Array Oper):Bool:=(Nat.ble ops.size 16 && ops.toList.any isCl && ops.toList.any isLd) || Nat.beq (ops.toList.filter isMk).length 2 || Nat.ble 4 (ops.toList.filter isSt).length
inductive AExit where
 | normal
 | ret
 | exit (id:Nat)
def AExit.conc:AExit→Exit
 | .normal=>.normal
 | .ret=>.ret
 | .exit id=>.exit id
def acode (P:Program) (pu:FuncId→Bool) (G:Gl) (call:ACall) (n:Nat):Nat→Code→Tr Value→AS→Option (AExit × Tr Value × AS)
 | 0,_,_,_=>none
 | k + 1,c,F,H =>
  match c with
  | .skip=>some (.normal,F,H)
  | .label _=>some (.normal,F,H)
  | .region _ ops d =>
   match arun P { G with m:=H.size } call ops n ops.toList F H with
   | none=>none
   | some (R,HE) =>
    match d && hardR ops && !(drawOk P pu ops) with
    | false=>some (.normal,R,HE)
    | true=>if sOk ops && gpor P pu { G with m:=H.size } call ops n (fun R' HE'=>eqF n R R' && eqH HE HE') (ops.size + 1) (fun _=>false) F H then some (.normal,R,HE) else none
  | .seq x y =>
   match acode P pu G call n k x F H with
   | some (.normal,F',H')=>acode P pu G call n k y F' H'
   | r=>r
  | .cond c x y =>
   match aev G n F c with
   | .bool t=>acode P pu G call n k (if t then x else y) F H
   | v =>
    match asB v with
    | none=>none
    | some e =>
     match dec G.A 60 e with
     | some t=>acode P pu G call n k (if t then x else y) F H
     | none=>none
  | .block id c =>
   match acode P pu G call n k c F H with
   | some (.exit id',F',H')=>if id'=id then some (.normal,F',H') else some (.exit id',F',H')
   | r=>r
  | .loop c =>
   match acode P pu G call n k c F H with
   | some (.normal,F',H')=>acode P pu G call n k (.loop c) F' H'
   | r=>r
  | .exit id=>some (.exit id,F,H)
  | .scope c=>acode P pu G call n k c F H
  | .ret=>some (.ret,F,H)
  | _=>none
def codeOk (P:Program) (pu:FuncId→Bool):Code→Bool
 | .region _ ops true=>drawOk P pu ops || hardR ops
 | .seq x y=>codeOk P pu x && codeOk P pu y
 | .cond _ x y=>codeOk P pu x && codeOk P pu y
 | .block _ c=>codeOk P pu c
 | .loop c=>codeOk P pu c
 | .scope c=>codeOk P pu c
 | _=>true
theorem acode_sound {P:Program} {pu:FuncId→Bool} {w0:W0} {G:Gl} {call:ACall} {n:Nat} (hN:NoNum P) (hC:CallOk P G call) (hp:∀ A f args H v H',pu f=true→call A f args H=some (v,H')→H'=H)
    (hm:P.follows .mixedOrders=true):∀ (k:Nat) (c:Code) (β:Ren) (F:Tr Value) (H:AS) (a:Act) (w:World) (e:AExit) (R:Tr Value) (HE:AS) (Q:Exit→Act→World→Prop),codeOk P pu c=true →
     HR w0 β H w→Gok G β→FS β n F a→acode P pu G call n k c F H=some (e,R,HE) →
     (∀ (γ:Ren) (a':Act) (w':World),HR w0 (β++γ) HE w'→FS (β++γ) n R a'→Q e.conc a' w')→c.wp P Q a w:=by
 intro k
 induction k using Nat.strongRecOn with
 | ind k ih =>
 intro c β F H a w e R HE Q hok h hG hF hr hQ
 cases k with
 | zero=>simp [acode] at hr
 | succ k =>
  have ihk:=ih k (Nat.lt_succ_self k)
  have here:∀ {e':AExit},some (e',F,H)=some (e,R,HE)→Q e'.conc a w:=by
   intro e' he
   cases he
   exact hQ [] a w (by rw [List.append_nil]; exact h) (by rw [List.append_nil]; exact hF)
  cases c with
  | skip=>exact wp_skip (here (e':=.normal) (by simpa only [acode] using hr))
  | label l=>exact wp_label (here (e':=.normal) (by simpa only [acode] using hr))
  | exit id=>exact wp_exit (here (e':=.exit id) (by simpa only [acode] using hr))
  | ret=>exact wp_ret (here (e':=.ret) (by simpa only [acode] using hr))
  | region id ops draw =>
   simp only [acode] at hr
   have hGm:Gok { G with m:=H.size } β:=⟨⟨hG.1.1,by rw [h.len]; exact Nat.le_refl _⟩,hG.2⟩
   have hCm:CallOk P { G with m:=H.size } call:=hC
   split at hr
   ·cases hr
   rename_i R' H' hrun
   cases draw with
   | false =>
    simp only [Bool.false_and] at hr
    cases hr
    exact text_sound hN hCm h hGm hF hrun hQ
   | true =>
    simp only [Bool.true_and] at hr
    split at hr
    ·rename_i hh
     cases hr
     rw [Bool.and_eq_false_iff,Bool.not_eq_false'] at hh
     rcases hh with hh | hh
     ·have hok' : drawOk P pu ops = true := by
        simp only [codeOk,hh,Bool.or_false] at hok
        exact hok
      exact draw_sound hN hCm hp hm hok' h hGm hF hrun hQ
     ·exact draw_sound hN hCm hp hm hh h hGm hF hrun hQ
    ·split at hr
     ·rename_i hgo
      rw [Bool.and_eq_true] at hgo
      cases hr
      refine gpor_region hN hCm hp hm hgo.1 h hGm hF hgo.2 ?_
      intro γ R2 HE2 a' w' hchk h1 h2
      rw [Bool.and_eq_true] at hchk
      exact hQ γ a' w' (h1.as hchk.2) (h2.as hchk.1)
     ·cases hr
  | seq x y =>
   simp only [acode] at hr
   simp only [codeOk,Bool.and_eq_true] at hok
   refine wp_seq ?_
   split at hr
   ·rename_i F' H' hx
    refine ihk x β F H a w .normal F' H' _ hok.1 h hG hF hx ?_
    intro γ a' w' h1 h2
    refine ihk y (β++γ) F' H' a' w' e R HE Q hok.2 h1 hG.mono h2 hr ?_
    intro γ' a2 w2 h3 h4
    exact hQ (γ++γ') a2 w2 (by rw [← List.append_assoc]; exact h3) (by rw [← List.append_assoc]; exact h4)
   ·rename_i hx
    have hne:e≠.normal:=fun he=>by subst he; exact hx R HE hr
    refine ihk x β F H a w e R HE _ hok.1 h hG hF hr ?_
    intro γ a' w' h1 h2
    have:=hQ γ a' w' h1 h2
    cases e with
    | normal=>exact (hne rfl).elim
    | ret=>exact this
    | exit id=>exact this
  | cond c x y =>
   simp only [acode] at hr
   simp only [codeOk,Bool.and_eq_true] at hok
   split at hr
   ·rename_i t ht
    have hc:=aev_sound hG hF.size c (fun t _=>hF.slot t)
    have hc':=hc.eq_of_ground (by rw [ht]; rfl)
    rw [ht] at hc'
    refine wp_cond hc' ?_
    exact ihk _ β F H a w e R HE Q (by cases t <;> simp [hok]) h hG hF hr hQ
   ·split at hr
    ·cases hr
    rename_i e' he
    have hc:=aev_sound hG hF.size c (fun t _=>hF.slot t)
    obtain ⟨tt,rfl,t1,t2⟩:=asB_sound hc he
    split at hr
    ·rename_i t hd
     have hdt:=dec_sound hG.2 60 tt _ hd
     rw [hdt] at t2
     refine wp_cond t2 ?_
     exact ihk _ β F H a w e R HE Q (by cases t <;> simp [hok]) h hG hF hr hQ
    ·cases hr
  | block id c =>
   simp only [acode] at hr
   simp only [codeOk] at hok
   refine wp_block ?_
   split at hr
   ·rename_i id' F' H' hx
    refine ihk c β F H a w (.exit id') F' H' _ hok h hG hF hx ?_
    intro γ a' w' h1 h2
    split at hr
    ·rename_i hid
     cases hr
     simp only [AExit.conc,Exit.inBlock,hid,if_true]
     exact hQ γ a' w' h1 h2
    ·rename_i hid
     cases hr
     simp only [AExit.conc,Exit.inBlock,hid,if_false]
     exact hQ γ a' w' h1 h2
   ·rename_i hx
    refine ihk c β F H a w e R HE _ hok h hG hF hr ?_
    intro γ a' w' h1 h2
    have:=hQ γ a' w' h1 h2
    cases e with
    | normal=>exact this
    | ret=>exact this
    | exit id'=>exact (hx id' R HE hr).elim
  | loop c =>
   simp only [codeOk] at hok
   have rounds:∀ (j:Nat),j≤k + 1→∀ (β:Ren) (F:Tr Value) (H:AS) (a:Act) (w:World),HR w0 β H w→Gok G β→FS β n F a→acode P pu G call n j (.loop c) F H=some (e,R,HE) →
       (∀ (γ:Ren) (a':Act) (w':World),HR w0 (β++γ) HE w'→FS (β++γ) n R a'→Q e.conc a' w')→Code.rounds P c Q j a w:=by
    intro j
    induction j with
    | zero=>intro _ β F H a w h hG hF hr hQ; simp [acode] at hr
    | succ j ihj =>
     intro hj β F H a w h hG hF hr hQ
     simp only [acode] at hr
     rw [rounds_succ]
     split at hr
     ·rename_i F' H' hx
      refine ih j (by omega) c β F H a w .normal F' H' _ hok h hG hF hx ?_
      intro γ a' w' h1 h2
      refine ihj (by omega) (β++γ) F' H' a' w' h1 hG.mono h2 hr ?_
      intro γ' a2 w2 h3 h4
      exact hQ (γ++γ') a2 w2 (by rw [← List.append_assoc]; exact h3) (by rw [← List.append_assoc]; exact h4)
     ·rename_i hx
      have hne:e≠.normal:=fun he=>by subst he; exact hx R HE hr
      refine ih j (by omega) c β F H a w e R HE _ hok h hG hF hr ?_
      intro γ a' w' h1 h2
      have:=hQ γ a' w' h1 h2
      cases e with
      | normal=>exact (hne rfl).elim
      | ret=>exact this
      | exit id=>exact this
   exact wp_loop_rounds (k + 1) (rounds (k + 1) (Nat.le_refl _) β F H a w h hG hF hr hQ)
  | scope c =>
   simp only [acode] at hr
   simp only [codeOk] at hok
   refine wp_scope_straight ?_
   refine ihk c β F H a w e R HE _ hok h hG hF hr ?_
   intro γ a' w' h1 h2
   have:=hQ γ a' w' h1 h2
   cases e <;> exact this
  | rangeFunc=>simp [acode] at hr
  | goto=>simp [acode] at hr
  | refuse=>simp [acode] at hr
end
end Go.SM
namespace Go.SM
noncomputable section
def Tr.map {α:Type} (f:α→α):Tr α→Tr α
 | .e=>.e
 | .l a=>.l (f a)
 | .n x y=>.n (x.map f) (y.map f)
theorem Tr.get_map {α:Type} (f:α→α) (k:Nat):∀ (d:Nat) (t:Tr α),(t.map f).get d k=(t.get d k).map f
 | 0,.e=>rfl
 | 0,.l a=>rfl
 | 0,.n x y=>rfl
 | d + 1,.e=>rfl
 | d + 1,.l a=>rfl
 | d + 1,.n x y=>by
  simp only [Tr.map,Tr.get_n]
  split
  ·exact Tr.get_map f k d y
  ·exact Tr.get_map f k d x
def roAll (H:AS):AS:={ H with heap:=H.heap.map fun b=>{ b with ro:=true } }
theorem roAll_get {H:AS} {B:Nat} {b:Blk} (h:(roAll H).get B=some b):∃ b0,H.get B=some b0∧b={ b0 with ro:=true }:=by
 unfold AS.get roAll at h
 dsimp only at h
 split at h
 ·rename_i hlt
  rw [Tr.get_map,Option.map_eq_some_iff] at h
  obtain ⟨b0,h1,h2⟩:=h
  exact ⟨b0,by unfold AS.get; rw [if_pos hlt]; exact h1,h2.symm⟩
 ·cases h
theorem HR.roAll {w0:W0} {β:Ren} {H:AS} {w:World} (h:HR w0 β H w):HR (W0.of w) β (roAll H) w:=by
 refine ⟨h.len,h.big,?_,?_,Kept.refl _⟩
 ·intro B b hg hl
  obtain ⟨b0,h0,rfl⟩:=roAll_get hg
  obtain ⟨c,s,C,fr,h1,⟨el,h2,hel⟩,h3,h4,h5,h6,h7⟩:=h.blk B b0 h0 hl
  exact ⟨c,s,C,fr,h1,⟨el,h2,fun hc=>by cases hc⟩,h3,h4,(fun hc=>by cases hc),h6,(fun hc=>by cases hc),h7.2⟩
 ·intro B B' b b' hg hg' hl hl' hro hne
  obtain ⟨b0,h0,rfl⟩:=roAll_get hg
  cases hro
theorem HR.back {w0:W0} {β:Ren} {H:AS} {w w':World} (h:HR w0 β H w) (hb:RowKit.Below w.heap.size w w'):HR w0 β H w':=by
 refine ⟨h.len,h.big,?_,h.inj,h.below.trans hb⟩
 intro B b hg hl
 obtain ⟨c,s,C,fr,h1,⟨el,h2,hel⟩,h3⟩:=h.blk B b hg hl
 exact ⟨c,s,C,fr,h1,⟨_,by rw [hb.block c (h.home_lt hg hl h1)]; exact h2,hel⟩,h3⟩
def aargs:List Value→Nat→Tr Value→Tr Value
 | [],_,F=>F
 | v::vs,i,F=>aargs vs (i + 1) (F.set DF i v)
theorem aargs_get {n:Nat} (hn:n≤2 ^ 12) (t:Nat) (ht:t < n):∀ (vs:List Value) (i:Nat) (F:Tr Value),i + vs.length≤n→(aargs vs i F).get DF t=if i≤t∧t < i + vs.length then vs[t - i]? else F.get DF t
 | [],i,F,_=>by simp only [aargs]; rw [if_neg (by simp only [List.length_nil]; omega)]
 | v::vs,i,F,h=>by
  simp only [List.length_cons] at h
  simp only [aargs]
  rw [aargs_get hn t ht vs (i + 1) _ (by omega)]
  by_cases h1:i + 1≤t∧t < i + 1 + vs.length
  ·rw [if_pos h1,if_pos (by simp only [List.length_cons]; omega)]
   rw [show t - i=(t - (i + 1)) + 1 from by omega,List.getElem?_cons_succ]
  ·rw [if_neg h1]
   by_cases h2:i=t
   ·subst h2
    rw [Tr.get_set,if_pos (by simp only [List.length_cons]; omega),Nat.sub_self]; rfl
   ·rw [if_neg (by simp only [List.length_cons]; omega),Tr.get_set_ne v i t DF F (bits_ne 12 i t (by omega) (by omega) h2)]
def aresVar (P:Program) (n:Nat) (R:Tr Value) (H:AS):ResultVar→Option Value
 | .tmp t=>some (ung [] (aslot n R t))
 | .cell a t=>aloadVar P t H (ung [] (aslot n R a))
def aresList (P:Program) (n:Nat) (R:Tr Value) (H:AS):List ResultVar→Option (List Value)
 | []=>some []
 | r::rs =>
  match aresVar P n R H r,aresList P n R H rs with
  | some v,some vs=>some (v::vs)
  | _,_=>none
def aresults (P:Program) (fn:Func) (n:Nat) (R:Tr Value) (H:AS):Option Value :=
 match aresList P n R H fn.results.toList with
 | some [v]=>some v
 | some vs=>some (.tuple vs.toArray)
 | none=>none
theorem aresList_sound {P:Program} {w0:W0} {β:Ren} {H:AS} {w:World} {n:Nat} {R:Tr Value} {a:Act} (h:HR w0 β H w) (hF:FS β n R a):∀ (rs:List ResultVar) (vs:List Value),aresList P n R H rs=some vs →
    ∃ us,(rs.mapM (m:=Sem) fun
     | .tmp t=>pure (a.tmps.getD t undef)
     | .cell x t=>do loadVar t (← asAddr (a.tmps.getD x undef))).run P w=.ok us w∧VRs β vs us
 | [],vs,hr=>by
  simp only [aresList,Option.some.injEq] at hr
  subst hr
  exact ⟨[],rfl,VRs.nil β⟩
 | r::rs,vs,hr=>by
  have hev:∀ t,VR β (ung [] (aslot n R t)) (a.tmps.getD t undef):=fun t=>aev_sound (G:=⟨fun _=>none,[],fun _=>false,0⟩) ⟨⟨(fun _ _ h=>by cases h),Nat.zero_le _⟩,Facts.nil β⟩ hF.size (.tmp t) (fun t _=>hF.slot t)
  simp only [aresList] at hr
  split at hr
  ·rename_i v vs' hv hvs
   cases hr
   obtain ⟨us,h1,h2⟩:=aresList_sound h hF rs vs' hvs
   cases r with
   | tmp t =>
    simp only [aresVar,Option.some.injEq] at hv
    subst hv
    refine ⟨a.tmps.getD t undef::us,?_,VRs.cons (hev t) h2⟩
    simp only [List.mapM_cons,Sem.run_bind,Sem.run_pure,Result.andThen_ok,h1]
   | cell x t =>
    simp only [aresVar] at hv
    obtain ⟨u,hu1,hu2⟩:=h.loadVar (P:=P) (hev x) hv
    refine ⟨u::us,?_,VRs.cons hu2 h2⟩
    have e:(do loadVar t (← asAddr (a.tmps.getD x undef)):Sem Value).run P w=.ok u w:=by
     have hx:=hev x
     have hq:∃ q,a.tmps.getD x undef=.pointer (some q):=by
      generalize ung [] (aslot n R x)=y at hx hv
      generalize a.tmps.getD x undef=z at hx
      cases hx <;> first | exact ⟨_,rfl⟩ | (simp [aloadVar] at hv; done)
     obtain ⟨q,hq⟩:=hq
     rw [hq] at hu1 ⊢
     exact hu1
    simp only [List.mapM_cons,Sem.run_bind] at e ⊢
    simp only [e,Sem.run_pure,Result.andThen_ok,h1]
  ·cases hr
def plainC (v:Value):Bool:=ground v || match v with
 | .chan none=>true
 | _=>false
theorem plainC_drop {β β':Ren} {v u:Value} (hc:plainC v=true) (h:VR β v u):VR β' v u:=by
 unfold plainC at hc
 rw [Bool.or_eq_true] at hc
 rcases hc with hc | hc
 ·rw [h.eq_of_ground hc]; exact VR.of_ground hc
 ·split at hc
  ·cases h with
   | any1 u h=>exact .any1 u h
  ·cases hc
def closedV (v:Value):Bool:=ground v || match v with
 | .agg a=>a.toList.all plainC
 | _=>false
theorem closed_drop {β β':Ren} {v u:Value} (hc:closedV v=true) (h:VR β v u):VR β' v u:=by
 unfold closedV at hc
 rw [Bool.or_eq_true] at hc
 rcases hc with hc | hc
 ·rw [h.eq_of_ground hc]; exact VR.of_ground hc
 ·split at hc
  ·rename_i a
   cases h with
   | agg _ a' h1 h2 =>
    refine .agg _ a' h1 fun i x y hx hy=>?_
    have hg:plainC x=true:=List.all_eq_true.1 hc x (by
     rw [← Array.getElem?_toList] at hx
     exact List.mem_of_getElem? hx)
    exact plainC_drop hg (h2 i x y hx hy)
  ·cases hc
def closedS (m:Nat) (v:Value):Bool :=
 match v with
 | .func (.yield 0) ⟨[.int _ z,e,.int .i64 _,.int .i64 _]⟩ ⟨[]⟩=>decide (z=0) && wfI 60 m e
 | .func (.yield 1) ⟨[e]⟩ ⟨[]⟩=>wfB 60 m e
 | _=>false
theorem closedS_drop {β γ:Ren} {m:Nat} {v u:Value} (hm:m≤β.length) (hc:closedS m v=true) (h:VR (β++γ) v u):VR β v u:=by
 unfold closedS at hc
 split at hc
 ·rename_i k z e lo hi
  rw [Bool.and_eq_true] at hc
  obtain ⟨hz,hc⟩:=hc
  have hz:=of_decide_eq_true hz
  subst hz
  obtain ⟨t,rfl,ht⟩:=(wf_sound 60 m e).1 hc
  obtain ⟨t',e1,o1,rfl,h1,h2⟩:=asI_sound h rfl
  have:=TI.inj _ _ e1
  subst this
  have ok:=TI.ok_app _ _ hm t ht
  rw [TI.den_app β γ t ok] at h1 h2 ⊢
  exact .symI k t lo hi ok h1 h2
 ·rename_i e
  obtain ⟨t,rfl,ht⟩:=(wf_sound 60 m e).2.2 hc
  obtain ⟨t',e1,o1,rfl⟩:=asB_sound h rfl
  have:=TB.inj _ _ e1
  subst this
  have ok:=TB.ok_app _ _ hm t ht
  rw [TB.den_app β γ t ok]
  exact .symB t ok
 ·cases hc
def acall (P:Program) (g:Nat→Option Nat) (pu ok:FuncId→Bool) (prim:ACall) (fu:Nat):Nat→ACall
 | 0=>fun A f args H=>prim A f args H
 | k + 1=>fun A f args H =>
  match prim A f args H with
  | some r=>some r
  | none =>
   if ok f then
    match P.funcs[f]? with
    | none=>none
    | some fn =>
     match fn.body with
     | none=>none
     | some c =>
      if args.length≤fn.ntmps∧fn.ntmps≤2 ^ 12 then
       match acode P pu { g:=g,A:=A,pu:=pu } (acall P g pu ok prim fu k) fn.ntmps fu c (aargs args 0 .e) (if pu f then roAll H else H) with
       | some (.exit _,_,_)=>none
       | some (_,R,HE) =>
        match aresults P fn fn.ntmps R HE with
        | some v=>if pu f then (if closedV v || closedS H.size v then some (v,H) else none) else some (v,HE)
        | none=>none
       | none=>none
      else none
   else none
theorem acall_pure {P:Program} {g:Nat→Option Nat} {pu ok:FuncId→Bool} {prim:ACall} {fu:Nat} (hprim:∀ A f args H v H',pu f=true→prim A f args H=some (v,H')→H'=H) :
    ∀ (k:Nat) A f args H v H',pu f=true→acall P g pu ok prim fu k A f args H=some (v,H')→H'=H
 | 0,A,f,args,H,v,H',hp,h=>hprim A f args H v H' hp h
 | k + 1,A,f,args,H,v,H',hp,h=>by
  simp only [acall] at h
  split at h
  ·rename_i r hr
   cases h
   exact hprim A f args H v H' hp hr
  ·split at h
   ·split at h
    ·cases h
    ·split at h
     ·cases h
     ·split at h
      ·split at h
       ·cases h
       ·split at h
        ·split at h
         ·cases h; rfl
         ·cases h
        ·cases h
       ·cases h
      ·cases h
   ·cases h
def FnsOk (P:Program) (pu ok:FuncId→Bool):Prop:=∀ (f:FuncId) (fn:Func) (c:Code),ok f=true→P.funcs[f]?=some fn→fn.body=some c→codeOk P pu c=true
theorem frame_start {β:Ren} {n:Nat} (hn:n≤2 ^ 12) {args:List Value} {args':Array Value} (ha:VRs β args args'.toList) (hl:args.length≤n) :
    FS β n (aargs args 0 .e) { tmps:=args'++Array.replicate (n - args'.size) undef,defers:=[] }:=by
 have hsz:args'.size=args.length:=by rw [← ha.1,Array.length_toList]
 refine ⟨by simp [hsz]; omega,hn,?_,rfl⟩
 intro t u hu
 left
 unfold aslot
 split
 ·rename_i ht
  rw [aargs_get hn t ht args 0 .e (by omega)]
  by_cases h1:0≤t∧t < 0 + args.length
  ·rw [if_pos h1,Nat.sub_zero,List.getElem?_eq_getElem (show t < args.length by omega)]
   have:args'.toList[t]?=some u:=by
    rw [Array.getElem?_toList]
    rw [Array.getElem?_append_left (by omega)] at hu
    exact hu
   exact ha.2 t _ u (List.getElem?_eq_getElem (by omega)) this
  ·rw [if_neg h1,Tr.get_e]; exact .any _
 ·exact .any _
theorem acall_sound {P:Program} {pu ok:FuncId→Bool} {g:Nat→Option Nat} {prim:ACall} {fu:Nat} (hN:NoNum P) (hm:P.follows .mixedOrders=true) (hok:FnsOk P pu ok)
    (hC:CallOk P { g:=g,A:=[],pu:=pu } prim):∀ (k:Nat),CallOk P { g:=g,A:=[],pu:=pu } (acall P g pu ok prim fu k)
 | 0=>hC
 | k + 1=>by
  refine ⟨acall_pure hC.1 (k + 1),?_⟩
  intro w0 β H w A f args args' v H' h hG ha hcall
  simp only [acall] at hcall
  split at hcall
  ·rename_i r hr
   cases hcall
   exact hC.2 w0 β H w A f args args' v H' h hG ha hr
  ·split at hcall
   rotate_left
   ·cases hcall
   rename_i hokf
   split at hcall
   ·cases hcall
   rename_i fn hfn
   split at hcall
   ·cases hcall
   rename_i c hbody
   split at hcall
   rotate_left
   ·cases hcall
   rename_i hsz
   have ih:=acall_sound (fu:=fu) hN hm hok hC k
   have hpure:=acall_pure (P:=P) (g:=g) (ok:=ok) (fu:=fu) hC.1 k
   have hCA:CallOk P { g:=g,A:=A,pu:=pu } (acall P g pu ok prim fu k):=ih
   have run:∀ (wb:W0) (H0 HE:AS) (e:AExit) (R:Tr Value) (v:Value),HR wb β H0 w→acode P pu { g:=g,A:=A,pu:=pu } (acall P g pu ok prim fu k) fn.ntmps fu c (aargs args 0 .e) H0=some (e,R,HE)→(∀ id,e≠.exit id) →
       aresults P fn fn.ntmps R HE=some v→Calls P f args' w fun e w'=>∃ (γ:Ren) (u:Value),e=.returned u∧HR wb (β++γ) HE w'∧VR (β++γ) v u:=by
    intro wb H0 HE e R v hH hrun hne hres
    refine calls_of_wp hfn hbody ?_
    refine acode_sound hN hCA hpure hm fu c β (aargs args 0 .e) H0 _ w e R HE _ (hok f fn c hokf hfn hbody) hH hG (frame_start hsz.2 ha hsz.1) hrun ?_
    intro γ a' w' h1 h2
    have hR:∃ u,(results fn a'.tmps).run P w'=.ok u w'∧VR (β++γ) v u:=by
     have arr:∀ vs us,aresList P fn.ntmps R HE fn.results.toList=some vs→(fn.results.toList.mapM (m:=Sem) fun
         | .tmp t=>pure (a'.tmps.getD t undef)
         | .cell x t=>do loadVar t (← asAddr (a'.tmps.getD x undef))).run P w'=.ok us w'→(results fn a'.tmps).run P w'=.ok (if h:us.toArray.size=1 then us.toArray[0] else .tuple us.toArray) w':=by
      intro vs us _ hus
      unfold results
      simp only [Sem.run_bind,Array.mapM_eq_mapM_toList,Sem.run_map]
      erw [hus]
      rfl
     unfold aresults at hres
     split at hres
     ·rename_i v1 hl
      cases hres
      obtain ⟨us,g1,g2⟩:=aresList_sound h1 h2 _ _ hl
      have g0:=arr _ _ hl g1
      obtain ⟨u,us',rfl,g3,g4⟩:=g2.cons_inv
      obtain rfl:us'=[]:=List.eq_nil_of_length_eq_zero g4.1
      exact ⟨u,g0,g3⟩
     ·rename_i vs hne1 hl
      cases hres
      obtain ⟨us,g1,g2⟩:=aresList_sound h1 h2 _ _ hl
      have g0:=arr _ _ hl g1
      have hlen:¬ us.toArray.size=1:=by
       rw [List.size_toArray,g2.1]
       intro hc
       obtain ⟨x,hx⟩:=List.length_eq_one_iff.1 hc
       exact hne1 x (by rw [hx])
      rw [dif_neg hlen] at g0
      exact ⟨_,g0,.tuple _ _ (by simp [g2.1]) (fun i x y hx hy=>g2.2 i x y (by simpa using hx) (by simpa using hy))⟩
     ·cases hres
    obtain ⟨u,hu1,hu2⟩:=hR
    cases e with
    | normal=>exact ⟨h2.nodef,u,hu1,γ,u,rfl,h1,hu2⟩
    | ret=>exact ⟨h2.nodef,u,hu1,γ,u,rfl,h1,hu2⟩
    | exit id=>exact (hne id rfl).elim
   split at hcall
   ·cases hcall
   ·rename_i e R HE hne hrun
    split at hcall
    ·rename_i v2 hres
     by_cases hp:pu f=true
     ·simp only [hp,if_true] at hcall hrun
      split at hcall
      ·rename_i hg
       simp only [Option.some.injEq,Prod.mk.injEq] at hcall
       obtain ⟨rfl,rfl⟩:=hcall
       refine (run (W0.of w) (roAll H) HE e R v2 h.roAll hrun hne hres).mono ?_
       rintro e w' ⟨γ,u,rfl,h1,h2⟩
       refine ⟨[],_,rfl,by rw [List.append_nil]; exact h.back h1.below.below,?_⟩
       rw [List.append_nil]
       rw [Bool.or_eq_true] at hg
       rcases hg with hg | hg
       ·exact closed_drop hg h2
       ·exact closedS_drop (by rw [h.len]; exact Nat.le_refl _) hg h2
      ·cases hcall
     ·simp only [hp] at hcall hrun
      simp only [Bool.false_eq_true,if_false,Option.some.injEq,Prod.mk.injEq] at hcall hrun
      obtain ⟨rfl,rfl⟩:=hcall
      exact run w0 H HE e R v2 h hrun hne hres
    ·cases hcall
   ·cases hcall
end
end Go.SM
