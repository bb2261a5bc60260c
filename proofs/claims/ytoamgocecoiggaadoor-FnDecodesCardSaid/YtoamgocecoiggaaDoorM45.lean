-- the statement of this claim: see YtoamgocecoiggaaDoorRw
import Derived.Test.YtoamgocecoiggaaDoorM44
set_option linter.unusedVariables false
set_option linter.unusedSimpArgs false
open Go Go.SM Go.Proofs
namespace U
set_option maxRecDepth 100000
theorem du_some {b:Bool} {R:List UInt8} {v k:Int} (hR:R.length % 2=0) (h:du (ul16 b R)=some (v,k)):d1 (eb b) R=.ok v (2 * k)∧1≤k∧2 * k≤R.length∧ul16 b (R.drop (2 * k).toNat)=(ul16 b R).drop k.toNat:=by
 match R,hR,h with
 | [],_,h=>cases h
 | [x],hR,_=>simp at hR
 | x::y::r,hR,h =>
  have hu:=u16_rng b x y
  simp only [List.length_cons] at hR
  rw [d1_un]
  simp only [ul16] at h ⊢
  rw [du_cons] at h
  split at h
  ·cases h
  rename_i n1
  split at h
  ·rename_i n2
   match r,hR,h with
   | [],_,h=>cases h
   | [z],hR,h=>cases h
   | z::w::r,hR,h =>
    have hv:=u16_rng b z w
    simp only [ul16] at h
    split at h
    ·rename_i n3
     simp only [Option.some.injEq,Prod.mk.injEq] at h
     obtain ⟨h1,h2⟩:=h
     subst h2; subst h1
     refine ⟨?_,by omega,by simp only [List.length_cons]; omega,rfl⟩
     exact d16_pair hu hv n2 (by simp only [List.length_cons]; omega) n3
    ·cases h
  ·rename_i n2
   simp only [Option.some.injEq,Prod.mk.injEq] at h
   obtain ⟨h1,h2⟩:=h
   subst h2; subst h1
   refine ⟨?_,by omega,by simp only [List.length_cons]; omega,rfl⟩
   exact d16_one hu (by omega) (by unfold low16 at n1; unfold hi16 at n2; omega)
theorem du_none {b:Bool} {R:List UInt8} (hR:R.length % 2=0) (hne:R≠[]) (h:du (ul16 b R)=none):Nok (d1 (eb b) R):=by
 match R,hR,h with
 | [],_,_=>exact (hne rfl).elim
 | [x],hR,_=>simp at hR
 | x::y::r,hR,h =>
  have hu:=u16_rng b x y
  simp only [List.length_cons] at hR
  rw [d1_un]
  simp only [ul16] at h
  rw [du_cons] at h
  split at h
  ·rename_i n1; exact d16_low hu n1
  split at h
  ·rename_i n1 n2
   match r,hR,h with
   | [],_,_=>exact d16_nopair hu (u16_rng b _ _) n2 (.inl (by simp))
   | [z],hR,h=>simp at hR
   | z::w::r,hR,h =>
    simp only [ul16] at h
    split at h
    ·cases h
    ·rename_i n3
     exact d16_nopair hu (u16_rng b _ _) n2 (.inr (by unfold low16 at n3; simp only [List.getD_cons_zero,List.getD_cons_succ]; omega))
  ·cases h
theorem p7_next {β γ:Ren} (pp:P7 β) (hn:γ.length=90) (s:SmF β γ) (hl:gI β 23 < gI β 21) (h:gI γ 23=gI β 23 + 2):P7 γ:=by
 have e1:=pp.e21; have e2:=pp.e23; have:=pp.p.i23
 have s5:=s.1.2.2.2.2.1
 exact ⟨p6_next pp.p hn s.1 (by omega) (by omega) h,by omega,by omega⟩
theorem ub_R6 {β:Ren} (p:P6 β) {k:Int} (h0:0≤k) (hk:gI β 23 + k < gI β 21):(((R6 β).getD k.toNat 0).toNat:Int)=ub β k:=by
 have:=p.i20; have:=p.i21; have:=p.le; have:=p.i23
 unfold ub R6
 simp only [List.getD_eq_getElem?_getD]
 rw [List.getElem?_drop,List.getElem?_take,if_pos (by omega),show (gI β 20 + gI β 23).toNat + k.toNat=(gI β 20 + (gI β 23 + k)).toNat from by omega]
theorem ul16_R6 {β:Ren} (pp:P7 β) (hl:gI β 23 < gI β 21) {b:Bool} (hb:gB β 85=b):ul16 b (R6 β)=ub2 β::ul16 b ((R6 β).drop 2):=by
 have e1:=pp.e21; have e2:=pp.e23; have:=pp.p.i23
 have hlen:=R6_len pp.p
 have u0:=ub_R6 pp.p (k:=0) (by omega) (by omega)
 have u1:=ub_R6 pp.p (k:=1) (by omega) (by omega)
 unfold ub2
 rw [← u0,← u1,hb]
 generalize R6 β=R at hlen ⊢
 match R,hlen with
 | [],hlen=>simp at hlen; omega
 | [x],hlen=>simp at hlen; omega
 | x::y::r,_=>rfl
theorem loop7S_law {w0:W0} {Q:Exit→Act→World→Prop} (b:Bool):∀ (m:Nat) (O:List Int) (β:Ren) (a:Act) (w:World),(gI β 21 - gI β 23).toNat≤m→P7 β→gB β 85=b→Num6 O β→gI β 31≤gI β 23→HR w0 β t7S.heap w→FS β (ntmps 7) t7S.frame a →
    (∀ β1 a' w',Ln β1→SmF β β1→Num6 (O++ul16 b (R6 β)) β1→HR w0 β1 t7S.heap w'→FS β1 (ntmps 7) t7S.frame a'→Q (.exit 0) a' w')→wpL Tryd.prog loop7 Q a w:=by
 intro m
 induction m with
 | zero =>
  intro O β a w hm pp hb o h4 hH hF h1
  have p:=pp.p
  have h5:=o.l
  refine wpL_round (wp_of_tre (E:=E7 t7S) (G:=Gd7 O6 (fun a b=>NumEq a b) β) noNum callOkG follows (by show (tre7 t7S []).Holds _ _; rw [lit_e7s_eq]; exact hold_e7s pp ⟨⟨by omega,o.c⟩,o.d,h4⟩) p.n.2 hH (Facts.nil _) hF ?_ (fun r s c h=>by rcases h with h | h <;> cases h) (fun j i β1 β2 h=>h.elim) (fun r s h=>by rcases h with h | h <;> cases h) (fun f s h=>by cases h))
  intro j e tp β1 a' w' hft q1 q2 q3
  have hl:β1.length=tp.m:=by rw [q1.len]; exact heapOf_size _ _
  cases e with
  | normal=>cases hft; obtain ⟨_,h,_⟩:=q3; omega
  | ret=>cases hft
  | exit id =>
   match id,hft with
   | 0,hft =>
    cases hft
    obtain ⟨s,h,e1,e2,e3,e4⟩:=q3
    exact h1 β1 a' w' (p.n.of s.1.1 hl) s (by rw [r6_nil p h]; show Num6 (O++[]) _; rw [List.append_nil]; exact ⟨by unfold O6; rw [e2,e3]; exact o.b,by rw [e3]; exact o.l,by rw [e3,e4]; exact o.c,by rw [e4,e2]; exact o.d⟩) q1 q2
 | succ m ih =>
  intro O β a w hm pp hb o h4 hH hF h1
  have p:=pp.p
  have h5:=o.l
  refine wpL_round (wp_of_tre (E:=E7 t7S) (G:=Gd7 O6 (fun a b=>NumEq a b) β) noNum callOkG follows (by show (tre7 t7S []).Holds _ _; rw [lit_e7s_eq]; exact hold_e7s pp ⟨⟨by omega,o.c⟩,o.d,h4⟩) p.n.2 hH (Facts.nil _) hF ?_ (fun r s c h=>by rcases h with h | h <;> cases h) (fun j i β1 β2 h=>h.elim) (fun r s h=>by rcases h with h | h <;> cases h) (fun f s h=>by cases h))
  intro j e tp β1 a' w' hft q1 q2 q3
  have hl:β1.length=tp.m:=by rw [q1.len]; exact heapOf_size _ _
  cases e with
  | normal =>
   cases hft
   obtain ⟨s,h,h23,e1,e2,e3,e4⟩:=q3
   rw [o.b] at e1 e2
   have s5:=s.1.2.2.2.2.1
   have hr:=r6_next p s.1 (by omega) h23
   rw [List.length_append] at e2
   simp only [List.length_singleton] at e2
   refine ih (O++[ub2 β]) β1 a' w' (by omega) (p7_next pp hl s h h23) (s.2.trans hb) ⟨e1,by rw [e2,List.length_append]; rfl,e3,e4⟩ (by omega) q1 q2 ?_
   intro β2 a2 w2 hn2 s2 o2 r1 r2
   refine h1 β2 a2 w2 hn2 (s.trans s2) ?_ r1 r2
   rw [ul16_R6 pp h hb]
   have:R6 β1=(R6 β).drop 2:=hr
   rw [← this]
   simpa using o2
  | ret=>cases hft
  | exit id =>
   match id,hft with
   | 0,hft =>
    cases hft
    obtain ⟨s,h,e1,e2,e3,e4⟩:=q3
    exact h1 β1 a' w' (p.n.of s.1.1 hl) s (by rw [r6_nil p h]; show Num6 (O++[]) _; rw [List.append_nil]; exact ⟨by unfold O6; rw [e2,e3]; exact o.b,by rw [e3]; exact o.l,by rw [e3,e4]; exact o.c,by rw [e4,e2]; exact o.d⟩) q1 q2
theorem loop7N_law {w0:W0} {Q:Exit→Act→World→Prop} (b:Bool) (β:Ren) (a:Act) (w:World) (pp:P7 β) (hb:gB β 85=b) (hH:HR w0 β t7N.heap w) (hF:FS β (ntmps 7) t7N.frame a)
    (h0:∀ β1 a' w',Ln β1→SmF β β1→R6 β=[]→HR w0 β1 t7N.heap w'→FS β1 (ntmps 7) t7N.frame a'→Q (.exit 0) a' w')
    (h1:∀ β1 a' w',Ln β1→SmF β β1→R6 β≠[]→Num6 (ul16 b (R6 β)) β1→HR w0 β1 t7S.heap w'→FS β1 (ntmps 7) t7S.frame a'→Q (.exit 0) a' w'):wpL Tryd.prog loop7 Q a w:=by
 have p:=pp.p
 refine wpL_round (wp_of_tre (E:=E7 t7N) (G:=Gd7 (fun _=>[]) (fun _ _=>True) β) noNum callOkG follows (by show (tre7 t7N []).Holds _ _; rw [lit_e7n_eq]; exact hold_e7n pp) p.n.2 hH (Facts.nil _) hF ?_ (fun r s c h=>by rcases h with h | h <;> cases h) (fun j i β1 β2 h=>h.elim) (fun r s h=>by rcases h with h | h <;> cases h) (fun f s h=>by cases h))
 intro j e tp β1 a' w' hft q1 q2 q3
 have hl:β1.length=tp.m:=by rw [q1.len]; exact heapOf_size _ _
 cases e with
 | normal =>
  cases hft
  obtain ⟨s,h,h23,e1,e2,e3,e4⟩:=q3
  have hr:=r6_next p s.1 (by omega) h23
  have:=p.i23
  rw [List.nil_append] at e1 e2
  refine loop7S_law b _ [ub2 β] β1 a' w' (Nat.le_refl _) (p7_next pp hl s h h23) (s.2.trans hb) ⟨e1,e2,e3,e4⟩ (by rw [e2]; simp; omega) q1 q2 ?_
  intro β2 a2 w2 hn2 s2 o2 r1 r2
  refine h1 β2 a2 w2 hn2 (s.trans s2) (r6_ne p h) ?_ r1 r2
  rw [ul16_R6 pp h hb]
  have:R6 β1=(R6 β).drop 2:=hr
  rw [← this]
  simpa using o2
 | ret=>cases hft
 | exit id =>
  match id,hft with
  | 0,hft =>
   cases hft
   obtain ⟨s,h,_⟩:=q3
   exact h0 β1 a' w' (p.n.of s.1.1 hl) s (r6_nil p h) q1 q2
structure Num8 (O:List Int) (γ:Ren):Prop where
 b:O8 γ=O
 l:gI γ 35=(O.length:Int)
 c:gI γ 35≤gI γ 36
 d:gI γ 36≤(gN γ 37).length
theorem pe_next8 {β γ:Ren} {k:Int} (p:PE β) (hn:γ.length=90) (s:SmE β γ) (hk:1≤k) (h:gI γ 23=gI β 23 + k) (h2:gI γ 23≤gI β 31):PE γ:=by
 obtain ⟨s1,s2,s3,s4⟩:=s
 have:=p.i23
 exact ⟨p.n.of s1 hn,by omega,by rw [s4]; exact p.i31,by rw [s3,s4]; exact p.len,by rw [s3,s4]; exact p.el⟩
theorem rest_next8 {β γ:Ren} {k:Int} (p:PE β) (s:SmE β γ) (hk:1≤k) (h:gI γ 23=gI β 23 + k):restN γ=(restN β).drop k.toNat:=by
 obtain ⟨s1,s2,s3,s4⟩:=s
 have:=p.i23
 unfold restN
 rw [s3,s4,h,List.drop_drop]
 congr 1
 omega
theorem loop8S_law {w0:W0} {Q:Exit→Act→World→Prop} (b:Bool):∀ (m:Nat) (O:List Int) (R:List UInt8) (β:Ren) (a:Act) (w:World),(gI β 31 - gI β 23).toNat≤m→PE β→R.length % 2=0→restN β=ul16 b R→Num8 O β→gI β 35≤gI β 23→HR w0 β t7cS.heap w→FS β (ntmps 7) t7cS.frame a →
    (∀ β1 a' w' cs,Ln β1→SmG β β1→DC (eb b) R cs []→Num8 (O++cs) β1→HR w0 β1 t7cS.heap w'→FS β1 (ntmps 7) t7cS.frame a'→Q (.exit 2) a' w') →
    (∀ β1 a' w',Ln β1→SmD β β1→BadC (eb b) R→HR w0 β1 t7f.heap w'→FS β1 (ntmps 7) t7f.frame a'→Q .ret a' w')→wpL Tryd.prog loop7c Q a w:=by
 intro m
 induction m with
 | zero =>
  intro O R β a w hm p hR hu o h4 hH hF h1 h2
  have h5:=o.l
  refine wpL_round (wp_of_tre (E:=E7c t7cS) (G:=Gd8 O8 (fun a b=>NumE2 a b) β) noNum callOkG follows (by show (tre7c t7cS []).Holds _ _; rw [lit_e7cs_eq]; exact hold_e7cs p ⟨⟨by omega,o.c⟩,o.d,h4⟩) p.n.2 hH (Facts.nil _) hF ?_ (fun r s c h=>by rcases h with h | h <;> cases h) (fun j i β1 β2 h=>h.elim) (fun r s h=>by rcases h with h | h <;> cases h) (fun f s h=>by cases h))
  intro j e tp β1 a' w' hft q1 q2 q3
  have hl:β1.length=tp.m:=by rw [q1.len]; exact heapOf_size _ _
  cases e with
  | normal=>cases hft; obtain ⟨_,h,_⟩:=q3; omega
  | ret=>cases hft; obtain ⟨_,h,_⟩:=q3; omega
  | exit id =>
   match id,hft with
   | 2,hft =>
    cases hft
    obtain ⟨s,h,e1,e2,e3,e4⟩:=q3
    have hR0:R=[]:=by
     rw [restN_nil h p] at hu
     match R,hR,hu with
     | [],_,_=>rfl
     | [x],hR,_=>simp at hR
     | x::y::r,_,hu=>simp [ul16] at hu
    subst hR0
    exact h1 β1 a' w' [] (p.n.of s.1.1 hl) s (.nil _) (by rw [List.append_nil]; exact ⟨by unfold O8; rw [e2,e3]; exact o.b,by rw [e3]; exact o.l,by rw [e3,e4]; exact o.c,by rw [e4,e2]; exact o.d⟩) q1 q2
 | succ m ih =>
  intro O R β a w hm p hR hu o h4 hH hF h1 h2
  have h5:=o.l
  refine wpL_round (wp_of_tre (E:=E7c t7cS) (G:=Gd8 O8 (fun a b=>NumE2 a b) β) noNum callOkG follows (by show (tre7c t7cS []).Holds _ _; rw [lit_e7cs_eq]; exact hold_e7cs p ⟨⟨by omega,o.c⟩,o.d,h4⟩) p.n.2 hH (Facts.nil _) hF ?_ (fun r s c h=>by rcases h with h | h <;> cases h) (fun j i β1 β2 h=>h.elim) (fun r s h=>by rcases h with h | h <;> cases h) (fun f s h=>by cases h))
  intro j e tp β1 a' w' hft q1 q2 q3
  have hl:β1.length=tp.m:=by rw [q1.len]; exact heapOf_size _ _
  have hne:gI β 23 < gI β 31→R≠[]:=by
   intro h e
   rw [restN_cons p h,e] at hu
   cases hu
  cases e with
  | normal =>
   cases hft
   obtain ⟨s,h,v,k,hd,hk,h23,h23b,e1,e2,e3,e4⟩:=q3
   rw [o.b] at e1 e2
   have s4:=s.2.2.2.2
   rw [hu] at hd
   obtain ⟨d1',d2,d3,d4⟩:=du_some hR hd
   rw [List.length_append] at e2
   simp only [List.length_singleton] at e2
   refine ih (O++[v]) (R.drop (2 * k).toNat) β1 a' w' (by omega) (pe_next8 p hl s.2 hk h23 h23b) (by rw [List.length_drop]; omega) (by rw [rest_next8 p s.2 hk h23,hu,d4]) ⟨e1,by rw [e2,List.length_append]; rfl,e3,e4⟩ (by omega) q1 q2 ?_ ?_
   ·intro β2 a2 w2 cs hn2 s2 dc o2 r1 r2
    exact h1 β2 a2 w2 (v::cs) hn2 (s.trans s2) (.cons d1' (by omega) d3 dc) (by simpa using o2) r1 r2
   ·intro β2 a2 w2 hn2 s2 bc r1 r2
    exact h2 β2 a2 w2 hn2 (s.1.trans s2) (.cons d1' (by omega) d3 bc) r1 r2
  | ret =>
   cases hft
   obtain ⟨s,h,hd⟩:=q3
   rw [hu] at hd
   exact h2 β1 a' w' (p.n.of s.1 hl) s ⟨[],R,.nil _,hne h,du_none hR (hne h) hd⟩ q1 q2
  | exit id =>
   match id,hft with
   | 2,hft =>
    cases hft
    obtain ⟨s,h,e1,e2,e3,e4⟩:=q3
    have hR0:R=[]:=by
     rw [restN_nil h p] at hu
     match R,hR,hu with
     | [],_,_=>rfl
     | [x],hR,_=>simp at hR
     | x::y::r,_,hu=>simp [ul16] at hu
    subst hR0
    exact h1 β1 a' w' [] (p.n.of s.1.1 hl) s (.nil _) (by rw [List.append_nil]; exact ⟨by unfold O8; rw [e2,e3]; exact o.b,by rw [e3]; exact o.l,by rw [e3,e4]; exact o.c,by rw [e4,e2]; exact o.d⟩) q1 q2
theorem loop8N_law {w0:W0} {Q:Exit→Act→World→Prop} (b:Bool) (R:List UInt8) (β:Ren) (a:Act) (w:World) (p:PE β) (hR:R.length % 2=0) (hne:R≠[]) (hu:restN β=ul16 b R) (hH:HR w0 β t7cN.heap w) (hF:FS β (ntmps 7) t7cN.frame a)
    (h1:∀ β1 a' w' cs,Ln β1→SmG β β1→DC (eb b) R cs []→cs≠[]→Num8 cs β1→HR w0 β1 t7cS.heap w'→FS β1 (ntmps 7) t7cS.frame a'→Q (.exit 2) a' w')
    (h2:∀ β1 a' w',Ln β1→SmD β β1→BadC (eb b) R→HR w0 β1 t7f.heap w'→FS β1 (ntmps 7) t7f.frame a'→Q .ret a' w'):wpL Tryd.prog loop7c Q a w:=by
 refine wpL_round (wp_of_tre (E:=E7c t7cN) (G:=Gd8 (fun _=>[]) (fun _ _=>True) β) noNum callOkG follows (by show (tre7c t7cN []).Holds _ _; rw [lit_e7cn_eq]; exact hold_e7cn p) p.n.2 hH (Facts.nil _) hF ?_ (fun r s c h=>by rcases h with h | h <;> cases h) (fun j i β1 β2 h=>h.elim) (fun r s h=>by rcases h with h | h <;> cases h) (fun f s h=>by cases h))
 intro j e tp β1 a' w' hft q1 q2 q3
 have hl:β1.length=tp.m:=by rw [q1.len]; exact heapOf_size _ _
 cases e with
 | normal =>
  cases hft
  obtain ⟨s,h,v,k,hd,hk,h23,h23b,e1,e2,e3,e4⟩:=q3
  rw [List.nil_append] at e1 e2
  have s4:=s.2.2.2.2
  have:=p.i23
  rw [hu] at hd
  obtain ⟨d1',d2,d3,d4⟩:=du_some hR hd
  refine loop8S_law b _ [v] (R.drop (2 * k).toNat) β1 a' w' (Nat.le_refl _) (pe_next8 p hl s.2 hk h23 h23b) (by rw [List.length_drop]; omega) (by rw [rest_next8 p s.2 hk h23,hu,d4]) ⟨e1,e2,e3,e4⟩ (by rw [e2]; simp; omega) q1 q2 ?_ ?_
  ·intro β2 a2 w2 cs hn2 s2 dc o2 r1 r2
   exact h1 β2 a2 w2 (v::cs) hn2 (s.trans s2) (.cons d1' (by omega) d3 dc) (by simp) (by simpa using o2) r1 r2
  ·intro β2 a2 w2 hn2 s2 bc r1 r2
   exact h2 β2 a2 w2 hn2 (s.1.trans s2) (.cons d1' (by omega) d3 bc) r1 r2
 | ret =>
  cases hft
  obtain ⟨s,h,hd⟩:=q3
  rw [hu] at hd
  exact h2 β1 a' w' (p.n.of s.1 hl) s ⟨[],R,.nil _,hne,du_none hR hne hd⟩ q1 q2
 | exit id =>
  match id,hft with
  | 2,hft =>
   cases hft
   obtain ⟨s,h,_⟩:=q3
   rw [restN_nil h p] at hu
   match R,hR,hne,hu with
   | [],_,hne,_=>exact (hne rfl).elim
   | [x],hR,_,_=>simp at hR
   | x::y::r,_,_,hu=>simp [ul16] at hu
def t7:Tpl:={ m:=90,F:=[(0,sArg),(1,sB (x 85))],H:=[(16,txtB),(73,eofB)],G:=[73] }
def t7a:Tpl:={ m:=90,F:=[(0,sArg),(4,.slice none 0 0),(5,sB (x 84))],H:=[(16,txtB),(73,eofB)],G:=[73] }
def t7b:Tpl:={ m:=90,F:=[(0,sArg),(4,sNum),(5,.bool true)],H:=[(16,txtB),(73,eofB),(30,numB)],G:=[73] }
def sp7:CSpec:={ j:=7,n:=2,tin:=t7,outs:=[(.tuple #[.slice none 0 0,sB (x 84)],t7a,sm6),(.tuple #[sNum,.bool true],t7b,sm6)] }
def sp7L:LSpec:={ j:=5,tin:=t7N,outs:=[(.exit 0,t7N,[]),(.exit 0,t7S,[])] }
def sp8L:LSpec:={ j:=13,tin:=t7cN,outs:=[(.exit 2,t7cS,[]),(.ret,t7f,[])] }
def lt7:Nat→Option LSpec:=fun n=>if n=5 then some sp7L else if n=13 then some sp8L else none
noncomputable def EF7:Env:=EG 7 (fun _=>none) (fun _=>false) (fun _=>none) lt7 (ftab t7a 0) (ftab t7b 1)
noncomputable def tref7:Tre:=tre EF7 2000 (body 7) [] [] t7.frame t7.heap
noncomputable abbrev loopD7:Code:=.loop loop7
noncomputable abbrev loopD7c:Code:=.loop loop7c
def GF7 (β:Ren):Goal where
 J:=fun j γ=>Ln γ∧SmD β γ∧Z6 (eb (gB β 85)) β γ j
 L:=fun j γ=>match j with
  | 5=>P7 γ∧SmF β γ∧gI γ 23=0
  | 13=>PE γ∧SmD β γ∧restN γ=ul16 (gB β 85) (A6 β)∧(A6 β).length % 2=0∧A6 β≠[]
  | _=>False
 O:=fun j i γ γ1=>Ln γ1∧match j with
  | 5=>SmF γ γ1∧(match i with
   | 0=>R6 γ=[]
   | 1=>R6 γ≠[]∧Num6 (ul16 (gB γ 85) (R6 γ)) γ1
   | _=>False)
  | 13=>SmD γ γ1∧(match i with
   | 0=>∃ cs,DC (eb (gB β 85)) (A6 β) cs []∧cs≠[]∧Num8 cs γ1
   | 1=>BadC (eb (gB β 85)) (A6 β)
   | _=>False)
  | _=>False
 W:=fun j c=>(j=5∧c=loopD7)∨(j=13∧c=loopD7c)
theorem A6_len {β:Ren} (p:PA β):((A6 β).length:Int)=gI β 21:=by
 have:=p.i20; have:=p.i21; have:=p.le
 unfold A6; rw [List.length_drop,List.length_take]; omega
theorem fn_rem2 {a:Int} (h:0≤a):IOp.fn .rem a 2=a % 2:=Int.tmod_eq_emod_of_nonneg h
theorem f7_L13 {β γ γ0 β1 γ1:Ren} (p:PA β) (hev:gI β 21 % 2=0) (sF:SmF β γ0) (h23:gI γ0 23=0) (s1:SmF γ0 β1) (hz:R6 γ0≠[]∧Num6 (ul16 (gB γ0 85) (R6 γ0)) β1) (s2:SmD β1 γ1) (hn:Ln γ1)
    (j33:gN γ1 33=gN β1 33) (j31:gI γ1 31=gI β1 31) (j23:gI γ1 23=0):(GF7 β).L 13 γ1:=by
 obtain ⟨hne,o1,o2,o3,o4⟩:=hz
 have hA:=r6_0 sF.1 h23
 have hlen:=A6_len p
 have p21:=p.i21
 have hb:gB γ0 85=gB β 85:=sF.2
 rw [hA,hb] at o1 o2
 rw [hA] at hne
 have hul:=ul16_len (b:=gB β 85) (A6 β)
 have hrest:restN γ1=ul16 (gB β 85) (A6 β):=by
  unfold restN; rw [j33,j31,j23]; exact o1
 refine ⟨⟨hn,by omega,by omega,by rw [j31,j33]; omega,fun k h0 hk=>?_⟩,(sF.1.trans s1.1).trans s2,hrest,by omega,hne⟩
 have hm:(gN γ1 33).getD k.toNat 0 ∈ ul16 (gB β 85) (A6 β):=by
  rw [← o1]; unfold O6
  have hk':k.toNat < ((gN β1 33).take (gI β1 31).toNat).length:=by rw [List.length_take]; omega
  have:(gN γ1 33).getD k.toNat 0=((gN β1 33).take (gI β1 31).toNat)[k.toNat]:=by
   rw [List.getElem_take,List.getD_eq_getElem?_getD,j33,List.getElem?_eq_getElem (by rw [List.length_take] at hk'; omega)]; rfl
  rw [this]; exact List.getElem_mem hk'
 have:=ul16_rng hm
 omega
set_option maxRecDepth 100000
abbrev e7s0:SgT:=[(22,.itm (.var 22)),(21,.itm (.var 21)),(20,.itm (.var 20)),(16,.blk 16),(73,.blk 73)]
abbrev e7s1:SgT:=(74,.blk 74)::(17,.ltm (.var 17))::(84,.btm (.lit false))::e7s0
noncomputable def lit_f7:Tre:=(.fork (lf 0 90 90 (rgs EF7.n t7a) e7s1 [(.eq (.op .rem (.var 21) (.lit 2)) (.lit 1))])
 (.loop 5 90 90 (rgs EF7.n sp7L.tin) loopD7 (SgT.enc ((74,.blk 74)::(17,.ltm (.var 17))::(23,.itm (.lit 0))::(85,.btm (.var 85))::e7s0)) (List.map TB.enc [(.not (.eq (.op .rem (.var 21) (.lit 2)) (.lit 1)))]) (.cons (rgs EF7.n t7N) (lf 0 90 90 (rgs EF7.n t7a) ((74,.blk 74)::(17,.ltm (.var 17))::(84,.btm (.lit true))::e7s0) [])
 (.cons (rgs EF7.n t7S) (.loop 13 90 90 (rgs EF7.n sp8L.tin) loopD7c (SgT.enc ((33,.ntm (.var 33))::(74,.blk 74)::(17,.ltm (.var 17))::(23,.itm (.lit 0))::(32,.itm (.var 32))::(31,.itm (.var 31))::(30,.blk 30)::e7s0)) (List.map TB.enc []) (.cons (rgs EF7.n t7cS) (lf 1 90 90 (rgs EF7.n t7b) ((33,.ntm (.var 37))::(74,.blk 74)::(17,.ltm (.var 17))::(32,.itm (.var 36))::(31,.itm (.var 35))::(30,.blk 34)::e7s0) [])
 (.cons (rgs EF7.n t7f) (lf 0 90 90 (rgs EF7.n t7a) e7s1 [])
 .nil)))
 .nil))))
theorem lit_f7_eq:tref7=lit_f7:=by kernel_rfl
theorem hold_f7 {β:Ren} (p:PA β):lit_f7.Holds (GF7 β) β:=by
 unfold lit_f7
 have hβ:=p.n.1
 have p20:=p.i20; have p21:=p.i21
 refine (fork_of (leaf_o [] hβ ?_) (loop_of [] hβ (by kernel_rfl) (by kernel_rfl) (by kernel_rfl) (by kernel_rfl) (.inl ⟨rfl,rfl⟩) ?_))
 ·intro γ0 hl0 hA hr0 hid0 hI
  simp only [DD] at hA
  have a0:=hA
  simp only [DD] at hI
  obtain ⟨i74,i17,i84,i22,i21,i20,i16,i73⟩:=hI
  rw [fn_rem2 p21.1] at a0
  exact ⟨p.n.of i73 hl0,⟨i73,i16,i17,i20,i21,i22⟩,.inr ⟨Bool.eq_false_iff.2 fun h=>Bool.noConfusion (i84.1 h),bad_odd _ _ _ (Nat.le_refl _) (by have:=A6_len p; omega)⟩⟩
 ·intro γ0 hl0 hA hr0 hid0 hI
  simp only [DD] at hA
  have a0:=hA
  simp only [DD] at hI
  obtain ⟨i74,i17,i23,i85,i22,i21,i20,i16,i73⟩:=hI
  have hn1:Ln γ0:=p.n.of i73 hl0
  have s0:SmF β γ0:=⟨⟨i73,i16,i17,i20,i21,i22⟩,Bool.eq_iff_iff.2 i85⟩
  rw [fn_rem2 p21.1] at a0
  have hL0:(GF7 β).L 5 γ0:=⟨⟨⟨hn1,by omega,by omega,by rw [i17,i20,i21]; exact p.le,by omega⟩,by omega,by omega⟩,s0,i23⟩
  refine ⟨hL0,(outs_cons ?_ (outs_cons ?_ outs_nil))⟩
  ·intro β1 hq1 hO1
   obtain ⟨hn2,s1,hz⟩:=hO1
   have hb1:=hn2.1
   refine (leaf_o [] hb1 ?_)
   ·intro γ1 hl1 hA hr1 hid1 hI
    clear hA
    simp only [DD] at hI
    obtain ⟨j74,j17,j84,j22,j21,j20,j16,j73⟩:=hI
    have s2:SmD β1 γ1:=⟨j73,j16,j17,j20,j21,j22⟩
    exact ⟨hn2.of j73 hl1,(s0.1.trans s1.1).trans s2,.inl ⟨j84.2 trivial,by rw [← r6_0 s0.1 i23]; exact hz⟩⟩
  ·intro β1 hq1 hO1
   obtain ⟨hn2,s1,hz⟩:=hO1
   have hb1:=hn2.1
   refine (loop_of [] hb1 (by kernel_rfl) (by kernel_rfl) (by kernel_rfl) (by kernel_rfl) (.inr ⟨rfl,rfl⟩) ?_)
   ·intro γ1 hl1 hA hr1 hid1 hI
    clear hA
    simp only [DD] at hI
    obtain ⟨j33,j74,j17,j23,j32,j31,j30,j22,j21,j20,j16,j73⟩:=hI
    have hn3:=hn2.of j73 hl1
    have s2:SmD β1 γ1:=⟨j73,j16,j17,j20,j21,j22⟩
    have hL1:(GF7 β).L 13 γ1:=f7_L13 (γ:=β) p (by omega) s0 i23 s1 hz s2 hn3 j33 j31 j23
    refine ⟨hL1,(outs_cons ?_ (outs_cons ?_ outs_nil))⟩
    ·intro β2 hq2 hO2
     obtain ⟨hn4,s3,hy⟩:=hO2
     have hb2:=hn4.1
     refine (leaf_o [] hb2 ?_)
     ·intro γ2 hl2 hA hr2 hid2 hI
      clear hA
      simp only [DD] at hI
      obtain ⟨k33,k74,k17,k32,k31,k30,k22,k21,k20,k16,k73⟩:=hI
      have s4:SmD β2 γ2:=⟨k73,k16,k17,k20,k21,k22⟩
      obtain ⟨cs,y1,y2,y3,y4,y5,y6⟩:=hy
      exact ⟨hn4.of k73 hl2,(((s0.1.trans s1.1).trans s2).trans s3).trans s4,cs,y1,y2,by unfold O6; unfold O8 at y3; rw [k31,k33]; exact y3,by rw [k31]; exact y4,by rw [k31,k32]; exact y5,by rw [k32,k33]; exact y6⟩
    ·intro β2 hq2 hO2
     obtain ⟨hn4,s3,hy⟩:=hO2
     have hb2:=hn4.1
     refine (leaf_o [] hb2 ?_)
     ·intro γ2 hl2 hA hr2 hid2 hI
      clear hA
      simp only [DD] at hI
      obtain ⟨k74,k17,k84,k22,k21,k20,k16,k73⟩:=hI
      have s4:SmD β2 γ2:=⟨k73,k16,k17,k20,k21,k22⟩
      exact ⟨hn4.of k73 hl2,(((s0.1.trans s1.1).trans s2).trans s3).trans s4,.inr ⟨Bool.eq_false_iff.2 fun h=>Bool.noConfusion (k84.1 h),hy⟩⟩
theorem law7 {G:Goal} (hCL:∀ β,G.CL 7 β→PA β) (h0:∀ β β1 i,G.CL 7 β→Ln β1→SmD β β1→Z6 (eb (gB β 85)) β β1 i→G.CO 7 i β β1):CLaw Tryd.prog G 7 sp7:=by
 refine claw_of (E:=EF7) (Gt:=GF7) (fn:=fnAt 7) (c:=body 7) (s:=sp7) noNum callOkG follows (by kernel_rfl) (by kernel_rfl) (by kernel_rfl) (by kernel_rfl) (by kernel_rfl) (by kernel_rfl) ?_ ?_ ?_ ?_ (fun β j i β1 β2 h=>h.1.2) ?_ (fun β f s h=>by cases h)
 ·intro e j tp h
  rcases h with h | h
  ·cases e with
   | normal=>cases h; exact ⟨(fun id h=>by cases h),.tuple #[.slice none 0 0,sB (x 84)],by kernel_rfl,_,rfl⟩
   | ret=>cases h; exact ⟨(fun id h=>by cases h),.tuple #[.slice none 0 0,sB (x 84)],by kernel_rfl,_,rfl⟩
   | exit id=>cases h
  ·cases e with
   | normal=>cases h; exact ⟨(fun id h=>by cases h),.tuple #[sNum,.bool true],by kernel_rfl,_,rfl⟩
   | ret=>cases h; exact ⟨(fun id h=>by cases h),.tuple #[sNum,.bool true],by kernel_rfl,_,rfl⟩
   | exit id=>cases h
 ·intro β hcl hlen hr
  have p:=hCL β hcl
  refine ⟨p.n.2,[],2000,Facts.nil _,?_⟩
  show (tref7).Holds _ β
  rw [lit_f7_eq]
  exact hold_f7 p
 ·intro β j v tp sm β1 hcl hout hlen _ hJ
  obtain ⟨hn,s,z⟩:=hJ
  match j,hout with
  | 0,hout =>
   cases hout
   exact ⟨h0 β β1 0 hcl hn s z,sm6_of s⟩
  | 1,hout =>
   cases hout
   exact ⟨h0 β β1 1 hcl hn s z,sm6_of s⟩
 ·intro β w0 r s c hs hw
  rcases hs with hs | hs
  ·have hs:lt7 r=some s:=hs
   unfold lt7 at hs
   split at hs
   ·cases hs
    have hc:c=loopD7:=by rcases hw with ⟨_,h⟩ | ⟨h,_⟩; exact h; exact absurd h (by decide)
    subst hc
    intro Q b a w hH hF hl hQ
    refine wpL_loop (loop7N_law (gB b 85) b a w hl.1 rfl hH hF ?_ ?_)
    ·intro β1 a' w' hn1 s1 hr q1 q2
     exact hQ 0 (.exit 0) t7N [] rfl β1 a' w' q1 q2 ⟨hn1,s1,hr⟩
    ·intro β1 a' w' hn1 s1 hne ho q1 q2
     exact hQ 1 (.exit 0) t7S [] rfl β1 a' w' q1 q2 ⟨hn1,s1,hne,ho⟩
   split at hs
   ·cases hs
    have hc:c=loopD7c:=by rcases hw with ⟨h,_⟩ | ⟨_,h⟩; exact absurd h (by decide); exact h
    subst hc
    intro Q b a w hH hF hl hQ
    obtain ⟨l1,l2,l3,l4,l5⟩:=hl
    refine wpL_loop (loop8N_law (gB β 85) (A6 β) b a w l1 l4 l5 l3 hH hF ?_ ?_)
    ·intro β1 a' w' cs hn1 s1 dc hne ho q1 q2
     exact hQ 0 (.exit 2) t7cS [] rfl β1 a' w' q1 q2 ⟨hn1,s1.1,cs,dc,hne,ho⟩
    ·intro β1 a' w' hn1 s1 hr q1 q2
     exact hQ 1 .ret t7f [] rfl β1 a' w' q1 q2 ⟨hn1,s1,hr⟩
   ·cases hs
  ·cases hs
 ·intro β r s hs i e tp B hi β1 β2 _
  refine facts_nil_of ?_
  rcases hs with hs | hs
  ·have hs:lt7 r=some s:=hs
   unfold lt7 at hs
   split at hs
   ·cases hs
    match i,hi with
    | 0,hi=>cases hi; rfl
    | 1,hi=>cases hi; rfl
   split at hs
   ·cases hs
    match i,hi with
    | 0,hi=>cases hi; rfl
    | 1,hi=>cases hi; rfl
   ·cases hs
  ·cases hs
set_option maxRecDepth 100000
def okF3:FuncId→Bool:=fun f=>Nat.ble 3 f && (Nat.ble f 50 && !([3,4,5,6,7,9,12,13,17,21,22,31,42,48,49].contains f))
noncomputable def callF3:ACall:=acall Tryd.prog g0 puG okF3 noprim 1000 8
noncomputable def EGF (f:Nat) (ct:FuncId→Option CSpec) (rc:Nat→Bool) (bt lt:Nat→Option LSpec) (ft ft2:AExit→Option (Nat × Tpl)):Env:={ EG f ct rc bt lt ft ft2 with call:=callF3,orc:=theOrc Tryd.prog puG g0 callF3 (ntmps f) }
def sTxt:Value:=sL 16 (Z 0) (x 18) (x 72)
def t5:Tpl:={ m:=90,F:=[(0,sTxt)],H:=[(16,txtB),(73,eofB)],G:=[73] }
def t5o:Tpl:={ m:=90,F:=[(0,sTxt),(2,I 87 1 3),(3,I 88 0 3)],H:=[(16,txtB),(73,eofB)],G:=[73] }
def sm5:List (Nat × Nat):=[(16,0),(17,2),(18,1),(72,1),(73,0)]
def sp5:CSpec:={ j:=5,n:=1,tin:=t5,outs:=[(.tuple #[I 87 1 3,I 88 0 3],t5o,sm5)] }
noncomputable def EF5:Env:=EGF 5 (fun _=>none) (fun _=>false) (fun _=>none) (fun _=>none) (ftab t5o 0) (fun _=>none)
noncomputable def tref5:Tre:=tre EF5 2000 (body 5) [] [] t5.frame t5.heap
def t3:Tpl:={ m:=90,F:=[(0,sTxt)],H:=[(16,txtB),(73,eofB)],G:=[73] }
def t3L:Tpl:={ m:=90,F:=[(0,sTxt),(5,sNum),(6,sB (x 84)),(40,sNum),(41,I 31 0 1125899906842624),(42,i23)],H:=[(16,txtB),(73,eofB),(30,numB)],G:=[73] }
def t3X:Tpl:={ m:=90,F:=[(0,sTxt),(5,sNum),(6,sB (x 84))],H:=[(16,txtB),(73,eofB),(30,numB)],G:=[73] }
def t3r:Tpl:={ m:=90,F:=[(2,.bool true)],H:=[(73,eofB)],G:=[73] }
def t3o:Tpl:={ m:=90,F:=[(2,sB (x 86))],H:=[(73,eofB)],G:=[73] }
def ft3:AExit→Option (Nat × Tpl):=fun e=>match e with
 | .normal=>some (0,t3L)
 | .exit 0=>some (1,t3X)
 | .ret=>some (2,t3r)
 | _=>none
noncomputable def loop3:Code:=(findLoop 10 100 (body 3)).getD .skip
noncomputable def E3L:Env:=EGF 3 (fun _=>none) (fun _=>false) (fun _=>none) (fun _=>none) ft3 (fun _=>none)
noncomputable def tre3L:Tre:=tre E3L 2000 loop3 [] [] t3L.frame t3L.heap
def sp3L:LSpec:={ j:=10,tin:=t3L,outs:=[(.exit 0,t3X,[]),(.ret,t3r,[])] }
def lt3:Nat→Option LSpec:=fun n=>if n=10 then some sp3L else none
def ct3 (s9:CSpec):FuncId→Option CSpec:=fun f=>if f=5 then some sp5 else if f=6 then some sp6 else if f=7 then some sp7 else if f=9 then some s9 else if f=11 then some sp11 else none
def rc3:Nat→Bool:=fun n=>Nat.beq n 5 || (Nat.beq n 6 || (Nat.beq n 8 || (Nat.beq n 16 || Nat.beq n 19)))
noncomputable def EF3 (s9:CSpec):Env:=EGF 3 (ct3 s9) rc3 (fun _=>none) lt3 (ftab t3o 0) (fun _=>none)
noncomputable def tref3 (s9:CSpec):Tre:=tre (EF3 s9) 4000 (body 3) [] [] t3.frame t3.heap
end U
