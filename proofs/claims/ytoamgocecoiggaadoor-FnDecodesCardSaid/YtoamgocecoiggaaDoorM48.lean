-- the statement of this claim: see YtoamgocecoiggaaDoorRw
import Derived.Test.YtoamgocecoiggaaDoorM47
set_option linter.unusedVariables false
set_option linter.unusedSimpArgs false
open Go Go.SM Go.Proofs
namespace U
set_option maxRecDepth 100000
theorem mk_rg {T:List UInt8} {e w:Int} (h:MkW T e w):1≤e∧e≤3∧0≤w∧w≤T.length:=by
 obtain ⟨a,b,c⟩:=h
 rcases c with ⟨h,_⟩ | ⟨_,bom,_,c⟩
 ·exact (h rfl).elim
 ·refine ⟨?_,?_,a,b⟩ <;> (rcases c with c | c | c | c <;> omega)
theorem j9_le {T:List UInt8} {γ:Ren} (h:J9 T γ):gI γ 80≤(gL γ 82).length:=by
 obtain ⟨_,_,_,_,h⟩:=h; exact h
theorem PT.pt9 {a b γ:Ren} (p:PT a) (hn:Ln γ) (s:SmT a b) (h17:gL γ 17=gL b 17) (h18:gI γ 18=gI b 18):PT γ∧T0 γ=T0 a:=by
 obtain ⟨_,_,s1,s2,_⟩:=s
 exact ⟨⟨hn,by rw [h18,s2]; exact p.i18,by rw [h18,s2,h17,s1]; exact p.l17⟩,by unfold T0; rw [h17,h18,s1,s2]⟩
theorem PE.pl {a b γ:Ren} (p:PE a) (hn:Ln γ) (s:SmE a b) (h33:gN γ 33=gN b 33) (h31:gI γ 31=gI b 31):PL γ:=by
 obtain ⟨_,_,s1,s2⟩:=s
 have:=p.i23; have:=p.i31
 exact ⟨hn,by omega,by rw [h31,s2,h33,s1]; exact p.len,by rw [h31,s2,h33,s1]; exact p.el⟩
theorem nl_of {a b γ:Ren} (s:SmE a b) (h23:gI a 23=0) (h33:gN γ 33=gN b 33) (h31:gI γ 31=gI b 31):NL γ=restN a:=by
 obtain ⟨_,_,s1,s2⟩:=s
 unfold NL restN; rw [h33,h31,s1,s2,h23]; rfl
theorem ans_eq {T:List UInt8} {cs:List Int} {a c:Ren} {b:Bool} (D:DecT T cs) (hz:J9 T a) (hy:OutE (encs cs) c∧cs≠[]) (h:b=true↔List.drop (Int.toNat 0) (List.take (gI a 80).toNat (gL a 82))=List.drop (Int.toNat 0) (List.take (gI c 80).toNat (gL c 82))):b=true:=by
 obtain ⟨ds,z1,z2,z3⟩:=hz
 have e:=dec_fsu D z1
 subst e
 refine h.2 ?_
 show List.take _ _=List.take _ _
 rw [z3.1]; exact hy.1.b.symm
theorem no84 {T:List UInt8} {cs:List Int} {γ:Ren} {b b0:Bool} (D:DecT T cs) (hz:J9 T γ) (nf:∀ c ∈ cs,c≠65279) (t:b0=true) (h:b=true↔b0=true∧∀ c ∈ cs,Prs c) (hn:¬ b=true):False:=by
 obtain ⟨ds,z1,z2,z3⟩:=hz
 have e:=dec_fsu D z1
 subst e
 exact hn (h.2 ⟨t,fun c hc=>⟨fsu_prn z1 c hc,nf c hc⟩⟩)
theorem nil_0 {T:List UInt8} {b:Bool} (r:NilR T b) (hb:¬ b=true) (h:FSu T []):False:=by
 rcases r with ⟨a,_⟩ | ⟨_,a⟩
 ·exact hb a
 ·exact bad_fsu a h
theorem nil_1 {T:List UInt8} {b:Bool} (r:NilR T b) (hb:b=true) (h:FE T):False:=by
 rcases r with ⟨_,a⟩ | ⟨a,_⟩
 ·exact dec_fe a (fun c hc=>(by cases hc)) h
 ·rw [a] at hb; cases hb
theorem nil_2 {T:List UInt8} {b:Bool} {γ:Ren} (r:NilR T b) (hb:¬ b=true) (h:J9 T γ):False:=by
 obtain ⟨ds,z1,z2,z3⟩:=h
 rcases r with ⟨a,_⟩ | ⟨_,a⟩
 ·exact hb a
 ·exact bad_fsu a z1
theorem nil_3 {T:List UInt8} {b:Bool} {γ:Ren} (r:NilR T b) (hb:b=true) (h:J9 T γ):False:=by
 obtain ⟨ds,z1,z2,z3⟩:=h
 rcases r with ⟨_,a⟩ | ⟨a,_⟩
 ·exact z2 (dec_fsu a z1).symm
 ·rw [a] at hb; cases hb
theorem fnsF3:FnsOk Tryd.prog puG okF3:=fnsOk_of (by kernel_rfl)
theorem callOkF3:CallOk Tryd.prog { g:=g0,A:=[],pu:=puG } callF3:=acall_sound noNum follows fnsF3 (noprim_ok _ _) 8
theorem loop3_law {w0:W0} {Q:Exit→Act→World→Prop}:∀ (m:Nat) (β:Ren) (a:Act) (w:World),(gI β 31 - gI β 23).toNat≤m→PE β→HR w0 β t3L.heap w→FS β (ntmps 3) t3L.frame a →
    (∀ β1 a' w',Ln β1→SmT β β1→SmE β β1→(∀ c ∈ restN β,c≠65279)→(gB β1 84=true↔gB β 84=true∧∀ c ∈ restN β,Prs c)→HR w0 β1 t3X.heap w'→FS β1 (ntmps 3) t3X.frame a'→Q (.exit 0) a' w') →
    (∀ β1 a' w',Ln β1→HR w0 β1 t3r.heap w'→FS β1 (ntmps 3) t3r.frame a'→Q .ret a' w')→wpL Tryd.prog loop3 Q a w:=by
 intro m
 induction m with
 | zero =>
  intro β a w hm p hH hF h1 h2
  refine wpL_round (wp_of_tre (E:=E3L) (G:=GL3 β) noNum callOkF3 follows (by show (tre3L).Holds _ _; rw [lit_l3_eq]; exact hold_l3 p) p.n.2 hH (Facts.nil _) hF ?_ (fun r s c h=>by rcases h with h | h <;> cases h) (fun j i β1 β2 h=>h.elim) (fun r s h=>by rcases h with h | h <;> cases h) (fun f s h=>by cases h))
  intro j e tp β1 a' w' hft q1 q2 q3
  have hl:β1.length=tp.m:=by rw [q1.len]; exact heapOf_size _ _
  cases e with
  | normal=>cases hft; obtain ⟨_,_,_,h,_⟩:=q3; omega
  | ret=>cases hft; exact h2 β1 a' w' (p.n.of q3.1 hl) q1 q2
  | exit id =>
   match id,hft with
   | 0,hft =>
    cases hft
    obtain ⟨s,s2,s3,h,e1⟩:=q3
    refine h1 β1 a' w' (p.n.of s.1 hl) s s2 ?_ ?_ q1 q2
    ·rw [restN_nil h p]; intro c hc; cases hc
    ·rw [restN_nil h p,e1]; exact ⟨fun h=>⟨h,fun c hc=>(by cases hc)⟩,fun h=>h.1⟩
 | succ m ih =>
  intro β a w hm p hH hF h1 h2
  refine wpL_round (wp_of_tre (E:=E3L) (G:=GL3 β) noNum callOkF3 follows (by show (tre3L).Holds _ _; rw [lit_l3_eq]; exact hold_l3 p) p.n.2 hH (Facts.nil _) hF ?_ (fun r s c h=>by rcases h with h | h <;> cases h) (fun j i β1 β2 h=>h.elim) (fun r s h=>by rcases h with h | h <;> cases h) (fun f s h=>by cases h))
  intro j e tp β1 a' w' hft q1 q2 q3
  have hl:β1.length=tp.m:=by rw [q1.len]; exact heapOf_size _ _
  cases e with
  | normal =>
   cases hft
   obtain ⟨s,s2,s3,h,hv,h84,h23⟩:=q3
   have s4:=s2.2.2.2
   have hrest:restN β=vE β::restN β1:=by
    rw [restN_cons p h]
    congr 1
    unfold restN; rw [s2.2.2.1,s4,h23]
   refine ih β1 a' w' (by omega) (pe3_next p hl s2 h h23) q1 q2 ?_ h2
   intro β2 a2 w2 hn2 t1 t2 t3 t4 r1 r2
   refine h1 β2 a2 w2 hn2 (s.trans t1) (s2.trans' t2) ?_ ?_ r1 r2
   ·rw [hrest]; intro c hc
    rcases List.mem_cons.1 hc with rfl | hc
    ·exact hv
    ·exact t3 c hc
   ·rw [hrest,t4,h84]
    constructor
    ·rintro ⟨⟨a,b⟩,c⟩
     exact ⟨a,fun x hx=>by rcases List.mem_cons.1 hx with rfl | hx; exact b; exact c x hx⟩
    ·rintro ⟨a,b⟩
     exact ⟨⟨a,b _ (by simp)⟩,fun x hx=>b x (by simp [hx])⟩
  | ret=>cases hft; exact h2 β1 a' w' (p.n.of q3.1 hl) q1 q2
  | exit id =>
   match id,hft with
   | 0,hft =>
    cases hft
    obtain ⟨s,s2,s3,h,e1⟩:=q3
    refine h1 β1 a' w' (p.n.of s.1 hl) s s2 ?_ ?_ q1 q2
    ·rw [restN_nil h p]; intro c hc; cases hc
    ·rw [restN_nil h p,e1]; exact ⟨fun h=>⟨h,fun c hc=>(by cases hc)⟩,fun h=>h.1⟩
theorem hold_f3c {β:Ren} (p:P3 β):lit_f3c.Holds (GF3 β) β:=by
 unfold lit_f3c
 have hβ:=p.n.1
 have p18:=p.i18; have p17:=p.l17; have p72:=p.i72
 refine (fork_of (leaf_o [] hβ ?_) (fork_of (leaf_o [] hβ ?_) (call_of [] hβ (by kernel_rfl) (by kernel_rfl) ?_)))
 ·intro γ0 hl0 hA hr0 hid0 hI
  simp only [DD] at hA
  have a0:=hA
  simp only [DD] at hI
  obtain ⟨i74,i86,i73⟩:=hI
  exact i86.2 trivial
 ·intro γ0 hl0 hA hr0 hid0 hI
  simp only [DD] at hA
  obtain ⟨a0,a1⟩:=hA
  simp only [DD] at hI
  obtain ⟨i74,i86,i73⟩:=hI
  exact i86.2 trivial
 ·intro γ0 hl0 hA hr0 hid0 hI
  simp only [DD] at hA
  obtain ⟨a0,a1⟩:=hA
  simp only [DD] at hI
  obtain ⟨i74,i17,i72,i18,i16,i73⟩:=hI
  have pt0:=p.pt (p.n.of i73 hl0) i17 i18 a0
  have hL0:(GF3 β).CL 5 γ0:=pt0.1
  refine ⟨hL0,(callo_cons ?_ callo_nil)⟩
  ·intro β1 hq1 hO1
   obtain ⟨hn1,hmk⟩:=hO1
   rw [pt0.2] at hmk
   have rr:=mk_rg hmk
   have tl:=T0_len pt0.1
   rw [pt0.2,i18] at tl
   have hb1:=app_len hβ hn1.1
   simp only [Nat.reduceAdd] at hb1
   refine (need_o hb1 ?_ (need_o hb1 ?_ (need_o hb1 ?_ (need_o hb1 ?_ (call_of [] hb1 (by kernel_rfl) (by kernel_rfl) ?_)))))
   iterate 4 (focus (intro hA; simp only [DD,aA hβ,Nat.reduceLT,Nat.reduceLeDiff,Nat.reduceSub] at hA ⊢; omega))
   ·intro γ1 hl1 hA hr1 hid1 hI
    simp only [DD,aA hβ,Nat.reduceLT,Nat.reduceLeDiff,Nat.reduceSub] at hA
    obtain ⟨b0,b1,b2,b3,b4,b5⟩:=hA
    simp only [DD,aA hβ,Nat.reduceLT,Nat.reduceLeDiff,Nat.reduceSub] at hI
    obtain ⟨j74,j17,j22,j21,j20,j16,j73⟩:=hI
    have h18:¬ 1048576 < gI β 18:=by assumption
    have hA6:=p.pa (p.n.of j73 hl1) hmk j17 (by rw [j20]) (by rw [j21]) h18
    have hL1:(GF3 β).CL 6 γ1:=hA6.1
    refine ⟨hL1,(callo_cons ?_ (callo_cons ?_ callo_nil))⟩
    ·intro β2 hq2 hO2
     obtain ⟨hn2,z6⟩:=hO2
     have hb2:=app_len hb1 hn2.1
     simp only [Nat.reduceAdd] at hb2
     refine (fork_of (call_of [] hb2 (by kernel_rfl) (by kernel_rfl) ?_) (call_of [] hb2 (by kernel_rfl) (by kernel_rfl) ?_))
     ·intro γ2 hl2 hA hr2 hid2 hI
      simp only [DD,aA hβ,aA hb1,Nat.reduceLT,Nat.reduceLeDiff,Nat.reduceSub] at hA
      obtain ⟨c0,c1,c2,c3,c4,c5,c6⟩:=hA
      simp only [DD,aA hβ,aA hb1,Nat.reduceLT,Nat.reduceLeDiff,Nat.reduceSub] at hI
      obtain ⟨k74,k17,k85,k22,k21,k20,k16,k73⟩:=hI
      have hA7:=p.pa (p.n.of k73 hl2) hmk k17 (by rw [k20]) (by rw [k21]) h18
      have hb7:=k85
      have hL2:(GF3 β).CL 7 γ2:=hA7.1
      refine ⟨hL2,(callo_cons ?_ (callo_cons ?_ callo_nil))⟩
      ·intro β3 hq3 hO3
       obtain ⟨hn3,z7⟩:=hO3
       have hb3:=app_len hb2 hn3.1
       simp only [Nat.reduceAdd] at hb3
       refine (call_of [] hb3 (by kernel_rfl) (by kernel_rfl) ?_)
       ·intro γ3 hl3 hA hr3 hid3 hI
        simp only [DD,aA hβ,aA hb1,aA hb2,Nat.reduceLT,Nat.reduceLeDiff,Nat.reduceSub] at hA
        obtain ⟨d0,d1,d2,d3,d4,d5,d6⟩:=hA
        simp only [DD,aA hβ,aA hb1,aA hb2,Nat.reduceLT,Nat.reduceLeDiff,Nat.reduceSub] at hI
        obtain ⟨l74,l17,l72,l18,l16,l73⟩:=hI
        have pt9:=p.pt (p.n.of l73 hl3) l17 l18 h18
        have hL3:(GF3 β).CL 9 γ3:=pt9.1
        refine ⟨hL3,(callo_cons ?_ (callo_cons ?_ (callo_cons ?_ callo_nil)))⟩
        ·intro β4 hq4 hO4
         obtain ⟨hn4,hz4⟩:=hO4
         simp only [] at hz4
         rw [pt9.2] at hz4
         have hb4:=app_len hb3 hn4.1
         simp only [Nat.reduceAdd] at hb4
         refine (fork_of (leaf_gen [] hb4 (by kernel_rfl) (by kernel_rfl) ?_) (leaf_gen [] hb4 (by kernel_rfl) (by kernel_rfl) ?_))
         ·intro δ4 γ4 hl4 hA hr4 hid4 hI
          simp only [DD,aA hβ,aA hb1,aA hb2,aA hb3,aL hb4,Nat.reduceLT,Nat.reduceLeDiff,Nat.reduceSub] at hA
          obtain ⟨e0,e1,e2,e3,e4,e5,e6,e7⟩:=hA
          simp only [DD,aA hβ,aA hb1,aA hb2,aA hb3,aL hb4,Nat.reduceLT,Nat.reduceLeDiff,Nat.reduceSub] at hI
          obtain ⟨m74,m86,m73⟩:=hI
          exfalso
          have nr:NilR (T0 β) (gB β3 84):=nr7 hmk (by omega) (by omega) hb7 hA7.2 z7
          exact nil_0 nr (by assumption) hz4
         ·intro δ4 γ4 hl4 hA hr4 hid4 hI
          simp only [DD,aA hβ,aA hb1,aA hb2,aA hb3,aL hb4,Nat.reduceLT,Nat.reduceLeDiff,Nat.reduceSub] at hA
          obtain ⟨e0,e1,e2,e3,e4,e5,e6,e7⟩:=hA
          simp only [DD,aA hβ,aA hb1,aA hb2,aA hb3,aL hb4,Nat.reduceLT,Nat.reduceLeDiff,Nat.reduceSub] at hI
          obtain ⟨m74,m86,m73⟩:=hI
          exact m86.2 trivial
        ·intro β4 hq4 hO4
         obtain ⟨hn4,hz4⟩:=hO4
         simp only [] at hz4
         rw [pt9.2] at hz4
         have hb4:=app_len hb3 hn4.1
         simp only [Nat.reduceAdd] at hb4
         refine (fork_of (leaf_gen [] hb4 (by kernel_rfl) (by kernel_rfl) ?_) (leaf_gen [] hb4 (by kernel_rfl) (by kernel_rfl) ?_))
         ·intro δ4 γ4 hl4 hA hr4 hid4 hI
          simp only [DD,aA hβ,aA hb1,aA hb2,aA hb3,aL hb4,Nat.reduceLT,Nat.reduceLeDiff,Nat.reduceSub] at hA
          obtain ⟨e0,e1,e2,e3,e4,e5,e6,e7⟩:=hA
          simp only [DD,aA hβ,aA hb1,aA hb2,aA hb3,aL hb4,Nat.reduceLT,Nat.reduceLeDiff,Nat.reduceSub] at hI
          obtain ⟨m74,m86,m73⟩:=hI
          exact m86.2 trivial
         ·intro δ4 γ4 hl4 hA hr4 hid4 hI
          simp only [DD,aA hβ,aA hb1,aA hb2,aA hb3,aL hb4,Nat.reduceLT,Nat.reduceLeDiff,Nat.reduceSub] at hA
          obtain ⟨e0,e1,e2,e3,e4,e5,e6,e7⟩:=hA
          simp only [DD,aA hβ,aA hb1,aA hb2,aA hb3,aL hb4,Nat.reduceLT,Nat.reduceLeDiff,Nat.reduceSub] at hI
          obtain ⟨m74,m86,m73⟩:=hI
          exfalso
          have nr:NilR (T0 β) (gB β3 84):=nr7 hmk (by omega) (by omega) hb7 hA7.2 z7
          exact nil_1 nr (by assumption) hz4
        ·intro β4 hq4 hO4
         obtain ⟨hn4,hz4⟩:=hO4
         simp only [] at hz4
         rw [pt9.2] at hz4
         have hb4:=app_len hb3 hn4.1
         simp only [Nat.reduceAdd] at hb4
         refine (fork_of (leaf_gen [] hb4 (by kernel_rfl) (by kernel_rfl) ?_) (need_o hb4 ?_ (leaf_gen [] hb4 (by kernel_rfl) (by kernel_rfl) ?_)))
         ·intro δ4 γ4 hl4 hA hr4 hid4 hI
          simp only [DD,aA hβ,aA hb1,aA hb2,aA hb3,aL hb4,Nat.reduceLT,Nat.reduceLeDiff,Nat.reduceSub] at hA
          obtain ⟨e0,e1,e2,e3,e4,e5,e6,e7⟩:=hA
          simp only [DD,aA hβ,aA hb1,aA hb2,aA hb3,aL hb4,Nat.reduceLT,Nat.reduceLeDiff,Nat.reduceSub] at hI
          obtain ⟨m74,m86,m73⟩:=hI
          exfalso
          have nr:NilR (T0 β) (gB β3 84):=nr7 hmk (by omega) (by omega) hb7 hA7.2 z7
          exact nil_2 nr (by assumption) hz4
         ·intro hA
          simp only [DD,aA hβ,aA hb1,aA hb2,aA hb3,Nat.reduceLT,Nat.reduceLeDiff,Nat.reduceSub] at hA
          obtain ⟨e0,e1,e2,e3,e4,e5,e6,e7⟩:=hA
          simp only [DD,aA hβ,aA hb1,aA hb2,aA hb3,Nat.reduceLT,Nat.reduceLeDiff,Nat.reduceSub]
          have oo:=j9_le hz4
          omega
         ·intro δ4 γ4 hl4 hA hr4 hid4 hI
          simp only [DD,aA hβ,aA hb1,aA hb2,aA hb3,aL hb4,Nat.reduceLT,Nat.reduceLeDiff,Nat.reduceSub] at hA
          obtain ⟨e0,e1,e2,e3,e4,e5,e6,e7,e8⟩:=hA
          simp only [DD,aA hβ,aA hb1,aA hb2,aA hb3,aL hb4,Nat.reduceLT,Nat.reduceLeDiff,Nat.reduceSub] at hI
          obtain ⟨m74,m86,m73⟩:=hI
          exfalso
          have nr:NilR (T0 β) (gB β3 84):=nr7 hmk (by omega) (by omega) hb7 hA7.2 z7
          exact nil_3 nr (by assumption) hz4
      ·intro β3 hq3 hO3
       obtain ⟨hn3,z7⟩:=hO3
       have hb3:=app_len hb2 hn3.1
       simp only [Nat.reduceAdd] at hb3
       refine (loop_of [] hb3 (by kernel_rfl) (by kernel_rfl) (by kernel_rfl) (by kernel_rfl) rfl ?_)
       ·intro γ3 hl3 hA hr3 hid3 hI
        simp only [DD,aA hβ,aA hb1,aA hb2,Nat.reduceLT,Nat.reduceLeDiff,Nat.reduceSub] at hA
        obtain ⟨d0,d1,d2,d3,d4,d5,d6⟩:=hA
        simp only [DD,aA hβ,aA hb1,aA hb2,Nat.reduceLT,Nat.reduceLeDiff,Nat.reduceSub] at hI
        obtain ⟨l33,l74,l17,l23,l84,l32,l31,l30,l72,l18,l16,l73⟩:=hI
        have sr:SomeR (T0 β) β3:=sr7 hmk (by omega) (by omega) hb7 hA7.2 z7
        have hnL:Ln γ3:=p.n.of l73 hl3
        have q9a:=p.pt hnL l17 l18 h18
        have q9b:=someR_L sr (by have:=T0_len q9a.1; rw [q9a.2] at this; have:=q9a.1.i18; omega) hnL l33 l31 l23
        have q23:=l23
        have q9:PE γ3∧PT γ3:=⟨q9b.1,q9a.1⟩
        have hL3:(GF3 β).L 10 γ3:=⟨q9b.1,q9a.1,q9a.2,q23,l84.2 trivial,q9b.2.1,q9b.2.2⟩
        refine ⟨hL3,(outs_cons ?_ (outs_cons ?_ outs_nil))⟩
        ·intro β4 hq4 hO4
         obtain ⟨hn4,lT,lE,nf,h84⟩:=hO4
         have hb4:=hn4.1
         have t84:=hL3.2.2.2.2.1
         have hT9:=hL3.2.2.1
         refine (call_of [] hb4 (by kernel_rfl) (by kernel_rfl) ?_)
         ·intro γ4 hl4 hA hr4 hid4 hI
          clear hA
          simp only [DD] at hI
          obtain ⟨m74,m17,m72,m18,m16,m73⟩:=hI
          have pt9:=q9.2.pt9 (hn4.of m73 hl4) lT m17 m18
          rw [hT9] at pt9
          have hL4:(GF3 β).CL 9 γ4:=pt9.1
          refine ⟨hL4,(callo_cons ?_ (callo_cons ?_ (callo_cons ?_ callo_nil)))⟩
          ·intro β5 hq5 hO5
           obtain ⟨hn5,hz5⟩:=hO5
           simp only [] at hz5
           rw [pt9.2] at hz5
           have hb5:=app_len hb4 hn5.1
           simp only [Nat.reduceAdd] at hb5
           refine (fork_of (leaf_gen [] hb5 (by kernel_rfl) (by kernel_rfl) ?_) (call_gen [] hb5 (by kernel_rfl) (by kernel_rfl) ?_))
           ·intro δ5 γ5 hl5 hA hr5 hid5 hI
            simp only [DD,aA hb4,aL hb5,Nat.reduceLT,Nat.reduceLeDiff,Nat.reduceSub] at hA
            have f0:=hA
            simp only [DD,aA hb4,aL hb5,Nat.reduceLT,Nat.reduceLeDiff,Nat.reduceSub] at hI
            obtain ⟨n74,n86,n73⟩:=hI
            exfalso
            exact q9b.2.2 (dec_fsu q9b.2.1 hz5)
           ·intro δ5 hδ5 γ5 hl5 hA hr5 hid5 hI
            simp only [DD,aA hb4,aL hb5,Nat.reduceLT,Nat.reduceLeDiff,Nat.reduceSub] at hA
            have f0:=hA
            simp only [DD,aA hb4,aL hb5,Nat.reduceLT,Nat.reduceLeDiff,Nat.reduceSub] at hI
            obtain ⟨n74,n33,n32,n31,n30,n73⟩:=hI
            have pl:=q9.1.pl (hn4.of n73 hl5) lE n33 n31
            have hNL:NL γ5=restN γ3:=nl_of lE q23 n33 n31
            have hL5:(GF3 β).CL 11 γ5:=pl
            refine ⟨hL5,(callo_cons ?_ (callo_cons ?_ callo_nil))⟩
            ·intro β6 hq6 hO6
             obtain ⟨hn6,hz6⟩:=hO6
             simp only [] at hz6
             rw [hNL] at hz6
             have hb6:=app_len hδ5 hn6.1
             simp only [Nat.reduceAdd] at hb6
             refine (leaf_o [] hb6 ?_)
             ·intro γ6 hl6 hA hr6 hid6 hI
              simp only [DD,aA hb4,aL hb5,aA hδ5,Nat.reduceLT,Nat.reduceLeDiff,Nat.reduceSub] at hA
              have g0:=hA
              simp only [DD,aA hb4,aL hb5,aA hδ5,Nat.reduceLT,Nat.reduceLeDiff,Nat.reduceSub] at hI
              obtain ⟨J74,J86,J73⟩:=hI
              exact J86.2 trivial
            ·intro β6 hq6 hO6
             obtain ⟨hn6,hz6⟩:=hO6
             simp only [] at hz6
             rw [hNL] at hz6
             have hb6:=app_len hδ5 hn6.1
             simp only [Nat.reduceAdd] at hb6
             refine (need_o hb6 ?_ (leaf_o [] hb6 ?_))
             ·intro hA
              simp only [DD,aA hb4,aL hb5,aA hδ5,Nat.reduceLT,Nat.reduceLeDiff,Nat.reduceSub] at hA
              have g0:=hA
              simp only [DD,aA hb4,aL hb5,aA hδ5,Nat.reduceLT,Nat.reduceLeDiff,Nat.reduceSub]
              have ox:=hz6.1.c; have oy:=hz6.1.d
              omega
             ·intro γ6 hl6 hA hr6 hid6 hI
              simp only [DD,aA hb4,aL hb5,aA hδ5,Nat.reduceLT,Nat.reduceLeDiff,Nat.reduceSub] at hA
              obtain ⟨g0,g1⟩:=hA
              simp only [DD,aA hb4,aL hb5,aA hδ5,Nat.reduceLT,Nat.reduceLeDiff,Nat.reduceSub] at hI
              obtain ⟨J74,J86,J73⟩:=hI
              exfalso
              exact q9b.2.2 (dec_fsu q9b.2.1 hz5)
          ·intro β5 hq5 hO5
           obtain ⟨hn5,hz5⟩:=hO5
           simp only [] at hz5
           rw [pt9.2] at hz5
           have hb5:=app_len hb4 hn5.1
           simp only [Nat.reduceAdd] at hb5
           refine (fork_of (leaf_gen [] hb5 (by kernel_rfl) (by kernel_rfl) ?_) (leaf_gen [] hb5 (by kernel_rfl) (by kernel_rfl) ?_))
           ·intro δ5 γ5 hl5 hA hr5 hid5 hI
            simp only [DD,aA hb4,aL hb5,Nat.reduceLT,Nat.reduceLeDiff,Nat.reduceSub] at hA
            have f0:=hA
            simp only [DD,aA hb4,aL hb5,Nat.reduceLT,Nat.reduceLeDiff,Nat.reduceSub] at hI
            obtain ⟨n74,n86,n73⟩:=hI
            exact n86.2 trivial
           ·intro δ5 γ5 hl5 hA hr5 hid5 hI
            simp only [DD,aA hb4,aL hb5,Nat.reduceLT,Nat.reduceLeDiff,Nat.reduceSub] at hA
            have f0:=hA
            simp only [DD,aA hb4,aL hb5,Nat.reduceLT,Nat.reduceLeDiff,Nat.reduceSub] at hI
            obtain ⟨n74,n86,n73⟩:=hI
            exfalso
            exact dec_fe q9b.2.1 (fun c hc=>(((h84.1 (by assumption)).2 c hc).1)) hz5
          ·intro β5 hq5 hO5
           obtain ⟨hn5,hz5⟩:=hO5
           simp only [] at hz5
           rw [pt9.2] at hz5
           have hb5:=app_len hb4 hn5.1
           simp only [Nat.reduceAdd] at hb5
           refine (fork_of (leaf_gen [] hb5 (by kernel_rfl) (by kernel_rfl) ?_) (call_gen [] hb5 (by kernel_rfl) (by kernel_rfl) ?_))
           ·intro δ5 γ5 hl5 hA hr5 hid5 hI
            simp only [DD,aA hb4,aL hb5,Nat.reduceLT,Nat.reduceLeDiff,Nat.reduceSub] at hA
            have f0:=hA
            simp only [DD,aA hb4,aL hb5,Nat.reduceLT,Nat.reduceLeDiff,Nat.reduceSub] at hI
            obtain ⟨n74,n86,n73⟩:=hI
            exfalso
            exact no84 q9b.2.1 hz5 nf t84 h84 (by assumption)
           ·intro δ5 hδ5 γ5 hl5 hA hr5 hid5 hI
            simp only [DD,aA hb4,aL hb5,Nat.reduceLT,Nat.reduceLeDiff,Nat.reduceSub] at hA
            have f0:=hA
            simp only [DD,aA hb4,aL hb5,Nat.reduceLT,Nat.reduceLeDiff,Nat.reduceSub] at hI
            obtain ⟨n74,n33,n32,n31,n30,n73⟩:=hI
            have pl:=q9.1.pl (hn4.of n73 hl5) lE n33 n31
            have hNL:NL γ5=restN γ3:=nl_of lE q23 n33 n31
            have hL5:(GF3 β).CL 11 γ5:=pl
            refine ⟨hL5,(callo_cons ?_ (callo_cons ?_ callo_nil))⟩
            ·intro β6 hq6 hO6
             obtain ⟨hn6,hz6⟩:=hO6
             simp only [] at hz6
             rw [hNL] at hz6
             have hb6:=app_len hδ5 hn6.1
             simp only [Nat.reduceAdd] at hb6
             refine (need_o hb6 ?_ (leaf_o [] hb6 ?_))
             ·intro hA
              simp only [DD,aA hb4,aL hb5,aA hδ5,Nat.reduceLT,Nat.reduceLeDiff,Nat.reduceSub] at hA
              have g0:=hA
              simp only [DD,aA hb4,aL hb5,aA hδ5,Nat.reduceLT,Nat.reduceLeDiff,Nat.reduceSub]
              have oo:=j9_le hz5
              omega
             ·intro γ6 hl6 hA hr6 hid6 hI
              simp only [DD,aA hb4,aL hb5,aA hδ5,Nat.reduceLT,Nat.reduceLeDiff,Nat.reduceSub] at hA
              obtain ⟨g0,g1⟩:=hA
              simp only [DD,aA hb4,aL hb5,aA hδ5,Nat.reduceLT,Nat.reduceLeDiff,Nat.reduceSub] at hI
              obtain ⟨J74,J86,J73⟩:=hI
              exfalso
              exact q9b.2.2 hz6
            ·intro β6 hq6 hO6
             obtain ⟨hn6,hz6⟩:=hO6
             simp only [] at hz6
             rw [hNL] at hz6
             have hb6:=app_len hδ5 hn6.1
             simp only [Nat.reduceAdd] at hb6
             refine (need_o hb6 ?_ (need_o hb6 ?_ (leaf_o [] hb6 ?_)))
             ·intro hA
              simp only [DD,aA hb4,aL hb5,aA hδ5,Nat.reduceLT,Nat.reduceLeDiff,Nat.reduceSub] at hA
              have g0:=hA
              simp only [DD,aA hb4,aL hb5,aA hδ5,Nat.reduceLT,Nat.reduceLeDiff,Nat.reduceSub]
              have oo:=j9_le hz5
              have ox:=hz6.1.c; have oy:=hz6.1.d
              omega
             ·intro hA
              simp only [DD,aA hb4,aL hb5,aA hδ5,Nat.reduceLT,Nat.reduceLeDiff,Nat.reduceSub] at hA
              obtain ⟨g0,g1⟩:=hA
              simp only [DD,aA hb4,aL hb5,aA hδ5,Nat.reduceLT,Nat.reduceLeDiff,Nat.reduceSub]
              have oo:=j9_le hz5
              have ox:=hz6.1.c; have oy:=hz6.1.d
              omega
             ·intro γ6 hl6 hA hr6 hid6 hI
              simp only [DD,aA hb4,aL hb5,aA hδ5,Nat.reduceLT,Nat.reduceLeDiff,Nat.reduceSub] at hA
              obtain ⟨g0,g1,g2⟩:=hA
              simp only [DD,aA hb4,aL hb5,aA hδ5,Nat.reduceLT,Nat.reduceLeDiff,Nat.reduceSub] at hI
              obtain ⟨J74,J86,J73⟩:=hI
              exact ans_eq q9b.2.1 hz5 hz6 J86
        ·intro β4 hq4 hO4
         obtain ⟨hn4,_⟩:=hO4
         have hb4:=hn4.1
         refine (leaf_o [] hb4 ?_)
         ·intro γ4 hl4 hA hr4 hid4 hI
          clear hA
          simp only [DD] at hI
          obtain ⟨m74,m86,m73⟩:=hI
          exact m86.2 trivial
     ·intro γ2 hl2 hA hr2 hid2 hI
      simp only [DD,aA hβ,aA hb1,Nat.reduceLT,Nat.reduceLeDiff,Nat.reduceSub] at hA
      obtain ⟨c0,c1,c2,c3,c4,c5,c6⟩:=hA
      simp only [DD,aA hβ,aA hb1,Nat.reduceLT,Nat.reduceLeDiff,Nat.reduceSub] at hI
      obtain ⟨k74,k17,k72,k18,k16,k73⟩:=hI
      have pt9:=p.pt (p.n.of k73 hl2) k17 k18 h18
      have hL2:(GF3 β).CL 9 γ2:=pt9.1
      refine ⟨hL2,(callo_cons ?_ (callo_cons ?_ (callo_cons ?_ callo_nil)))⟩
      ·intro β3 hq3 hO3
       obtain ⟨hn3,hz3⟩:=hO3
       simp only [] at hz3
       rw [pt9.2] at hz3
       have hb3:=app_len hb2 hn3.1
       simp only [Nat.reduceAdd] at hb3
       refine (fork_of (leaf_gen [] hb3 (by kernel_rfl) (by kernel_rfl) ?_) (leaf_gen [] hb3 (by kernel_rfl) (by kernel_rfl) ?_))
       ·intro δ3 γ3 hl3 hA hr3 hid3 hI
        simp only [DD,aA hβ,aA hb1,aA hb2,aL hb3,Nat.reduceLT,Nat.reduceLeDiff,Nat.reduceSub] at hA
        obtain ⟨d0,d1,d2,d3,d4,d5,d6,d7⟩:=hA
        simp only [DD,aA hβ,aA hb1,aA hb2,aL hb3,Nat.reduceLT,Nat.reduceLeDiff,Nat.reduceSub] at hI
        obtain ⟨l74,l86,l73⟩:=hI
        exfalso
        have nr:NilR (T0 β) (gB β2 84):=nr6 hmk (by omega) hA6.2 z6
        exact nil_0 nr (by assumption) hz3
       ·intro δ3 γ3 hl3 hA hr3 hid3 hI
        simp only [DD,aA hβ,aA hb1,aA hb2,aL hb3,Nat.reduceLT,Nat.reduceLeDiff,Nat.reduceSub] at hA
        obtain ⟨d0,d1,d2,d3,d4,d5,d6,d7⟩:=hA
        simp only [DD,aA hβ,aA hb1,aA hb2,aL hb3,Nat.reduceLT,Nat.reduceLeDiff,Nat.reduceSub] at hI
        obtain ⟨l74,l86,l73⟩:=hI
        exact l86.2 trivial
      ·intro β3 hq3 hO3
       obtain ⟨hn3,hz3⟩:=hO3
       simp only [] at hz3
       rw [pt9.2] at hz3
       have hb3:=app_len hb2 hn3.1
       simp only [Nat.reduceAdd] at hb3
       refine (fork_of (leaf_gen [] hb3 (by kernel_rfl) (by kernel_rfl) ?_) (leaf_gen [] hb3 (by kernel_rfl) (by kernel_rfl) ?_))
       ·intro δ3 γ3 hl3 hA hr3 hid3 hI
        simp only [DD,aA hβ,aA hb1,aA hb2,aL hb3,Nat.reduceLT,Nat.reduceLeDiff,Nat.reduceSub] at hA
        obtain ⟨d0,d1,d2,d3,d4,d5,d6,d7⟩:=hA
        simp only [DD,aA hβ,aA hb1,aA hb2,aL hb3,Nat.reduceLT,Nat.reduceLeDiff,Nat.reduceSub] at hI
        obtain ⟨l74,l86,l73⟩:=hI
        exact l86.2 trivial
       ·intro δ3 γ3 hl3 hA hr3 hid3 hI
        simp only [DD,aA hβ,aA hb1,aA hb2,aL hb3,Nat.reduceLT,Nat.reduceLeDiff,Nat.reduceSub] at hA
        obtain ⟨d0,d1,d2,d3,d4,d5,d6,d7⟩:=hA
        simp only [DD,aA hβ,aA hb1,aA hb2,aL hb3,Nat.reduceLT,Nat.reduceLeDiff,Nat.reduceSub] at hI
        obtain ⟨l74,l86,l73⟩:=hI
        exfalso
        have nr:NilR (T0 β) (gB β2 84):=nr6 hmk (by omega) hA6.2 z6
        exact nil_1 nr (by assumption) hz3
      ·intro β3 hq3 hO3
       obtain ⟨hn3,hz3⟩:=hO3
       simp only [] at hz3
       rw [pt9.2] at hz3
       have hb3:=app_len hb2 hn3.1
       simp only [Nat.reduceAdd] at hb3
       refine (fork_of (leaf_gen [] hb3 (by kernel_rfl) (by kernel_rfl) ?_) (need_o hb3 ?_ (leaf_gen [] hb3 (by kernel_rfl) (by kernel_rfl) ?_)))
       ·intro δ3 γ3 hl3 hA hr3 hid3 hI
        simp only [DD,aA hβ,aA hb1,aA hb2,aL hb3,Nat.reduceLT,Nat.reduceLeDiff,Nat.reduceSub] at hA
        obtain ⟨d0,d1,d2,d3,d4,d5,d6,d7⟩:=hA
        simp only [DD,aA hβ,aA hb1,aA hb2,aL hb3,Nat.reduceLT,Nat.reduceLeDiff,Nat.reduceSub] at hI
        obtain ⟨l74,l86,l73⟩:=hI
        exfalso
        have nr:NilR (T0 β) (gB β2 84):=nr6 hmk (by omega) hA6.2 z6
        exact nil_2 nr (by assumption) hz3
       ·intro hA
        simp only [DD,aA hβ,aA hb1,aA hb2,Nat.reduceLT,Nat.reduceLeDiff,Nat.reduceSub] at hA
        obtain ⟨d0,d1,d2,d3,d4,d5,d6,d7⟩:=hA
        simp only [DD,aA hβ,aA hb1,aA hb2,Nat.reduceLT,Nat.reduceLeDiff,Nat.reduceSub]
        have oo:=j9_le hz3
        omega
       ·intro δ3 γ3 hl3 hA hr3 hid3 hI
        simp only [DD,aA hβ,aA hb1,aA hb2,aL hb3,Nat.reduceLT,Nat.reduceLeDiff,Nat.reduceSub] at hA
        obtain ⟨d0,d1,d2,d3,d4,d5,d6,d7,d8⟩:=hA
        simp only [DD,aA hβ,aA hb1,aA hb2,aL hb3,Nat.reduceLT,Nat.reduceLeDiff,Nat.reduceSub] at hI
        obtain ⟨l74,l86,l73⟩:=hI
        exfalso
        have nr:NilR (T0 β) (gB β2 84):=nr6 hmk (by omega) hA6.2 z6
        exact nil_3 nr (by assumption) hz3
    ·intro β2 hq2 hO2
     obtain ⟨hn2,z6⟩:=hO2
     have hb2:=app_len hb1 hn2.1
     simp only [Nat.reduceAdd] at hb2
     refine (fork_of (call_of [] hb2 (by kernel_rfl) (by kernel_rfl) ?_) (loop_of [] hb2 (by kernel_rfl) (by kernel_rfl) (by kernel_rfl) (by kernel_rfl) rfl ?_))
     ·intro γ2 hl2 hA hr2 hid2 hI
      simp only [DD,aA hβ,aA hb1,Nat.reduceLT,Nat.reduceLeDiff,Nat.reduceSub] at hA
      obtain ⟨c0,c1,c2,c3,c4,c5,c6⟩:=hA
      simp only [DD,aA hβ,aA hb1,Nat.reduceLT,Nat.reduceLeDiff,Nat.reduceSub] at hI
      obtain ⟨k74,k17,k85,k22,k21,k20,k16,k73⟩:=hI
      have hA7:=p.pa (p.n.of k73 hl2) hmk k17 (by rw [k20]) (by rw [k21]) h18
      have hb7:=k85
      have hL2:(GF3 β).CL 7 γ2:=hA7.1
      refine ⟨hL2,(callo_cons ?_ (callo_cons ?_ callo_nil))⟩
      ·intro β3 hq3 hO3
       obtain ⟨hn3,z7⟩:=hO3
       have hb3:=app_len hb2 hn3.1
       simp only [Nat.reduceAdd] at hb3
       refine (call_of [] hb3 (by kernel_rfl) (by kernel_rfl) ?_)
       ·intro γ3 hl3 hA hr3 hid3 hI
        simp only [DD,aA hβ,aA hb1,aA hb2,Nat.reduceLT,Nat.reduceLeDiff,Nat.reduceSub] at hA
        obtain ⟨d0,d1,d2,d3,d4,d5,d6⟩:=hA
        simp only [DD,aA hβ,aA hb1,aA hb2,Nat.reduceLT,Nat.reduceLeDiff,Nat.reduceSub] at hI
        obtain ⟨l74,l17,l72,l18,l16,l73⟩:=hI
        have pt9:=p.pt (p.n.of l73 hl3) l17 l18 h18
        have hL3:(GF3 β).CL 9 γ3:=pt9.1
        refine ⟨hL3,(callo_cons ?_ (callo_cons ?_ (callo_cons ?_ callo_nil)))⟩
        ·intro β4 hq4 hO4
         obtain ⟨hn4,hz4⟩:=hO4
         simp only [] at hz4
         rw [pt9.2] at hz4
         have hb4:=app_len hb3 hn4.1
         simp only [Nat.reduceAdd] at hb4
         refine (fork_of (leaf_gen [] hb4 (by kernel_rfl) (by kernel_rfl) ?_) (leaf_gen [] hb4 (by kernel_rfl) (by kernel_rfl) ?_))
         ·intro δ4 γ4 hl4 hA hr4 hid4 hI
          simp only [DD,aA hβ,aA hb1,aA hb2,aA hb3,aL hb4,Nat.reduceLT,Nat.reduceLeDiff,Nat.reduceSub] at hA
          obtain ⟨e0,e1,e2,e3,e4,e5,e6,e7⟩:=hA
          simp only [DD,aA hβ,aA hb1,aA hb2,aA hb3,aL hb4,Nat.reduceLT,Nat.reduceLeDiff,Nat.reduceSub] at hI
          obtain ⟨m74,m86,m73⟩:=hI
          exfalso
          have nr:NilR (T0 β) (gB β3 84):=nr7 hmk (by omega) (by omega) hb7 hA7.2 z7
          exact nil_0 nr (by assumption) hz4
         ·intro δ4 γ4 hl4 hA hr4 hid4 hI
          simp only [DD,aA hβ,aA hb1,aA hb2,aA hb3,aL hb4,Nat.reduceLT,Nat.reduceLeDiff,Nat.reduceSub] at hA
          obtain ⟨e0,e1,e2,e3,e4,e5,e6,e7⟩:=hA
          simp only [DD,aA hβ,aA hb1,aA hb2,aA hb3,aL hb4,Nat.reduceLT,Nat.reduceLeDiff,Nat.reduceSub] at hI
          obtain ⟨m74,m86,m73⟩:=hI
          exact m86.2 trivial
        ·intro β4 hq4 hO4
         obtain ⟨hn4,hz4⟩:=hO4
         simp only [] at hz4
         rw [pt9.2] at hz4
         have hb4:=app_len hb3 hn4.1
         simp only [Nat.reduceAdd] at hb4
         refine (fork_of (leaf_gen [] hb4 (by kernel_rfl) (by kernel_rfl) ?_) (leaf_gen [] hb4 (by kernel_rfl) (by kernel_rfl) ?_))
         ·intro δ4 γ4 hl4 hA hr4 hid4 hI
          simp only [DD,aA hβ,aA hb1,aA hb2,aA hb3,aL hb4,Nat.reduceLT,Nat.reduceLeDiff,Nat.reduceSub] at hA
          obtain ⟨e0,e1,e2,e3,e4,e5,e6,e7⟩:=hA
          simp only [DD,aA hβ,aA hb1,aA hb2,aA hb3,aL hb4,Nat.reduceLT,Nat.reduceLeDiff,Nat.reduceSub] at hI
          obtain ⟨m74,m86,m73⟩:=hI
          exact m86.2 trivial
         ·intro δ4 γ4 hl4 hA hr4 hid4 hI
          simp only [DD,aA hβ,aA hb1,aA hb2,aA hb3,aL hb4,Nat.reduceLT,Nat.reduceLeDiff,Nat.reduceSub] at hA
          obtain ⟨e0,e1,e2,e3,e4,e5,e6,e7⟩:=hA
          simp only [DD,aA hβ,aA hb1,aA hb2,aA hb3,aL hb4,Nat.reduceLT,Nat.reduceLeDiff,Nat.reduceSub] at hI
          obtain ⟨m74,m86,m73⟩:=hI
          exfalso
          have nr:NilR (T0 β) (gB β3 84):=nr7 hmk (by omega) (by omega) hb7 hA7.2 z7
          exact nil_1 nr (by assumption) hz4
        ·intro β4 hq4 hO4
         obtain ⟨hn4,hz4⟩:=hO4
         simp only [] at hz4
         rw [pt9.2] at hz4
         have hb4:=app_len hb3 hn4.1
         simp only [Nat.reduceAdd] at hb4
         refine (fork_of (leaf_gen [] hb4 (by kernel_rfl) (by kernel_rfl) ?_) (need_o hb4 ?_ (leaf_gen [] hb4 (by kernel_rfl) (by kernel_rfl) ?_)))
         ·intro δ4 γ4 hl4 hA hr4 hid4 hI
          simp only [DD,aA hβ,aA hb1,aA hb2,aA hb3,aL hb4,Nat.reduceLT,Nat.reduceLeDiff,Nat.reduceSub] at hA
          obtain ⟨e0,e1,e2,e3,e4,e5,e6,e7⟩:=hA
          simp only [DD,aA hβ,aA hb1,aA hb2,aA hb3,aL hb4,Nat.reduceLT,Nat.reduceLeDiff,Nat.reduceSub] at hI
          obtain ⟨m74,m86,m73⟩:=hI
          exfalso
          have nr:NilR (T0 β) (gB β3 84):=nr7 hmk (by omega) (by omega) hb7 hA7.2 z7
          exact nil_2 nr (by assumption) hz4
         ·intro hA
          simp only [DD,aA hβ,aA hb1,aA hb2,aA hb3,Nat.reduceLT,Nat.reduceLeDiff,Nat.reduceSub] at hA
          obtain ⟨e0,e1,e2,e3,e4,e5,e6,e7⟩:=hA
          simp only [DD,aA hβ,aA hb1,aA hb2,aA hb3,Nat.reduceLT,Nat.reduceLeDiff,Nat.reduceSub]
          have oo:=j9_le hz4
          omega
         ·intro δ4 γ4 hl4 hA hr4 hid4 hI
          simp only [DD,aA hβ,aA hb1,aA hb2,aA hb3,aL hb4,Nat.reduceLT,Nat.reduceLeDiff,Nat.reduceSub] at hA
          obtain ⟨e0,e1,e2,e3,e4,e5,e6,e7,e8⟩:=hA
          simp only [DD,aA hβ,aA hb1,aA hb2,aA hb3,aL hb4,Nat.reduceLT,Nat.reduceLeDiff,Nat.reduceSub] at hI
          obtain ⟨m74,m86,m73⟩:=hI
          exfalso
          have nr:NilR (T0 β) (gB β3 84):=nr7 hmk (by omega) (by omega) hb7 hA7.2 z7
          exact nil_3 nr (by assumption) hz4
      ·intro β3 hq3 hO3
       obtain ⟨hn3,z7⟩:=hO3
       have hb3:=app_len hb2 hn3.1
       simp only [Nat.reduceAdd] at hb3
       refine (loop_of [] hb3 (by kernel_rfl) (by kernel_rfl) (by kernel_rfl) (by kernel_rfl) rfl ?_)
       ·intro γ3 hl3 hA hr3 hid3 hI
        simp only [DD,aA hβ,aA hb1,aA hb2,Nat.reduceLT,Nat.reduceLeDiff,Nat.reduceSub] at hA
        obtain ⟨d0,d1,d2,d3,d4,d5,d6⟩:=hA
        simp only [DD,aA hβ,aA hb1,aA hb2,Nat.reduceLT,Nat.reduceLeDiff,Nat.reduceSub] at hI
        obtain ⟨l33,l74,l17,l23,l84,l32,l31,l30,l72,l18,l16,l73⟩:=hI
        have sr:SomeR (T0 β) β3:=sr7 hmk (by omega) (by omega) hb7 hA7.2 z7
        have hnL:Ln γ3:=p.n.of l73 hl3
        have q9a:=p.pt hnL l17 l18 h18
        have q9b:=someR_L sr (by have:=T0_len q9a.1; rw [q9a.2] at this; have:=q9a.1.i18; omega) hnL l33 l31 l23
        have q23:=l23
        have q9:PE γ3∧PT γ3:=⟨q9b.1,q9a.1⟩
        have hL3:(GF3 β).L 10 γ3:=⟨q9b.1,q9a.1,q9a.2,q23,l84.2 trivial,q9b.2.1,q9b.2.2⟩
        refine ⟨hL3,(outs_cons ?_ (outs_cons ?_ outs_nil))⟩
        ·intro β4 hq4 hO4
         obtain ⟨hn4,lT,lE,nf,h84⟩:=hO4
         have hb4:=hn4.1
         have t84:=hL3.2.2.2.2.1
         have hT9:=hL3.2.2.1
         refine (call_of [] hb4 (by kernel_rfl) (by kernel_rfl) ?_)
         ·intro γ4 hl4 hA hr4 hid4 hI
          clear hA
          simp only [DD] at hI
          obtain ⟨m74,m17,m72,m18,m16,m73⟩:=hI
          have pt9:=q9.2.pt9 (hn4.of m73 hl4) lT m17 m18
          rw [hT9] at pt9
          have hL4:(GF3 β).CL 9 γ4:=pt9.1
          refine ⟨hL4,(callo_cons ?_ (callo_cons ?_ (callo_cons ?_ callo_nil)))⟩
          ·intro β5 hq5 hO5
           obtain ⟨hn5,hz5⟩:=hO5
           simp only [] at hz5
           rw [pt9.2] at hz5
           have hb5:=app_len hb4 hn5.1
           simp only [Nat.reduceAdd] at hb5
           refine (fork_of (leaf_gen [] hb5 (by kernel_rfl) (by kernel_rfl) ?_) (call_gen [] hb5 (by kernel_rfl) (by kernel_rfl) ?_))
           ·intro δ5 γ5 hl5 hA hr5 hid5 hI
            simp only [DD,aA hb4,aL hb5,Nat.reduceLT,Nat.reduceLeDiff,Nat.reduceSub] at hA
            have f0:=hA
            simp only [DD,aA hb4,aL hb5,Nat.reduceLT,Nat.reduceLeDiff,Nat.reduceSub] at hI
            obtain ⟨n74,n86,n73⟩:=hI
            exfalso
            exact q9b.2.2 (dec_fsu q9b.2.1 hz5)
           ·intro δ5 hδ5 γ5 hl5 hA hr5 hid5 hI
            simp only [DD,aA hb4,aL hb5,Nat.reduceLT,Nat.reduceLeDiff,Nat.reduceSub] at hA
            have f0:=hA
            simp only [DD,aA hb4,aL hb5,Nat.reduceLT,Nat.reduceLeDiff,Nat.reduceSub] at hI
            obtain ⟨n74,n33,n32,n31,n30,n73⟩:=hI
            have pl:=q9.1.pl (hn4.of n73 hl5) lE n33 n31
            have hNL:NL γ5=restN γ3:=nl_of lE q23 n33 n31
            have hL5:(GF3 β).CL 11 γ5:=pl
            refine ⟨hL5,(callo_cons ?_ (callo_cons ?_ callo_nil))⟩
            ·intro β6 hq6 hO6
             obtain ⟨hn6,hz6⟩:=hO6
             simp only [] at hz6
             rw [hNL] at hz6
             have hb6:=app_len hδ5 hn6.1
             simp only [Nat.reduceAdd] at hb6
             refine (leaf_o [] hb6 ?_)
             ·intro γ6 hl6 hA hr6 hid6 hI
              simp only [DD,aA hb4,aL hb5,aA hδ5,Nat.reduceLT,Nat.reduceLeDiff,Nat.reduceSub] at hA
              have g0:=hA
              simp only [DD,aA hb4,aL hb5,aA hδ5,Nat.reduceLT,Nat.reduceLeDiff,Nat.reduceSub] at hI
              obtain ⟨J74,J86,J73⟩:=hI
              exact J86.2 trivial
            ·intro β6 hq6 hO6
             obtain ⟨hn6,hz6⟩:=hO6
             simp only [] at hz6
             rw [hNL] at hz6
             have hb6:=app_len hδ5 hn6.1
             simp only [Nat.reduceAdd] at hb6
             refine (need_o hb6 ?_ (leaf_o [] hb6 ?_))
             ·intro hA
              simp only [DD,aA hb4,aL hb5,aA hδ5,Nat.reduceLT,Nat.reduceLeDiff,Nat.reduceSub] at hA
              have g0:=hA
              simp only [DD,aA hb4,aL hb5,aA hδ5,Nat.reduceLT,Nat.reduceLeDiff,Nat.reduceSub]
              have ox:=hz6.1.c; have oy:=hz6.1.d
              omega
             ·intro γ6 hl6 hA hr6 hid6 hI
              simp only [DD,aA hb4,aL hb5,aA hδ5,Nat.reduceLT,Nat.reduceLeDiff,Nat.reduceSub] at hA
              obtain ⟨g0,g1⟩:=hA
              simp only [DD,aA hb4,aL hb5,aA hδ5,Nat.reduceLT,Nat.reduceLeDiff,Nat.reduceSub] at hI
              obtain ⟨J74,J86,J73⟩:=hI
              exfalso
              exact q9b.2.2 (dec_fsu q9b.2.1 hz5)
          ·intro β5 hq5 hO5
           obtain ⟨hn5,hz5⟩:=hO5
           simp only [] at hz5
           rw [pt9.2] at hz5
           have hb5:=app_len hb4 hn5.1
           simp only [Nat.reduceAdd] at hb5
           refine (fork_of (leaf_gen [] hb5 (by kernel_rfl) (by kernel_rfl) ?_) (leaf_gen [] hb5 (by kernel_rfl) (by kernel_rfl) ?_))
           ·intro δ5 γ5 hl5 hA hr5 hid5 hI
            simp only [DD,aA hb4,aL hb5,Nat.reduceLT,Nat.reduceLeDiff,Nat.reduceSub] at hA
            have f0:=hA
            simp only [DD,aA hb4,aL hb5,Nat.reduceLT,Nat.reduceLeDiff,Nat.reduceSub] at hI
            obtain ⟨n74,n86,n73⟩:=hI
            exact n86.2 trivial
           ·intro δ5 γ5 hl5 hA hr5 hid5 hI
            simp only [DD,aA hb4,aL hb5,Nat.reduceLT,Nat.reduceLeDiff,Nat.reduceSub] at hA
            have f0:=hA
            simp only [DD,aA hb4,aL hb5,Nat.reduceLT,Nat.reduceLeDiff,Nat.reduceSub] at hI
            obtain ⟨n74,n86,n73⟩:=hI
            exfalso
            exact dec_fe q9b.2.1 (fun c hc=>(((h84.1 (by assumption)).2 c hc).1)) hz5
          ·intro β5 hq5 hO5
           obtain ⟨hn5,hz5⟩:=hO5
           simp only [] at hz5
           rw [pt9.2] at hz5
           have hb5:=app_len hb4 hn5.1
           simp only [Nat.reduceAdd] at hb5
           refine (fork_of (leaf_gen [] hb5 (by kernel_rfl) (by kernel_rfl) ?_) (call_gen [] hb5 (by kernel_rfl) (by kernel_rfl) ?_))
           ·intro δ5 γ5 hl5 hA hr5 hid5 hI
            simp only [DD,aA hb4,aL hb5,Nat.reduceLT,Nat.reduceLeDiff,Nat.reduceSub] at hA
            have f0:=hA
            simp only [DD,aA hb4,aL hb5,Nat.reduceLT,Nat.reduceLeDiff,Nat.reduceSub] at hI
            obtain ⟨n74,n86,n73⟩:=hI
            exfalso
            exact no84 q9b.2.1 hz5 nf t84 h84 (by assumption)
           ·intro δ5 hδ5 γ5 hl5 hA hr5 hid5 hI
            simp only [DD,aA hb4,aL hb5,Nat.reduceLT,Nat.reduceLeDiff,Nat.reduceSub] at hA
            have f0:=hA
            simp only [DD,aA hb4,aL hb5,Nat.reduceLT,Nat.reduceLeDiff,Nat.reduceSub] at hI
            obtain ⟨n74,n33,n32,n31,n30,n73⟩:=hI
            have pl:=q9.1.pl (hn4.of n73 hl5) lE n33 n31
            have hNL:NL γ5=restN γ3:=nl_of lE q23 n33 n31
            have hL5:(GF3 β).CL 11 γ5:=pl
            refine ⟨hL5,(callo_cons ?_ (callo_cons ?_ callo_nil))⟩
            ·intro β6 hq6 hO6
             obtain ⟨hn6,hz6⟩:=hO6
             simp only [] at hz6
             rw [hNL] at hz6
             have hb6:=app_len hδ5 hn6.1
             simp only [Nat.reduceAdd] at hb6
             refine (need_o hb6 ?_ (leaf_o [] hb6 ?_))
             ·intro hA
              simp only [DD,aA hb4,aL hb5,aA hδ5,Nat.reduceLT,Nat.reduceLeDiff,Nat.reduceSub] at hA
              have g0:=hA
              simp only [DD,aA hb4,aL hb5,aA hδ5,Nat.reduceLT,Nat.reduceLeDiff,Nat.reduceSub]
              have oo:=j9_le hz5
              omega
             ·intro γ6 hl6 hA hr6 hid6 hI
              simp only [DD,aA hb4,aL hb5,aA hδ5,Nat.reduceLT,Nat.reduceLeDiff,Nat.reduceSub] at hA
              obtain ⟨g0,g1⟩:=hA
              simp only [DD,aA hb4,aL hb5,aA hδ5,Nat.reduceLT,Nat.reduceLeDiff,Nat.reduceSub] at hI
              obtain ⟨J74,J86,J73⟩:=hI
              exfalso
              exact q9b.2.2 hz6
            ·intro β6 hq6 hO6
             obtain ⟨hn6,hz6⟩:=hO6
             simp only [] at hz6
             rw [hNL] at hz6
             have hb6:=app_len hδ5 hn6.1
             simp only [Nat.reduceAdd] at hb6
             refine (need_o hb6 ?_ (need_o hb6 ?_ (leaf_o [] hb6 ?_)))
             ·intro hA
              simp only [DD,aA hb4,aL hb5,aA hδ5,Nat.reduceLT,Nat.reduceLeDiff,Nat.reduceSub] at hA
              have g0:=hA
              simp only [DD,aA hb4,aL hb5,aA hδ5,Nat.reduceLT,Nat.reduceLeDiff,Nat.reduceSub]
              have oo:=j9_le hz5
              have ox:=hz6.1.c; have oy:=hz6.1.d
              omega
             ·intro hA
              simp only [DD,aA hb4,aL hb5,aA hδ5,Nat.reduceLT,Nat.reduceLeDiff,Nat.reduceSub] at hA
              obtain ⟨g0,g1⟩:=hA
              simp only [DD,aA hb4,aL hb5,aA hδ5,Nat.reduceLT,Nat.reduceLeDiff,Nat.reduceSub]
              have oo:=j9_le hz5
              have ox:=hz6.1.c; have oy:=hz6.1.d
              omega
             ·intro γ6 hl6 hA hr6 hid6 hI
              simp only [DD,aA hb4,aL hb5,aA hδ5,Nat.reduceLT,Nat.reduceLeDiff,Nat.reduceSub] at hA
              obtain ⟨g0,g1,g2⟩:=hA
              simp only [DD,aA hb4,aL hb5,aA hδ5,Nat.reduceLT,Nat.reduceLeDiff,Nat.reduceSub] at hI
              obtain ⟨J74,J86,J73⟩:=hI
              exact ans_eq q9b.2.1 hz5 hz6 J86
        ·intro β4 hq4 hO4
         obtain ⟨hn4,_⟩:=hO4
         have hb4:=hn4.1
         refine (leaf_o [] hb4 ?_)
         ·intro γ4 hl4 hA hr4 hid4 hI
          clear hA
          simp only [DD] at hI
          obtain ⟨m74,m86,m73⟩:=hI
          exact m86.2 trivial
     ·intro γ2 hl2 hA hr2 hid2 hI
      simp only [DD,aA hβ,aA hb1,Nat.reduceLT,Nat.reduceLeDiff,Nat.reduceSub] at hA
      obtain ⟨c0,c1,c2,c3,c4,c5,c6⟩:=hA
      simp only [DD,aA hβ,aA hb1,Nat.reduceLT,Nat.reduceLeDiff,Nat.reduceSub] at hI
      obtain ⟨k33,k74,k17,k23,k84,k32,k31,k30,k72,k18,k16,k73⟩:=hI
      have sr:SomeR (T0 β) β2:=sr6 hmk (by omega) hA6.2 z6
      have hnL:Ln γ2:=p.n.of k73 hl2
      have q9a:=p.pt hnL k17 k18 h18
      have q9b:=someR_L sr (by have:=T0_len q9a.1; rw [q9a.2] at this; have:=q9a.1.i18; omega) hnL k33 k31 k23
      have q23:=k23
      have q9:PE γ2∧PT γ2:=⟨q9b.1,q9a.1⟩
      have hL2:(GF3 β).L 10 γ2:=⟨q9b.1,q9a.1,q9a.2,q23,k84.2 trivial,q9b.2.1,q9b.2.2⟩
      refine ⟨hL2,(outs_cons ?_ (outs_cons ?_ outs_nil))⟩
      ·intro β3 hq3 hO3
       obtain ⟨hn3,lT,lE,nf,h84⟩:=hO3
       have hb3:=hn3.1
       have t84:=hL2.2.2.2.2.1
       have hT9:=hL2.2.2.1
       refine (call_of [] hb3 (by kernel_rfl) (by kernel_rfl) ?_)
       ·intro γ3 hl3 hA hr3 hid3 hI
        clear hA
        simp only [DD] at hI
        obtain ⟨l74,l17,l72,l18,l16,l73⟩:=hI
        have pt9:=q9.2.pt9 (hn3.of l73 hl3) lT l17 l18
        rw [hT9] at pt9
        have hL3:(GF3 β).CL 9 γ3:=pt9.1
        refine ⟨hL3,(callo_cons ?_ (callo_cons ?_ (callo_cons ?_ callo_nil)))⟩
        ·intro β4 hq4 hO4
         obtain ⟨hn4,hz4⟩:=hO4
         simp only [] at hz4
         rw [pt9.2] at hz4
         have hb4:=app_len hb3 hn4.1
         simp only [Nat.reduceAdd] at hb4
         refine (fork_of (leaf_gen [] hb4 (by kernel_rfl) (by kernel_rfl) ?_) (call_gen [] hb4 (by kernel_rfl) (by kernel_rfl) ?_))
         ·intro δ4 γ4 hl4 hA hr4 hid4 hI
          simp only [DD,aA hb3,aL hb4,Nat.reduceLT,Nat.reduceLeDiff,Nat.reduceSub] at hA
          have e0:=hA
          simp only [DD,aA hb3,aL hb4,Nat.reduceLT,Nat.reduceLeDiff,Nat.reduceSub] at hI
          obtain ⟨m74,m86,m73⟩:=hI
          exfalso
          exact q9b.2.2 (dec_fsu q9b.2.1 hz4)
         ·intro δ4 hδ4 γ4 hl4 hA hr4 hid4 hI
          simp only [DD,aA hb3,aL hb4,Nat.reduceLT,Nat.reduceLeDiff,Nat.reduceSub] at hA
          have e0:=hA
          simp only [DD,aA hb3,aL hb4,Nat.reduceLT,Nat.reduceLeDiff,Nat.reduceSub] at hI
          obtain ⟨m74,m33,m32,m31,m30,m73⟩:=hI
          have pl:=q9.1.pl (hn3.of m73 hl4) lE m33 m31
          have hNL:NL γ4=restN γ2:=nl_of lE q23 m33 m31
          have hL4:(GF3 β).CL 11 γ4:=pl
          refine ⟨hL4,(callo_cons ?_ (callo_cons ?_ callo_nil))⟩
          ·intro β5 hq5 hO5
           obtain ⟨hn5,hz5⟩:=hO5
           simp only [] at hz5
           rw [hNL] at hz5
           have hb5:=app_len hδ4 hn5.1
           simp only [Nat.reduceAdd] at hb5
           refine (leaf_o [] hb5 ?_)
           ·intro γ5 hl5 hA hr5 hid5 hI
            simp only [DD,aA hb3,aL hb4,aA hδ4,Nat.reduceLT,Nat.reduceLeDiff,Nat.reduceSub] at hA
            have f0:=hA
            simp only [DD,aA hb3,aL hb4,aA hδ4,Nat.reduceLT,Nat.reduceLeDiff,Nat.reduceSub] at hI
            obtain ⟨n74,n86,n73⟩:=hI
            exact n86.2 trivial
          ·intro β5 hq5 hO5
           obtain ⟨hn5,hz5⟩:=hO5
           simp only [] at hz5
           rw [hNL] at hz5
           have hb5:=app_len hδ4 hn5.1
           simp only [Nat.reduceAdd] at hb5
           refine (need_o hb5 ?_ (leaf_o [] hb5 ?_))
           ·intro hA
            simp only [DD,aA hb3,aL hb4,aA hδ4,Nat.reduceLT,Nat.reduceLeDiff,Nat.reduceSub] at hA
            have f0:=hA
            simp only [DD,aA hb3,aL hb4,aA hδ4,Nat.reduceLT,Nat.reduceLeDiff,Nat.reduceSub]
            have ox:=hz5.1.c; have oy:=hz5.1.d
            omega
           ·intro γ5 hl5 hA hr5 hid5 hI
            simp only [DD,aA hb3,aL hb4,aA hδ4,Nat.reduceLT,Nat.reduceLeDiff,Nat.reduceSub] at hA
            obtain ⟨f0,f1⟩:=hA
            simp only [DD,aA hb3,aL hb4,aA hδ4,Nat.reduceLT,Nat.reduceLeDiff,Nat.reduceSub] at hI
            obtain ⟨n74,n86,n73⟩:=hI
            exfalso
            exact q9b.2.2 (dec_fsu q9b.2.1 hz4)
        ·intro β4 hq4 hO4
         obtain ⟨hn4,hz4⟩:=hO4
         simp only [] at hz4
         rw [pt9.2] at hz4
         have hb4:=app_len hb3 hn4.1
         simp only [Nat.reduceAdd] at hb4
         refine (fork_of (leaf_gen [] hb4 (by kernel_rfl) (by kernel_rfl) ?_) (leaf_gen [] hb4 (by kernel_rfl) (by kernel_rfl) ?_))
         ·intro δ4 γ4 hl4 hA hr4 hid4 hI
          simp only [DD,aA hb3,aL hb4,Nat.reduceLT,Nat.reduceLeDiff,Nat.reduceSub] at hA
          have e0:=hA
          simp only [DD,aA hb3,aL hb4,Nat.reduceLT,Nat.reduceLeDiff,Nat.reduceSub] at hI
          obtain ⟨m74,m86,m73⟩:=hI
          exact m86.2 trivial
         ·intro δ4 γ4 hl4 hA hr4 hid4 hI
          simp only [DD,aA hb3,aL hb4,Nat.reduceLT,Nat.reduceLeDiff,Nat.reduceSub] at hA
          have e0:=hA
          simp only [DD,aA hb3,aL hb4,Nat.reduceLT,Nat.reduceLeDiff,Nat.reduceSub] at hI
          obtain ⟨m74,m86,m73⟩:=hI
          exfalso
          exact dec_fe q9b.2.1 (fun c hc=>(((h84.1 (by assumption)).2 c hc).1)) hz4
        ·intro β4 hq4 hO4
         obtain ⟨hn4,hz4⟩:=hO4
         simp only [] at hz4
         rw [pt9.2] at hz4
         have hb4:=app_len hb3 hn4.1
         simp only [Nat.reduceAdd] at hb4
         refine (fork_of (leaf_gen [] hb4 (by kernel_rfl) (by kernel_rfl) ?_) (call_gen [] hb4 (by kernel_rfl) (by kernel_rfl) ?_))
         ·intro δ4 γ4 hl4 hA hr4 hid4 hI
          simp only [DD,aA hb3,aL hb4,Nat.reduceLT,Nat.reduceLeDiff,Nat.reduceSub] at hA
          have e0:=hA
          simp only [DD,aA hb3,aL hb4,Nat.reduceLT,Nat.reduceLeDiff,Nat.reduceSub] at hI
          obtain ⟨m74,m86,m73⟩:=hI
          exfalso
          exact no84 q9b.2.1 hz4 nf t84 h84 (by assumption)
         ·intro δ4 hδ4 γ4 hl4 hA hr4 hid4 hI
          simp only [DD,aA hb3,aL hb4,Nat.reduceLT,Nat.reduceLeDiff,Nat.reduceSub] at hA
          have e0:=hA
          simp only [DD,aA hb3,aL hb4,Nat.reduceLT,Nat.reduceLeDiff,Nat.reduceSub] at hI
          obtain ⟨m74,m33,m32,m31,m30,m73⟩:=hI
          have pl:=q9.1.pl (hn3.of m73 hl4) lE m33 m31
          have hNL:NL γ4=restN γ2:=nl_of lE q23 m33 m31
          have hL4:(GF3 β).CL 11 γ4:=pl
          refine ⟨hL4,(callo_cons ?_ (callo_cons ?_ callo_nil))⟩
          ·intro β5 hq5 hO5
           obtain ⟨hn5,hz5⟩:=hO5
           simp only [] at hz5
           rw [hNL] at hz5
           have hb5:=app_len hδ4 hn5.1
           simp only [Nat.reduceAdd] at hb5
           refine (need_o hb5 ?_ (leaf_o [] hb5 ?_))
           ·intro hA
            simp only [DD,aA hb3,aL hb4,aA hδ4,Nat.reduceLT,Nat.reduceLeDiff,Nat.reduceSub] at hA
            have f0:=hA
            simp only [DD,aA hb3,aL hb4,aA hδ4,Nat.reduceLT,Nat.reduceLeDiff,Nat.reduceSub]
            have oo:=j9_le hz4
            omega
           ·intro γ5 hl5 hA hr5 hid5 hI
            simp only [DD,aA hb3,aL hb4,aA hδ4,Nat.reduceLT,Nat.reduceLeDiff,Nat.reduceSub] at hA
            obtain ⟨f0,f1⟩:=hA
            simp only [DD,aA hb3,aL hb4,aA hδ4,Nat.reduceLT,Nat.reduceLeDiff,Nat.reduceSub] at hI
            obtain ⟨n74,n86,n73⟩:=hI
            exfalso
            exact q9b.2.2 hz5
          ·intro β5 hq5 hO5
           obtain ⟨hn5,hz5⟩:=hO5
           simp only [] at hz5
           rw [hNL] at hz5
           have hb5:=app_len hδ4 hn5.1
           simp only [Nat.reduceAdd] at hb5
           refine (need_o hb5 ?_ (need_o hb5 ?_ (leaf_o [] hb5 ?_)))
           ·intro hA
            simp only [DD,aA hb3,aL hb4,aA hδ4,Nat.reduceLT,Nat.reduceLeDiff,Nat.reduceSub] at hA
            have f0:=hA
            simp only [DD,aA hb3,aL hb4,aA hδ4,Nat.reduceLT,Nat.reduceLeDiff,Nat.reduceSub]
            have oo:=j9_le hz4
            have ox:=hz5.1.c; have oy:=hz5.1.d
            omega
           ·intro hA
            simp only [DD,aA hb3,aL hb4,aA hδ4,Nat.reduceLT,Nat.reduceLeDiff,Nat.reduceSub] at hA
            obtain ⟨f0,f1⟩:=hA
            simp only [DD,aA hb3,aL hb4,aA hδ4,Nat.reduceLT,Nat.reduceLeDiff,Nat.reduceSub]
            have oo:=j9_le hz4
            have ox:=hz5.1.c; have oy:=hz5.1.d
            omega
           ·intro γ5 hl5 hA hr5 hid5 hI
            simp only [DD,aA hb3,aL hb4,aA hδ4,Nat.reduceLT,Nat.reduceLeDiff,Nat.reduceSub] at hA
            obtain ⟨f0,f1,f2⟩:=hA
            simp only [DD,aA hb3,aL hb4,aA hδ4,Nat.reduceLT,Nat.reduceLeDiff,Nat.reduceSub] at hI
            obtain ⟨n74,n86,n73⟩:=hI
            exact ans_eq q9b.2.1 hz4 hz5 n86
      ·intro β3 hq3 hO3
       obtain ⟨hn3,_⟩:=hO3
       have hb3:=hn3.1
       refine (leaf_o [] hb3 ?_)
       ·intro γ3 hl3 hA hr3 hid3 hI
        clear hA
        simp only [DD] at hI
        obtain ⟨l74,l86,l73⟩:=hI
        exact l86.2 trivial
end U
