-- the statement of this claim: see YtoamgocecoiggaaDoorRw
import Derived.Test.YtoamgocecoiggaaDoorM38
set_option linter.unusedVariables false
set_option linter.unusedSimpArgs false
open Go Go.SM Go.Proofs
namespace U
set_option maxRecDepth 100000
noncomputable abbrev loopD9:Code:=.loop loop9
abbrev a3s0:SgT:=[(0,.blk 0),(73,.blk 73)]
noncomputable def lit_a40:Tre:=(.fork (lf 0 90 92 (rgs E40.n t40o) ((74,.blk 74)::(4,.ltm (.lit (List.replicate 512 0)))::(3,.ltm (.lit (List.replicate 1536 0)))::(2,.new 90)::(1,.new 91)::a3s0) [])
 (lf 0 90 92 (rgs E40.n t40o) ((74,.blk 74)::(4,.ltm (.lit (List.replicate 512 0)))::(3,.ltm (.lit (List.replicate 1536 0)))::(2,.new 91)::(1,.new 90)::a3s0) []))
theorem lit_a40_eq:tre40=lit_a40:=by kernel_rfl
noncomputable def lit_a28:Tre:=(.call 40 90 90 (rgs sp40.n sp40.tin) (SgT.enc ((74,.blk 74)::a3s0)) (List.map TB.enc []) (.cons (rgs 0 t40o++rgV (.bool true)) (lf 0 90 180 (rgs E28.n t28o) ((74,.blk 74)::(4,.ltm (.var 94))::(3,.ltm (.var 93))::(2,.blk 92)::(1,.blk 91)::a3s0) [])
 .nil))
theorem lit_a28_eq:tre28=lit_a28:=by kernel_rfl
abbrev a3s1:SgT:=[(0,.blk 90),(73,.blk 73)]
noncomputable def lit_a14:Tre:=(.call 28 90 91 (rgs sp28.n sp28.tin) (SgT.enc ((74,.blk 74)::a3s1)) (List.map TB.enc []) (.cons (rgs 0 t28o++rgV (.tuple #[])) (lf 0 90 181 (rgs E14.n t14o) ((17,.ltm (.var 17))::(74,.blk 74)::(4,.ltm (.var 95))::(3,.ltm (.var 94))::(2,.blk 93)::(1,.blk 92)::(72,.itm (.var 72))::(18,.itm (.var 18))::(16,.blk 16)::a3s1) [])
 .nil))
theorem lit_a14_eq:tre14=lit_a14:=by kernel_rfl
abbrev a3s2:SgT:=[(74,.blk 74),(17,.ltm (.var 17)),(72,.itm (.var 72)),(18,.itm (.var 18)),(16,.blk 16),(73,.blk 73)]
abbrev a3s3:SgT:=[(74,.blk 74),(17,.ltm (.var 17)),(4,.ltm (.var 95)),(3,.ltm (.var 94)),(71,.val (.pointer none)),(70,.val (.slice none 0 0)),(69,.val (.slice none 0 0)),(68,.val (.slice none 0 0)),(67,.val (.slice none 0 0)),(66,.val (.int .i64 0)),(64,.val (.slice none 0 0)),(63,.val (.bool false)),(62,.val (.slice none 0 0)),(61,.val (.int .i64 0)),(60,.val (.bool false)),(59,.val (.int .i64 0)),(58,.val (.int .i64 0)),(57,.val (.slice none 0 0)),(56,.val (.int .i64 0)),(55,.val (.bool false)),(54,.val (.bool false)),(53,.val (.int .i64 0)),(52,.val (.slice none 0 0)),(51,.val (.slice none 0 0)),(50,.val (.slice none 0 0)),(49,.val (.slice none 0 0)),(48,.val (.slice none 0 0)),(47,.val (.slice none 0 0)),(78,.itm (.lit 0)),(45,.val (.int .i64 0)),(77,.itm (.lit 0)),(9,.itm (.lit 0)),(10,.itm (.lit 0)),(7,.itm (.lit 0)),(6,.itm (.lit 0)),(2,.blk 93),(39,.val (.int .i64 0)),(8,.itm (.lit 0)),(76,.itm (.lit 0)),(75,.itm (.lit 0)),(1,.blk 92),(11,.btm (.lit false)),(19,.itm (.lit 0)),(72,.itm (.var 72)),(18,.itm (.var 18)),(16,.blk 16),(32,.val .nilIface),(30,.val (.int .i64 0)),(29,.val (.int .i64 0)),(28,.val (.int .i64 0)),(27,.val (.string ⟨#[]⟩)),(26,.val (.int .i64 0)),(25,.val (.int .i64 0)),(24,.val (.int .i64 0)),(23,.val (.int .i64 0)),(22,.val (.int .i64 0)),(21,.val (.string ⟨#[]⟩)),(20,.val (.int .i64 0)),(0,.blk 91),(83,.blk 90),(73,.blk 73)]
abbrev a3s4:SgT:=[(83,.blk 83),(73,.blk 73)]
noncomputable def lit_a9a:Tre:=(.call 14 90 91 (rgs sp14.n sp14.tin) (SgT.enc a3s2) (List.map TB.enc []) (.cons (rgs 0 t14o++rgV (pt 0)) (.loop 4 90 181 (rgs E9A.n (sp9L true).tin) loopD9 (SgT.enc a3s3) (List.map TB.enc []) (.cons (rgs E9A.n tYsN) (lf 0 90 90 (rgs E9A.n tYsN) a3s4 [])
 .nil))
 .nil))
theorem lit_a9a_eq:tre9A=lit_a9a:=by kernel_rfl
noncomputable def lit_a9b:Tre:=(.call 14 90 91 (rgs sp14.n sp14.tin) (SgT.enc a3s2) (List.map TB.enc []) (.cons (rgs 0 t14o++rgV (pt 0)) (.loop 4 90 181 (rgs E9B.n (sp9L false).tin) loopD9 (SgT.enc a3s3) (List.map TB.enc []) (.cons (rgs E9B.n tYe) (lf 0 90 90 (rgs E9B.n tYe) a3s4 [])
 (.cons (rgs E9B.n tYs) (lf 1 90 90 (rgs E9B.n tYs) ((82,.ltm (.var 82))::(81,.itm (.var 81))::(80,.itm (.var 80))::(79,.blk 79)::a3s4) [])
 .nil)))
 .nil))
theorem lit_a9b_eq:tre9B=lit_a9b:=by kernel_rfl
end U
open Go Go.SM Go.Proofs
namespace Go.SM
theorem call_gen {G:Goal} {β:Ren} {n j m h:Nat} {rs A:List TB} {σ:SgT} {ts:Tre} (op:List Nat) (hn:β.length=n) (hk:keysOk m σ []=true)
    (hop:op.all (fun i=>(idns σ).any (Nat.beq i) && Nat.blt i n)=true) (H:∀ γ,(β++γ).length=h→∀ β1,β1.length=m→FactsP (β++γ) A→FactsP β1 rs→(∀ i ∈ op,gV β1 i=gV β i)→InstP (β++γ) β1 σ→G.CL j β1∧ts.HoldsC G j 0 (β++γ) β1) :
    (Tre.call j m h rs σ.enc (A.map TB.enc) ts).Holds G β:=by
 subst hn
 intro γ hγ hf β1 hI hr
 refine H γ hγ β1 hI.len hf.toP hr (fun i hi=>?_) (hI.toP hk)
 have:=List.all_eq_true.1 hop i hi
 rw [Bool.and_eq_true] at this
 obtain ⟨x,hx,he⟩:=List.any_eq_true.1 this.1
 have:=Nat.eq_of_beq_eq_true he
 subst this
 rw [hI.idns hk i hx]
 simp only [gV]
 rw [List.getElem?_append_left (Nat.le_of_ble_eq_true (by assumption:_∧_).2)]
end Go.SM
namespace U
set_option maxRecDepth 100000
def PZ (γ:Ren):Prop:=gL γ 3=List.replicate 1536 0∧gL γ 4=List.replicate 512 0
def ZQ (β γ:Ren):Prop:=PZ γ∧γ[0]?=β[0]?∧γ[73]?=β[73]?∧γ[74]?=β[74]?
def GZ (β:Ren):Goal where
 J:=fun _ γ=>ZQ β γ
 L:=fun _ _=>False
 O:=fun _ _ _ _=>False
 W:=fun _ _=>False
 CL:=fun _ γ=>Ln γ
 CO:=fun _ _ γ γ1=>Ln γ1∧ZQ γ γ1
def ZQ14 (β γ:Ren):Prop:=PZ γ∧γ[16]?=β[16]?∧gL γ 17=gL β 17∧gI γ 18=gI β 18∧gI γ 72=gI β 72∧γ[73]?=β[73]?∧γ[74]?=β[74]?
def GZ14 (β:Ren):Goal where
 J:=fun _ γ=>ZQ14 β γ
 L:=fun _ _=>False
 O:=fun _ _ _ _=>False
 W:=fun _ _=>False
 CL:=fun _ γ=>Ln γ
 CO:=fun _ _ γ γ1=>Ln γ1∧ZQ γ γ1
noncomputable def T0 (β:Ren):List UInt8:=(gL β 17).take (gI β 18).toNat
structure PT (β:Ren):Prop where
 n:Ln β
 i18:0≤gI β 18∧gI β 18≤1048576
 l17:gI β 18≤(gL β 17).length
theorem T0_len {β:Ren} (p:PT β):((T0 β).length:Int)=gI β 18:=by
 have:=p.i18; have:=p.l17
 unfold T0; rw [List.length_take]; omega
theorem dy_start {β γ:Ren} (p:PT β) (hn:Ln γ) (e3:gL γ 3=List.replicate 1536 0) (e4:gL γ 4=List.replicate 512 0) (e6:gI γ 6=0) (e7:gI γ 7=0) (e8:gI γ 8=0) (e9:gI γ 9=0) (e10:gI γ 10=0) (e11:gB γ 11=true↔false=true) (e17:gL γ 17=gL β 17) (e18:gI γ 18=gI β 18) (e19:gI γ 19=0)
    (e75:gI γ 75=0) (e76:gI γ 76=0) (e77:gI γ 77=0) (e78:gI γ 78=0):DY (T0 β) [] γ:=by
 have x18:=p.i18; have xl:=p.l17
 have hr:restB γ=T0 β:=by
  unfold restB rawB inpB T0
  rw [e6,e7,e17,e18,e19]; simp
 have hl:=T0_len p
 have pr:PR γ:=⟨hn,by rw [e4]; simp,by omega,by omega,by rw [e18,e17]; exact xl,by omega,fun h=>by cases e11.1 h⟩
 exact ⟨⟨pr,by rw [e3]; simp,by omega,by omega,by omega,by rw [hr]; omega⟩,by rw [hr]; omega,⟨by omega,by rw [e77]; rfl⟩,by omega,.inl ⟨e10,rfl,hr,by unfold win; rw [e75]; simp,e8⟩⟩
theorem mk_unique {R:List UInt8} {e e':Int} {R1 R1':List UInt8} (h:Mk 0 R e R1) (h':Mk 0 R e' R1'):e=e'∧R1=R1':=by
 rcases h with ⟨h,_⟩ | ⟨_,b,hb,hc⟩
 ·exact (h rfl).elim
 rcases h' with ⟨h',_⟩ | ⟨_,b',hb',hc'⟩
 ·exact (h' rfl).elim
 have pre:∀ {b:List UInt8} {R1:List UInt8},R=b++R1→b <+: R:=fun h=>⟨_,h.symm⟩
 rcases hc with ⟨rfl,rfl⟩ | ⟨rfl,rfl⟩ | ⟨rfl,rfl⟩ | ⟨rfl,rfl,n1,n2,n3⟩ <;> rcases hc' with ⟨rfl,rfl⟩ | ⟨rfl,rfl⟩ | ⟨rfl,rfl⟩ | ⟨rfl,rfl,m1,m2,m3⟩ <;> first
  | exact ⟨rfl,List.append_cancel_left (hb.symm.trans hb')⟩
  | (exfalso; rw [hb] at hb'; simp at hb'; done)
  | exact absurd (pre hb) m1
  | exact absurd (pre hb) m2
  | exact absurd (pre hb) m3
  | exact absurd (pre hb') n1
  | exact absurd (pre hb') n2
  | exact absurd (pre hb') n3
theorem fsu_nil {R0:List UInt8} {done:List Int} (h:FSu R0 []) (h':FSu R0 done):done=[]:=by
 obtain ⟨e,R1,h1,h2⟩:=h
 obtain ⟨e',R1',h1',h2'⟩:=h'
 obtain ⟨_,rfl⟩:=mk_unique h1 h1'
 cases h2
 exact h2'.nil_inv.1
theorem fsu_fe {R0:List UInt8} (h:FSu R0 []) (h':FE R0):False:=by
 obtain ⟨e,R1,h1,h2⟩:=h
 obtain ⟨e',R1',cs,R,h1',h2',h3'⟩:=h'
 obtain ⟨_,rfl⟩:=mk_unique h1 h1'
 cases h2
 exact h3'.1 h2'.nil_inv.2
def J9 (R0:List UInt8) (γ:Ren):Prop:=∃ done,FSu R0 done∧done≠[]∧OutIs done γ
def G9A (β:Ren):Goal where
 J:=fun _ γ=>Ln γ∧FSu (T0 β) []
 L:=fun _ γ=>DY (T0 β) [] γ
 O:=fun _ _ _ γ1=>Ln γ1∧FSu (T0 β) []
 W:=fun _ c=>c=loopD9
 CL:=fun _ γ=>Ln γ
 CO:=fun _ _ γ γ1=>Ln γ1∧ZQ14 γ γ1
def G9B (β:Ren):Goal where
 J:=fun j γ=>Ln γ∧match j with
  | 0=>FE (T0 β)
  | 1=>J9 (T0 β) γ
  | _=>False
 L:=fun _ γ=>DY (T0 β) [] γ
 O:=fun _ i _ γ1=>match i with
  | 0=>Ln γ1∧FE (T0 β)
  | 1=>Ln γ1∧J9 (T0 β) γ1
  | _=>False
 W:=fun _ c=>c=loopD9
 CL:=fun _ γ=>Ln γ
 CO:=fun _ _ γ γ1=>Ln γ1∧ZQ14 γ γ1
set_option maxRecDepth 100000
theorem hold_a40 {β:Ren} (hn:Ln β):lit_a40.Holds (GZ β) β:=by
 unfold lit_a40
 have hβ:=hn.1
 refine (fork_of (leaf_gen [] hβ (by kernel_rfl) (by kernel_rfl) ?_) (leaf_gen [] hβ (by kernel_rfl) (by kernel_rfl) ?_))
 ·intro δ0 γ0 hl0 hA hr0 hid0 hI
  clear hA
  simp only [DD,aL hβ,Nat.reduceLT,Nat.reduceLeDiff,Nat.reduceSub] at hI
  obtain ⟨i74,i4,i3,i0,i73⟩:=hI
  exact ⟨⟨i3,i4⟩,i0,i73,i74⟩
 ·intro δ0 γ0 hl0 hA hr0 hid0 hI
  clear hA
  simp only [DD,aL hβ,Nat.reduceLT,Nat.reduceLeDiff,Nat.reduceSub] at hI
  obtain ⟨i74,i4,i3,i0,i73⟩:=hI
  exact ⟨⟨i3,i4⟩,i0,i73,i74⟩
theorem hold_a28 {β:Ren} (hn:Ln β):lit_a28.Holds (GZ β) β:=by
 unfold lit_a28
 have hβ:=hn.1
 refine (call_of [] hβ (by kernel_rfl) (by kernel_rfl) ?_)
 ·intro γ0 hl0 hA hr0 hid0 hI
  clear hA
  simp only [DD] at hI
  obtain ⟨i74,i0,i73⟩:=hI
  have hL0:(GZ β).CL 40 γ0:=hn.of i73 hl0
  refine ⟨hL0,(callo_cons ?_ callo_nil)⟩
  ·intro β1 hq1 hO1
   obtain ⟨hn1,z⟩:=hO1
   have hb1:=app_len hβ hn1.1
   simp only [Nat.reduceAdd] at hb1
   refine (leaf_o [] hb1 ?_)
   ·intro γ1 hl1 hA hr1 hid1 hI
    clear hA
    simp only [DD,aA hβ,Nat.reduceLT,Nat.reduceLeDiff,Nat.reduceSub] at hI
    obtain ⟨j74,j4,j3,j2,j1,j0,j73⟩:=hI
    exact ⟨⟨j3.trans z.1.1,j4.trans z.1.2⟩,j0,j73,j74⟩
theorem hold_a14 {β:Ren} (hn:Ln β):lit_a14.Holds (GZ14 β) β:=by
 unfold lit_a14
 have hβ:=hn.1
 refine (call_gen [] hβ (by kernel_rfl) (by kernel_rfl) ?_)
 ·intro δ0 hδ0 γ0 hl0 hA hr0 hid0 hI
  clear hA
  simp only [DD,aL hβ,Nat.reduceLT,Nat.reduceLeDiff,Nat.reduceSub] at hI
  obtain ⟨i74,i0,i73⟩:=hI
  have hL0:(GZ14 β).CL 28 γ0:=hn.of i73 hl0
  refine ⟨hL0,(callo_cons ?_ callo_nil)⟩
  ·intro β1 hq1 hO1
   obtain ⟨hn1,z⟩:=hO1
   have hb1:=app_len hδ0 hn1.1
   simp only [Nat.reduceAdd] at hb1
   refine (leaf_o [] hb1 ?_)
   ·intro γ1 hl1 hA hr1 hid1 hI
    clear hA
    simp only [DD,aL hβ,aA hδ0,Nat.reduceLT,Nat.reduceLeDiff,Nat.reduceSub] at hI
    obtain ⟨j17,j74,j4,j3,j2,j1,j72,j18,j16,j0,j73⟩:=hI
    exact ⟨⟨j3.trans z.1.1,j4.trans z.1.2⟩,j16,j17,j18,j72,j73,j74⟩
theorem hold_a9a {β:Ren} (pt:PT β):lit_a9a.Holds (G9A β) β:=by
 unfold lit_a9a
 have hβ:=pt.n.1
 refine (call_gen [] hβ (by kernel_rfl) (by kernel_rfl) ?_)
 ·intro δ0 hδ0 γ0 hl0 hA hr0 hid0 hI
  clear hA
  simp only [DD,aL hβ,Nat.reduceLT,Nat.reduceLeDiff,Nat.reduceSub] at hI
  obtain ⟨i74,i17,i72,i18,i16,i73⟩:=hI
  have hL0:(G9A β).CL 14 γ0:=pt.n.of i73 hl0
  refine ⟨hL0,(callo_cons ?_ callo_nil)⟩
  ·intro β1 hq1 hO1
   obtain ⟨hn1,z⟩:=hO1
   have hb1:=app_len hδ0 hn1.1
   simp only [Nat.reduceAdd] at hb1
   refine (loop_of [] hb1 (by kernel_rfl) (by kernel_rfl) (by kernel_rfl) (by kernel_rfl) rfl ?_)
   ·intro γ1 hl1 hA hr1 hid1 hI
    clear hA
    simp only [DD,aL hβ,aA hδ0,Nat.reduceLT,Nat.reduceLeDiff,Nat.reduceSub] at hI
    obtain ⟨j74,j17,j4,j3,j71,j70,j69,j68,j67,j66,j64,j63,j62,j61,j60,j59,j58,j57,j56,j55,j54,j53,j52,j51,j50,j49,j48,j47,j78,j45,j77,j9,j10,j7,j6,j2,j39,j8,j76,j75,j1,j11,j19,j72,j18,j16,j32,j30,j29,j28,j27,j26,j25,j24,j23,j22,j21,j20,j0,j83,j73⟩:=hI
    have hn2:Ln γ1:=pt.n.of j73 hl1
    have dy:DY (T0 β) [] γ1:=dy_start pt hn2 (j3.trans z.1.1) (j4.trans z.1.2) j6 j7 j8 j9 j10 j11 j17 j18 j19 j75 j76 j77 j78
    have hL1:(G9A β).L 4 γ1:=dy
    refine ⟨hL1,(outs_cons ?_ outs_nil)⟩
    ·intro β2 hq2 hO2
     obtain ⟨⟨hb2,hg2⟩,hz⟩:=hO2
     refine (leaf_o [] hb2 ?_)
     ·intro γ2 hl2 hA hr2 hid2 hI
      clear hA
      simp only [DD] at hI
      obtain ⟨k83,k73⟩:=hI
      exact ⟨Ln.of ⟨hb2,hg2⟩ k73 hl2,hz⟩
theorem hold_a9b {β:Ren} (pt:PT β):lit_a9b.Holds (G9B β) β:=by
 unfold lit_a9b
 have hβ:=pt.n.1
 refine (call_gen [] hβ (by kernel_rfl) (by kernel_rfl) ?_)
 ·intro δ0 hδ0 γ0 hl0 hA hr0 hid0 hI
  clear hA
  simp only [DD,aL hβ,Nat.reduceLT,Nat.reduceLeDiff,Nat.reduceSub] at hI
  obtain ⟨i74,i17,i72,i18,i16,i73⟩:=hI
  have hL0:(G9B β).CL 14 γ0:=pt.n.of i73 hl0
  refine ⟨hL0,(callo_cons ?_ callo_nil)⟩
  ·intro β1 hq1 hO1
   obtain ⟨hn1,z⟩:=hO1
   have hb1:=app_len hδ0 hn1.1
   simp only [Nat.reduceAdd] at hb1
   refine (loop_of [] hb1 (by kernel_rfl) (by kernel_rfl) (by kernel_rfl) (by kernel_rfl) rfl ?_)
   ·intro γ1 hl1 hA hr1 hid1 hI
    clear hA
    simp only [DD,aL hβ,aA hδ0,Nat.reduceLT,Nat.reduceLeDiff,Nat.reduceSub] at hI
    obtain ⟨j74,j17,j4,j3,j71,j70,j69,j68,j67,j66,j64,j63,j62,j61,j60,j59,j58,j57,j56,j55,j54,j53,j52,j51,j50,j49,j48,j47,j78,j45,j77,j9,j10,j7,j6,j2,j39,j8,j76,j75,j1,j11,j19,j72,j18,j16,j32,j30,j29,j28,j27,j26,j25,j24,j23,j22,j21,j20,j0,j83,j73⟩:=hI
    have hn2:Ln γ1:=pt.n.of j73 hl1
    have dy:DY (T0 β) [] γ1:=dy_start pt hn2 (j3.trans z.1.1) (j4.trans z.1.2) j6 j7 j8 j9 j10 j11 j17 j18 j19 j75 j76 j77 j78
    have hL1:(G9B β).L 4 γ1:=dy
    refine ⟨hL1,(outs_cons ?_ (outs_cons ?_ outs_nil))⟩
    ·intro β2 hq2 hO2
     obtain ⟨⟨hb2,hg2⟩,hz⟩:=hO2
     refine (leaf_o [] hb2 ?_)
     ·intro γ2 hl2 hA hr2 hid2 hI
      clear hA
      simp only [DD] at hI
      obtain ⟨k83,k73⟩:=hI
      exact ⟨Ln.of ⟨hb2,hg2⟩ k73 hl2,hz⟩
    ·intro β2 hq2 hO2
     obtain ⟨⟨hb2,hg2⟩,hz⟩:=hO2
     refine (leaf_o [] hb2 ?_)
     ·intro γ2 hl2 hA hr2 hid2 hI
      clear hA
      simp only [DD] at hI
      obtain ⟨k82,k81,k80,k79,k83,k73⟩:=hI
      obtain ⟨dn,z1,z2,z3⟩:=hz
      exact ⟨Ln.of ⟨hb2,hg2⟩ k73 hl2,dn,z1,z2,by unfold OutIs at *; rw [k82,k80]; exact z3⟩
set_option maxRecDepth 100000
theorem zq_sm {β γ:Ren} (q:ZQ β γ):∀ p ∈ sm40,SmK β γ p:=by
 intro x hx
 have hx:x ∈ [(0,0),(73,0),(74,0)]:=hx
 simp only [List.mem_cons,List.not_mem_nil,or_false] at hx
 rcases hx with rfl | rfl | rfl
 ·exact q.2.1
 ·exact q.2.2.1
 ·exact q.2.2.2
theorem law40 {G:Goal} (hCL:∀ β,G.CL 40 β→Ln β) (hCO:∀ β β1,G.CL 40 β→Ln β1→ZQ β β1→G.CO 40 0 β β1):CLaw Tryd.prog G 40 sp40:=by
 refine claw_of (E:=E40) (Gt:=GZ) (fn:=fnAt 40) (c:=body 40) (s:=sp40) noNum callOkG follows (by kernel_rfl) (by kernel_rfl) (by kernel_rfl) (by kernel_rfl) (by kernel_rfl) (by kernel_rfl) ?_ ?_ ?_ (fun β w0 r s c h=>by rcases h with h | h <;> cases h) (fun β j i β1 β2 h=>h.elim) (fun β r s h=>by rcases h with h | h <;> cases h) (fun β=>noLaws)
 ·intro e j tp h
  have h:=h.resolve_right fun h=>by cases h
  cases e with
  | normal=>cases h; exact ⟨(fun id h=>by cases h),.bool true,by kernel_rfl,_,rfl⟩
  | ret=>cases h; exact ⟨(fun id h=>by cases h),.bool true,by kernel_rfl,_,rfl⟩
  | exit id=>cases h
 ·intro β hcl hlen hr
  have p:=hCL β hcl
  refine ⟨p.2,[],2000,Facts.nil _,?_⟩
  show (tre40).Holds _ β
  rw [lit_a40_eq]
  exact hold_a40 p
 ·intro β j v tp sm β1 hcl hout hlen _ hJ
  have p:=hCL β hcl
  have q:ZQ β β1:=hJ
  match j,hout with
  | 0,hout =>
   cases hout
   exact ⟨hCO β β1 hcl (p.of q.2.2.1 hlen) q,zq_sm q⟩
theorem ctI_laws {G:Goal} {g:Nat} {s:CSpec} (h:CLaw Tryd.prog G g s):∀ f s',ctI g s f=some s'→CLaw Tryd.prog G f s':=by
 intro f s' hs
 unfold ctI at hs
 split at hs
 ·rename_i hf; subst hf; cases hs; exact h
 ·cases hs
theorem law28 {G:Goal} (hCL:∀ β,G.CL 28 β→Ln β) (hCO:∀ β β1,G.CL 28 β→Ln β1→ZQ β β1→G.CO 28 0 β β1):CLaw Tryd.prog G 28 sp28:=by
 refine claw_of (E:=E28) (Gt:=GZ) (fn:=fnAt 28) (c:=body 28) (s:=sp28) noNum callOkG follows (by kernel_rfl) (by kernel_rfl) (by kernel_rfl) (by kernel_rfl) (by kernel_rfl) (by kernel_rfl) ?_ ?_ ?_ (fun β w0 r s c h=>by rcases h with h | h <;> cases h) (fun β j i β1 β2 h=>h.elim) (fun β r s h=>by rcases h with h | h <;> cases h) (fun β=>ctI_laws (law40 (fun _ h=>h) (fun _ _ _ a b=>⟨a,b⟩)))
 ·intro e j tp h
  have h:=h.resolve_right fun h=>by cases h
  cases e with
  | normal=>cases h; exact ⟨(fun id h=>by cases h),.tuple #[],by kernel_rfl,_,rfl⟩
  | ret=>cases h; exact ⟨(fun id h=>by cases h),.tuple #[],by kernel_rfl,_,rfl⟩
  | exit id=>cases h
 ·intro β hcl hlen hr
  have p:=hCL β hcl
  refine ⟨p.2,[],2000,Facts.nil _,?_⟩
  show (tre28).Holds _ β
  rw [lit_a28_eq]
  exact hold_a28 p
 ·intro β j v tp sm β1 hcl hout hlen _ hJ
  have p:=hCL β hcl
  have q:ZQ β β1:=hJ
  match j,hout with
  | 0,hout =>
   cases hout
   exact ⟨hCO β β1 hcl (p.of q.2.2.1 hlen) q,zq_sm q⟩
theorem law14 {G:Goal} (hCL:∀ β,G.CL 14 β→Ln β) (hCO:∀ β β1,G.CL 14 β→Ln β1→ZQ14 β β1→G.CO 14 0 β β1):CLaw Tryd.prog G 14 sp14:=by
 refine claw_of (E:=E14) (Gt:=GZ14) (fn:=fnAt 14) (c:=body 14) (s:=sp14) noNum callOkG follows (by kernel_rfl) (by kernel_rfl) (by kernel_rfl) (by kernel_rfl) (by kernel_rfl) (by kernel_rfl) ?_ ?_ ?_ (fun β w0 r s c h=>by rcases h with h | h <;> cases h) (fun β j i β1 β2 h=>h.elim) (fun β r s h=>by rcases h with h | h <;> cases h) (fun β=>ctI_laws (law28 (fun _ h=>h) (fun _ _ _ a b=>⟨a,b⟩)))
 ·intro e j tp h
  have h:=h.resolve_right fun h=>by cases h
  cases e with
  | normal=>cases h; exact ⟨(fun id h=>by cases h),pt 0,by kernel_rfl,_,rfl⟩
  | ret=>cases h; exact ⟨(fun id h=>by cases h),pt 0,by kernel_rfl,_,rfl⟩
  | exit id=>cases h
 ·intro β hcl hlen hr
  have p:=hCL β hcl
  refine ⟨p.2,[],2000,Facts.nil _,?_⟩
  show (tre14).Holds _ β
  rw [lit_a14_eq]
  exact hold_a14 p
 ·intro β j v tp sm β1 hcl hout hlen _ hJ
  have p:=hCL β hcl
  have q:ZQ14 β β1:=hJ
  match j,hout with
  | 0,hout =>
   cases hout
   refine ⟨hCO β β1 hcl (p.of q.2.2.2.2.2.1 hlen) q,fun x hx=>?_⟩
   have hx:x ∈ [(16,0),(17,2),(18,1),(72,1),(73,0),(74,0)]:=hx
   obtain ⟨_,q1,q2,q3,q4,q5,q6⟩:=q
   simp only [List.mem_cons,List.not_mem_nil,or_false] at hx
   rcases hx with rfl | rfl | rfl | rfl | rfl | rfl
   ·exact q1
   ·exact q2
   ·exact q3
   ·exact q4
   ·exact q5
   ·exact q6
def fv (k:Value):Value:=.agg (k::List.replicate 8 (.chan none)).toArray
def sp9A:CSpec:={ j:=9,n:=2,tin:=tDe,outs:=[(.tuple #[.slice none 0 0,fv (Z 0)],tYsN,[])] }
def sp9B:CSpec:={ j:=9,n:=2,tin:=tDe,outs:=[(.tuple #[.tuple #[],fv (Z 1)],tYe,[]),(.tuple #[sOut,fv (Z 0)],tYs,[])] }
theorem loops9 {A:Bool} {β:Ren} {w0:W0} {G:Goal} (hR:(T0 β).length≤2000000) (hL:∀ γ,G.L 4 γ→DY (T0 β) [] γ) (hW:∀ c,G.W 4 c→c=loopD9)
    (hA:A=true→FSu (T0 β) []∧∀ γ γ1,Ln γ1→FSu (T0 β) []→G.O 4 0 γ γ1) (hB:A=false→¬ FSu (T0 β) []∧(∀ γ γ1,Ln γ1→FE (T0 β)→G.O 4 0 γ γ1)∧∀ γ γ1,Ln γ1→J9 (T0 β) γ1→G.O 4 1 γ γ1) {E:Env} (hE:E.P=Tryd.prog) (hn:E.n=ntmps 9) :
    ∀ (r:Nat) (s:LSpec) (c:Code),lt9 A r=some s→G.W s.j c→LoopOk E w0 G s c:=by
 intro r s c hs hw
 unfold lt9 at hs
 split at hs
 ·cases hs
  have hc:c=loopD9:=hW c hw
  subst hc
  intro Q b a w hH hF hl hQ
  have d:DY (T0 β) [] b:=hL b hl
  rw [hn] at hF
  rw [hE]
  refine wpL_loop (loopN_law hR b a w d hH hF ?_ ?_ ?_)
  ·intro β1 a' w' hn1 hf q1 q2
   cases A with
   | true=>exact (fsu_fe (hA rfl).1 hf).elim
   | false=>exact hQ 0 .ret tYe [] rfl β1 a' w' q1 (by rw [hn]; exact q2) ((hB rfl).2.1 b β1 hn1 hf)
  ·intro β1 a' w' dn hn1 hf hne ho q1 q2
   cases A with
   | true=>exact (hne (fsu_nil (hA rfl).1 hf)).elim
   | false=>exact hQ 1 .ret tYs [] rfl β1 a' w' q1 (by rw [hn]; exact q2) ((hB rfl).2.2 b β1 hn1 ⟨dn,hf,hne,ho⟩)
  ·intro β1 a' w' hn1 hf q1 q2
   cases A with
   | true=>exact hQ 0 .ret tYsN [] rfl β1 a' w' q1 (by rw [hn]; exact q2) ((hA rfl).2 b β1 hn1 hf)
   | false=>exact ((hB rfl).1 hf).elim
 ·cases hs
theorem T0_small {β:Ren} (p:PT β):(T0 β).length≤2000000:=by
 have:=T0_len p; have:=p.i18; omega
theorem law9A {G:Goal} (hCL:∀ β,G.CL 9 β→PT β∧FSu (T0 β) []) (hCO:∀ β β1,G.CL 9 β→Ln β1→G.CO 9 0 β β1):CLaw Tryd.prog G 9 sp9A:=by
 intro w0 β args w hH hF hcl
 obtain ⟨pt0,hf⟩:=hCL β hcl
 refine (claw_of (E:=E9A) (Gt:=fun _=>G9A β) (G:={ G with CL:=fun _ b=>b=β,CO:=fun j i b b1=>G.CO j i b b1 }) (fn:=fnAt 9) (c:=body 9) (s:=sp9A) noNum callOkG follows (by kernel_rfl) (by kernel_rfl) (by kernel_rfl) (by kernel_rfl) (by kernel_rfl) (by kernel_rfl) ?_ ?_ ?_ ?_ (fun b j i β1 β2 h=>h.1.2) ?_ (fun b=>ctI_laws (law14 (fun _ h=>h) (fun _ _ _ a b=>⟨a,b⟩)))) w0 β args w hH hF rfl
 ·intro e j tp h
  have h:=h.resolve_right fun h=>by cases h
  cases e with
  | normal=>cases h
  | ret=>cases h; exact ⟨(fun id h=>by cases h),.tuple #[.slice none 0 0,fv (Z 0)],by kernel_rfl,_,rfl⟩
  | exit id=>cases h
 ·intro b hb hlen hr
  have hb:b=β:=hb
  subst hb
  refine ⟨pt0.n.2,[],2000,Facts.nil _,?_⟩
  show (tre9A).Holds _ b
  rw [lit_a9a_eq]
  exact hold_a9a pt0
 ·intro b j v tp sm β1 hb hout hlen _ hJ
  have hb:b=β:=hb
  subst hb
  have q:Ln β1∧FSu (T0 b) []:=hJ
  match j,hout with
  | 0,hout =>
   cases hout
   exact ⟨hCO b β1 hcl q.1,fun x hx=>by cases hx⟩
 ·intro b w0 r s c hs hw
  rcases hs with hs | hs
  ·exact loops9 (A:=true) (G:=G9A β) (T0_small pt0) (fun _ h=>h) (fun _ h=>h) (fun _=>⟨hf,fun _ _ a c=>⟨a,c⟩⟩) (fun h=>by cases h) rfl rfl r s c hs hw
  ·cases hs
 ·intro b r s hs i e tp B hi β1 β2 _
  refine facts_nil_of ?_
  rcases hs with hs | hs
  ·have hs:lt9 true r=some s:=hs
   unfold lt9 at hs
   split at hs
   ·cases hs
    match i,hi with
    | 0,hi=>cases hi; rfl
   ·cases hs
  ·cases hs
theorem law9B {G:Goal} (hCL:∀ β,G.CL 9 β→PT β∧¬ FSu (T0 β) []) (hC0:∀ β β1,G.CL 9 β→Ln β1→FE (T0 β)→G.CO 9 0 β β1) (hC1:∀ β β1,G.CL 9 β→Ln β1→J9 (T0 β) β1→G.CO 9 1 β β1):CLaw Tryd.prog G 9 sp9B:=by
 intro w0 β args w hH hF hcl
 obtain ⟨pt0,hf⟩:=hCL β hcl
 refine (claw_of (E:=E9B) (Gt:=fun _=>G9B β) (G:={ G with CL:=fun _ b=>b=β,CO:=fun j i b b1=>G.CO j i b b1 }) (fn:=fnAt 9) (c:=body 9) (s:=sp9B) noNum callOkG follows (by kernel_rfl) (by kernel_rfl) (by kernel_rfl) (by kernel_rfl) (by kernel_rfl) (by kernel_rfl) ?_ ?_ ?_ ?_ ?_ ?_ (fun b=>ctI_laws (law14 (fun _ h=>h) (fun _ _ _ a b=>⟨a,b⟩)))) w0 β args w hH hF rfl
 ·intro e j tp h
  rcases h with h | h
  ·cases e with
   | normal=>cases h
   | ret=>cases h; exact ⟨(fun id h=>by cases h),.tuple #[.tuple #[],fv (Z 1)],by kernel_rfl,_,rfl⟩
   | exit id=>cases h
  ·cases e with
   | normal=>cases h
   | ret=>cases h; exact ⟨(fun id h=>by cases h),.tuple #[sOut,fv (Z 0)],by kernel_rfl,_,rfl⟩
   | exit id=>cases h
 ·intro b hb hlen hr
  have hb:b=β:=hb
  subst hb
  refine ⟨pt0.n.2,[],2000,Facts.nil _,?_⟩
  show (tre9B).Holds _ b
  rw [lit_a9b_eq]
  exact hold_a9b pt0
 ·intro b j v tp sm β1 hb hout hlen _ hJ
  have hb:b=β:=hb
  subst hb
  match j,hout,hJ with
  | 0,hout,hJ =>
   cases hout
   have q:Ln β1∧FE (T0 b):=hJ
   exact ⟨hC0 b β1 hcl q.1 q.2,fun x hx=>by cases hx⟩
  | 1,hout,hJ =>
   cases hout
   have q:Ln β1∧J9 (T0 b) β1:=hJ
   exact ⟨hC1 b β1 hcl q.1 q.2,fun x hx=>by cases hx⟩
 ·intro b w0 r s c hs hw
  rcases hs with hs | hs
  ·exact loops9 (A:=false) (G:=G9B β) (T0_small pt0) (fun _ h=>h) (fun _ h=>h) (fun h=>by cases h) (fun _=>⟨hf,fun _ _ a c=>⟨a,c⟩,fun _ _ a c=>⟨a,c⟩⟩) rfl rfl r s c hs hw
  ·cases hs
 ·intro b j i β1 β2 h
  match i,h with
  | 0,h=>exact h.1.2
  | 1,h=>exact h.1.2
 ·intro b r s hs i e tp B hi β1 β2 _
  refine facts_nil_of ?_
  rcases hs with hs | hs
  ·have hs:lt9 false r=some s:=hs
   unfold lt9 at hs
   split at hs
   ·cases hs
    match i,hi with
    | 0,hi=>cases hi; rfl
    | 1,hi=>cases hi; rfl
   ·cases hs
  ·cases hs
def numB:Blk:={ cells:=[],elem:=3,ro:=false,live:=true,seq:=some (nd1 28 (x 33)) }
def sNum:Value:=sL 30 (Z 0) (x 31) (x 32)
def sArg:Value:=sL 16 (x 20) (x 21) (x 22)
def t6N:Tpl:={ m:=90,F:=[(0,sArg),(4,.slice none 0 0),(5,I 23 0 1125899906842624)],H:=[(16,txtB),(73,eofB)],G:=[73] }
def t6S:Tpl:={ m:=90,F:=[(0,sArg),(4,sNum),(5,I 23 0 1125899906842624)],H:=[(16,txtB),(73,eofB),(30,numB)],G:=[73] }
def t6f:Tpl:={ m:=90,F:=[(0,sArg),(2,.slice none 0 0),(3,.bool false)],H:=[(16,txtB),(73,eofB)],G:=[73] }
def ft6 (t:Tpl):AExit→Option (Nat × Tpl):=fun e=>match e with
 | .normal=>some (0,t6S)
 | .exit 0=>some (1,t)
 | .ret=>some (2,t6f)
 | _=>none
noncomputable def loop6:Code:=(findLoop 3 100 (body 6)).getD .skip
noncomputable def E6 (t:Tpl):Env:=EG 6 (fun _=>none) (fun _=>false) (fun _=>none) (fun _=>none) (ft6 t) (fun _=>none)
noncomputable def tre6 (t:Tpl) (A:List TB):Tre:=tre (E6 t) 2000 loop6 [] (A.map TB.enc) t.frame t.heap
def numR:Blk:={ cells:=[],elem:=3,ro:=false,live:=true,seq:=some (nd1 28 (x 33)) }
def t11N:Tpl:={ m:=90,F:=[(6,sNum),(7,I 31 0 1125899906842624),(8,I 23 0 1125899906842624),(3,.slice none 0 0)],H:=[(30,numR),(73,eofB)],G:=[73] }
def t11S:Tpl:={ m:=90,F:=[(6,sNum),(7,I 31 0 1125899906842624),(8,I 23 0 1125899906842624),(3,sOut)],H:=[(30,numR),(73,eofB),(79,outB)],G:=[73] }
def ft11 (t:Tpl):AExit→Option (Nat × Tpl):=fun e=>match e with
 | .normal=>some (0,t11S)
 | .exit 0=>some (1,t)
 | _=>none
noncomputable def loop11:Code:=(findLoop 3 100 (body 11)).getD .skip
noncomputable def E11 (t:Tpl):Env:=EG 11 (fun _=>none) (fun _=>false) (fun _=>none) (fun _=>none) (ft11 t) (fun _=>none)
noncomputable def tre11 (t:Tpl) (A:List TB):Tre:=tre (E11 t) 2000 loop11 [] (A.map TB.enc) t.frame t.heap
end U
