-- the statement of this claim: see YtoamgocecoiggaaDoorRw
import Derived.Test.YtoamgocecoiggaaDoorM28
set_option linter.unusedVariables false
set_option linter.unusedSimpArgs false
open Go Go.SM Go.Proofs
namespace U
set_option maxRecDepth 100000
set_option maxHeartbeats 0
theorem Fx.trans {a b c:Ren} (h:Fx a b) (g:Fx b c):Fx a c:=⟨g.h0.trans h.h0,g.h1.trans h.h1,g.h2.trans h.h2,g.l4.trans h.l4,g.i6.trans h.i6,g.i10.trans h.i10,g.i12.trans h.i12,g.b11.trans h.b11,g.h16.trans h.h16,g.h73.trans h.h73,g.h74.trans h.h74,g.l17.trans h.l17,g.i18.trans h.i18,g.i19.trans h.i19,g.i72.trans h.i72,fun i hi=>(g.op i hi).trans (h.op i hi)⟩
theorem Sm.trans {a b c:Ren} (h:Sm a b) (g:Sm b c):Sm a c:=⟨h.toFx.trans g.toFx,g.l3.trans h.l3,g.i5.trans h.i5,g.i7.trans h.i7,g.i8.trans h.i8,g.i9.trans h.i9⟩
theorem dcs_eq {β β1:Ren} (h:Sm β β1) (hn:gI β1 15=gI β 6 - gI β 7):dcs β1=dc β:=by
 have:rb β1=rb β:=by funext k; unfold rb; rw [h.l4,h.i7]
 unfold dcs dc
 rw [h.i10,hn,this]
theorem enc1_1 {v:Int} (h:¬ 127 < v):enc1 v=[u8 (IntKind.u8.wrap v)]:=by unfold enc1; rw [if_pos h]
theorem enc1_2 {v:Int} (h:127 < v) (h2:¬ 2047 < v):enc1 v=[u8 (IntKind.u8.wrap (sr v 6 + 192)),u8 (ia v 63 + 128)]:=by unfold enc1; rw [if_neg (Classical.not_not.2 h),if_pos h2]
theorem enc1_3 {v:Int} (h:127 < v) (h2:2047 < v) (h3:¬ 65535 < v):enc1 v=[u8 (IntKind.u8.wrap (sr v 12 + 224)),u8 (ia (sr v 6) 63 + 128),u8 (ia v 63 + 128)]:=by unfold enc1; rw [if_neg (Classical.not_not.2 h),if_neg (Classical.not_not.2 h2),if_pos h3]
theorem enc1_4 {v:Int} (h:127 < v) (h2:2047 < v) (h3:65535 < v):enc1 v=[u8 (sr v 18 + 240),u8 (ia (sr v 12) 63 + 128),u8 (ia (sr v 6) 63 + 128),u8 (ia v 63 + 128)]:=by unfold enc1; rw [if_neg (Classical.not_not.2 h),if_neg (Classical.not_not.2 h2),if_neg (Classical.not_not.2 h3)]
theorem tn {a:Int} (h:0≤a) (k:Nat):(a + (k:Int)).toNat=a.toNat + k:=by omega
theorem bput1 {l:List UInt8} {a:Int} {x:UInt8} (h:0≤a) (hl:a + 1≤l.length):(l.set a.toNat x).take (a + 1).toNat=l.take a.toNat++[x]:=by
 rw [show (a + 1).toNat=a.toNat + 1 from tn h 1]
 exact tk _ _ _ (by omega)
theorem bput2 {l:List UInt8} {a:Int} {x y:UInt8} (h:0≤a) (hl:a + 2≤l.length):((l.set a.toNat x).set (a + 1).toNat y).take (a + 2).toNat=l.take a.toNat++[x,y]:=by
 rw [show (a + 1).toNat=a.toNat + 1 from tn h 1,show (a + 2).toNat=a.toNat + 1 + 1 from tn h 2,tk _ _ _ (by simp; omega),tk _ _ _ (by omega)]
 simp
theorem bput3 {l:List UInt8} {a:Int} {x y z:UInt8} (h:0≤a) (hl:a + 3≤l.length):(((l.set a.toNat x).set (a + 1).toNat y).set (a + 2).toNat z).take (a + 3).toNat=l.take a.toNat++[x,y,z]:=by
 rw [show (a + 1).toNat=a.toNat + 1 from tn h 1,show (a + 2).toNat=a.toNat + 1 + 1 from tn h 2,show (a + 3).toNat=a.toNat + 1 + 1 + 1 from tn h 3,tk _ _ _ (by simp; omega),tk _ _ _ (by simp; omega),tk _ _ _ (by omega)]
 simp
theorem bput4 {l:List UInt8} {a:Int} {x y z u:UInt8} (h:0≤a) (hl:a + 4≤l.length):((((l.set a.toNat x).set (a + 1).toNat y).set (a + 2).toNat z).set (a + 3).toNat u).take (a + 4).toNat=l.take a.toNat++[x,y,z,u]:=by
 rw [show (a + 1).toNat=a.toNat + 1 from tn h 1,show (a + 2).toNat=a.toNat + 1 + 1 from tn h 2,show (a + 3).toNat=a.toNat + 1 + 1 + 1 from tn h 3,show (a + 4).toNat=a.toNat + 1 + 1 + 1 + 1 from tn h 4,tk _ _ _ (by simp; omega),tk _ _ _ (by simp; omega),tk _ _ _ (by simp; omega),tk _ _ _ (by omega)]
 simp
theorem holdI {β:Ren} (hv:RA β) (hI0:Inv β):litI.Holds (GI β) β:=by
 unfold litI
 have hβ:=hI0.n.1
 have hle:=hI0.le
 have hv6:=hv.i6
 have hv7:=hv.i7
 refine (fork_of (need_o hβ ?_ (need_o hβ ?_ (loop_of opA hβ (by kernel_rfl) (by kernel_rfl) (by kernel_rfl) (by kernel_rfl) rfl ?_))) (leaf_o opA hβ ?_))
 iterate 2 (focus (intro hA; simp only [DD] at hA ⊢; omega))
 ·intro γ0 hl0 hA hr0 hid0 hI
  simp only [DD] at hA
  obtain ⟨a0,a1,a2⟩:=hA
  simp only [DD] at hI
  obtain ⟨i74,i17,i4,i3,i9,i7,i6,i2,i8,i1,i11,i19,i72,i18,i16,i10,i15,i5,i12,i0,i73⟩:=hI
  have s0:Sm β γ0:=⟨⟨i0,i1,i2,i4,i6,i10,i12,Bool.eq_iff_iff.2 i11,i16,i73,i74,i17,i18,i19,i72,hid0⟩,i3,i5,i7,i8,i9⟩
  try simp only [fn_sub] at i15 a0 a1 a2
  have hlt:gI β 7 < gI β 6:=by omega
  have lk:Look γ0:=⟨by rw [i15,i6,i7],by rw [i6,i7]; exact hlt,by rw [i4]; exact hI0.raw⟩
  have hdc:dcs γ0=dc β:=dcs_eq s0 (by rw [i15])
  have hL0:(GI β).L 4 γ0:=⟨hI0.n.of s0.h73 hl0,lk⟩
  refine ⟨hL0,(outs_cons ?_ (outs_cons ?_ (outs_cons ?_ outs_nil)))⟩
  ·intro β1 hq1 hO1
   obtain ⟨⟨hb1,hgb1⟩,rv1,s1,hd⟩:=hO1
   have s1:=s0.trans s1
   rw [hdc] at hd
   refine (loop_of opA hb1 (by kernel_rfl) (by kernel_rfl) (by kernel_rfl) (by kernel_rfl) rfl ?_)
   ·intro γ1 hl1 hA hr1 hid1 hI
    clear hA
    simp only [DD] at hI
    obtain ⟨j74,j17,j4,j3,j9,j10,j7,j6,j2,j8,j1,j11,j19,j72,j18,j16,j14,j13,j5,j12,j0,j73⟩:=hI
    have s2:Sm β1 γ1:=⟨⟨j0,j1,j2,j4,j6,j10,j12,Bool.eq_iff_iff.2 j11,j16,j73,j74,j17,j18,j19,j72,hid1⟩,j3,j5,j7,j8,j9⟩
    have s2:=s1.trans s2
    have hL1:(GI β).L 10 γ1:=hI0.n.of s2.h73 hl1
    refine ⟨hL1,(outs_cons ?_ (outs_cons ?_ outs_nil))⟩
    ·intro β2 hq2 hO2
     obtain ⟨⟨hb2,hgb2⟩,s3,p13,p14,pp⟩:=hO2
     have s3:=s2.trans s3
     rw [j13] at p13 pp
     rw [j14] at p14
     obtain ⟨w1,w2,w3⟩:=dcd_w hd
     obtain ⟨z0,z1,z2,z3,z4⟩:gI β2 5=gI β 5∧gI β2 7=gI β 7∧gI β2 8=gI β 8∧gI β2 9=gI β 9∧(gL β2 3).length=1536:=⟨s3.i5,s3.i7,s3.i8,s3.i9,by rw [s3.l3]; exact hI0.buf⟩
     obtain ⟨y1,y2,y3,y4,y5,y6⟩:gI β 5 + 2 * (gI β 6 - gI β 7)≤1500∧gI β 8 + (gI β 6 - gI β 7)≤1000∧gI β 9 + (gI β 6 - gI β 7)≤10000000∧0≤gI β 5∧gI β 6≤512∧0≤gI β 7:=⟨hI0.cap,hI0.un,hI0.off,hv.i5.1,hv.i6.2,hv.i7.1⟩
     refine (fork_of (need_o hb2 ?_ (need_o hb2 ?_ (need_o hb2 ?_ (need_o hb2 ?_ (need_o hb2 ?_ (need_o hb2 ?_ (leaf_o opA hb2 ?_))))))) (fork_of (need_o hb2 ?_ (need_o hb2 ?_ (need_o hb2 ?_ (need_o hb2 ?_ (need_o hb2 ?_ (need_o hb2 ?_ (need_o hb2 ?_ (need_o hb2 ?_ (leaf_o opA hb2 ?_))))))))) (fork_of (need_o hb2 ?_ (need_o hb2 ?_ (need_o hb2 ?_ (need_o hb2 ?_ (need_o hb2 ?_ (need_o hb2 ?_ (need_o hb2 ?_ (need_o hb2 ?_ (need_o hb2 ?_ (need_o hb2 ?_ (leaf_o opA hb2 ?_))))))))))) (need_o hb2 ?_ (need_o hb2 ?_ (need_o hb2 ?_ (need_o hb2 ?_ (need_o hb2 ?_ (need_o hb2 ?_ (need_o hb2 ?_ (need_o hb2 ?_ (need_o hb2 ?_ (need_o hb2 ?_ (need_o hb2 ?_ (need_o hb2 ?_ (leaf_o opA hb2 ?_))))))))))))))))
     iterate 6 (focus (intro hA; simp only [DD] at hA ⊢; omega))
     ·intro γ2 hl2 hA hr2 hid2 hI
      simp only [DD] at hA
      obtain ⟨c0,c1,c2,c3,c4,c5,c6⟩:=hA
      simp only [DD] at hI
      obtain ⟨k74,k17,k4,k3,k9,k10,k7,k6,k2,k8,k1,k11,k19,k72,k18,k16,k5,k12,k0,k73⟩:=hI
      try simp only [fn_add] at k3 k5 k7 k8 k9
      have he:=enc1_1 c6
      have hN:0≤gI β2 5:=by omega
      have hN2:gI β2 5 + 4≤1536:=by omega
      refine ⟨gI β2 13,s3.toFx.trans ⟨k0,k1,k2,k4,k6,k10,k12,Bool.eq_iff_iff.2 k11,k16,k73,k74,k17,k18,k19,k72,hid2⟩,⟨gI β1 14,by rw [p13]; exact hd,by rw [k7,p14]; omega,by rw [k9,p14]; omega,w1,w2,by rw [p13]; exact w3⟩,by rw [p13]; exact pp,?_,?_,?_,by rw [k8]; omega⟩
      ·rw [k3,k5,he,← s3.l3,← z0]; exact bput1 hN (by omega)
      ·rw [k5,he,z0]; rfl
      ·rw [k3,← s3.l3]; simp
     iterate 8 (focus (intro hA; simp only [DD] at hA ⊢; omega))
     ·intro γ2 hl2 hA hr2 hid2 hI
      simp only [DD] at hA
      obtain ⟨c0,c1,c2,c3,c4,c5,c6,c7,c8,c9⟩:=hA
      simp only [DD] at hI
      obtain ⟨k74,k17,k4,k3,k9,k10,k7,k6,k2,k8,k1,k11,k19,k72,k18,k16,k5,k12,k0,k73⟩:=hI
      try simp only [fn_add] at k3 k5 k7 k8 k9
      have he:=enc1_2 c9 c8
      have hN:0≤gI β2 5:=by omega
      have hN2:gI β2 5 + 4≤1536:=by omega
      refine ⟨gI β2 13,s3.toFx.trans ⟨k0,k1,k2,k4,k6,k10,k12,Bool.eq_iff_iff.2 k11,k16,k73,k74,k17,k18,k19,k72,hid2⟩,⟨gI β1 14,by rw [p13]; exact hd,by rw [k7,p14]; omega,by rw [k9,p14]; omega,w1,w2,by rw [p13]; exact w3⟩,by rw [p13]; exact pp,?_,?_,?_,by rw [k8]; omega⟩
      ·rw [k3,k5,he,← s3.l3,← z0]; exact bput2 hN (by omega)
      ·rw [k5,he,z0]; rfl
      ·rw [k3,← s3.l3]; simp
     iterate 10 (focus (intro hA; simp only [DD] at hA ⊢; omega))
     ·intro γ2 hl2 hA hr2 hid2 hI
      simp only [DD] at hA
      obtain ⟨c0,c1,c2,c3,c4,c5,c6,c7,c8,c9,c10,c11,c12⟩:=hA
      simp only [DD] at hI
      obtain ⟨k74,k17,k4,k3,k9,k10,k7,k6,k2,k8,k1,k11,k19,k72,k18,k16,k5,k12,k0,k73⟩:=hI
      try simp only [fn_add] at k3 k5 k7 k8 k9
      have he:=enc1_3 c12 c11 c10
      have hN:0≤gI β2 5:=by omega
      have hN2:gI β2 5 + 4≤1536:=by omega
      refine ⟨gI β2 13,s3.toFx.trans ⟨k0,k1,k2,k4,k6,k10,k12,Bool.eq_iff_iff.2 k11,k16,k73,k74,k17,k18,k19,k72,hid2⟩,⟨gI β1 14,by rw [p13]; exact hd,by rw [k7,p14]; omega,by rw [k9,p14]; omega,w1,w2,by rw [p13]; exact w3⟩,by rw [p13]; exact pp,?_,?_,?_,by rw [k8]; omega⟩
      ·rw [k3,k5,he,← s3.l3,← z0]; exact bput3 hN (by omega)
      ·rw [k5,he,z0]; rfl
      ·rw [k3,← s3.l3]; simp
     iterate 12 (focus (intro hA; simp only [DD] at hA ⊢; omega))
     ·intro γ2 hl2 hA hr2 hid2 hI
      simp only [DD] at hA
      obtain ⟨c0,c1,c2,c3,c4,c5,c6,c7,c8,c9,c10,c11,c12,c13,c14⟩:=hA
      simp only [DD] at hI
      obtain ⟨k74,k17,k4,k3,k9,k10,k7,k6,k2,k8,k1,k11,k19,k72,k18,k16,k5,k12,k0,k73⟩:=hI
      try simp only [fn_add] at k3 k5 k7 k8 k9
      have he:=enc1_4 c14 c13 c12
      have hN:0≤gI β2 5:=by omega
      have hN2:gI β2 5 + 4≤1536:=by omega
      refine ⟨gI β2 13,s3.toFx.trans ⟨k0,k1,k2,k4,k6,k10,k12,Bool.eq_iff_iff.2 k11,k16,k73,k74,k17,k18,k19,k72,hid2⟩,⟨gI β1 14,by rw [p13]; exact hd,by rw [k7,p14]; omega,by rw [k9,p14]; omega,w1,w2,by rw [p13]; exact w3⟩,by rw [p13]; exact pp,?_,?_,?_,by rw [k8]; omega⟩
      ·rw [k3,k5,he,← s3.l3,← z0]; exact bput4 hN (by omega)
      ·rw [k5,he,z0]; rfl
      ·rw [k3,← s3.l3]; simp
    ·intro β2 hq2 hO2
     obtain ⟨⟨hb2,hgb2⟩,s3,pp⟩:=hO2
     have s3:Er β β2:=⟨s3.1.trans s2.h0,s3.2.trans s2.h73⟩
     rw [j13] at pp
     refine (leaf_o [] hb2 ?_)
     ·intro γ2 hl2 hA hr2 hid2 hI
      clear hA
      simp only [DD] at hI
      obtain ⟨k74,k17,k4,k3,k9,k10,k7,k6,k2,k8,k1,k11,k19,k72,k18,k16,k0,k73⟩:=hI
      exact ⟨⟨k0.trans s3.1,k73.trans s3.2⟩,hlt,.inr (.inr ⟨_,_,hd,pp⟩)⟩
  ·intro β1 hq1 hO1
   obtain ⟨⟨hb1,hgb1⟩,s1,hd,he⟩:=hO1
   have s1:=s0.trans s1
   rw [hdc] at hd
   rw [s0.b11] at he
   refine (leaf_o opA hb1 ?_)
   ·intro γ1 hl1 hA hr1 hid1 hI
    clear hA
    simp only [DD] at hI
    obtain ⟨j74,j17,j4,j3,j9,j10,j7,j6,j2,j8,j1,j11,j19,j72,j18,j16,j5,j12,j0,j73⟩:=hI
    have s2:Sm β1 γ1:=⟨⟨j0,j1,j2,j4,j6,j10,j12,Bool.eq_iff_iff.2 j11,j16,j73,j74,j17,j18,j19,j72,hid1⟩,j3,j5,j7,j8,j9⟩
    exact ⟨s1.trans s2,.inr ⟨hlt,hd,he⟩⟩
  ·intro β1 hq1 hO1
   obtain ⟨⟨hb1,hgb1⟩,s1,hd⟩:=hO1
   have s1:Er β β1:=⟨s1.1.trans s0.h0,s1.2.trans s0.h73⟩
   rw [hdc,s0.b11] at hd
   refine (leaf_o [] hb1 ?_)
   ·intro γ1 hl1 hA hr1 hid1 hI
    clear hA
    simp only [DD] at hI
    obtain ⟨j74,j17,j4,j3,j9,j10,j7,j6,j2,j8,j1,j11,j19,j72,j18,j16,j0,j73⟩:=hI
    refine ⟨⟨j0.trans s1.1,j73.trans s1.2⟩,hlt,?_⟩
    rcases hd with hd | hd
    ·exact .inl hd
    ·exact .inr (.inl hd)
 ·intro γ0 hl0 hA hr0 hid0 hI
  simp only [DD] at hA
  have a0:=hA
  simp only [DD] at hI
  obtain ⟨i74,i17,i4,i3,i9,i10,i7,i6,i2,i8,i1,i11,i19,i72,i18,i16,i5,i12,i0,i73⟩:=hI
  exact ⟨⟨⟨i0,i1,i2,i4,i6,i10,i12,Bool.eq_iff_iff.2 i11,i16,i73,i74,i17,i18,i19,i72,hid0⟩,i3,i5,i7,i8,i9⟩,.inl (by omega)⟩
set_option maxRecDepth 100000
inductive Rounds:Ren→List Int→Ren→Prop
 | nil {β β1:Ren}:Sm β β1→Rounds β [] β1
 | cons {β β1 β2:Ren} {v:Int} {cs:List Int}:Rnd β β1 v→Ln β1→Rounds β1 cs β2→Rounds β (v::cs) β2
def End2 (β β2:Ren):Prop:=∃ cs,Rounds β cs β2∧Inv β2∧(gI β2 7=gI β2 6∨gI β2 7 < gI β2 6∧dc β2=.more∧gB β2 11=false)
def EndE (β β2:Ren):Prop:=Er β β2∧∃ cs βm,Rounds β cs βm∧Ln βm∧gI βm 7 < gI βm 6∧Bad βm
theorem Inv.rnd {β β1:Ren} {v:Int} (h:Inv β) (hr:Rnd β β1 v) (hl:β1.length=90):Inv β1:=by
 have hl:=h.n.of hr.fx.h73 hl
 obtain ⟨w,_,h7,h9,w1,w2,w3⟩:=hr.ok
 have h6:=hr.fx.i6
 have hb:=hr.bl
 have hu:=hr.un
 have:=h.cap; have:=h.un; have:=h.off; have:=h.le
 exact ⟨hl,by rw [hr.fx.l4]; exact h.raw,by rw [hr.len]; exact h.buf,by omega,by omega,by omega,by omega⟩
theorem Inv.sm {β β1:Ren} (h:Inv β) (hr:Sm β β1) (hl:β1.length=90):Inv β1:=by
 have hl:=h.n.of hr.h73 hl
 have h6:=hr.i6; have h5:=hr.i5; have h7:=hr.i7; have h8:=hr.i8; have h9:=hr.i9
 have:=h.cap; have:=h.un; have:=h.off; have:=h.le
 exact ⟨hl,by rw [hr.l4]; exact h.raw,by rw [hr.l3]; exact h.buf,by omega,by omega,by omega,by omega⟩
theorem facts_nil_of {β:Ren} {B:List Value} (h:B=[]):Facts β B:=by subst h; exact Facts.nil _
theorem okI {w0:W0} {Q:Exit→Act→World→Prop} {β:Ren} {a:Act} {w:World} (hI:Inv β) (hH:HR w0 β tA.heap w) (hF:FS β (ntmps 42) tA.frame a)
    (h0:∀ β1 a' w' v,Rnd β β1 v→Inv β1→HR w0 β1 tA.heap w'→FS β1 (ntmps 42) tA.frame a'→Q .normal a' w')
    (h1:∀ β1 a' w',End2 β β1→HR w0 β1 tA.heap w'→FS β1 (ntmps 42) tA.frame a'→Q (.exit 2) a' w')
    (h2:∀ β1 a' w',EndE β β1→HR w0 β1 tE.heap w'→FS β1 (ntmps 42) tE.frame a'→Q .ret a' w'):inner.wp Tryd.prog Q a w:=by
 have hv:RA β:=ra_of (rgs_sound hH hF)
 refine run_tree (bt:=btI) (ft:=ftI) (G:=GI β) (A:=[]) (tin:=tA) hI.n.2 (fun j i b1 b2 h=>by
  unfold GI at h
  dsimp only at h
  split at h
  ·exact h.1.2
  ·exact h.1.2
  ·exact h.1.2
  ·exact h.1.2
  ·exact h.1.2
  ·exact h.elim) litI_eq (holdI hv hI) ?_ ?_ ?_ hH hF (Facts.nil _)
 ·intro j e tp β1 a' w' hft q1 q2 q3
  cases e with
  | normal=>cases hft; obtain ⟨v,q3⟩:=q3; exact h0 β1 a' w' v q3 (hI.rnd q3 q1.len) q1 q2
  | ret=>cases hft; exact h2 β1 a' w' ⟨q3.1,[],β,.nil ⟨⟨rfl,rfl,rfl,rfl,rfl,rfl,rfl,rfl,rfl,rfl,rfl,rfl,rfl,rfl,rfl,fun _ _=>rfl⟩,rfl,rfl,rfl,rfl,rfl⟩,hI.n,q3.2⟩ q1 q2
  | exit id =>
   match id,hft with
   | 2,hft =>
    cases hft
    obtain ⟨s,q3⟩:=q3
    refine h1 β1 a' w' ⟨[],.nil s,hI.sm s q1.len,?_⟩ q1 q2
    have hd:dc β1=dc β:=by
     have:rb β1=rb β:=by funext k; unfold rb; rw [s.l4,s.i7]
     unfold dc; rw [s.i10,s.i6,s.i7,this]
    rw [s.i7,s.i6,hd,s.b11]; exact q3
 ·intro r s c hs hw
  unfold btI at hs
  split at hs
  ·cases hs
   cases (hw:c=blk4)
   exact ok4 (fun β hl=>hl) (fun β β1 _ hl hv h=>⟨hl,hv,h⟩) (fun β β1 _ hl h=>⟨hl,h⟩) (fun β β1 _ hl h=>⟨hl,h⟩)
  ·split at hs
   ·cases hs
    cases (hw:c=blk10)
    exact ok10 (fun β hl=>hl) (fun β β1 _ hl h=>⟨hl,h⟩) (fun β β1 _ hl h=>⟨hl,h⟩)
   ·cases hs
 ·intro r s hs i e tp B hi β1 β2 _
  refine facts_nil_of ?_
  unfold btI at hs
  split at hs
  ·cases hs
   match i,hi with
   | 0,hi=>cases hi; rfl
   | 1,hi=>cases hi; rfl
   | 2,hi=>cases hi; rfl
  ·split at hs
   ·cases hs
    match i,hi with
    | 0,hi=>cases hi; rfl
    | 1,hi=>cases hi; rfl
   ·cases hs
theorem inner_law {w0:W0} {Q:Exit→Act→World→Prop}:∀ (m:Nat) (β:Ren) (a:Act) (w:World),(gI β 6 - gI β 7).toNat≤m→Inv β→HR w0 β tA.heap w→FS β (ntmps 42) tA.frame a →
    (∀ β1 a' w',End2 β β1→HR w0 β1 tA.heap w'→FS β1 (ntmps 42) tA.frame a'→Q (.exit 2) a' w') →
    (∀ β1 a' w',EndE β β1→HR w0 β1 tE.heap w'→FS β1 (ntmps 42) tE.frame a'→Q .ret a' w')→wpL Tryd.prog inner Q a w:=by
 intro m
 induction m with
 | zero =>
  intro β a w hm hI hH hF h1 h2
  refine wpL_round (okI hI hH hF ?_ h1 h2)
  intro β1 a' w' v hr _ _ _
  obtain ⟨w,_,h7,h9,w1,w2,w3⟩:=hr.ok
  omega
 | succ m ih =>
  intro β a w hm hI hH hF h1 h2
  refine wpL_round (okI hI hH hF ?_ h1 h2)
  intro β1 a' w' v hr hI1 hH1 hF1
  have h6:=hr.fx.i6
  have h0:=hr.fx.h0; have h73:=hr.fx.h73
  refine ih β1 a' w' ?_ hI1 hH1 hF1 ?_ ?_
  ·obtain ⟨w,_,h7,h9,w1,w2,w3⟩:=hr.ok
   omega
  ·intro β2 a'' w'' ⟨cs,q1,q2,q3⟩
   exact h1 β2 a'' w'' ⟨v::cs,.cons hr hI1.n q1,q2,q3⟩
  ·intro β2 a'' w'' ⟨q0,cs,βm,q1,q2⟩
   exact h2 β2 a'' w'' ⟨⟨q0.1.trans h0,q0.2.trans h73⟩,v::cs,βm,.cons hr hI1.n q1,q2⟩
set_option maxRecDepth 100000
theorem ct49_laws {G:Goal} (hCL:∀ β,G.CL 49 β→PR β) (hCO:∀ β β1,G.CL 49 β→PR β→Ln β1→QR β β1→G.CO 49 0 β β1):∀ f s,ct49 f=some s→CLaw Tryd.prog G f s:=by
 intro f s hs
 unfold ct49 at hs
 split at hs
 ·rename_i hf; subst hf; cases hs
  exact law49 hCL hCO
 ·cases hs
def PD (β:Ren):Prop:=PR β∧gI β 9≤9000000
theorem law48 {G:Goal} (hCL:∀ β,G.CL 48 β→PD β) (hCO:∀ β β1,G.CL 48 β→PD β→Ln β1→DE β β1→G.CO 48 0 β β1):CLaw Tryd.prog G 48 spD:=by
 refine claw_of (E:=ED) (Gt:=GD) (fn:=fnAt 48) (c:=body 48) (s:=spD) noNum callOk follows (by kernel_rfl) (by kernel_rfl) (by kernel_rfl) (by kernel_rfl) (by kernel_rfl) (by kernel_rfl) ?_ ?_ ?_ ?_ (fun β j i β1 β2 h=>h.1.2) ?_ (fun β=>ct49_laws (fun _ h=>h.elim) (fun _ _ h=>h.elim))
 ·intro e j tp h
  have h:=h.resolve_right fun h=>by cases h
  cases e with
  | normal=>cases h; exact ⟨(fun id h=>by cases h),.bool true,by kernel_rfl,_,rfl⟩
  | ret=>cases h; exact ⟨(fun id h=>by cases h),.bool true,by kernel_rfl,_,rfl⟩
  | exit id=>cases h
 ·intro β hcl hlen hr
  have p:=hCL β hcl
  refine ⟨p.1.n.2,[],2000,Facts.nil _,?_⟩
  show (treD []).Holds (GD β) β
  rw [lit_d2_eq]
  exact hold_d2 p.1 (rd_of hr) p.2
 ·intro β j v tp sm β1 hcl hout hlen _ hJ
  have p:=hCL β hcl
  have q:DE β β1:=hJ
  match j,hout with
  | 0,hout =>
   cases hout
   refine ⟨hCO β β1 hcl p q.p.n q,fun x hx=>?_⟩
   have hx:x ∈ [(0,0),(2,0),(16,0),(73,0),(74,0),(17,2),(18,1),(72,1)]++opD.map fun i=>(i,4):=hx
   have q:=q.s
   rw [List.mem_append] at hx
   rcases hx with hx | hx
   ·simp only [List.mem_cons,List.not_mem_nil,or_false] at hx
    rcases hx with rfl | rfl | rfl | rfl | rfl | rfl | rfl | rfl
    ·exact q.h0
    ·exact q.h2
    ·exact q.h16
    ·exact q.h73
    ·exact q.h74
    ·exact q.l17
    ·exact q.i18
    ·exact q.i72
   ·obtain ⟨i,hi,rfl⟩:=List.mem_map.1 hx
    exact q.op i hi
 ·intro β w0 r s c hs hw
  rcases hs with hs | hs
  ·have hs:lt1 r=some s:=hs
   unfold lt1 at hs
   split at hs
   ·cases hs
    cases (hw:c=loopD)
    intro Q b a w hH hF hl hQ
    exact wpL_loop (loop48_law (mu48 b) b a w (Nat.le_refl _) hl hH hF (fun β1 a' w' l f h1 h2=>hQ 0 (.exit 0) tD [] rfl β1 a' w' h1 h2 ⟨l.p.n,l,f⟩))
   ·cases hs
  ·cases hs
 ·intro β r s hs i e tp B hi β1 β2 _
  refine facts_nil_of ?_
  rcases hs with hs | hs
  ·have hs:lt1 r=some s:=hs
   unfold lt1 at hs
   split at hs
   ·cases hs
    match i,hi with
    | 0,hi=>cases hi; rfl
   ·cases hs
  ·cases hs
set_option maxRecDepth 100000
def bt (R:List UInt8) (k:Int):Int:=((R.getD k.toNat 0).toNat:Int)
def d1 (e:Int) (R:List UInt8):Dc:=dcd e R.length (bt R)
theorem dcd8_stable {n n':Int} {b b':Int→Int} (h1:1≤n) (hn:n≤n') (h:∀ k:Int,0≤k→k < n→b' k=b k) (hne:dcd8 n b≠.more):dcd8 n' b'=dcd8 n b:=by
 have e0:b' 0=b 0:=h 0 (by omega) (by omega)
 unfold dcd8 at hne ⊢
 rw [e0]
 by_cases c:ia (b 0) 128=0
 ·rw [if_pos c,if_pos c,if_neg (show ¬ n' < 1 by omega),if_neg (show ¬ n < 1 by omega)]
 rw [if_neg c] at hne
 rw [if_neg c,if_neg c]
 by_cases c2:ia (b 0) 224=192
 ·rw [if_pos c2] at hne
  by_cases hn2:n < 2
  ·rw [if_pos hn2] at hne; exact (hne rfl).elim
  rw [if_pos c2,if_pos c2,if_neg hn2,if_neg (show ¬ n' < 2 by omega),h 1 (by omega) (by omega)]
 rw [if_neg c2] at hne
 rw [if_neg c2,if_neg c2]
 by_cases c3:ia (b 0) 240=224
 ·rw [if_pos c3] at hne
  by_cases hn2:n < 3
  ·rw [if_pos hn2] at hne; exact (hne rfl).elim
  rw [if_pos c3,if_pos c3,if_neg hn2,if_neg (show ¬ n' < 3 by omega),h 1 (by omega) (by omega),h 2 (by omega) (by omega)]
 rw [if_neg c3] at hne
 rw [if_neg c3,if_neg c3]
 by_cases c4:ia (b 0) 248=240
 ·rw [if_pos c4] at hne
  by_cases hn2:n < 4
  ·rw [if_pos hn2] at hne; exact (hne rfl).elim
  rw [if_pos c4,if_pos c4,if_neg hn2,if_neg (show ¬ n' < 4 by omega),h 1 (by omega) (by omega),h 2 (by omega) (by omega),h 3 (by omega) (by omega)]
 ·rw [if_neg c4,if_neg c4]
theorem dcd16_stable {n n' u u' v v':Int} (hn:n≤n') (hu:2≤n→u'=u) (hv:4≤n→v'=v) (hne:dcd16 n u v≠.more):dcd16 n' u' v'=dcd16 n u v:=by
 unfold dcd16 at hne ⊢
 by_cases hn2:n < 2
 ·rw [if_pos hn2] at hne; exact (hne rfl).elim
 rw [if_neg hn2] at hne
 rw [if_neg hn2,if_neg (show ¬ n' < 2 by omega),hu (by omega)]
 by_cases c:ia u 64512=56320
 ·rw [if_pos c,if_pos c]
 rw [if_neg c] at hne
 rw [if_neg c,if_neg c]
 by_cases c2:ia u 64512=55296
 ·rw [if_pos c2] at hne
  by_cases hn3:n < 4
  ·rw [if_pos hn3] at hne; exact (hne rfl).elim
  rw [if_pos c2,if_pos c2,if_neg hn3,if_neg (show ¬ n' < 4 by omega),hv (by omega)]
 ·rw [if_neg c2,if_neg c2]
theorem dcd_stable {e n n':Int} {b b':Int→Int} (h1:1≤n) (hn:n≤n') (h:∀ k:Int,0≤k→k < n→b' k=b k) (hne:dcd e n b≠.more):dcd e n' b'=dcd e n b:=by
 unfold dcd at hne ⊢
 split
 ·rename_i c; rw [if_pos c] at hne; exact dcd8_stable h1 hn h hne
 rename_i c
 rw [if_neg c] at hne
 split
 ·rename_i c2; rw [if_pos c2] at hne
  exact dcd16_stable hn (fun h2=>by rw [h 0 (by omega) (by omega),h 1 (by omega) (by omega)]) (fun h2=>by rw [h 2 (by omega) (by omega),h 3 (by omega) (by omega)]) hne
 ·rename_i c2; rw [if_neg c2] at hne
  exact dcd16_stable hn (fun h2=>by rw [h 0 (by omega) (by omega),h 1 (by omega) (by omega)]) (fun h2=>by rw [h 2 (by omega) (by omega),h 3 (by omega) (by omega)]) hne
theorem dcd_congr {e n:Int} {b b':Int→Int} (h1:1≤n) (h:∀ k:Int,0≤k→k < n→b' k=b k):dcd e n b'=dcd e n b:=by
 by_cases hm:dcd e n b=.more
 ·by_cases hm':dcd e n b'=.more
  ·rw [hm,hm']
  ·exact (dcd_stable h1 (Int.le_refl _) (fun k a c=>(h k a c).symm) hm').symm
 ·exact dcd_stable h1 (Int.le_refl _) h hm
theorem dcd_more {e n:Int} {b:Int→Int} (h:dcd e n b=.more):n < 4:=by
 rcases Int.lt_or_le n 4 with h4 | h4
 ·exact h4
 exfalso
 unfold dcd dcd8 dcd16 at h
 rw [if_neg (show ¬ n < 1 by omega),if_neg (show ¬ n < 2 by omega),if_neg (show ¬ n < 3 by omega),if_neg (show ¬ n < 4 by omega),if_neg (show ¬ n < 2 by omega),if_neg (show ¬ n < 4 by omega),if_neg (show ¬ n < 2 by omega),if_neg (show ¬ n < 4 by omega)] at h
 repeat' (split at h)
 all_goals cases h
theorem bt_rb {β:Ren} (p:PR β) (r:RR β) {k:Int} (h0:0≤k) (hk:k < gI β 6 - gI β 7):bt (restB β) k=rb β k:=by
 have hl:=rawB_len p r
 have x6:=r.i6; have x7:=r.i7; have y:=p.raw
 unfold bt rb
 congr 2
 unfold restB
 rw [List.getD_eq_getElem?_getD,List.getElem?_append_left (by omega),List.getD_eq_getElem?_getD]
 unfold rawB
 rw [List.getElem?_drop,List.getElem?_take,if_pos (by omega),show (gI β 7).toNat + k.toNat=(gI β 7 + k).toNat from by omega]
theorem rest_len {β:Ren} (p:PR β) (r:RR β):((restB β).length:Int)=(gI β 6 - gI β 7) + (gI β 18 - gI β 19):=by
 have hl:=rawB_len p r
 have h2:=(mB2 p r).1
 have:=p.le
 unfold restB
 rw [List.length_append]
 omega
theorem dc_list {β:Ren} (p:PR β) (r:RR β) (hlt:gI β 7 < gI β 6) (hne:dc β≠.more):d1 (gI β 10) (restB β)=dc β:=by
 unfold dc at hne ⊢
 unfold d1
 have:=rest_len p r
 have:=p.inp
 exact dcd_stable (by omega) (by omega) (fun k h0 hk=>bt_rb p r h0 hk) hne
theorem dc_eof {β:Ren} (p:PR β) (r:RR β) (hlt:gI β 7 < gI β 6) (he:gB β 11=true):d1 (gI β 10) (restB β)=dc β:=by
 unfold dc d1
 have:=rest_len p r
 have:=p.eo he
 rw [show ((restB β).length:Int)=gI β 6 - gI β 7 from by omega]
 exact dcd_congr (by omega) (fun k h0 hk=>bt_rb p r h0 hk)
inductive DR (e:Int):List UInt8→List Int→List UInt8→Prop
 | nil (R:List UInt8):DR e R [] R
 | cons {R R':List UInt8} {v w:Int} {cs:List Int}:d1 e R=.ok v w→1≤w→w≤R.length→Prn v→DR e (R.drop w.toNat) cs R'→DR e R (v::cs) R'
theorem DR.append {e:Int} {R R' R'':List UInt8} {cs ds:List Int} (h:DR e R cs R') (g:DR e R' ds R''):DR e R (cs++ds) R'':=by
 induction h with
 | nil R=>exact g
 | cons h1 h2 h3 h4 _ ih=>exact .cons h1 h2 h3 h4 (ih g)
theorem DR.len {e:Int} {R R':List UInt8} {cs:List Int} (h:DR e R cs R'):R'.length + cs.length≤R.length:=by
 induction h with
 | nil R=>simp
 | cons h1 h2 h3 h4 _ ih=>simp at ih ⊢; omega
def BadL (e:Int) (R:List UInt8):Prop:=R≠[]∧(d1 e R=.bad∨d1 e R=.more∨∃ v w,d1 e R=.ok v w∧¬ Prn v)
def encs (cs:List Int):List UInt8:=cs.flatMap enc1
theorem enc1_b (v:Int):1≤(enc1 v).length∧(enc1 v).length≤4:=by
 unfold enc1
 split
 ·simp
 ·split
  ·simp
  ·split <;> simp
theorem encs_len (cs:List Int):cs.length≤(encs cs).length∧(encs cs).length≤4 * cs.length:=by
 induction cs with
 | nil=>simp [encs]
 | cons v cs ih =>
  have:=enc1_b v
  simp only [encs,List.flatMap_cons,List.length_append,List.length_cons] at ih ⊢
  omega
structure RndsL (β β1:Ren) (cs:List Int):Prop where
 fx:Fx β β1
 p:PR β1
 dr:DR (gI β 10) (restB β) cs (restB β1)
 buf:(gL β1 3).take (gI β1 5).toNat=(gL β 3).take (gI β 5).toNat++encs cs
 bl:gI β1 5=gI β 5 + (encs cs).length
 len:(gL β1 3).length=(gL β 3).length
 un:gI β1 8=gI β 8 + cs.length
 off:gI β1 9 + (restB β1).length=gI β 9 + (restB β).length
theorem rr_fx {β β1:Ren} (r:RR β) (f:Fx β β1) (h:0≤gI β1 7∧gI β1 7≤512):RR β1:=⟨by rw [f.i18,f.i72]; exact r.i18,by rw [f.i19]; exact r.i19,by rw [f.i6]; exact r.i6,h⟩
theorem pr_fx {β β1:Ren} (p:PR β) (hn:Ln β1) (f:Fx β β1) (h:gI β1 7≤gI β1 6):PR β1 :=
 ⟨hn,by rw [f.l4]; exact p.raw,h,by rw [f.i18,f.i19]; exact p.inp,by rw [f.i18,f.l17]; exact p.inl,by rw [f.i18]; exact p.inb,by rw [f.b11,f.i18,f.i19]; exact p.eo⟩
theorem rest_fx {β β1:Ren} {w:Int} (p:PR β) (r:RR β) (f:Fx β β1) (h:gI β1 7=gI β 7 + w) (h0:0≤w) (hw:w≤gI β 6 - gI β 7):restB β1=(restB β).drop w.toNat:=by
 rw [rest_skip p r f.l4 f.i6 h f.l17 f.i18 f.i19 h0]
 unfold restB
 rw [List.drop_append_of_le_length (by rw [rawB_len p r]; omega)]
theorem Rounds.list {β β1:Ren} {cs:List Int} (h:Rounds β cs β1):PR β→RR β→Ln β1→RndsL β β1 cs:=by
 induction h with
 | nil s =>
  intro p r hn
  have p1:PR _:=pr_fx p hn s.toFx (by rw [s.i6,s.i7]; exact p.le)
  have hr:=rest_fx (w:=0) p r s.toFx (by rw [s.i7]; omega) (by omega) (by have:=p.le; omega)
  simp only [Int.toNat_zero,List.drop_zero] at hr
  exact ⟨s.toFx,p1,by rw [hr]; exact .nil _,by rw [s.l3,s.i5]; simp [encs],by rw [s.i5]; simp [encs],by rw [s.l3],by rw [s.i8]; simp,by rw [s.i9,hr]⟩
 | cons hr hn1 hrs ih =>
  intro p r hn
  rename_i b b1 b2 v cs
  obtain ⟨w,hd,h7,h9,w1,w2,w3⟩:=hr.ok
  have x6:=r.i6; have x7:=r.i7
  have f6:=hr.fx.i6
  have p1:=pr_fx p hn1 hr.fx (by omega)
  have r1:=rr_fx r hr.fx (by omega)
  have hl:=rest_len p r
  have:=p.inp
  have hrest:=rest_fx p r hr.fx h7 (by omega) w2
  obtain ⟨q1,q2,q3,q4,q5,q6,q7,q8⟩:=ih p1 r1 hn
  have hwl:w≤(restB b).length:=by omega
  refine ⟨hr.fx.trans q1,q2,.cons (w:=w) ?_ w1 hwl hr.prn (by rw [← hrest,← hr.fx.i10]; exact q3),?_,?_,by rw [q6,hr.len],?_,?_⟩
  ·rw [dc_list p r (by omega) (by rw [hd]; intro h; cases h)]; exact hd
  ·rw [q4,hr.buf,List.append_assoc]; rfl
  ·rw [q5,hr.bl]; simp only [encs,List.flatMap_cons,List.length_append]; omega
  ·rw [q7,hr.un]; simp only [List.length_cons]; omega
  ·rw [q8,h9,hrest,List.length_drop]; omega
def FO (l:List (Nat × Value)):List (Nat × Value):=[(0,.pointer (some ⟨0,0,none⟩)),(1,I 12 0 100),(5,I 5 0 1536)]++l
def tO:Tpl:={ m:=90,F:=FO [(6,sB (x 13))],H:=HP [],G:=[73] }
def tX:Tpl:={ m:=90,F:=FO [],H:=HP [],G:=[73] }
def tX0:Tpl:={ m:=90,F:=FO [],H:=HP [(17,Z 0)],G:=[73] }
def opX:List Nat:=(List.range 52).filterMap fun i=>if [15,17,20,21,18,22,23,16,45,11,13,14].contains i then none else some (20 + i)
def sp25:LSpec:={ j:=25,tin:=tA,outs:=[(.exit 2,tA,[]),(.ret,tE,[])] }
def lt25:Nat→Option LSpec:=fun n=>if n=25 then some sp25 else none
def rc21:Nat→Bool:=fun n=>Nat.beq n 21
noncomputable def outer:Code:=(findLoop 19 100 (body 42)).getD .skip
def ftO:AExit→Option (Nat × Tpl):=fun e=>match e with
 | .normal=>some (0,tO)
 | .exit 0=>some (1,tX)
 | .ret=>some (2,tE)
 | _=>none
noncomputable def EO:Env:=EF 42 ct49 rc21 (fun _=>none) lt25 ftO
noncomputable def treO (A:List TB):Tre:=tre EO 2000 outer [] (A.map TB.enc) tO.frame tO.heap
noncomputable def pad:Code:=(findLoop 123 100 (body 42)).getD .skip
def ftP:AExit→Option (Nat × Tpl):=fun e=>match e with
 | .normal=>some (0,tX0)
 | .exit 11=>some (1,tX0)
 | _=>none
noncomputable def EPd:Env:=EF 42 (fun _=>none) (fun _=>false) (fun _=>none) (fun _=>none) ftP
noncomputable def treP:Tre:=tre EPd 2000 pad [] [] tX0.frame tX0.heap
end U
