-- the statement of this claim: see YtoamgocecoiggaaDoorRw
import Derived.Test.YtoamgocecoiggaaDoorM31
import Derived.Test.YtoamgocecoiggaaDoorM32
set_option linter.unusedVariables false
set_option linter.unusedSimpArgs false
open Go Go.SM Go.Proofs
namespace U
set_option maxRecDepth 100000
theorem hold_uE {β:Ren} (pu:PU β) (r:RU β):lit_uE.Holds (GU β) β:=by
 unfold lit_uE
 have hβ:=pu.p.n.1
 have r12:=r.i12; have r8:=r.i8; have r75:=r.i75; have r76:=r.i76; have r10:=r.i10; have r9:=r.i9; have yb:=pu.buf; have yle:=pu.le; have y6:=pu.b6; have y5:=pu.b5; have yo:=pu.off
 refine (fork_of (leaf_o opX hβ ?_) (leaf_o opX hβ ?_))
 ·intro γ0 hl0 hA hr0 hid0 hI
  simp only [DD] at hA
  obtain ⟨a0,a1,a2⟩:=hA
  simp only [DD] at hI
  obtain ⟨i74,i17,i4,i3,i9,i10,i7,i6,i2,i8,i76,i75,i1,i11,i19,i72,i18,i16,i12,i0,i73⟩:=hI
  have us:Us β γ0:=⟨i0,i1,i2,i16,i73,i74,i17,i18,i72,hid0⟩
  refine ⟨us,pu.p.of (pu.p.n.of i73 hl0) i4 i6 i7 (Bool.eq_iff_iff.2 i11) i17 i18 i19,by rw [i3]; exact pu.buf,by omega,by omega,.inl ⟨by omega,by unfold win; rw [i3,i75,i76],i8,i9,i10,rest_of i4 i6 i7 i17 i18 i19,Bool.eq_iff_iff.2 i11⟩⟩
 ·intro γ0 hl0 hA hr0 hid0 hI
  simp only [DD] at hA
  obtain ⟨a0,a1⟩:=hA
  simp only [DD] at hI
  obtain ⟨i74,i17,i4,i3,i9,i10,i7,i6,i2,i8,i76,i75,i1,i11,i19,i72,i18,i16,i12,i0,i73⟩:=hI
  have us:Us β γ0:=⟨i0,i1,i2,i16,i73,i74,i17,i18,i72,hid0⟩
  refine ⟨us,pu.p.of (pu.p.n.of i73 hl0) i4 i6 i7 (Bool.eq_iff_iff.2 i11) i17 i18 i19,by rw [i3]; exact pu.buf,by omega,by omega,.inl ⟨by omega,by unfold win; rw [i3,i75,i76],i8,i9,i10,rest_of i4 i6 i7 i17 i18 i19,Bool.eq_iff_iff.2 i11⟩⟩
theorem hold_un1 {β:Ren} (pu:PU β) (r:RU β) (hlt:gI β 8 < gI β 12) (he10:gI β 10≠0):lit_un1.Holds (GU β) β:=by
 unfold lit_un1
 have hβ:=pu.p.n.1
 have r12:=r.i12; have r8:=r.i8; have r75:=r.i75; have r76:=r.i76; have r10:=r.i10; have r9:=r.i9; have yb:=pu.buf; have yle:=pu.le; have y6:=pu.b6; have y5:=pu.b5; have yo:=pu.off
 refine (fork_of (need_o hβ ?_ (need_o hβ ?_ (need_o hβ ?_ (need_o hβ ?_ (need_o hβ ?_ (need_o hβ ?_ (need_o hβ ?_ (loop_of opX hβ (by kernel_rfl) (by kernel_rfl) (by kernel_rfl) (by kernel_rfl) rfl ?_)))))))) (need_o hβ ?_ (need_o hβ ?_ (need_o hβ ?_ (need_o hβ ?_ (need_o hβ ?_ (need_o hβ ?_ (need_o hβ ?_ (loop_of opX hβ (by kernel_rfl) (by kernel_rfl) (by kernel_rfl) (by kernel_rfl) rfl ?_)))))))))
 iterate 7 (focus (intro hA; simp only [DD] at hA ⊢; omega))
 ·intro γ0 hl0 hA hr0 hid0 hI
  simp only [DD] at hA
  obtain ⟨a0,a1,a2,a3,a4,a5,a6,a7,a8,a9,a10,a11,a12,a13,a14⟩:=hA
  simp only [DD] at hI
  obtain ⟨i74,i17,i4,i3,i9,i10,i7,i6,i2,i8,i37,i1,i11,i19,i72,i18,i16,i13,i5,i12,i0,i73⟩:=hI
  have us:Us β γ0:=⟨i0,i1,i2,i16,i73,i74,i17,i18,i72,hid0⟩
  have hn0:Ln γ0:=pu.p.n.of i73 hl0
  have st:St β γ0:=st_n pu r hn0 (by omega) us i4 i6 i7 (Bool.eq_iff_iff.2 i11) i19 i8 i9 i10 i12 (v37_c i37) (by rw [i3,i5]; exact (w1 pu r).1) i5 (by rw [i3]; exact (w1 pu r).2)
  have hL0:(GU β).L 19 γ0:=⟨st.ob,st.v37⟩
  have h5:0≤gI γ0 5:=by have:=st.i5; have:=pu.le; omega
  refine ⟨hL0,(outs_cons ?_ (outs_cons ?_ outs_nil))⟩
  ·intro β1 hq1 hO1
   obtain ⟨⟨hb1,hg1⟩,hx⟩:=hO1
   have zz:=ra_of (by rw [← rgs_X0]; exact hq1)
   have zz5:=zz.i5
   have zz12:=zz.i12
   refine (loop_of opX hb1 (by kernel_rfl) (by kernel_rfl) (by kernel_rfl) (by kernel_rfl) rfl ?_)
   ·intro γ1 hl1 hA hr1 hid1 hI
    clear hA
    simp only [DD] at hI
    obtain ⟨j74,j17,j4,j3,j9,j10,j7,j6,j2,j8,j1,j11,j19,j72,j18,j16,j5,j12,j0,j73⟩:=hI
    have fm:Fp β1 γ1:=⟨j0,j1,j2,j4,j6,j7,j8,j9,j10,j12,Bool.eq_iff_iff.2 j11,j16,j73,j74,j17,j18,j19,j72,hid1⟩
    have hmn:Ln γ1:=hx.ln.of j73 hl1
    have hL1:(GU β).L 123 γ1:=⟨hmn,by rw [j3]; exact hx.buf st.ob.buf,by omega,by omega⟩
    refine ⟨hL1,(outs_cons ?_ outs_nil)⟩
    ·intro β2 hq2 hO2
     obtain ⟨⟨hb2,hg2⟩,hp⟩:=hO2
     have yy:=ra_of (by rw [← rgs_X0]; exact hq2)
     have yy5:=yy.i5
     refine (need_o hb2 ?_ (need_o hb2 ?_ (need_o hb2 ?_ (leaf_o opX hb2 ?_))))
     ·intro hA; clear hA; simp only [DD]; omega
     iterate 2 (focus (intro hA; simp only [DD] at hA ⊢; omega))
     ·intro γ2 hl2 hA hr2 hid2 hI
      simp only [DD] at hA
      obtain ⟨c0,c1,c2⟩:=hA
      simp only [DD] at hI
      obtain ⟨k74,k17,k4,k3,k9,k10,k7,k6,k2,k8,k76,k75,k1,k11,k19,k72,k18,k16,k12,k0,k73⟩:=hI
      have f2:Fp β2 γ2:=⟨k0,k1,k2,k4,k6,k7,k8,k9,k10,k12,Bool.eq_iff_iff.2 k11,k16,k73,k74,k17,k18,k19,k72,hid2⟩
      have hnn:Ln β2:=⟨hb2,hg2⟩
      exact ut_end pu hlt st hx fm j3 j5 hmn hp hnn (hnn.of k73 hl2) f2 k3 k75 k76 h5 r12.2 yy5.2
  ·intro β1 hq1 hO1
   obtain ⟨⟨hb1,hg1⟩,he⟩:=hO1
   refine (leaf_o [] hb1 ?_)
   ·intro γ1 hl1 hA hr1 hid1 hI
    clear hA
    simp only [DD] at hI
    obtain ⟨j74,j0,j73⟩:=hI
    exact ue_end st he j0 j73
 iterate 7 (focus (intro hA; simp only [DD] at hA ⊢; omega))
 ·intro γ0 hl0 hA hr0 hid0 hI
  simp only [DD] at hA
  obtain ⟨a0,a1,a2,a3,a4,a5,a6,a7,a8,a9,a10,a11,a12,a13⟩:=hA
  simp only [DD] at hI
  obtain ⟨i74,i17,i4,i3,i9,i10,i7,i6,i2,i8,i37,i1,i11,i19,i72,i18,i16,i13,i5,i12,i0,i73⟩:=hI
  have us:Us β γ0:=⟨i0,i1,i2,i16,i73,i74,i17,i18,i72,hid0⟩
  have hn0:Ln γ0:=pu.p.n.of i73 hl0
  have st:St β γ0:=st_n pu r hn0 (by omega) us i4 i6 i7 (Bool.eq_iff_iff.2 i11) i19 i8 i9 i10 i12 (v37_c i37) (by rw [i3,i5]; exact (w1 pu r).1) i5 (by rw [i3]; exact (w1 pu r).2)
  have hL0:(GU β).L 19 γ0:=⟨st.ob,st.v37⟩
  have h5:0≤gI γ0 5:=by have:=st.i5; have:=pu.le; omega
  refine ⟨hL0,(outs_cons ?_ (outs_cons ?_ outs_nil))⟩
  ·intro β1 hq1 hO1
   obtain ⟨⟨hb1,hg1⟩,hx⟩:=hO1
   have zz:=ra_of (by rw [← rgs_X0]; exact hq1)
   have zz5:=zz.i5
   have zz12:=zz.i12
   refine (loop_of opX hb1 (by kernel_rfl) (by kernel_rfl) (by kernel_rfl) (by kernel_rfl) rfl ?_)
   ·intro γ1 hl1 hA hr1 hid1 hI
    clear hA
    simp only [DD] at hI
    obtain ⟨j74,j17,j4,j3,j9,j10,j7,j6,j2,j8,j1,j11,j19,j72,j18,j16,j5,j12,j0,j73⟩:=hI
    have fm:Fp β1 γ1:=⟨j0,j1,j2,j4,j6,j7,j8,j9,j10,j12,Bool.eq_iff_iff.2 j11,j16,j73,j74,j17,j18,j19,j72,hid1⟩
    have hmn:Ln γ1:=hx.ln.of j73 hl1
    have hL1:(GU β).L 123 γ1:=⟨hmn,by rw [j3]; exact hx.buf st.ob.buf,by omega,by omega⟩
    refine ⟨hL1,(outs_cons ?_ outs_nil)⟩
    ·intro β2 hq2 hO2
     obtain ⟨⟨hb2,hg2⟩,hp⟩:=hO2
     have yy:=ra_of (by rw [← rgs_X0]; exact hq2)
     have yy5:=yy.i5
     refine (need_o hb2 ?_ (need_o hb2 ?_ (need_o hb2 ?_ (leaf_o opX hb2 ?_))))
     ·intro hA; clear hA; simp only [DD]; omega
     iterate 2 (focus (intro hA; simp only [DD] at hA ⊢; omega))
     ·intro γ2 hl2 hA hr2 hid2 hI
      simp only [DD] at hA
      obtain ⟨c0,c1,c2⟩:=hA
      simp only [DD] at hI
      obtain ⟨k74,k17,k4,k3,k9,k10,k7,k6,k2,k8,k76,k75,k1,k11,k19,k72,k18,k16,k12,k0,k73⟩:=hI
      have f2:Fp β2 γ2:=⟨k0,k1,k2,k4,k6,k7,k8,k9,k10,k12,Bool.eq_iff_iff.2 k11,k16,k73,k74,k17,k18,k19,k72,hid2⟩
      have hnn:Ln β2:=⟨hb2,hg2⟩
      exact ut_end pu hlt st hx fm j3 j5 hmn hp hnn (hnn.of k73 hl2) f2 k3 k75 k76 h5 r12.2 yy5.2
  ·intro β1 hq1 hO1
   obtain ⟨⟨hb1,hg1⟩,he⟩:=hO1
   refine (leaf_o [] hb1 ?_)
   ·intro γ1 hl1 hA hr1 hid1 hI
    clear hA
    simp only [DD] at hI
    obtain ⟨j74,j0,j73⟩:=hI
    exact ue_end st he j0 j73
theorem hold_un2 {β:Ren} (pu:PU β) (r:RU β) (hlt:gI β 8 < gI β 12) (he10:gI β 10≠0):lit_un2.Holds (GU β) β:=by
 unfold lit_un2
 have hβ:=pu.p.n.1
 have r12:=r.i12; have r8:=r.i8; have r75:=r.i75; have r76:=r.i76; have r10:=r.i10; have r9:=r.i9; have yb:=pu.buf; have yle:=pu.le; have y6:=pu.b6; have y5:=pu.b5; have yo:=pu.off
 refine (fork_of (need_o hβ ?_ (loop_of opX hβ (by kernel_rfl) (by kernel_rfl) (by kernel_rfl) (by kernel_rfl) rfl ?_)) (need_o hβ ?_ (loop_of opX hβ (by kernel_rfl) (by kernel_rfl) (by kernel_rfl) (by kernel_rfl) rfl ?_)))
 ·intro hA; simp only [DD] at hA ⊢; omega
 ·intro γ0 hl0 hA hr0 hid0 hI
  simp only [DD] at hA
  obtain ⟨a0,a1,a2,a3,a4,a5,a6⟩:=hA
  simp only [DD] at hI
  obtain ⟨i74,i17,i4,i3,i9,i10,i7,i6,i2,i8,i37,i1,i11,i19,i72,i18,i16,i13,i5,i12,i0,i73⟩:=hI
  have us:Us β γ0:=⟨i0,i1,i2,i16,i73,i74,i17,i18,i72,hid0⟩
  have hn0:Ln γ0:=pu.p.n.of i73 hl0
  have st:St β γ0:=st_n pu r hn0 (by omega) us i4 i6 i7 (Bool.eq_iff_iff.2 i11) i19 i8 i9 i10 i12 (v37_c i37) (by rw [i5,w2 pu r (by omega)]; rfl) (by omega) (by rw [i3]; exact pu.buf)
  have hL0:(GU β).L 19 γ0:=⟨st.ob,st.v37⟩
  have h5:0≤gI γ0 5:=by have:=st.i5; have:=pu.le; omega
  refine ⟨hL0,(outs_cons ?_ (outs_cons ?_ outs_nil))⟩
  ·intro β1 hq1 hO1
   obtain ⟨⟨hb1,hg1⟩,hx⟩:=hO1
   have zz:=ra_of (by rw [← rgs_X0]; exact hq1)
   have zz5:=zz.i5
   have zz12:=zz.i12
   refine (loop_of opX hb1 (by kernel_rfl) (by kernel_rfl) (by kernel_rfl) (by kernel_rfl) rfl ?_)
   ·intro γ1 hl1 hA hr1 hid1 hI
    clear hA
    simp only [DD] at hI
    obtain ⟨j74,j17,j4,j3,j9,j10,j7,j6,j2,j8,j1,j11,j19,j72,j18,j16,j5,j12,j0,j73⟩:=hI
    have fm:Fp β1 γ1:=⟨j0,j1,j2,j4,j6,j7,j8,j9,j10,j12,Bool.eq_iff_iff.2 j11,j16,j73,j74,j17,j18,j19,j72,hid1⟩
    have hmn:Ln γ1:=hx.ln.of j73 hl1
    have hL1:(GU β).L 123 γ1:=⟨hmn,by rw [j3]; exact hx.buf st.ob.buf,by omega,by omega⟩
    refine ⟨hL1,(outs_cons ?_ outs_nil)⟩
    ·intro β2 hq2 hO2
     obtain ⟨⟨hb2,hg2⟩,hp⟩:=hO2
     have yy:=ra_of (by rw [← rgs_X0]; exact hq2)
     have yy5:=yy.i5
     refine (need_o hb2 ?_ (need_o hb2 ?_ (need_o hb2 ?_ (leaf_o opX hb2 ?_))))
     ·intro hA; clear hA; simp only [DD]; omega
     iterate 2 (focus (intro hA; simp only [DD] at hA ⊢; omega))
     ·intro γ2 hl2 hA hr2 hid2 hI
      simp only [DD] at hA
      obtain ⟨c0,c1,c2⟩:=hA
      simp only [DD] at hI
      obtain ⟨k74,k17,k4,k3,k9,k10,k7,k6,k2,k8,k76,k75,k1,k11,k19,k72,k18,k16,k12,k0,k73⟩:=hI
      have f2:Fp β2 γ2:=⟨k0,k1,k2,k4,k6,k7,k8,k9,k10,k12,Bool.eq_iff_iff.2 k11,k16,k73,k74,k17,k18,k19,k72,hid2⟩
      have hnn:Ln β2:=⟨hb2,hg2⟩
      exact ut_end pu hlt st hx fm j3 j5 hmn hp hnn (hnn.of k73 hl2) f2 k3 k75 k76 h5 r12.2 yy5.2
  ·intro β1 hq1 hO1
   obtain ⟨⟨hb1,hg1⟩,he⟩:=hO1
   refine (leaf_o [] hb1 ?_)
   ·intro γ1 hl1 hA hr1 hid1 hI
    clear hA
    simp only [DD] at hI
    obtain ⟨j74,j0,j73⟩:=hI
    exact ue_end st he j0 j73
 ·intro hA; simp only [DD] at hA ⊢; omega
 ·intro γ0 hl0 hA hr0 hid0 hI
  simp only [DD] at hA
  obtain ⟨a0,a1,a2,a3,a4,a5⟩:=hA
  simp only [DD] at hI
  obtain ⟨i74,i17,i4,i3,i9,i10,i7,i6,i2,i8,i37,i1,i11,i19,i72,i18,i16,i13,i5,i12,i0,i73⟩:=hI
  have us:Us β γ0:=⟨i0,i1,i2,i16,i73,i74,i17,i18,i72,hid0⟩
  have hn0:Ln γ0:=pu.p.n.of i73 hl0
  have st:St β γ0:=st_n pu r hn0 (by omega) us i4 i6 i7 (Bool.eq_iff_iff.2 i11) i19 i8 i9 i10 i12 (v37_c i37) (by rw [i5,w2 pu r (by omega)]; rfl) (by omega) (by rw [i3]; exact pu.buf)
  have hL0:(GU β).L 19 γ0:=⟨st.ob,st.v37⟩
  have h5:0≤gI γ0 5:=by have:=st.i5; have:=pu.le; omega
  refine ⟨hL0,(outs_cons ?_ (outs_cons ?_ outs_nil))⟩
  ·intro β1 hq1 hO1
   obtain ⟨⟨hb1,hg1⟩,hx⟩:=hO1
   have zz:=ra_of (by rw [← rgs_X0]; exact hq1)
   have zz5:=zz.i5
   have zz12:=zz.i12
   refine (loop_of opX hb1 (by kernel_rfl) (by kernel_rfl) (by kernel_rfl) (by kernel_rfl) rfl ?_)
   ·intro γ1 hl1 hA hr1 hid1 hI
    clear hA
    simp only [DD] at hI
    obtain ⟨j74,j17,j4,j3,j9,j10,j7,j6,j2,j8,j1,j11,j19,j72,j18,j16,j5,j12,j0,j73⟩:=hI
    have fm:Fp β1 γ1:=⟨j0,j1,j2,j4,j6,j7,j8,j9,j10,j12,Bool.eq_iff_iff.2 j11,j16,j73,j74,j17,j18,j19,j72,hid1⟩
    have hmn:Ln γ1:=hx.ln.of j73 hl1
    have hL1:(GU β).L 123 γ1:=⟨hmn,by rw [j3]; exact hx.buf st.ob.buf,by omega,by omega⟩
    refine ⟨hL1,(outs_cons ?_ outs_nil)⟩
    ·intro β2 hq2 hO2
     obtain ⟨⟨hb2,hg2⟩,hp⟩:=hO2
     have yy:=ra_of (by rw [← rgs_X0]; exact hq2)
     have yy5:=yy.i5
     refine (need_o hb2 ?_ (need_o hb2 ?_ (need_o hb2 ?_ (leaf_o opX hb2 ?_))))
     ·intro hA; clear hA; simp only [DD]; omega
     iterate 2 (focus (intro hA; simp only [DD] at hA ⊢; omega))
     ·intro γ2 hl2 hA hr2 hid2 hI
      simp only [DD] at hA
      obtain ⟨c0,c1,c2⟩:=hA
      simp only [DD] at hI
      obtain ⟨k74,k17,k4,k3,k9,k10,k7,k6,k2,k8,k76,k75,k1,k11,k19,k72,k18,k16,k12,k0,k73⟩:=hI
      have f2:Fp β2 γ2:=⟨k0,k1,k2,k4,k6,k7,k8,k9,k10,k12,Bool.eq_iff_iff.2 k11,k16,k73,k74,k17,k18,k19,k72,hid2⟩
      have hnn:Ln β2:=⟨hb2,hg2⟩
      exact ut_end pu hlt st hx fm j3 j5 hmn hp hnn (hnn.of k73 hl2) f2 k3 k75 k76 h5 r12.2 yy5.2
  ·intro β1 hq1 hO1
   obtain ⟨⟨hb1,hg1⟩,he⟩:=hO1
   refine (leaf_o [] hb1 ?_)
   ·intro γ1 hl1 hA hr1 hid1 hI
    clear hA
    simp only [DD] at hI
    obtain ⟨j74,j0,j73⟩:=hI
    exact ue_end st he j0 j73
theorem hold_un3 {β:Ren} (pu:PU β) (r:RU β) (hlt:gI β 8 < gI β 12) (he10:gI β 10≠0):lit_un3.Holds (GU β) β:=by
 unfold lit_un3
 have hβ:=pu.p.n.1
 have r12:=r.i12; have r8:=r.i8; have r75:=r.i75; have r76:=r.i76; have r10:=r.i10; have r9:=r.i9; have yb:=pu.buf; have yle:=pu.le; have y6:=pu.b6; have y5:=pu.b5; have yo:=pu.off
 refine (fork_of (need_o hβ ?_ (need_o hβ ?_ (loop_of opX hβ (by kernel_rfl) (by kernel_rfl) (by kernel_rfl) (by kernel_rfl) rfl ?_))) (need_o hβ ?_ (need_o hβ ?_ (loop_of opX hβ (by kernel_rfl) (by kernel_rfl) (by kernel_rfl) (by kernel_rfl) rfl ?_))))
 iterate 2 (focus (intro hA; simp only [DD] at hA ⊢; omega))
 ·intro γ0 hl0 hA hr0 hid0 hI
  simp only [DD] at hA
  obtain ⟨a0,a1,a2,a3,a4,a5,a6,a7⟩:=hA
  simp only [DD] at hI
  obtain ⟨i74,i17,i4,i3,i9,i10,i7,i6,i2,i8,i37,i1,i11,i19,i72,i18,i16,i13,i5,i12,i0,i73⟩:=hI
  have us:Us β γ0:=⟨i0,i1,i2,i16,i73,i74,i17,i18,i72,hid0⟩
  have hn0:Ln γ0:=pu.p.n.of i73 hl0
  have st:St β γ0:=st_n pu r hn0 (by omega) us i4 i6 i7 (Bool.eq_iff_iff.2 i11) i19 i8 i9 i10 i12 (v37_v i37 (by omega)) (by rw [i3,i5,w3 (by omega)]) (by omega) (by rw [i3]; exact pu.buf)
  have hL0:(GU β).L 19 γ0:=⟨st.ob,st.v37⟩
  have h5:0≤gI γ0 5:=by have:=st.i5; have:=pu.le; omega
  refine ⟨hL0,(outs_cons ?_ (outs_cons ?_ outs_nil))⟩
  ·intro β1 hq1 hO1
   obtain ⟨⟨hb1,hg1⟩,hx⟩:=hO1
   have zz:=ra_of (by rw [← rgs_X0]; exact hq1)
   have zz5:=zz.i5
   have zz12:=zz.i12
   refine (loop_of opX hb1 (by kernel_rfl) (by kernel_rfl) (by kernel_rfl) (by kernel_rfl) rfl ?_)
   ·intro γ1 hl1 hA hr1 hid1 hI
    clear hA
    simp only [DD] at hI
    obtain ⟨j74,j17,j4,j3,j9,j10,j7,j6,j2,j8,j1,j11,j19,j72,j18,j16,j5,j12,j0,j73⟩:=hI
    have fm:Fp β1 γ1:=⟨j0,j1,j2,j4,j6,j7,j8,j9,j10,j12,Bool.eq_iff_iff.2 j11,j16,j73,j74,j17,j18,j19,j72,hid1⟩
    have hmn:Ln γ1:=hx.ln.of j73 hl1
    have hL1:(GU β).L 123 γ1:=⟨hmn,by rw [j3]; exact hx.buf st.ob.buf,by omega,by omega⟩
    refine ⟨hL1,(outs_cons ?_ outs_nil)⟩
    ·intro β2 hq2 hO2
     obtain ⟨⟨hb2,hg2⟩,hp⟩:=hO2
     have yy:=ra_of (by rw [← rgs_X0]; exact hq2)
     have yy5:=yy.i5
     refine (need_o hb2 ?_ (need_o hb2 ?_ (need_o hb2 ?_ (leaf_o opX hb2 ?_))))
     ·intro hA; clear hA; simp only [DD]; omega
     iterate 2 (focus (intro hA; simp only [DD] at hA ⊢; omega))
     ·intro γ2 hl2 hA hr2 hid2 hI
      simp only [DD] at hA
      obtain ⟨c0,c1,c2⟩:=hA
      simp only [DD] at hI
      obtain ⟨k74,k17,k4,k3,k9,k10,k7,k6,k2,k8,k76,k75,k1,k11,k19,k72,k18,k16,k12,k0,k73⟩:=hI
      have f2:Fp β2 γ2:=⟨k0,k1,k2,k4,k6,k7,k8,k9,k10,k12,Bool.eq_iff_iff.2 k11,k16,k73,k74,k17,k18,k19,k72,hid2⟩
      have hnn:Ln β2:=⟨hb2,hg2⟩
      exact ut_end pu hlt st hx fm j3 j5 hmn hp hnn (hnn.of k73 hl2) f2 k3 k75 k76 h5 r12.2 yy5.2
  ·intro β1 hq1 hO1
   obtain ⟨⟨hb1,hg1⟩,he⟩:=hO1
   refine (leaf_o [] hb1 ?_)
   ·intro γ1 hl1 hA hr1 hid1 hI
    clear hA
    simp only [DD] at hI
    obtain ⟨j74,j0,j73⟩:=hI
    exact ue_end st he j0 j73
 iterate 2 (focus (intro hA; simp only [DD] at hA ⊢; omega))
 ·intro γ0 hl0 hA hr0 hid0 hI
  simp only [DD] at hA
  obtain ⟨a0,a1,a2,a3,a4,a5,a6⟩:=hA
  simp only [DD] at hI
  obtain ⟨i74,i17,i4,i3,i9,i10,i7,i6,i2,i8,i37,i1,i11,i19,i72,i18,i16,i13,i5,i12,i0,i73⟩:=hI
  have us:Us β γ0:=⟨i0,i1,i2,i16,i73,i74,i17,i18,i72,hid0⟩
  have hn0:Ln γ0:=pu.p.n.of i73 hl0
  have st:St β γ0:=st_n pu r hn0 (by omega) us i4 i6 i7 (Bool.eq_iff_iff.2 i11) i19 i8 i9 i10 i12 (v37_v i37 (by omega)) (by rw [i3,i5,w3 (by omega)]) (by omega) (by rw [i3]; exact pu.buf)
  have hL0:(GU β).L 19 γ0:=⟨st.ob,st.v37⟩
  have h5:0≤gI γ0 5:=by have:=st.i5; have:=pu.le; omega
  refine ⟨hL0,(outs_cons ?_ (outs_cons ?_ outs_nil))⟩
  ·intro β1 hq1 hO1
   obtain ⟨⟨hb1,hg1⟩,hx⟩:=hO1
   have zz:=ra_of (by rw [← rgs_X0]; exact hq1)
   have zz5:=zz.i5
   have zz12:=zz.i12
   refine (loop_of opX hb1 (by kernel_rfl) (by kernel_rfl) (by kernel_rfl) (by kernel_rfl) rfl ?_)
   ·intro γ1 hl1 hA hr1 hid1 hI
    clear hA
    simp only [DD] at hI
    obtain ⟨j74,j17,j4,j3,j9,j10,j7,j6,j2,j8,j1,j11,j19,j72,j18,j16,j5,j12,j0,j73⟩:=hI
    have fm:Fp β1 γ1:=⟨j0,j1,j2,j4,j6,j7,j8,j9,j10,j12,Bool.eq_iff_iff.2 j11,j16,j73,j74,j17,j18,j19,j72,hid1⟩
    have hmn:Ln γ1:=hx.ln.of j73 hl1
    have hL1:(GU β).L 123 γ1:=⟨hmn,by rw [j3]; exact hx.buf st.ob.buf,by omega,by omega⟩
    refine ⟨hL1,(outs_cons ?_ outs_nil)⟩
    ·intro β2 hq2 hO2
     obtain ⟨⟨hb2,hg2⟩,hp⟩:=hO2
     have yy:=ra_of (by rw [← rgs_X0]; exact hq2)
     have yy5:=yy.i5
     refine (need_o hb2 ?_ (need_o hb2 ?_ (need_o hb2 ?_ (leaf_o opX hb2 ?_))))
     ·intro hA; clear hA; simp only [DD]; omega
     iterate 2 (focus (intro hA; simp only [DD] at hA ⊢; omega))
     ·intro γ2 hl2 hA hr2 hid2 hI
      simp only [DD] at hA
      obtain ⟨c0,c1,c2⟩:=hA
      simp only [DD] at hI
      obtain ⟨k74,k17,k4,k3,k9,k10,k7,k6,k2,k8,k76,k75,k1,k11,k19,k72,k18,k16,k12,k0,k73⟩:=hI
      have f2:Fp β2 γ2:=⟨k0,k1,k2,k4,k6,k7,k8,k9,k10,k12,Bool.eq_iff_iff.2 k11,k16,k73,k74,k17,k18,k19,k72,hid2⟩
      have hnn:Ln β2:=⟨hb2,hg2⟩
      exact ut_end pu hlt st hx fm j3 j5 hmn hp hnn (hnn.of k73 hl2) f2 k3 k75 k76 h5 r12.2 yy5.2
  ·intro β1 hq1 hO1
   obtain ⟨⟨hb1,hg1⟩,he⟩:=hO1
   refine (leaf_o [] hb1 ?_)
   ·intro γ1 hl1 hA hr1 hid1 hI
    clear hA
    simp only [DD] at hI
    obtain ⟨j74,j0,j73⟩:=hI
    exact ue_end st he j0 j73
theorem hold_uz1 {β:Ren} (pu:PU β) (r:RU β) (hlt:gI β 8 < gI β 12) (he10:gI β 10=0):lit_uz1.Holds (GU β) β:=by
 unfold lit_uz1
 have hβ:=pu.p.n.1
 have r12:=r.i12; have r8:=r.i8; have r75:=r.i75; have r76:=r.i76; have r10:=r.i10; have r9:=r.i9; have yb:=pu.buf; have yle:=pu.le; have y6:=pu.b6; have y5:=pu.b5; have yo:=pu.off
 refine (fork_of (call_of opX hβ (by kernel_rfl) (by kernel_rfl) ?_) (call_of opX hβ (by kernel_rfl) (by kernel_rfl) ?_))
 ·intro γ0 hl0 hA hr0 hid0 hI
  simp only [DD] at hA
  obtain ⟨a0,a1,a2,a3,a4,a5,a6,a7⟩:=hA
  simp only [DD] at hI
  obtain ⟨i74,i17,i4,i9,i10,i7,i6,i2,i38,i37,i36,i11,i19,i72,i18,i16,i0,i73⟩:=hI
  have hn0:Ln γ0:=pu.p.n.of i73 hl0
  have p0:PR γ0:=pu.p.of hn0 i4 i6 i7 (Bool.eq_iff_iff.2 i11) i17 i18 i19
  have e0:restB γ0=restB β:=rest_of i4 i6 i7 i17 i18 i19
  have hL0:(GU β).CL 48 γ0:=⟨p0,by omega⟩
  refine ⟨hL0,(callo_cons ?_ callo_nil)⟩
  ·intro β1 hq1 hO1
   obtain ⟨hn1,de⟩:=hO1
   have hb1:=app_len hβ hn1.1
   simp only [Nat.reduceAdd] at hb1
   refine (need_o hb1 ?_ (need_o hb1 ?_ (need_o hb1 ?_ (need_o hb1 ?_ (need_o hb1 ?_ (need_o hb1 ?_ (loop_of opX hb1 (by kernel_rfl) (by kernel_rfl) (by kernel_rfl) (by kernel_rfl) rfl ?_)))))))
   iterate 6 (focus (intro hA; simp only [DD,aA hβ,Nat.reduceLT,Nat.reduceLeDiff,Nat.reduceSub] at hA ⊢; omega))
   ·intro γ1 hl1 hA hr1 hid1 hI
    simp only [DD,aA hβ,Nat.reduceLT,Nat.reduceLeDiff,Nat.reduceSub] at hA
    obtain ⟨b0,b1,b2,b3,b4,b5,b6,b7,b8,b9,b10,b11,b12,b13⟩:=hA
    simp only [DD,aA hβ,Nat.reduceLT,Nat.reduceLeDiff,Nat.reduceSub] at hI
    obtain ⟨j74,j17,j4,j3,j9,j10,j7,j6,j2,j8,j37,j1,j11,j19,j72,j18,j16,j13,j5,j12,j0,j73⟩:=hI
    have us:Us β γ1:=⟨j0,j1,j2,j16,j73,j74,j17,j18,j72,hid_l hβ (by decide) hid1⟩
    have hn1:Ln γ1:=pu.p.n.of j73 hl1
    have st:St β γ1:=st_z pu r (by omega) de e0 i9 i19 i17 i18 hn1 us j4 j6 j7 (Bool.eq_iff_iff.2 j11) j19 j9 j10 j8 j12 (v37_c j37) (by rw [j3,j5]; exact (w1 pu r).1) j5 (by rw [j3]; exact (w1 pu r).2)
    have hL1:(GU β).L 19 γ1:=⟨st.ob,st.v37⟩
    have h5:0≤gI γ1 5:=by have:=st.i5; have:=pu.le; omega
    refine ⟨hL1,(outs_cons ?_ (outs_cons ?_ outs_nil))⟩
    ·intro β2 hq2 hO2
     obtain ⟨⟨hb2,hg2⟩,hx⟩:=hO2
     have zz:=ra_of (by rw [← rgs_X0]; exact hq2)
     have zz5:=zz.i5
     have zz12:=zz.i12
     refine (loop_of opX hb2 (by kernel_rfl) (by kernel_rfl) (by kernel_rfl) (by kernel_rfl) rfl ?_)
     ·intro γ2 hl2 hA hr2 hid2 hI
      clear hA
      simp only [DD] at hI
      obtain ⟨k74,k17,k4,k3,k9,k10,k7,k6,k2,k8,k1,k11,k19,k72,k18,k16,k5,k12,k0,k73⟩:=hI
      have fm:Fp β2 γ2:=⟨k0,k1,k2,k4,k6,k7,k8,k9,k10,k12,Bool.eq_iff_iff.2 k11,k16,k73,k74,k17,k18,k19,k72,hid2⟩
      have hmn:Ln γ2:=hx.ln.of k73 hl2
      have hL2:(GU β).L 123 γ2:=⟨hmn,by rw [k3]; exact hx.buf st.ob.buf,by omega,by omega⟩
      refine ⟨hL2,(outs_cons ?_ outs_nil)⟩
      ·intro β3 hq3 hO3
       obtain ⟨⟨hb3,hg3⟩,hp⟩:=hO3
       have yy:=ra_of (by rw [← rgs_X0]; exact hq3)
       have yy5:=yy.i5
       refine (need_o hb3 ?_ (need_o hb3 ?_ (need_o hb3 ?_ (leaf_o opX hb3 ?_))))
       ·intro hA; clear hA; simp only [DD]; omega
       iterate 2 (focus (intro hA; simp only [DD] at hA ⊢; omega))
       ·intro γ3 hl3 hA hr3 hid3 hI
        simp only [DD] at hA
        obtain ⟨d0,d1,d2⟩:=hA
        simp only [DD] at hI
        obtain ⟨l74,l17,l4,l3,l9,l10,l7,l6,l2,l8,l76,l75,l1,l11,l19,l72,l18,l16,l12,l0,l73⟩:=hI
        have f2:Fp β3 γ3:=⟨l0,l1,l2,l4,l6,l7,l8,l9,l10,l12,Bool.eq_iff_iff.2 l11,l16,l73,l74,l17,l18,l19,l72,hid3⟩
        have hnn:Ln β3:=⟨hb3,hg3⟩
        exact ut_end pu hlt st hx fm k3 k5 hmn hp hnn (hnn.of l73 hl3) f2 l3 l75 l76 h5 r12.2 yy5.2
    ·intro β2 hq2 hO2
     obtain ⟨⟨hb2,hg2⟩,he⟩:=hO2
     refine (leaf_o [] hb2 ?_)
     ·intro γ2 hl2 hA hr2 hid2 hI
      clear hA
      simp only [DD] at hI
      obtain ⟨k74,k0,k73⟩:=hI
      exact ue_end st he k0 k73
 ·intro γ0 hl0 hA hr0 hid0 hI
  simp only [DD] at hA
  obtain ⟨a0,a1,a2,a3,a4,a5,a6⟩:=hA
  simp only [DD] at hI
  obtain ⟨i74,i17,i4,i9,i10,i7,i6,i2,i38,i37,i36,i11,i19,i72,i18,i16,i0,i73⟩:=hI
  have hn0:Ln γ0:=pu.p.n.of i73 hl0
  have p0:PR γ0:=pu.p.of hn0 i4 i6 i7 (Bool.eq_iff_iff.2 i11) i17 i18 i19
  have e0:restB γ0=restB β:=rest_of i4 i6 i7 i17 i18 i19
  have hL0:(GU β).CL 48 γ0:=⟨p0,by omega⟩
  refine ⟨hL0,(callo_cons ?_ callo_nil)⟩
  ·intro β1 hq1 hO1
   obtain ⟨hn1,de⟩:=hO1
   have hb1:=app_len hβ hn1.1
   simp only [Nat.reduceAdd] at hb1
   refine (need_o hb1 ?_ (need_o hb1 ?_ (need_o hb1 ?_ (need_o hb1 ?_ (need_o hb1 ?_ (need_o hb1 ?_ (loop_of opX hb1 (by kernel_rfl) (by kernel_rfl) (by kernel_rfl) (by kernel_rfl) rfl ?_)))))))
   iterate 6 (focus (intro hA; simp only [DD,aA hβ,Nat.reduceLT,Nat.reduceLeDiff,Nat.reduceSub] at hA ⊢; omega))
   ·intro γ1 hl1 hA hr1 hid1 hI
    simp only [DD,aA hβ,Nat.reduceLT,Nat.reduceLeDiff,Nat.reduceSub] at hA
    obtain ⟨b0,b1,b2,b3,b4,b5,b6,b7,b8,b9,b10,b11,b12⟩:=hA
    simp only [DD,aA hβ,Nat.reduceLT,Nat.reduceLeDiff,Nat.reduceSub] at hI
    obtain ⟨j74,j17,j4,j3,j9,j10,j7,j6,j2,j8,j37,j1,j11,j19,j72,j18,j16,j13,j5,j12,j0,j73⟩:=hI
    have us:Us β γ1:=⟨j0,j1,j2,j16,j73,j74,j17,j18,j72,hid_l hβ (by decide) hid1⟩
    have hn1:Ln γ1:=pu.p.n.of j73 hl1
    have st:St β γ1:=st_z pu r (by omega) de e0 i9 i19 i17 i18 hn1 us j4 j6 j7 (Bool.eq_iff_iff.2 j11) j19 j9 j10 j8 j12 (v37_c j37) (by rw [j3,j5]; exact (w1 pu r).1) j5 (by rw [j3]; exact (w1 pu r).2)
    have hL1:(GU β).L 19 γ1:=⟨st.ob,st.v37⟩
    have h5:0≤gI γ1 5:=by have:=st.i5; have:=pu.le; omega
    refine ⟨hL1,(outs_cons ?_ (outs_cons ?_ outs_nil))⟩
    ·intro β2 hq2 hO2
     obtain ⟨⟨hb2,hg2⟩,hx⟩:=hO2
     have zz:=ra_of (by rw [← rgs_X0]; exact hq2)
     have zz5:=zz.i5
     have zz12:=zz.i12
     refine (loop_of opX hb2 (by kernel_rfl) (by kernel_rfl) (by kernel_rfl) (by kernel_rfl) rfl ?_)
     ·intro γ2 hl2 hA hr2 hid2 hI
      clear hA
      simp only [DD] at hI
      obtain ⟨k74,k17,k4,k3,k9,k10,k7,k6,k2,k8,k1,k11,k19,k72,k18,k16,k5,k12,k0,k73⟩:=hI
      have fm:Fp β2 γ2:=⟨k0,k1,k2,k4,k6,k7,k8,k9,k10,k12,Bool.eq_iff_iff.2 k11,k16,k73,k74,k17,k18,k19,k72,hid2⟩
      have hmn:Ln γ2:=hx.ln.of k73 hl2
      have hL2:(GU β).L 123 γ2:=⟨hmn,by rw [k3]; exact hx.buf st.ob.buf,by omega,by omega⟩
      refine ⟨hL2,(outs_cons ?_ outs_nil)⟩
      ·intro β3 hq3 hO3
       obtain ⟨⟨hb3,hg3⟩,hp⟩:=hO3
       have yy:=ra_of (by rw [← rgs_X0]; exact hq3)
       have yy5:=yy.i5
       refine (need_o hb3 ?_ (need_o hb3 ?_ (need_o hb3 ?_ (leaf_o opX hb3 ?_))))
       ·intro hA; clear hA; simp only [DD]; omega
       iterate 2 (focus (intro hA; simp only [DD] at hA ⊢; omega))
       ·intro γ3 hl3 hA hr3 hid3 hI
        simp only [DD] at hA
        obtain ⟨d0,d1,d2⟩:=hA
        simp only [DD] at hI
        obtain ⟨l74,l17,l4,l3,l9,l10,l7,l6,l2,l8,l76,l75,l1,l11,l19,l72,l18,l16,l12,l0,l73⟩:=hI
        have f2:Fp β3 γ3:=⟨l0,l1,l2,l4,l6,l7,l8,l9,l10,l12,Bool.eq_iff_iff.2 l11,l16,l73,l74,l17,l18,l19,l72,hid3⟩
        have hnn:Ln β3:=⟨hb3,hg3⟩
        exact ut_end pu hlt st hx fm k3 k5 hmn hp hnn (hnn.of l73 hl3) f2 l3 l75 l76 h5 r12.2 yy5.2
    ·intro β2 hq2 hO2
     obtain ⟨⟨hb2,hg2⟩,he⟩:=hO2
     refine (leaf_o [] hb2 ?_)
     ·intro γ2 hl2 hA hr2 hid2 hI
      clear hA
      simp only [DD] at hI
      obtain ⟨k74,k0,k73⟩:=hI
      exact ue_end st he k0 k73
theorem hold_uz2 {β:Ren} (pu:PU β) (r:RU β) (hlt:gI β 8 < gI β 12) (he10:gI β 10=0):lit_uz2.Holds (GU β) β:=by
 unfold lit_uz2
 have hβ:=pu.p.n.1
 have r12:=r.i12; have r8:=r.i8; have r75:=r.i75; have r76:=r.i76; have r10:=r.i10; have r9:=r.i9; have yb:=pu.buf; have yle:=pu.le; have y6:=pu.b6; have y5:=pu.b5; have yo:=pu.off
 refine (fork_of (call_of opX hβ (by kernel_rfl) (by kernel_rfl) ?_) (call_of opX hβ (by kernel_rfl) (by kernel_rfl) ?_))
 ·intro γ0 hl0 hA hr0 hid0 hI
  simp only [DD] at hA
  obtain ⟨a0,a1,a2,a3,a4,a5⟩:=hA
  simp only [DD] at hI
  obtain ⟨i74,i17,i4,i9,i10,i7,i6,i2,i38,i37,i36,i11,i19,i72,i18,i16,i0,i73⟩:=hI
  have hn0:Ln γ0:=pu.p.n.of i73 hl0
  have p0:PR γ0:=pu.p.of hn0 i4 i6 i7 (Bool.eq_iff_iff.2 i11) i17 i18 i19
  have e0:restB γ0=restB β:=rest_of i4 i6 i7 i17 i18 i19
  have hL0:(GU β).CL 48 γ0:=⟨p0,by omega⟩
  refine ⟨hL0,(callo_cons ?_ callo_nil)⟩
  ·intro β1 hq1 hO1
   obtain ⟨hn1,de⟩:=hO1
   have hb1:=app_len hβ hn1.1
   simp only [Nat.reduceAdd] at hb1
   refine (loop_of opX hb1 (by kernel_rfl) (by kernel_rfl) (by kernel_rfl) (by kernel_rfl) rfl ?_)
   ·intro γ1 hl1 hA hr1 hid1 hI
    simp only [DD,aA hβ,Nat.reduceLT,Nat.reduceLeDiff,Nat.reduceSub] at hA
    obtain ⟨b0,b1,b2,b3,b4,b5⟩:=hA
    simp only [DD,aA hβ,Nat.reduceLT,Nat.reduceLeDiff,Nat.reduceSub] at hI
    obtain ⟨j74,j17,j4,j3,j9,j10,j7,j6,j2,j8,j37,j1,j11,j19,j72,j18,j16,j13,j5,j12,j0,j73⟩:=hI
    have us:Us β γ1:=⟨j0,j1,j2,j16,j73,j74,j17,j18,j72,hid_l hβ (by decide) hid1⟩
    have hn1:Ln γ1:=pu.p.n.of j73 hl1
    have st:St β γ1:=st_z pu r (by omega) de e0 i9 i19 i17 i18 hn1 us j4 j6 j7 (Bool.eq_iff_iff.2 j11) j19 j9 j10 j8 j12 (v37_c j37) (by rw [j5,w2 pu r (by omega)]; rfl) (by omega) (by rw [j3]; exact pu.buf)
    have hL1:(GU β).L 19 γ1:=⟨st.ob,st.v37⟩
    have h5:0≤gI γ1 5:=by have:=st.i5; have:=pu.le; omega
    refine ⟨hL1,(outs_cons ?_ (outs_cons ?_ outs_nil))⟩
    ·intro β2 hq2 hO2
     obtain ⟨⟨hb2,hg2⟩,hx⟩:=hO2
     have zz:=ra_of (by rw [← rgs_X0]; exact hq2)
     have zz5:=zz.i5
     have zz12:=zz.i12
     refine (loop_of opX hb2 (by kernel_rfl) (by kernel_rfl) (by kernel_rfl) (by kernel_rfl) rfl ?_)
     ·intro γ2 hl2 hA hr2 hid2 hI
      clear hA
      simp only [DD] at hI
      obtain ⟨k74,k17,k4,k3,k9,k10,k7,k6,k2,k8,k1,k11,k19,k72,k18,k16,k5,k12,k0,k73⟩:=hI
      have fm:Fp β2 γ2:=⟨k0,k1,k2,k4,k6,k7,k8,k9,k10,k12,Bool.eq_iff_iff.2 k11,k16,k73,k74,k17,k18,k19,k72,hid2⟩
      have hmn:Ln γ2:=hx.ln.of k73 hl2
      have hL2:(GU β).L 123 γ2:=⟨hmn,by rw [k3]; exact hx.buf st.ob.buf,by omega,by omega⟩
      refine ⟨hL2,(outs_cons ?_ outs_nil)⟩
      ·intro β3 hq3 hO3
       obtain ⟨⟨hb3,hg3⟩,hp⟩:=hO3
       have yy:=ra_of (by rw [← rgs_X0]; exact hq3)
       have yy5:=yy.i5
       refine (need_o hb3 ?_ (need_o hb3 ?_ (need_o hb3 ?_ (leaf_o opX hb3 ?_))))
       ·intro hA; clear hA; simp only [DD]; omega
       iterate 2 (focus (intro hA; simp only [DD] at hA ⊢; omega))
       ·intro γ3 hl3 hA hr3 hid3 hI
        simp only [DD] at hA
        obtain ⟨d0,d1,d2⟩:=hA
        simp only [DD] at hI
        obtain ⟨l74,l17,l4,l3,l9,l10,l7,l6,l2,l8,l76,l75,l1,l11,l19,l72,l18,l16,l12,l0,l73⟩:=hI
        have f2:Fp β3 γ3:=⟨l0,l1,l2,l4,l6,l7,l8,l9,l10,l12,Bool.eq_iff_iff.2 l11,l16,l73,l74,l17,l18,l19,l72,hid3⟩
        have hnn:Ln β3:=⟨hb3,hg3⟩
        exact ut_end pu hlt st hx fm k3 k5 hmn hp hnn (hnn.of l73 hl3) f2 l3 l75 l76 h5 r12.2 yy5.2
    ·intro β2 hq2 hO2
     obtain ⟨⟨hb2,hg2⟩,he⟩:=hO2
     refine (leaf_o [] hb2 ?_)
     ·intro γ2 hl2 hA hr2 hid2 hI
      clear hA
      simp only [DD] at hI
      obtain ⟨k74,k0,k73⟩:=hI
      exact ue_end st he k0 k73
 ·intro γ0 hl0 hA hr0 hid0 hI
  simp only [DD] at hA
  obtain ⟨a0,a1,a2,a3,a4⟩:=hA
  simp only [DD] at hI
  obtain ⟨i74,i17,i4,i9,i10,i7,i6,i2,i38,i37,i36,i11,i19,i72,i18,i16,i0,i73⟩:=hI
  have hn0:Ln γ0:=pu.p.n.of i73 hl0
  have p0:PR γ0:=pu.p.of hn0 i4 i6 i7 (Bool.eq_iff_iff.2 i11) i17 i18 i19
  have e0:restB γ0=restB β:=rest_of i4 i6 i7 i17 i18 i19
  have hL0:(GU β).CL 48 γ0:=⟨p0,by omega⟩
  refine ⟨hL0,(callo_cons ?_ callo_nil)⟩
  ·intro β1 hq1 hO1
   obtain ⟨hn1,de⟩:=hO1
   have hb1:=app_len hβ hn1.1
   simp only [Nat.reduceAdd] at hb1
   refine (loop_of opX hb1 (by kernel_rfl) (by kernel_rfl) (by kernel_rfl) (by kernel_rfl) rfl ?_)
   ·intro γ1 hl1 hA hr1 hid1 hI
    simp only [DD,aA hβ,Nat.reduceLT,Nat.reduceLeDiff,Nat.reduceSub] at hA
    obtain ⟨b0,b1,b2,b3,b4⟩:=hA
    simp only [DD,aA hβ,Nat.reduceLT,Nat.reduceLeDiff,Nat.reduceSub] at hI
    obtain ⟨j74,j17,j4,j3,j9,j10,j7,j6,j2,j8,j37,j1,j11,j19,j72,j18,j16,j13,j5,j12,j0,j73⟩:=hI
    have us:Us β γ1:=⟨j0,j1,j2,j16,j73,j74,j17,j18,j72,hid_l hβ (by decide) hid1⟩
    have hn1:Ln γ1:=pu.p.n.of j73 hl1
    have st:St β γ1:=st_z pu r (by omega) de e0 i9 i19 i17 i18 hn1 us j4 j6 j7 (Bool.eq_iff_iff.2 j11) j19 j9 j10 j8 j12 (v37_c j37) (by rw [j5,w2 pu r (by omega)]; rfl) (by omega) (by rw [j3]; exact pu.buf)
    have hL1:(GU β).L 19 γ1:=⟨st.ob,st.v37⟩
    have h5:0≤gI γ1 5:=by have:=st.i5; have:=pu.le; omega
    refine ⟨hL1,(outs_cons ?_ (outs_cons ?_ outs_nil))⟩
    ·intro β2 hq2 hO2
     obtain ⟨⟨hb2,hg2⟩,hx⟩:=hO2
     have zz:=ra_of (by rw [← rgs_X0]; exact hq2)
     have zz5:=zz.i5
     have zz12:=zz.i12
     refine (loop_of opX hb2 (by kernel_rfl) (by kernel_rfl) (by kernel_rfl) (by kernel_rfl) rfl ?_)
     ·intro γ2 hl2 hA hr2 hid2 hI
      clear hA
      simp only [DD] at hI
      obtain ⟨k74,k17,k4,k3,k9,k10,k7,k6,k2,k8,k1,k11,k19,k72,k18,k16,k5,k12,k0,k73⟩:=hI
      have fm:Fp β2 γ2:=⟨k0,k1,k2,k4,k6,k7,k8,k9,k10,k12,Bool.eq_iff_iff.2 k11,k16,k73,k74,k17,k18,k19,k72,hid2⟩
      have hmn:Ln γ2:=hx.ln.of k73 hl2
      have hL2:(GU β).L 123 γ2:=⟨hmn,by rw [k3]; exact hx.buf st.ob.buf,by omega,by omega⟩
      refine ⟨hL2,(outs_cons ?_ outs_nil)⟩
      ·intro β3 hq3 hO3
       obtain ⟨⟨hb3,hg3⟩,hp⟩:=hO3
       have yy:=ra_of (by rw [← rgs_X0]; exact hq3)
       have yy5:=yy.i5
       refine (need_o hb3 ?_ (need_o hb3 ?_ (need_o hb3 ?_ (leaf_o opX hb3 ?_))))
       ·intro hA; clear hA; simp only [DD]; omega
       iterate 2 (focus (intro hA; simp only [DD] at hA ⊢; omega))
       ·intro γ3 hl3 hA hr3 hid3 hI
        simp only [DD] at hA
        obtain ⟨d0,d1,d2⟩:=hA
        simp only [DD] at hI
        obtain ⟨l74,l17,l4,l3,l9,l10,l7,l6,l2,l8,l76,l75,l1,l11,l19,l72,l18,l16,l12,l0,l73⟩:=hI
        have f2:Fp β3 γ3:=⟨l0,l1,l2,l4,l6,l7,l8,l9,l10,l12,Bool.eq_iff_iff.2 l11,l16,l73,l74,l17,l18,l19,l72,hid3⟩
        have hnn:Ln β3:=⟨hb3,hg3⟩
        exact ut_end pu hlt st hx fm k3 k5 hmn hp hnn (hnn.of l73 hl3) f2 l3 l75 l76 h5 r12.2 yy5.2
    ·intro β2 hq2 hO2
     obtain ⟨⟨hb2,hg2⟩,he⟩:=hO2
     refine (leaf_o [] hb2 ?_)
     ·intro γ2 hl2 hA hr2 hid2 hI
      clear hA
      simp only [DD] at hI
      obtain ⟨k74,k0,k73⟩:=hI
      exact ue_end st he k0 k73
theorem hold_uz3 {β:Ren} (pu:PU β) (r:RU β) (hlt:gI β 8 < gI β 12) (he10:gI β 10=0):lit_uz3.Holds (GU β) β:=by
 unfold lit_uz3
 have hβ:=pu.p.n.1
 have r12:=r.i12; have r8:=r.i8; have r75:=r.i75; have r76:=r.i76; have r10:=r.i10; have r9:=r.i9; have yb:=pu.buf; have yle:=pu.le; have y6:=pu.b6; have y5:=pu.b5; have yo:=pu.off
 refine (fork_of (call_of opX hβ (by kernel_rfl) (by kernel_rfl) ?_) (call_of opX hβ (by kernel_rfl) (by kernel_rfl) ?_))
 ·intro γ0 hl0 hA hr0 hid0 hI
  simp only [DD] at hA
  obtain ⟨a0,a1,a2,a3,a4,a5⟩:=hA
  simp only [DD] at hI
  obtain ⟨i74,i17,i4,i9,i10,i7,i6,i2,i38,i37,i36,i11,i19,i72,i18,i16,i0,i73⟩:=hI
  have hn0:Ln γ0:=pu.p.n.of i73 hl0
  have p0:PR γ0:=pu.p.of hn0 i4 i6 i7 (Bool.eq_iff_iff.2 i11) i17 i18 i19
  have e0:restB γ0=restB β:=rest_of i4 i6 i7 i17 i18 i19
  have hL0:(GU β).CL 48 γ0:=⟨p0,by omega⟩
  refine ⟨hL0,(callo_cons ?_ callo_nil)⟩
  ·intro β1 hq1 hO1
   obtain ⟨hn1,de⟩:=hO1
   have hb1:=app_len hβ hn1.1
   simp only [Nat.reduceAdd] at hb1
   refine (need_o hb1 ?_ (loop_of opX hb1 (by kernel_rfl) (by kernel_rfl) (by kernel_rfl) (by kernel_rfl) rfl ?_))
   ·intro hA; simp only [DD,aA hβ,Nat.reduceLT,Nat.reduceLeDiff,Nat.reduceSub] at hA ⊢; omega
   ·intro γ1 hl1 hA hr1 hid1 hI
    simp only [DD,aA hβ,Nat.reduceLT,Nat.reduceLeDiff,Nat.reduceSub] at hA
    obtain ⟨b0,b1,b2,b3,b4,b5,b6⟩:=hA
    simp only [DD,aA hβ,Nat.reduceLT,Nat.reduceLeDiff,Nat.reduceSub] at hI
    obtain ⟨j74,j17,j4,j3,j9,j10,j7,j6,j2,j8,j37,j1,j11,j19,j72,j18,j16,j13,j5,j12,j0,j73⟩:=hI
    have us:Us β γ1:=⟨j0,j1,j2,j16,j73,j74,j17,j18,j72,hid_l hβ (by decide) hid1⟩
    have hn1:Ln γ1:=pu.p.n.of j73 hl1
    have st:St β γ1:=st_z pu r (by omega) de e0 i9 i19 i17 i18 hn1 us j4 j6 j7 (Bool.eq_iff_iff.2 j11) j19 j9 j10 j8 j12 (v37_l hβ j37 (by omega)) (by rw [j3,j5,w3 (by omega)]) (by omega) (by rw [j3]; exact pu.buf)
    have hL1:(GU β).L 19 γ1:=⟨st.ob,st.v37⟩
    have h5:0≤gI γ1 5:=by have:=st.i5; have:=pu.le; omega
    refine ⟨hL1,(outs_cons ?_ (outs_cons ?_ outs_nil))⟩
    ·intro β2 hq2 hO2
     obtain ⟨⟨hb2,hg2⟩,hx⟩:=hO2
     have zz:=ra_of (by rw [← rgs_X0]; exact hq2)
     have zz5:=zz.i5
     have zz12:=zz.i12
     refine (loop_of opX hb2 (by kernel_rfl) (by kernel_rfl) (by kernel_rfl) (by kernel_rfl) rfl ?_)
     ·intro γ2 hl2 hA hr2 hid2 hI
      clear hA
      simp only [DD] at hI
      obtain ⟨k74,k17,k4,k3,k9,k10,k7,k6,k2,k8,k1,k11,k19,k72,k18,k16,k5,k12,k0,k73⟩:=hI
      have fm:Fp β2 γ2:=⟨k0,k1,k2,k4,k6,k7,k8,k9,k10,k12,Bool.eq_iff_iff.2 k11,k16,k73,k74,k17,k18,k19,k72,hid2⟩
      have hmn:Ln γ2:=hx.ln.of k73 hl2
      have hL2:(GU β).L 123 γ2:=⟨hmn,by rw [k3]; exact hx.buf st.ob.buf,by omega,by omega⟩
      refine ⟨hL2,(outs_cons ?_ outs_nil)⟩
      ·intro β3 hq3 hO3
       obtain ⟨⟨hb3,hg3⟩,hp⟩:=hO3
       have yy:=ra_of (by rw [← rgs_X0]; exact hq3)
       have yy5:=yy.i5
       refine (need_o hb3 ?_ (need_o hb3 ?_ (need_o hb3 ?_ (leaf_o opX hb3 ?_))))
       ·intro hA; clear hA; simp only [DD]; omega
       iterate 2 (focus (intro hA; simp only [DD] at hA ⊢; omega))
       ·intro γ3 hl3 hA hr3 hid3 hI
        simp only [DD] at hA
        obtain ⟨d0,d1,d2⟩:=hA
        simp only [DD] at hI
        obtain ⟨l74,l17,l4,l3,l9,l10,l7,l6,l2,l8,l76,l75,l1,l11,l19,l72,l18,l16,l12,l0,l73⟩:=hI
        have f2:Fp β3 γ3:=⟨l0,l1,l2,l4,l6,l7,l8,l9,l10,l12,Bool.eq_iff_iff.2 l11,l16,l73,l74,l17,l18,l19,l72,hid3⟩
        have hnn:Ln β3:=⟨hb3,hg3⟩
        exact ut_end pu hlt st hx fm k3 k5 hmn hp hnn (hnn.of l73 hl3) f2 l3 l75 l76 h5 r12.2 yy5.2
    ·intro β2 hq2 hO2
     obtain ⟨⟨hb2,hg2⟩,he⟩:=hO2
     refine (leaf_o [] hb2 ?_)
     ·intro γ2 hl2 hA hr2 hid2 hI
      clear hA
      simp only [DD] at hI
      obtain ⟨k74,k0,k73⟩:=hI
      exact ue_end st he k0 k73
 ·intro γ0 hl0 hA hr0 hid0 hI
  simp only [DD] at hA
  obtain ⟨a0,a1,a2,a3,a4⟩:=hA
  simp only [DD] at hI
  obtain ⟨i74,i17,i4,i9,i10,i7,i6,i2,i38,i37,i36,i11,i19,i72,i18,i16,i0,i73⟩:=hI
  have hn0:Ln γ0:=pu.p.n.of i73 hl0
  have p0:PR γ0:=pu.p.of hn0 i4 i6 i7 (Bool.eq_iff_iff.2 i11) i17 i18 i19
  have e0:restB γ0=restB β:=rest_of i4 i6 i7 i17 i18 i19
  have hL0:(GU β).CL 48 γ0:=⟨p0,by omega⟩
  refine ⟨hL0,(callo_cons ?_ callo_nil)⟩
  ·intro β1 hq1 hO1
   obtain ⟨hn1,de⟩:=hO1
   have hb1:=app_len hβ hn1.1
   simp only [Nat.reduceAdd] at hb1
   refine (need_o hb1 ?_ (loop_of opX hb1 (by kernel_rfl) (by kernel_rfl) (by kernel_rfl) (by kernel_rfl) rfl ?_))
   ·intro hA; simp only [DD,aA hβ,Nat.reduceLT,Nat.reduceLeDiff,Nat.reduceSub] at hA ⊢; omega
   ·intro γ1 hl1 hA hr1 hid1 hI
    simp only [DD,aA hβ,Nat.reduceLT,Nat.reduceLeDiff,Nat.reduceSub] at hA
    obtain ⟨b0,b1,b2,b3,b4,b5⟩:=hA
    simp only [DD,aA hβ,Nat.reduceLT,Nat.reduceLeDiff,Nat.reduceSub] at hI
    obtain ⟨j74,j17,j4,j3,j9,j10,j7,j6,j2,j8,j37,j1,j11,j19,j72,j18,j16,j13,j5,j12,j0,j73⟩:=hI
    have us:Us β γ1:=⟨j0,j1,j2,j16,j73,j74,j17,j18,j72,hid_l hβ (by decide) hid1⟩
    have hn1:Ln γ1:=pu.p.n.of j73 hl1
    have st:St β γ1:=st_z pu r (by omega) de e0 i9 i19 i17 i18 hn1 us j4 j6 j7 (Bool.eq_iff_iff.2 j11) j19 j9 j10 j8 j12 (v37_l hβ j37 (by omega)) (by rw [j3,j5,w3 (by omega)]) (by omega) (by rw [j3]; exact pu.buf)
    have hL1:(GU β).L 19 γ1:=⟨st.ob,st.v37⟩
    have h5:0≤gI γ1 5:=by have:=st.i5; have:=pu.le; omega
    refine ⟨hL1,(outs_cons ?_ (outs_cons ?_ outs_nil))⟩
    ·intro β2 hq2 hO2
     obtain ⟨⟨hb2,hg2⟩,hx⟩:=hO2
     have zz:=ra_of (by rw [← rgs_X0]; exact hq2)
     have zz5:=zz.i5
     have zz12:=zz.i12
     refine (loop_of opX hb2 (by kernel_rfl) (by kernel_rfl) (by kernel_rfl) (by kernel_rfl) rfl ?_)
     ·intro γ2 hl2 hA hr2 hid2 hI
      clear hA
      simp only [DD] at hI
      obtain ⟨k74,k17,k4,k3,k9,k10,k7,k6,k2,k8,k1,k11,k19,k72,k18,k16,k5,k12,k0,k73⟩:=hI
      have fm:Fp β2 γ2:=⟨k0,k1,k2,k4,k6,k7,k8,k9,k10,k12,Bool.eq_iff_iff.2 k11,k16,k73,k74,k17,k18,k19,k72,hid2⟩
      have hmn:Ln γ2:=hx.ln.of k73 hl2
      have hL2:(GU β).L 123 γ2:=⟨hmn,by rw [k3]; exact hx.buf st.ob.buf,by omega,by omega⟩
      refine ⟨hL2,(outs_cons ?_ outs_nil)⟩
      ·intro β3 hq3 hO3
       obtain ⟨⟨hb3,hg3⟩,hp⟩:=hO3
       have yy:=ra_of (by rw [← rgs_X0]; exact hq3)
       have yy5:=yy.i5
       refine (need_o hb3 ?_ (need_o hb3 ?_ (need_o hb3 ?_ (leaf_o opX hb3 ?_))))
       ·intro hA; clear hA; simp only [DD]; omega
       iterate 2 (focus (intro hA; simp only [DD] at hA ⊢; omega))
       ·intro γ3 hl3 hA hr3 hid3 hI
        simp only [DD] at hA
        obtain ⟨d0,d1,d2⟩:=hA
        simp only [DD] at hI
        obtain ⟨l74,l17,l4,l3,l9,l10,l7,l6,l2,l8,l76,l75,l1,l11,l19,l72,l18,l16,l12,l0,l73⟩:=hI
        have f2:Fp β3 γ3:=⟨l0,l1,l2,l4,l6,l7,l8,l9,l10,l12,Bool.eq_iff_iff.2 l11,l16,l73,l74,l17,l18,l19,l72,hid3⟩
        have hnn:Ln β3:=⟨hb3,hg3⟩
        exact ut_end pu hlt st hx fm k3 k5 hmn hp hnn (hnn.of l73 hl3) f2 l3 l75 l76 h5 r12.2 yy5.2
    ·intro β2 hq2 hO2
     obtain ⟨⟨hb2,hg2⟩,he⟩:=hO2
     refine (leaf_o [] hb2 ?_)
     ·intro γ2 hl2 hA hr2 hid2 hI
      clear hA
      simp only [DD] at hI
      obtain ⟨k74,k0,k73⟩:=hI
      exact ue_end st he k0 k73
end U
