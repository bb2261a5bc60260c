-- the statement of this claim: see YtoamgocecoiggaaDoorRs
import Derived.Test.YtoamgocecoiggaaDoorM22
set_option linter.unusedVariables false
set_option linter.unusedSimpArgs false
set_option maxRecDepth 100000
noncomputable section
open Go Go.SM Go.Proofs
namespace U
theorem avV{V:Ren}(pu:PU V)(r:RU V):acM.Holds (GU V) V:=by
 unfold acM;have hβ:=pu.p.n.1;have r12:=r.i12;have r8:=r.i8;have r75:=r.i75;have r76:=r.i76;have r10:=r.i10;have r9:=r.i9;have yb:=pu.buf;have yle:=pu.le;have y6:=pu.b6;have y5:=pu.b5;have yo:=pu.off;refine (fO (lO opX hβ ?_) (lO opX hβ ?_))
 .intro J0 hl0 hA hr0 hid0 hI;simp only[DD]at hA hI;obtain⟨i74,i17,i4,i3,i9,i10,i7,i6,i2,i8,i76,i75,i1,i11,i19,i72,i18,i16,_,i0,i73⟩:=hI;have us:Us V J0:=⟨i0,i1,i2,i16,i73,i74,i17,i18,i72,hid0⟩
  refine⟨us,pu.p.of (pu.p.n.of i73 hl0) i4 i6 i7 (Bool.eq_iff_iff.2 i11) i17 i18 i19,by rw[i3];exact pu.buf,by omega,by omega,.inl ⟨by omega,by unfold win;rw[i3,i75,i76],i8,i9,i10,rest_of i4 i6 i7 i17 i18 i19,Bool.eq_iff_iff.2 i11⟩⟩
 .intro J0 hl0 hA hr0 hid0 hI;simp only[DD]at hA hI;obtain⟨i74,i17,i4,i3,i9,i10,i7,i6,i2,i8,i76,i75,i1,i11,i19,i72,i18,i16,_,i0,i73⟩:=hI;have us:Us V J0:=⟨i0,i1,i2,i16,i73,i74,i17,i18,i72,hid0⟩
  refine⟨us,pu.p.of (pu.p.n.of i73 hl0) i4 i6 i7 (Bool.eq_iff_iff.2 i11) i17 i18 i19,by rw[i3];exact pu.buf,by omega,by omega,.inl ⟨by omega,by unfold win;rw[i3,i75,i76],i8,i9,i10,rest_of i4 i6 i7 i17 i18 i19,Bool.eq_iff_iff.2 i11⟩⟩
theorem ajI{V:Ren}(pu:PU V)(r:RU V)(hlt:gI V 8<gI V 12)(he10:gI V 10≠0):bA.Holds (GU V) V:=by
 unfold bA;have hβ:=pu.p.n.1;have r12:=r.i12;have r8:=r.i8;have r75:=r.i75;have r76:=r.i76;have r10:=r.i10;have r9:=r.i9;have yb:=pu.buf;have yle:=pu.le;have y6:=pu.b6;have y5:=pu.b5;have yo:=pu.off;refine (fO (nO hβ ?_ (nO hβ ?_ (nO hβ ?_ (nO hβ ?_ (nO hβ ?_ (nO hβ ?_ (nO hβ ?_ (pO opX hβ rfl ?_)))))))) (nO hβ ?_ (nO hβ ?_ (nO hβ ?_ (nO hβ ?_ (nO hβ ?_ (nO hβ ?_ (nO hβ ?_ (pO opX hβ rfl ?_)))))))));iterate 7 (focus (intro hA;simp only[DD]at hA ⊢;omega))
 .intro J0 hl0 hA hr0 hid0 hI;simp only[DD]at hA hI;obtain⟨i74,i17,i4,i3,i9,i10,i7,i6,i2,i8,i37,i1,i11,i19,i72,i18,i16,_,i5,i12,i0,i73⟩:=hI;have us:Us V J0:=⟨i0,i1,i2,i16,i73,i74,i17,i18,i72,hid0⟩
  have hn0:Ln J0:=pu.p.n.of i73 hl0;have st:St V J0:=ah3 pu r hn0 (by omega) us i4 i6 i7 (Bool.eq_iff_iff.2 i11) i19 i8 i9 i10 i12 (lZ i37) (by rw[i3,i5];exact (w1 pu r).1) i5 (by rw[i3];exact (w1 pu r).2);have hL0:(GU V).L 19 J0:=⟨st.ob,st.v37⟩
  have h5:0<=gI J0 5:=by have:=st.i5;have:=pu.le;omega
  refine⟨hL0,(oC ?_ (oC ?_ oN))⟩
  .intro V1 hq1 hO1;obtain⟨⟨hb1,hg1⟩,hx⟩:=hO1;have zz:=xZ (by rw[<-xI];exact hq1);have zz5:=zz.i5;have zz12:=zz.i12;refine (pO opX hb1 rfl ?_)
   .intro J1 hl1 hA hr1 hid1 hI;simp only[DD]at hI;obtain⟨j74,j17,j4,j3,j9,j10,j7,j6,j2,j8,j1,j11,j19,j72,j18,j16,j5,j12,j0,j73⟩:=hI;have fm:Fp V1 J1:=⟨j0,j1,j2,j4,j6,j7,j8,j9,j10,j12,Bool.eq_iff_iff.2 j11,j16,j73,j74,j17,j18,j19,j72,hid1⟩
    have hmn:Ln J1:=hx.ln.of j73 hl1;have hL1:(GU V).L 123 J1:=⟨hmn,by rw[j3];exact hx.buf st.ob.buf,by omega,by omega⟩
    refine⟨hL1,(oC ?_ oN)⟩
    .intro V2 hq2 hO2;obtain⟨⟨hb2,hg2⟩,hp⟩:=hO2;have yy:=xZ (by rw[<-xI];exact hq2);have yy5:=yy.i5;refine (nO hb2 ?_ (nO hb2 ?_ (nO hb2 ?_ (lO opX hb2 ?_))))
     .intro hA;clear hA;simp only[DD];omega
     iterate 2 (focus (intro hA;simp only[DD]at hA ⊢;omega))
     .intro J2 hl2 hA hr2 hid2 hI;simp only[DD]at hA hI;obtain⟨k74,k17,k4,k3,k9,k10,k7,k6,k2,k8,k76,k75,k1,k11,k19,k72,k18,k16,k12,k0,k73⟩:=hI;have f2:Fp V2 J2:=⟨k0,k1,k2,k4,k6,k7,k8,k9,k10,k12,Bool.eq_iff_iff.2 k11,k16,k73,k74,k17,k18,k19,k72,hid2⟩
      have hnn:Ln V2:=⟨hb2,hg2⟩
      exact u7 pu hlt st hx fm j3 j5 hmn hp hnn (hnn.of k73 hl2) f2 k3 k75 k76 h5 r12.2 yy5.2
  .intro V1 hq1 hO1;obtain⟨⟨hb1,hg1⟩,he⟩:=hO1;refine (lO [] hb1 ?_)
   .intro J1 hl1 hA hr1 hid1 hI;simp only[DD]at hI;obtain⟨_,j0,j73⟩:=hI;exact uZ st he j0 j73
 iterate 7 (focus (intro hA;simp only[DD]at hA ⊢;omega))
 .intro J0 hl0 hA hr0 hid0 hI;simp only[DD]at hA hI;obtain⟨i74,i17,i4,i3,i9,i10,i7,i6,i2,i8,i37,i1,i11,i19,i72,i18,i16,_,i5,i12,i0,i73⟩:=hI;have us:Us V J0:=⟨i0,i1,i2,i16,i73,i74,i17,i18,i72,hid0⟩
  have hn0:Ln J0:=pu.p.n.of i73 hl0;have st:St V J0:=ah3 pu r hn0 (by omega) us i4 i6 i7 (Bool.eq_iff_iff.2 i11) i19 i8 i9 i10 i12 (lZ i37) (by rw[i3,i5];exact (w1 pu r).1) i5 (by rw[i3];exact (w1 pu r).2);have hL0:(GU V).L 19 J0:=⟨st.ob,st.v37⟩
  have h5:0<=gI J0 5:=by have:=st.i5;have:=pu.le;omega
  refine⟨hL0,(oC ?_ (oC ?_ oN))⟩
  .intro V1 hq1 hO1;obtain⟨⟨hb1,hg1⟩,hx⟩:=hO1;have zz:=xZ (by rw[<-xI];exact hq1);have zz5:=zz.i5;have zz12:=zz.i12;refine (pO opX hb1 rfl ?_)
   .intro J1 hl1 hA hr1 hid1 hI;simp only[DD]at hI;obtain⟨j74,j17,j4,j3,j9,j10,j7,j6,j2,j8,j1,j11,j19,j72,j18,j16,j5,j12,j0,j73⟩:=hI;have fm:Fp V1 J1:=⟨j0,j1,j2,j4,j6,j7,j8,j9,j10,j12,Bool.eq_iff_iff.2 j11,j16,j73,j74,j17,j18,j19,j72,hid1⟩
    have hmn:Ln J1:=hx.ln.of j73 hl1;have hL1:(GU V).L 123 J1:=⟨hmn,by rw[j3];exact hx.buf st.ob.buf,by omega,by omega⟩
    refine⟨hL1,(oC ?_ oN)⟩
    .intro V2 hq2 hO2;obtain⟨⟨hb2,hg2⟩,hp⟩:=hO2;have yy:=xZ (by rw[<-xI];exact hq2);have yy5:=yy.i5;refine (nO hb2 ?_ (nO hb2 ?_ (nO hb2 ?_ (lO opX hb2 ?_))))
     .intro hA;clear hA;simp only[DD];omega
     iterate 2 (focus (intro hA;simp only[DD]at hA ⊢;omega))
     .intro J2 hl2 hA hr2 hid2 hI;simp only[DD]at hA hI;obtain⟨k74,k17,k4,k3,k9,k10,k7,k6,k2,k8,k76,k75,k1,k11,k19,k72,k18,k16,k12,k0,k73⟩:=hI;have f2:Fp V2 J2:=⟨k0,k1,k2,k4,k6,k7,k8,k9,k10,k12,Bool.eq_iff_iff.2 k11,k16,k73,k74,k17,k18,k19,k72,hid2⟩
      have hnn:Ln V2:=⟨hb2,hg2⟩
      exact u7 pu hlt st hx fm j3 j5 hmn hp hnn (hnn.of k73 hl2) f2 k3 k75 k76 h5 r12.2 yy5.2
  .intro V1 hq1 hO1;obtain⟨⟨hb1,hg1⟩,he⟩:=hO1;refine (lO [] hb1 ?_)
   .intro J1 hl1 hA hr1 hid1 hI;simp only[DD]at hI;obtain⟨_,j0,j73⟩:=hI;exact uZ st he j0 j73
theorem asR{V:Ren}(pu:PU V)(r:RU V)(hlt:gI V 8<gI V 12)(he10:gI V 10≠0):L2.Holds (GU V) V:=by
 unfold L2;have hβ:=pu.p.n.1;have r12:=r.i12;have r8:=r.i8;have r75:=r.i75;have r76:=r.i76;have r10:=r.i10;have r9:=r.i9;have yb:=pu.buf;have yle:=pu.le;have y6:=pu.b6;have y5:=pu.b5;have yo:=pu.off;refine (fO (nO hβ ?_ (pO opX hβ rfl ?_)) (nO hβ ?_ (pO opX hβ rfl ?_)))
 .intro hA;simp only[DD]at hA ⊢;omega
 .intro J0 hl0 hA hr0 hid0 hI;simp only[DD]at hA hI;obtain⟨i74,i17,i4,i3,i9,i10,i7,i6,i2,i8,i37,i1,i11,i19,i72,i18,i16,_,i5,i12,i0,i73⟩:=hI;have us:Us V J0:=⟨i0,i1,i2,i16,i73,i74,i17,i18,i72,hid0⟩
  have hn0:Ln J0:=pu.p.n.of i73 hl0;have st:St V J0:=ah3 pu r hn0 (by omega) us i4 i6 i7 (Bool.eq_iff_iff.2 i11) i19 i8 i9 i10 i12 (lZ i37) (by rw[i5,w2 pu r (by omega)];rfl) (by omega) (by rw[i3];exact pu.buf);have hL0:(GU V).L 19 J0:=⟨st.ob,st.v37⟩
  have h5:0<=gI J0 5:=by have:=st.i5;have:=pu.le;omega
  refine⟨hL0,(oC ?_ (oC ?_ oN))⟩
  .intro V1 hq1 hO1;obtain⟨⟨hb1,hg1⟩,hx⟩:=hO1;have zz:=xZ (by rw[<-xI];exact hq1);have zz5:=zz.i5;have zz12:=zz.i12;refine (pO opX hb1 rfl ?_)
   .intro J1 hl1 hA hr1 hid1 hI;simp only[DD]at hI;obtain⟨j74,j17,j4,j3,j9,j10,j7,j6,j2,j8,j1,j11,j19,j72,j18,j16,j5,j12,j0,j73⟩:=hI;have fm:Fp V1 J1:=⟨j0,j1,j2,j4,j6,j7,j8,j9,j10,j12,Bool.eq_iff_iff.2 j11,j16,j73,j74,j17,j18,j19,j72,hid1⟩
    have hmn:Ln J1:=hx.ln.of j73 hl1;have hL1:(GU V).L 123 J1:=⟨hmn,by rw[j3];exact hx.buf st.ob.buf,by omega,by omega⟩
    refine⟨hL1,(oC ?_ oN)⟩
    .intro V2 hq2 hO2;obtain⟨⟨hb2,hg2⟩,hp⟩:=hO2;have yy:=xZ (by rw[<-xI];exact hq2);have yy5:=yy.i5;refine (nO hb2 ?_ (nO hb2 ?_ (nO hb2 ?_ (lO opX hb2 ?_))))
     .intro hA;clear hA;simp only[DD];omega
     iterate 2 (focus (intro hA;simp only[DD]at hA ⊢;omega))
     .intro J2 hl2 hA hr2 hid2 hI;simp only[DD]at hA hI;obtain⟨k74,k17,k4,k3,k9,k10,k7,k6,k2,k8,k76,k75,k1,k11,k19,k72,k18,k16,k12,k0,k73⟩:=hI;have f2:Fp V2 J2:=⟨k0,k1,k2,k4,k6,k7,k8,k9,k10,k12,Bool.eq_iff_iff.2 k11,k16,k73,k74,k17,k18,k19,k72,hid2⟩
      have hnn:Ln V2:=⟨hb2,hg2⟩
      exact u7 pu hlt st hx fm j3 j5 hmn hp hnn (hnn.of k73 hl2) f2 k3 k75 k76 h5 r12.2 yy5.2
  .intro V1 hq1 hO1;obtain⟨⟨hb1,hg1⟩,he⟩:=hO1;refine (lO [] hb1 ?_)
   .intro J1 hl1 hA hr1 hid1 hI;simp only[DD]at hI;obtain⟨_,j0,j73⟩:=hI;exact uZ st he j0 j73
 .intro hA;simp only[DD]at hA ⊢;omega
 .intro J0 hl0 hA hr0 hid0 hI;simp only[DD]at hA hI;obtain⟨i74,i17,i4,i3,i9,i10,i7,i6,i2,i8,i37,i1,i11,i19,i72,i18,i16,_,i5,i12,i0,i73⟩:=hI;have us:Us V J0:=⟨i0,i1,i2,i16,i73,i74,i17,i18,i72,hid0⟩
  have hn0:Ln J0:=pu.p.n.of i73 hl0;have st:St V J0:=ah3 pu r hn0 (by omega) us i4 i6 i7 (Bool.eq_iff_iff.2 i11) i19 i8 i9 i10 i12 (lZ i37) (by rw[i5,w2 pu r (by omega)];rfl) (by omega) (by rw[i3];exact pu.buf);have hL0:(GU V).L 19 J0:=⟨st.ob,st.v37⟩
  have h5:0<=gI J0 5:=by have:=st.i5;have:=pu.le;omega
  refine⟨hL0,(oC ?_ (oC ?_ oN))⟩
  .intro V1 hq1 hO1;obtain⟨⟨hb1,hg1⟩,hx⟩:=hO1;have zz:=xZ (by rw[<-xI];exact hq1);have zz5:=zz.i5;have zz12:=zz.i12;refine (pO opX hb1 rfl ?_)
   .intro J1 hl1 hA hr1 hid1 hI;simp only[DD]at hI;obtain⟨j74,j17,j4,j3,j9,j10,j7,j6,j2,j8,j1,j11,j19,j72,j18,j16,j5,j12,j0,j73⟩:=hI;have fm:Fp V1 J1:=⟨j0,j1,j2,j4,j6,j7,j8,j9,j10,j12,Bool.eq_iff_iff.2 j11,j16,j73,j74,j17,j18,j19,j72,hid1⟩
    have hmn:Ln J1:=hx.ln.of j73 hl1;have hL1:(GU V).L 123 J1:=⟨hmn,by rw[j3];exact hx.buf st.ob.buf,by omega,by omega⟩
    refine⟨hL1,(oC ?_ oN)⟩
    .intro V2 hq2 hO2;obtain⟨⟨hb2,hg2⟩,hp⟩:=hO2;have yy:=xZ (by rw[<-xI];exact hq2);have yy5:=yy.i5;refine (nO hb2 ?_ (nO hb2 ?_ (nO hb2 ?_ (lO opX hb2 ?_))))
     .intro hA;clear hA;simp only[DD];omega
     iterate 2 (focus (intro hA;simp only[DD]at hA ⊢;omega))
     .intro J2 hl2 hA hr2 hid2 hI;simp only[DD]at hA hI;obtain⟨k74,k17,k4,k3,k9,k10,k7,k6,k2,k8,k76,k75,k1,k11,k19,k72,k18,k16,k12,k0,k73⟩:=hI;have f2:Fp V2 J2:=⟨k0,k1,k2,k4,k6,k7,k8,k9,k10,k12,Bool.eq_iff_iff.2 k11,k16,k73,k74,k17,k18,k19,k72,hid2⟩
      have hnn:Ln V2:=⟨hb2,hg2⟩
      exact u7 pu hlt st hx fm j3 j5 hmn hp hnn (hnn.of k73 hl2) f2 k3 k75 k76 h5 r12.2 yy5.2
  .intro V1 hq1 hO1;obtain⟨⟨hb1,hg1⟩,he⟩:=hO1;refine (lO [] hb1 ?_)
   .intro J1 hl1 hA hr1 hid1 hI;simp only[DD]at hI;obtain⟨_,j0,j73⟩:=hI;exact uZ st he j0 j73
theorem atU{V:Ren}(pu:PU V)(r:RU V)(hlt:gI V 8<gI V 12)(he10:gI V 10≠0):aU.Holds (GU V) V:=by
 unfold aU;have hβ:=pu.p.n.1;have r12:=r.i12;have r8:=r.i8;have r75:=r.i75;have r76:=r.i76;have r10:=r.i10;have r9:=r.i9;have yb:=pu.buf;have yle:=pu.le;have y6:=pu.b6;have y5:=pu.b5;have yo:=pu.off;refine (fO (nO hβ ?_ (nO hβ ?_ (pO opX hβ rfl ?_))) (nO hβ ?_ (nO hβ ?_ (pO opX hβ rfl ?_))));iterate 2 (focus (intro hA;simp only[DD]at hA ⊢;omega))
 .intro J0 hl0 hA hr0 hid0 hI;simp only[DD]at hA hI;obtain⟨i74,i17,i4,i3,i9,i10,i7,i6,i2,i8,i37,i1,i11,i19,i72,i18,i16,_,i5,i12,i0,i73⟩:=hI;have us:Us V J0:=⟨i0,i1,i2,i16,i73,i74,i17,i18,i72,hid0⟩
  have hn0:Ln J0:=pu.p.n.of i73 hl0;have st:St V J0:=ah3 pu r hn0 (by omega) us i4 i6 i7 (Bool.eq_iff_iff.2 i11) i19 i8 i9 i10 i12 (as7 i37 (by omega)) (by rw[i3,i5,w3 (by omega)]) (by omega) (by rw[i3];exact pu.buf);have hL0:(GU V).L 19 J0:=⟨st.ob,st.v37⟩
  have h5:0<=gI J0 5:=by have:=st.i5;have:=pu.le;omega
  refine⟨hL0,(oC ?_ (oC ?_ oN))⟩
  .intro V1 hq1 hO1;obtain⟨⟨hb1,hg1⟩,hx⟩:=hO1;have zz:=xZ (by rw[<-xI];exact hq1);have zz5:=zz.i5;have zz12:=zz.i12;refine (pO opX hb1 rfl ?_)
   .intro J1 hl1 hA hr1 hid1 hI;simp only[DD]at hI;obtain⟨j74,j17,j4,j3,j9,j10,j7,j6,j2,j8,j1,j11,j19,j72,j18,j16,j5,j12,j0,j73⟩:=hI;have fm:Fp V1 J1:=⟨j0,j1,j2,j4,j6,j7,j8,j9,j10,j12,Bool.eq_iff_iff.2 j11,j16,j73,j74,j17,j18,j19,j72,hid1⟩
    have hmn:Ln J1:=hx.ln.of j73 hl1;have hL1:(GU V).L 123 J1:=⟨hmn,by rw[j3];exact hx.buf st.ob.buf,by omega,by omega⟩
    refine⟨hL1,(oC ?_ oN)⟩
    .intro V2 hq2 hO2;obtain⟨⟨hb2,hg2⟩,hp⟩:=hO2;have yy:=xZ (by rw[<-xI];exact hq2);have yy5:=yy.i5;refine (nO hb2 ?_ (nO hb2 ?_ (nO hb2 ?_ (lO opX hb2 ?_))))
     .intro hA;clear hA;simp only[DD];omega
     iterate 2 (focus (intro hA;simp only[DD]at hA ⊢;omega))
     .intro J2 hl2 hA hr2 hid2 hI;simp only[DD]at hA hI;obtain⟨k74,k17,k4,k3,k9,k10,k7,k6,k2,k8,k76,k75,k1,k11,k19,k72,k18,k16,k12,k0,k73⟩:=hI;have f2:Fp V2 J2:=⟨k0,k1,k2,k4,k6,k7,k8,k9,k10,k12,Bool.eq_iff_iff.2 k11,k16,k73,k74,k17,k18,k19,k72,hid2⟩
      have hnn:Ln V2:=⟨hb2,hg2⟩
      exact u7 pu hlt st hx fm j3 j5 hmn hp hnn (hnn.of k73 hl2) f2 k3 k75 k76 h5 r12.2 yy5.2
  .intro V1 hq1 hO1;obtain⟨⟨hb1,hg1⟩,he⟩:=hO1;refine (lO [] hb1 ?_)
   .intro J1 hl1 hA hr1 hid1 hI;simp only[DD]at hI;obtain⟨_,j0,j73⟩:=hI;exact uZ st he j0 j73
 iterate 2 (focus (intro hA;simp only[DD]at hA ⊢;omega))
 .intro J0 hl0 hA hr0 hid0 hI;simp only[DD]at hA hI;obtain⟨i74,i17,i4,i3,i9,i10,i7,i6,i2,i8,i37,i1,i11,i19,i72,i18,i16,_,i5,i12,i0,i73⟩:=hI;have us:Us V J0:=⟨i0,i1,i2,i16,i73,i74,i17,i18,i72,hid0⟩
  have hn0:Ln J0:=pu.p.n.of i73 hl0;have st:St V J0:=ah3 pu r hn0 (by omega) us i4 i6 i7 (Bool.eq_iff_iff.2 i11) i19 i8 i9 i10 i12 (as7 i37 (by omega)) (by rw[i3,i5,w3 (by omega)]) (by omega) (by rw[i3];exact pu.buf);have hL0:(GU V).L 19 J0:=⟨st.ob,st.v37⟩
  have h5:0<=gI J0 5:=by have:=st.i5;have:=pu.le;omega
  refine⟨hL0,(oC ?_ (oC ?_ oN))⟩
  .intro V1 hq1 hO1;obtain⟨⟨hb1,hg1⟩,hx⟩:=hO1;have zz:=xZ (by rw[<-xI];exact hq1);have zz5:=zz.i5;have zz12:=zz.i12;refine (pO opX hb1 rfl ?_)
   .intro J1 hl1 hA hr1 hid1 hI;simp only[DD]at hI;obtain⟨j74,j17,j4,j3,j9,j10,j7,j6,j2,j8,j1,j11,j19,j72,j18,j16,j5,j12,j0,j73⟩:=hI;have fm:Fp V1 J1:=⟨j0,j1,j2,j4,j6,j7,j8,j9,j10,j12,Bool.eq_iff_iff.2 j11,j16,j73,j74,j17,j18,j19,j72,hid1⟩
    have hmn:Ln J1:=hx.ln.of j73 hl1;have hL1:(GU V).L 123 J1:=⟨hmn,by rw[j3];exact hx.buf st.ob.buf,by omega,by omega⟩
    refine⟨hL1,(oC ?_ oN)⟩
    .intro V2 hq2 hO2;obtain⟨⟨hb2,hg2⟩,hp⟩:=hO2;have yy:=xZ (by rw[<-xI];exact hq2);have yy5:=yy.i5;refine (nO hb2 ?_ (nO hb2 ?_ (nO hb2 ?_ (lO opX hb2 ?_))))
     .intro hA;clear hA;simp only[DD];omega
     iterate 2 (focus (intro hA;simp only[DD]at hA ⊢;omega))
     .intro J2 hl2 hA hr2 hid2 hI;simp only[DD]at hA hI;obtain⟨k74,k17,k4,k3,k9,k10,k7,k6,k2,k8,k76,k75,k1,k11,k19,k72,k18,k16,k12,k0,k73⟩:=hI;have f2:Fp V2 J2:=⟨k0,k1,k2,k4,k6,k7,k8,k9,k10,k12,Bool.eq_iff_iff.2 k11,k16,k73,k74,k17,k18,k19,k72,hid2⟩
      have hnn:Ln V2:=⟨hb2,hg2⟩
      exact u7 pu hlt st hx fm j3 j5 hmn hp hnn (hnn.of k73 hl2) f2 k3 k75 k76 h5 r12.2 yy5.2
  .intro V1 hq1 hO1;obtain⟨⟨hb1,hg1⟩,he⟩:=hO1;refine (lO [] hb1 ?_)
   .intro J1 hl1 hA hr1 hid1 hI;simp only[DD]at hI;obtain⟨_,j0,j73⟩:=hI;exact uZ st he j0 j73
theorem arI{V:Ren}(pu:PU V)(r:RU V)(hlt:gI V 8<gI V 12)(he10:gI V 10=0):bX.Holds (GU V) V:=by
 unfold bX;have hβ:=pu.p.n.1;have r12:=r.i12;have r8:=r.i8;have r75:=r.i75;have r76:=r.i76;have r10:=r.i10;have r9:=r.i9;have yb:=pu.buf;have yle:=pu.le;have y6:=pu.b6;have y5:=pu.b5;have yo:=pu.off;refine (fO (cO opX hβ ?_) (cO opX hβ ?_))
 .intro J0 hl0 hA hr0 hid0 hI;simp only[DD]at hA hI;obtain⟨_,i17,i4,i9,_,i7,i6,_,_,_,_,i11,i19,_,i18,_,_,i73⟩:=hI;have hn0:Ln J0:=pu.p.n.of i73 hl0;have p0:PR J0:=pu.p.of hn0 i4 i6 i7 (Bool.eq_iff_iff.2 i11) i17 i18 i19;have e0:zH J0=zH V:=rest_of i4 i6 i7 i17 i18 i19;have hL0:(GU V).CL 48 J0:=⟨p0,by omega⟩
  refine⟨hL0,(aC ?_ aN)⟩
  .intro V1 hq1 hO1;obtain⟨hn1,de⟩:=hO1;have hb1:=zE hβ hn1.1;simp only[Nat.reduceAdd]at hb1;refine (nO hb1 ?_ (nO hb1 ?_ (nO hb1 ?_ (nO hb1 ?_ (nO hb1 ?_ (nO hb1 ?_ (pO opX hb1 rfl ?_)))))));iterate 6 (focus (intro hA;simp +decide only[DD,aA hβ]at hA ⊢;omega))
   .intro J1 hl1 hA hr1 hid1 hI;simp +decide only[DD,aA hβ]at hA hI;obtain⟨j74,j17,j4,j3,j9,j10,j7,j6,j2,j8,j37,j1,j11,j19,j72,j18,j16,_,j5,j12,j0,j73⟩:=hI;have us:Us V J1:=⟨j0,j1,j2,j16,j73,j74,j17,j18,j72,uU hβ (by decide) hid1⟩
    have hn1:Ln J1:=pu.p.n.of j73 hl1;have st:St V J1:=aiU pu r (by omega) de e0 i9 i19 i17 i18 hn1 us j4 j6 j7 (Bool.eq_iff_iff.2 j11) j19 j9 j10 j8 j12 (lZ j37) (by rw[j3,j5];exact (w1 pu r).1) j5 (by rw[j3];exact (w1 pu r).2);have hL1:(GU V).L 19 J1:=⟨st.ob,st.v37⟩
    have h5:0<=gI J1 5:=by have:=st.i5;have:=pu.le;omega
    refine⟨hL1,(oC ?_ (oC ?_ oN))⟩
    .intro V2 hq2 hO2;obtain⟨⟨hb2,hg2⟩,hx⟩:=hO2;have zz:=xZ (by rw[<-xI];exact hq2);have zz5:=zz.i5;have zz12:=zz.i12;refine (pO opX hb2 rfl ?_)
     .intro J2 hl2 hA hr2 hid2 hI;simp only[DD]at hI;obtain⟨k74,k17,k4,k3,k9,k10,k7,k6,k2,k8,k1,k11,k19,k72,k18,k16,k5,k12,k0,k73⟩:=hI;have fm:Fp V2 J2:=⟨k0,k1,k2,k4,k6,k7,k8,k9,k10,k12,Bool.eq_iff_iff.2 k11,k16,k73,k74,k17,k18,k19,k72,hid2⟩
      have hmn:Ln J2:=hx.ln.of k73 hl2;have hL2:(GU V).L 123 J2:=⟨hmn,by rw[k3];exact hx.buf st.ob.buf,by omega,by omega⟩
      refine⟨hL2,(oC ?_ oN)⟩
      .intro V3 hq3 hO3;obtain⟨⟨hb3,hg3⟩,hp⟩:=hO3;have yy:=xZ (by rw[<-xI];exact hq3);have yy5:=yy.i5;refine (nO hb3 ?_ (nO hb3 ?_ (nO hb3 ?_ (lO opX hb3 ?_))))
       .intro hA;clear hA;simp only[DD];omega
       iterate 2 (focus (intro hA;simp only[DD]at hA ⊢;omega))
       .intro J3 hl3 hA hr3 hid3 hI;simp only[DD]at hA hI;obtain⟨l74,l17,l4,l3,l9,l10,l7,l6,l2,l8,l76,l75,l1,l11,l19,l72,l18,l16,l12,l0,l73⟩:=hI;have f2:Fp V3 J3:=⟨l0,l1,l2,l4,l6,l7,l8,l9,l10,l12,Bool.eq_iff_iff.2 l11,l16,l73,l74,l17,l18,l19,l72,hid3⟩
        have hnn:Ln V3:=⟨hb3,hg3⟩
        exact u7 pu hlt st hx fm k3 k5 hmn hp hnn (hnn.of l73 hl3) f2 l3 l75 l76 h5 r12.2 yy5.2
    .intro V2 hq2 hO2;obtain⟨⟨hb2,hg2⟩,he⟩:=hO2;refine (lO [] hb2 ?_)
     .intro J2 hl2 hA hr2 hid2 hI;simp only[DD]at hI;obtain⟨_,k0,k73⟩:=hI;exact uZ st he k0 k73
 .intro J0 hl0 hA hr0 hid0 hI;simp only[DD]at hA hI;obtain⟨_,i17,i4,i9,_,i7,i6,_,_,_,_,i11,i19,_,i18,_,_,i73⟩:=hI;have hn0:Ln J0:=pu.p.n.of i73 hl0;have p0:PR J0:=pu.p.of hn0 i4 i6 i7 (Bool.eq_iff_iff.2 i11) i17 i18 i19;have e0:zH J0=zH V:=rest_of i4 i6 i7 i17 i18 i19;have hL0:(GU V).CL 48 J0:=⟨p0,by omega⟩
  refine⟨hL0,(aC ?_ aN)⟩
  .intro V1 hq1 hO1;obtain⟨hn1,de⟩:=hO1;have hb1:=zE hβ hn1.1;simp only[Nat.reduceAdd]at hb1;refine (nO hb1 ?_ (nO hb1 ?_ (nO hb1 ?_ (nO hb1 ?_ (nO hb1 ?_ (nO hb1 ?_ (pO opX hb1 rfl ?_)))))));iterate 6 (focus (intro hA;simp +decide only[DD,aA hβ]at hA ⊢;omega))
   .intro J1 hl1 hA hr1 hid1 hI;simp +decide only[DD,aA hβ]at hA hI;obtain⟨j74,j17,j4,j3,j9,j10,j7,j6,j2,j8,j37,j1,j11,j19,j72,j18,j16,_,j5,j12,j0,j73⟩:=hI;have us:Us V J1:=⟨j0,j1,j2,j16,j73,j74,j17,j18,j72,uU hβ (by decide) hid1⟩
    have hn1:Ln J1:=pu.p.n.of j73 hl1;have st:St V J1:=aiU pu r (by omega) de e0 i9 i19 i17 i18 hn1 us j4 j6 j7 (Bool.eq_iff_iff.2 j11) j19 j9 j10 j8 j12 (lZ j37) (by rw[j3,j5];exact (w1 pu r).1) j5 (by rw[j3];exact (w1 pu r).2);have hL1:(GU V).L 19 J1:=⟨st.ob,st.v37⟩
    have h5:0<=gI J1 5:=by have:=st.i5;have:=pu.le;omega
    refine⟨hL1,(oC ?_ (oC ?_ oN))⟩
    .intro V2 hq2 hO2;obtain⟨⟨hb2,hg2⟩,hx⟩:=hO2;have zz:=xZ (by rw[<-xI];exact hq2);have zz5:=zz.i5;have zz12:=zz.i12;refine (pO opX hb2 rfl ?_)
     .intro J2 hl2 hA hr2 hid2 hI;simp only[DD]at hI;obtain⟨k74,k17,k4,k3,k9,k10,k7,k6,k2,k8,k1,k11,k19,k72,k18,k16,k5,k12,k0,k73⟩:=hI;have fm:Fp V2 J2:=⟨k0,k1,k2,k4,k6,k7,k8,k9,k10,k12,Bool.eq_iff_iff.2 k11,k16,k73,k74,k17,k18,k19,k72,hid2⟩
      have hmn:Ln J2:=hx.ln.of k73 hl2;have hL2:(GU V).L 123 J2:=⟨hmn,by rw[k3];exact hx.buf st.ob.buf,by omega,by omega⟩
      refine⟨hL2,(oC ?_ oN)⟩
      .intro V3 hq3 hO3;obtain⟨⟨hb3,hg3⟩,hp⟩:=hO3;have yy:=xZ (by rw[<-xI];exact hq3);have yy5:=yy.i5;refine (nO hb3 ?_ (nO hb3 ?_ (nO hb3 ?_ (lO opX hb3 ?_))))
       .intro hA;clear hA;simp only[DD];omega
       iterate 2 (focus (intro hA;simp only[DD]at hA ⊢;omega))
       .intro J3 hl3 hA hr3 hid3 hI;simp only[DD]at hA hI;obtain⟨l74,l17,l4,l3,l9,l10,l7,l6,l2,l8,l76,l75,l1,l11,l19,l72,l18,l16,l12,l0,l73⟩:=hI;have f2:Fp V3 J3:=⟨l0,l1,l2,l4,l6,l7,l8,l9,l10,l12,Bool.eq_iff_iff.2 l11,l16,l73,l74,l17,l18,l19,l72,hid3⟩
        have hnn:Ln V3:=⟨hb3,hg3⟩
        exact u7 pu hlt st hx fm k3 k5 hmn hp hnn (hnn.of l73 hl3) f2 l3 l75 l76 h5 r12.2 yy5.2
    .intro V2 hq2 hO2;obtain⟨⟨hb2,hg2⟩,he⟩:=hO2;refine (lO [] hb2 ?_)
     .intro J2 hl2 hA hr2 hid2 hI;simp only[DD]at hI;obtain⟨_,k0,k73⟩:=hI;exact uZ st he k0 k73
theorem al6{V:Ren}(pu:PU V)(r:RU V)(hlt:gI V 8<gI V 12)(he10:gI V 10=0):A7.Holds (GU V) V:=by
 unfold A7;have hβ:=pu.p.n.1;have r12:=r.i12;have r8:=r.i8;have r75:=r.i75;have r76:=r.i76;have r10:=r.i10;have r9:=r.i9;have yb:=pu.buf;have yle:=pu.le;have y6:=pu.b6;have y5:=pu.b5;have yo:=pu.off;refine (fO (cO opX hβ ?_) (cO opX hβ ?_))
 .intro J0 hl0 hA hr0 hid0 hI;simp only[DD]at hA hI;obtain⟨_,i17,i4,i9,_,i7,i6,_,_,_,_,i11,i19,_,i18,_,_,i73⟩:=hI;have hn0:Ln J0:=pu.p.n.of i73 hl0;have p0:PR J0:=pu.p.of hn0 i4 i6 i7 (Bool.eq_iff_iff.2 i11) i17 i18 i19;have e0:zH J0=zH V:=rest_of i4 i6 i7 i17 i18 i19;have hL0:(GU V).CL 48 J0:=⟨p0,by omega⟩
  refine⟨hL0,(aC ?_ aN)⟩
  .intro V1 hq1 hO1;obtain⟨hn1,de⟩:=hO1;have hb1:=zE hβ hn1.1;simp only[Nat.reduceAdd]at hb1;refine (pO opX hb1 rfl ?_)
   .intro J1 hl1 hA hr1 hid1 hI;simp +decide only[DD,aA hβ]at hA hI;obtain⟨j74,j17,j4,j3,j9,j10,j7,j6,j2,j8,j37,j1,j11,j19,j72,j18,j16,_,j5,j12,j0,j73⟩:=hI;have us:Us V J1:=⟨j0,j1,j2,j16,j73,j74,j17,j18,j72,uU hβ (by decide) hid1⟩
    have hn1:Ln J1:=pu.p.n.of j73 hl1;have st:St V J1:=aiU pu r (by omega) de e0 i9 i19 i17 i18 hn1 us j4 j6 j7 (Bool.eq_iff_iff.2 j11) j19 j9 j10 j8 j12 (lZ j37) (by rw[j5,w2 pu r (by omega)];rfl) (by omega) (by rw[j3];exact pu.buf);have hL1:(GU V).L 19 J1:=⟨st.ob,st.v37⟩
    have h5:0<=gI J1 5:=by have:=st.i5;have:=pu.le;omega
    refine⟨hL1,(oC ?_ (oC ?_ oN))⟩
    .intro V2 hq2 hO2;obtain⟨⟨hb2,hg2⟩,hx⟩:=hO2;have zz:=xZ (by rw[<-xI];exact hq2);have zz5:=zz.i5;have zz12:=zz.i12;refine (pO opX hb2 rfl ?_)
     .intro J2 hl2 hA hr2 hid2 hI;simp only[DD]at hI;obtain⟨k74,k17,k4,k3,k9,k10,k7,k6,k2,k8,k1,k11,k19,k72,k18,k16,k5,k12,k0,k73⟩:=hI;have fm:Fp V2 J2:=⟨k0,k1,k2,k4,k6,k7,k8,k9,k10,k12,Bool.eq_iff_iff.2 k11,k16,k73,k74,k17,k18,k19,k72,hid2⟩
      have hmn:Ln J2:=hx.ln.of k73 hl2;have hL2:(GU V).L 123 J2:=⟨hmn,by rw[k3];exact hx.buf st.ob.buf,by omega,by omega⟩
      refine⟨hL2,(oC ?_ oN)⟩
      .intro V3 hq3 hO3;obtain⟨⟨hb3,hg3⟩,hp⟩:=hO3;have yy:=xZ (by rw[<-xI];exact hq3);have yy5:=yy.i5;refine (nO hb3 ?_ (nO hb3 ?_ (nO hb3 ?_ (lO opX hb3 ?_))))
       .intro hA;clear hA;simp only[DD];omega
       iterate 2 (focus (intro hA;simp only[DD]at hA ⊢;omega))
       .intro J3 hl3 hA hr3 hid3 hI;simp only[DD]at hA hI;obtain⟨l74,l17,l4,l3,l9,l10,l7,l6,l2,l8,l76,l75,l1,l11,l19,l72,l18,l16,l12,l0,l73⟩:=hI;have f2:Fp V3 J3:=⟨l0,l1,l2,l4,l6,l7,l8,l9,l10,l12,Bool.eq_iff_iff.2 l11,l16,l73,l74,l17,l18,l19,l72,hid3⟩
        have hnn:Ln V3:=⟨hb3,hg3⟩
        exact u7 pu hlt st hx fm k3 k5 hmn hp hnn (hnn.of l73 hl3) f2 l3 l75 l76 h5 r12.2 yy5.2
    .intro V2 hq2 hO2;obtain⟨⟨hb2,hg2⟩,he⟩:=hO2;refine (lO [] hb2 ?_)
     .intro J2 hl2 hA hr2 hid2 hI;simp only[DD]at hI;obtain⟨_,k0,k73⟩:=hI;exact uZ st he k0 k73
 .intro J0 hl0 hA hr0 hid0 hI;simp only[DD]at hA hI;obtain⟨_,i17,i4,i9,_,i7,i6,_,_,_,_,i11,i19,_,i18,_,_,i73⟩:=hI;have hn0:Ln J0:=pu.p.n.of i73 hl0;have p0:PR J0:=pu.p.of hn0 i4 i6 i7 (Bool.eq_iff_iff.2 i11) i17 i18 i19;have e0:zH J0=zH V:=rest_of i4 i6 i7 i17 i18 i19;have hL0:(GU V).CL 48 J0:=⟨p0,by omega⟩
  refine⟨hL0,(aC ?_ aN)⟩
  .intro V1 hq1 hO1;obtain⟨hn1,de⟩:=hO1;have hb1:=zE hβ hn1.1;simp only[Nat.reduceAdd]at hb1;refine (pO opX hb1 rfl ?_)
   .intro J1 hl1 hA hr1 hid1 hI;simp +decide only[DD,aA hβ]at hA hI;obtain⟨j74,j17,j4,j3,j9,j10,j7,j6,j2,j8,j37,j1,j11,j19,j72,j18,j16,_,j5,j12,j0,j73⟩:=hI;have us:Us V J1:=⟨j0,j1,j2,j16,j73,j74,j17,j18,j72,uU hβ (by decide) hid1⟩
    have hn1:Ln J1:=pu.p.n.of j73 hl1;have st:St V J1:=aiU pu r (by omega) de e0 i9 i19 i17 i18 hn1 us j4 j6 j7 (Bool.eq_iff_iff.2 j11) j19 j9 j10 j8 j12 (lZ j37) (by rw[j5,w2 pu r (by omega)];rfl) (by omega) (by rw[j3];exact pu.buf);have hL1:(GU V).L 19 J1:=⟨st.ob,st.v37⟩
    have h5:0<=gI J1 5:=by have:=st.i5;have:=pu.le;omega
    refine⟨hL1,(oC ?_ (oC ?_ oN))⟩
    .intro V2 hq2 hO2;obtain⟨⟨hb2,hg2⟩,hx⟩:=hO2;have zz:=xZ (by rw[<-xI];exact hq2);have zz5:=zz.i5;have zz12:=zz.i12;refine (pO opX hb2 rfl ?_)
     .intro J2 hl2 hA hr2 hid2 hI;simp only[DD]at hI;obtain⟨k74,k17,k4,k3,k9,k10,k7,k6,k2,k8,k1,k11,k19,k72,k18,k16,k5,k12,k0,k73⟩:=hI;have fm:Fp V2 J2:=⟨k0,k1,k2,k4,k6,k7,k8,k9,k10,k12,Bool.eq_iff_iff.2 k11,k16,k73,k74,k17,k18,k19,k72,hid2⟩
      have hmn:Ln J2:=hx.ln.of k73 hl2;have hL2:(GU V).L 123 J2:=⟨hmn,by rw[k3];exact hx.buf st.ob.buf,by omega,by omega⟩
      refine⟨hL2,(oC ?_ oN)⟩
      .intro V3 hq3 hO3;obtain⟨⟨hb3,hg3⟩,hp⟩:=hO3;have yy:=xZ (by rw[<-xI];exact hq3);have yy5:=yy.i5;refine (nO hb3 ?_ (nO hb3 ?_ (nO hb3 ?_ (lO opX hb3 ?_))))
       .intro hA;clear hA;simp only[DD];omega
       iterate 2 (focus (intro hA;simp only[DD]at hA ⊢;omega))
       .intro J3 hl3 hA hr3 hid3 hI;simp only[DD]at hA hI;obtain⟨l74,l17,l4,l3,l9,l10,l7,l6,l2,l8,l76,l75,l1,l11,l19,l72,l18,l16,l12,l0,l73⟩:=hI;have f2:Fp V3 J3:=⟨l0,l1,l2,l4,l6,l7,l8,l9,l10,l12,Bool.eq_iff_iff.2 l11,l16,l73,l74,l17,l18,l19,l72,hid3⟩
        have hnn:Ln V3:=⟨hb3,hg3⟩
        exact u7 pu hlt st hx fm k3 k5 hmn hp hnn (hnn.of l73 hl3) f2 l3 l75 l76 h5 r12.2 yy5.2
    .intro V2 hq2 hO2;obtain⟨⟨hb2,hg2⟩,he⟩:=hO2;refine (lO [] hb2 ?_)
     .intro J2 hl2 hA hr2 hid2 hI;simp only[DD]at hI;obtain⟨_,k0,k73⟩:=hI;exact uZ st he k0 k73
theorem ap3{V:Ren}(pu:PU V)(r:RU V)(hlt:gI V 8<gI V 12)(he10:gI V 10=0):cZ.Holds (GU V) V:=by
 unfold cZ;have hβ:=pu.p.n.1;have r12:=r.i12;have r8:=r.i8;have r75:=r.i75;have r76:=r.i76;have r10:=r.i10;have r9:=r.i9;have yb:=pu.buf;have yle:=pu.le;have y6:=pu.b6;have y5:=pu.b5;have yo:=pu.off;refine (fO (cO opX hβ ?_) (cO opX hβ ?_))
 .intro J0 hl0 hA hr0 hid0 hI;simp only[DD]at hA hI;obtain⟨_,i17,i4,i9,_,i7,i6,_,_,_,_,i11,i19,_,i18,_,_,i73⟩:=hI;have hn0:Ln J0:=pu.p.n.of i73 hl0;have p0:PR J0:=pu.p.of hn0 i4 i6 i7 (Bool.eq_iff_iff.2 i11) i17 i18 i19;have e0:zH J0=zH V:=rest_of i4 i6 i7 i17 i18 i19;have hL0:(GU V).CL 48 J0:=⟨p0,by omega⟩
  refine⟨hL0,(aC ?_ aN)⟩
  .intro V1 hq1 hO1;obtain⟨hn1,de⟩:=hO1;have hb1:=zE hβ hn1.1;simp only[Nat.reduceAdd]at hb1;refine (nO hb1 ?_ (pO opX hb1 rfl ?_))
   .intro hA;simp +decide only[DD,aA hβ]at hA ⊢;omega
   .intro J1 hl1 hA hr1 hid1 hI;simp +decide only[DD,aA hβ]at hA hI;obtain⟨j74,j17,j4,j3,j9,j10,j7,j6,j2,j8,j37,j1,j11,j19,j72,j18,j16,_,j5,j12,j0,j73⟩:=hI;have us:Us V J1:=⟨j0,j1,j2,j16,j73,j74,j17,j18,j72,uU hβ (by decide) hid1⟩
    have hn1:Ln J1:=pu.p.n.of j73 hl1;have st:St V J1:=aiU pu r (by omega) de e0 i9 i19 i17 i18 hn1 us j4 j6 j7 (Bool.eq_iff_iff.2 j11) j19 j9 j10 j8 j12 (aG9 hβ j37 (by omega)) (by rw[j3,j5,w3 (by omega)]) (by omega) (by rw[j3];exact pu.buf);have hL1:(GU V).L 19 J1:=⟨st.ob,st.v37⟩
    have h5:0<=gI J1 5:=by have:=st.i5;have:=pu.le;omega
    refine⟨hL1,(oC ?_ (oC ?_ oN))⟩
    .intro V2 hq2 hO2;obtain⟨⟨hb2,hg2⟩,hx⟩:=hO2;have zz:=xZ (by rw[<-xI];exact hq2);have zz5:=zz.i5;have zz12:=zz.i12;refine (pO opX hb2 rfl ?_)
     .intro J2 hl2 hA hr2 hid2 hI;simp only[DD]at hI;obtain⟨k74,k17,k4,k3,k9,k10,k7,k6,k2,k8,k1,k11,k19,k72,k18,k16,k5,k12,k0,k73⟩:=hI;have fm:Fp V2 J2:=⟨k0,k1,k2,k4,k6,k7,k8,k9,k10,k12,Bool.eq_iff_iff.2 k11,k16,k73,k74,k17,k18,k19,k72,hid2⟩
      have hmn:Ln J2:=hx.ln.of k73 hl2;have hL2:(GU V).L 123 J2:=⟨hmn,by rw[k3];exact hx.buf st.ob.buf,by omega,by omega⟩
      refine⟨hL2,(oC ?_ oN)⟩
      .intro V3 hq3 hO3;obtain⟨⟨hb3,hg3⟩,hp⟩:=hO3;have yy:=xZ (by rw[<-xI];exact hq3);have yy5:=yy.i5;refine (nO hb3 ?_ (nO hb3 ?_ (nO hb3 ?_ (lO opX hb3 ?_))))
       .intro hA;clear hA;simp only[DD];omega
       iterate 2 (focus (intro hA;simp only[DD]at hA ⊢;omega))
       .intro J3 hl3 hA hr3 hid3 hI;simp only[DD]at hA hI;obtain⟨l74,l17,l4,l3,l9,l10,l7,l6,l2,l8,l76,l75,l1,l11,l19,l72,l18,l16,l12,l0,l73⟩:=hI;have f2:Fp V3 J3:=⟨l0,l1,l2,l4,l6,l7,l8,l9,l10,l12,Bool.eq_iff_iff.2 l11,l16,l73,l74,l17,l18,l19,l72,hid3⟩
        have hnn:Ln V3:=⟨hb3,hg3⟩
        exact u7 pu hlt st hx fm k3 k5 hmn hp hnn (hnn.of l73 hl3) f2 l3 l75 l76 h5 r12.2 yy5.2
    .intro V2 hq2 hO2;obtain⟨⟨hb2,hg2⟩,he⟩:=hO2;refine (lO [] hb2 ?_)
     .intro J2 hl2 hA hr2 hid2 hI;simp only[DD]at hI;obtain⟨_,k0,k73⟩:=hI;exact uZ st he k0 k73
 .intro J0 hl0 hA hr0 hid0 hI;simp only[DD]at hA hI;obtain⟨_,i17,i4,i9,_,i7,i6,_,_,_,_,i11,i19,_,i18,_,_,i73⟩:=hI;have hn0:Ln J0:=pu.p.n.of i73 hl0;have p0:PR J0:=pu.p.of hn0 i4 i6 i7 (Bool.eq_iff_iff.2 i11) i17 i18 i19;have e0:zH J0=zH V:=rest_of i4 i6 i7 i17 i18 i19;have hL0:(GU V).CL 48 J0:=⟨p0,by omega⟩
  refine⟨hL0,(aC ?_ aN)⟩
  .intro V1 hq1 hO1;obtain⟨hn1,de⟩:=hO1;have hb1:=zE hβ hn1.1;simp only[Nat.reduceAdd]at hb1;refine (nO hb1 ?_ (pO opX hb1 rfl ?_))
   .intro hA;simp +decide only[DD,aA hβ]at hA ⊢;omega
   .intro J1 hl1 hA hr1 hid1 hI;simp +decide only[DD,aA hβ]at hA hI;obtain⟨j74,j17,j4,j3,j9,j10,j7,j6,j2,j8,j37,j1,j11,j19,j72,j18,j16,_,j5,j12,j0,j73⟩:=hI;have us:Us V J1:=⟨j0,j1,j2,j16,j73,j74,j17,j18,j72,uU hβ (by decide) hid1⟩
    have hn1:Ln J1:=pu.p.n.of j73 hl1;have st:St V J1:=aiU pu r (by omega) de e0 i9 i19 i17 i18 hn1 us j4 j6 j7 (Bool.eq_iff_iff.2 j11) j19 j9 j10 j8 j12 (aG9 hβ j37 (by omega)) (by rw[j3,j5,w3 (by omega)]) (by omega) (by rw[j3];exact pu.buf);have hL1:(GU V).L 19 J1:=⟨st.ob,st.v37⟩
    have h5:0<=gI J1 5:=by have:=st.i5;have:=pu.le;omega
    refine⟨hL1,(oC ?_ (oC ?_ oN))⟩
    .intro V2 hq2 hO2;obtain⟨⟨hb2,hg2⟩,hx⟩:=hO2;have zz:=xZ (by rw[<-xI];exact hq2);have zz5:=zz.i5;have zz12:=zz.i12;refine (pO opX hb2 rfl ?_)
     .intro J2 hl2 hA hr2 hid2 hI;simp only[DD]at hI;obtain⟨k74,k17,k4,k3,k9,k10,k7,k6,k2,k8,k1,k11,k19,k72,k18,k16,k5,k12,k0,k73⟩:=hI;have fm:Fp V2 J2:=⟨k0,k1,k2,k4,k6,k7,k8,k9,k10,k12,Bool.eq_iff_iff.2 k11,k16,k73,k74,k17,k18,k19,k72,hid2⟩
      have hmn:Ln J2:=hx.ln.of k73 hl2;have hL2:(GU V).L 123 J2:=⟨hmn,by rw[k3];exact hx.buf st.ob.buf,by omega,by omega⟩
      refine⟨hL2,(oC ?_ oN)⟩
      .intro V3 hq3 hO3;obtain⟨⟨hb3,hg3⟩,hp⟩:=hO3;have yy:=xZ (by rw[<-xI];exact hq3);have yy5:=yy.i5;refine (nO hb3 ?_ (nO hb3 ?_ (nO hb3 ?_ (lO opX hb3 ?_))))
       .intro hA;clear hA;simp only[DD];omega
       iterate 2 (focus (intro hA;simp only[DD]at hA ⊢;omega))
       .intro J3 hl3 hA hr3 hid3 hI;simp only[DD]at hA hI;obtain⟨l74,l17,l4,l3,l9,l10,l7,l6,l2,l8,l76,l75,l1,l11,l19,l72,l18,l16,l12,l0,l73⟩:=hI;have f2:Fp V3 J3:=⟨l0,l1,l2,l4,l6,l7,l8,l9,l10,l12,Bool.eq_iff_iff.2 l11,l16,l73,l74,l17,l18,l19,l72,hid3⟩
        have hnn:Ln V3:=⟨hb3,hg3⟩
        exact u7 pu hlt st hx fm k3 k5 hmn hp hnn (hnn.of l73 hl3) f2 l3 l75 l76 h5 r12.2 yy5.2
    .intro V2 hq2 hO2;obtain⟨⟨hb2,hg2⟩,he⟩:=hO2;refine (lO [] hb2 ?_)
     .intro J2 hl2 hA hr2 hid2 hI;simp only[DD]at hI;obtain⟨_,k0,k73⟩:=hI;exact uZ st he k0 k73
theorem aOU{V:Ren}{w0:W0}:∀(r:Nat)(s:LSpec)(c:Code),ltU r=some s->(GU V).W s.j c->tW EU w0 (GU V) s c:=by
 intro r s c hs hw;unfold ltU at hs;split at hs
 .cases hs;cases (hw:c=.loop aa9);intro Q b a w hH hF hl hQ;have hl:OB b/\gV b 37=some (.int .i64 0):=hl;refine xU (ajC (muO b) b a w (Nat.le_refl _) hl.1 hH hF ?_ ?_)
  .intro V1 a' w' hx h1 h2;exact hQ 0 (.exit 0) tX0 [] rfl V1 a' w' (aOY h1 (hx.v37 hl.2)) h2 ⟨hx.ln,hx⟩
  .intro V1 a' w' hn hx h1 h2;exact hQ 1 .ret tE [] rfl V1 a' w' h1 h2 ⟨hn,hx⟩
 .split at hs
  .cases hs;cases (hw:c=.loop pad);intro Q b a w hH hF hl hQ;have hl:PP b:=hl;exact xU (aw2 _ b a w (Nat.le_refl _) hl hH hF (fun V1 a' w' hn hx h1 h2=>hQ 0 (.exit 11) tX0 [] rfl V1 a' w' h1 h2 ⟨hn,hx⟩))
  .cases hs
theorem aAG{V γ:Ren}(pu:PU V)(hl:γ.length=90)(h:UE V γ):Ln γ:=pu.p.n.of h.1.2 hl
theorem aUT{G:Goal}(hCL:∀ V,G.CL 42 V->PU V)(hCO:∀ V V1,G.CL 42 V->PU V->Ln V1->UT V V1->G.CO 42 0 V V1)(hCE:∀ V V1,G.CL 42 V->PU V->Ln V1->UE V V1->G.CO 42 1 V V1):yT Tryd.prog G 42 spU:=by
 refine zU (E:=EU) (Gt:=GU) (fn:=wK 42) (c:=body 42) (s:=spU) zQ qB follows (by kernel_rfl) (by kernel_rfl) (by kernel_rfl) (by kernel_rfl) (by kernel_rfl) (by kernel_rfl) ?_ ?_ ?_ ?_ ?_ ?_ ?_
 .intro e j tp h;rcases h with h|h
  .cases e with
   |normal=>cases h;exact⟨(fun id h=>by cases h),.bool true,by kernel_rfl,_,rfl⟩
   |ret=>cases h;exact⟨(fun id h=>by cases h),.bool true,by kernel_rfl,_,rfl⟩
   |exit id=>cases h
  .cases e with
   |normal=>cases h
   |ret=>cases h;exact⟨(fun id h=>by cases h),.bool false,by kernel_rfl,_,rfl⟩
   |exit id=>cases h
 .intro V hcl hlen hr;have pu:=hCL V hcl;have r:=ajJ hr;refine⟨pu.p.n.2,?_⟩;have r12:=r.i12;have r8:=r.i8;have r75:=r.i75;have r76:=r.i76;have r10:=r.i10;have yle:=pu.le;have fin:∀ {A:List TB} {t:Tre},aG A=t->t.Holds (GU V) V->(A.all fun t=>t.ok 90)=true->zF V A->∃ (A:List Value) (k:Nat),Facts V A/\(tre EU k (body 42) [] A spU.tin.frame spU.tin.heap).Holds (GU V) V:=by
   intro A t ht hh hok hA;refine⟨A.map TB.enc,2000,Facts.ofP hA fun t ht=>?_,?_⟩
   .rw[pu.p.n.1];exact List.all_eq_true.1 hok t ht
   .unfold aG at ht;show (tre EU 2000 (body 42) [] (A.map TB.enc) tU.frame tU.heap).Holds (GU V) V;rw[ht];exact hh
  by_cases hlt:gI V 8<gI V 12;rotate_left
  .exact fin ai3 (avV pu r) (by decide) ⟨hlt,trivial⟩
  by_cases h10:gI V 10=0
  .by_cases h1:gI V 76<gI V 75
   .by_cases h0:0<gI V 76
    .refine fin acU (arI pu r hlt h10) (by decide) ?_;simp only[DD,uL,uz,u1,List.cons_append,List.nil_append,fn_sub];exact⟨hlt,h10,h0,h1,by omega,by omega⟩
    .refine fin acI (ap3 pu r hlt h10) (by decide) ?_;simp only[DD,uL,uz,u3,List.cons_append,List.nil_append,fn_sub];exact⟨hlt,h10,h0,by omega⟩
   .refine fin aeE (al6 pu r hlt h10) (by decide) ?_;simp only[DD,uL,uz,u2,List.cons_append,List.nil_append,fn_sub];exact⟨hlt,h10,h1,by omega⟩
  .by_cases h1:gI V 76<gI V 75
   .by_cases h0:0<gI V 76
    .refine fin ad1 (ajI pu r hlt h10) (by decide) ?_;simp only[DD,uL,un,u1,List.cons_append,List.nil_append,fn_sub];exact⟨hlt,h10,h0,h1,by omega,by omega⟩
    .refine fin acK (atU pu r hlt h10) (by decide) ?_;simp only[DD,uL,un,u3,List.cons_append,List.nil_append,fn_sub];exact⟨hlt,h10,h0,by omega⟩
   .refine fin ab5 (asR pu r hlt h10) (by decide) ?_;simp only[DD,uL,un,u2,List.cons_append,List.nil_append,fn_sub];exact⟨hlt,h10,h1,by omega⟩
 .intro V j v tp sm V1 hcl hout hlen _ hJ;have pu:=hCL V hcl;match j,hout,hJ with
  |0,hout,hJ =>
   cases hout;have q:UT V V1:=hJ;refine⟨hCO V V1 hcl pu q.p.n q,fun x hx=>?_⟩;have hx:x∈[(0,0),(1,0),(2,0),(16,0),(73,0),(74,0),(17,2),(18,1),(72,1)]++opX.map fun i=>(i,4):=hx;have q:=q.s;rw[List.mem_append]at hx;rcases hx with hx|hx
   .simp only[List.mem_cons,List.not_mem_nil,or_false]at hx;rcases hx with rfl|rfl|rfl|rfl|rfl|rfl|rfl|rfl|rfl
    .exact q.h0
    .exact q.h1
    .exact q.h2
    .exact q.h16
    .exact q.h73
    .exact q.h74
    .exact q.l17
    .exact q.i18
    .exact q.i72
   .obtain⟨i,hi,rfl⟩:=List.mem_map.1 hx;exact q.op i hi
  |1,hout,hJ =>
   cases hout;have q:UE V V1:=hJ;refine⟨hCE V V1 hcl pu (aAG pu hlen q) q,fun x hx=>?_⟩;have hx:x∈[(0,0),(73,0)]:=hx;simp only[List.mem_cons,List.not_mem_nil,or_false]at hx;rcases hx with rfl|rfl
   .exact q.1.1
   .exact q.1.2
 .intro V w0 r s c hs hw;rcases hs with hs|hs
  .exact aOU r s c hs hw
  .cases hs
 .intro V j i V1 V2 h;unfold GU at h;dsimp only at h;split at h
  .exact h.1.2
  .exact h.1.2
  .exact h.1.2
  .exact h.elim
 .intro V r s hs i e tp B hi V1 V2 _;refine yO ?_;rcases hs with hs|hs
  .have hs:ltU r=some s:=hs;unfold ltU at hs;split at hs
   .cases hs;match i,hi with
    |0,hi=>cases hi;rfl
    |1,hi=>cases hi;rfl
   .split at hs
    .cases hs;match i,hi with
     |0,hi=>cases hi;rfl
    .cases hs
  .cases hs
 .intro V f s hs;have hs:aQE f=some s:=hs;unfold aQE at hs;split at hs
  .rename_i hf;subst hf;cases hs;exact aVH (fun _ h=>h) (fun _ _ _ _ a b=>⟨a,b⟩)
  .cases hs
def puG:FuncId->Bool:=fun f=>[16,26,33,34,39,43,44,45,46].contains f
def okG:FuncId->Bool:=fun f=>Nat.ble 3 f&&(Nat.ble f 50 && !([3,4,6,7,9,11,12,13,17,21,22,31,42,48,49].contains f))
def am6:yN:=rD Tryd.prog g0 puG okG o6 1000 8
def EG(f:Nat)(ct:FuncId->Option CSpec)(rc:Nat->Bool)(bt lt:Nat->Option LSpec)(ft ft2:AExit->Option (Nat × Tpl)):Env:={ P:=Tryd.prog,pu:=puG,g:=g0,call:=am6,n:=ntmps f,lt:=lt,bt:=bt,ft:=ft,orc:=oY Tryd.prog puG g0 am6 (ntmps f),ct:=ct,rc:=rc,ft2:=ft2 }
def spC(j:Nat):CSpec:={ spU with j:=j }
def aNG:FuncId->Option CSpec:=fun f=>if f=42 then some spU else none
def aNZ:FuncId->Option CSpec:=fun f=>if f=31 then some (spC 31) else none
def rc1:Nat->Bool:=fun n=>Nat.beq n 1
def aj3:Env:=EG 31 aNG rc1 (fun _=>none) (fun _=>none) ftU aPX
def aw1:Env:=EG 17 aNZ rc1 (fun _=>none) (fun _=>none) ftU aPX
def aA3:Tre:=tre aj3 2000 (body 31) [] [] tU.frame tU.heap
def az2:Tre:=tre aw1 2000 (body 17) [] [] tU.frame tU.heap
structure Al(a b:Ren):Prop where
 s:Us a b
 l3:gL b 3=gL a 3
 l4:gL b 4=gL a 4
 i6:gI b 6=gI a 6
 i7:gI b 7=gI a 7
 i8:gI b 8=gI a 8
 i9:gI b 9=gI a 9
 i10:gI b 10=gI a 10
 b11:gB b 11=gB a 11
 i19:gI b 19=gI a 19
 i75:gI b 75=gI a 75
 i76:gI b 76=gI a 76
theorem Al.rest{a b:Ren}(h:Al a b):zH b=zH a:=rest_of h.l4 h.i6 h.i7 h.s.l17 h.s.i18 h.i19
theorem Al.win{a b:Ren}(h:Al a b):win b=win a:=by unfold U.win;rw[h.l3,h.i75,h.i76]
theorem Al.pr{a b:Ren}(h:Al a b)(p:PR a)(hn:Ln b):PR b:=p.of hn h.l4 h.i6 h.i7 h.b11 h.s.l17 h.s.i18 h.i19
theorem Al.pu{a b:Ren}(h:Al a b)(p:PU a)(hn:Ln b):PU b:=by
 have h8:=h.i8;have h75:=h.i75;have h76:=h.i76;have:=p.le;have:=p.b5;have:=p.b6;exact⟨h.pr p.p hn,by rw[h.l3];exact p.buf,by omega,by omega,by omega,by rw[h.i9,h.rest];exact p.off⟩
theorem axD{a b:Ren}(p:PU a)(r:RU a)(hn:Ln b)(h:Al a b)(hl:gI a 12<=gI a 8):UT a b:=by
 have h75:=h.i75;have h76:=h.i76;have h19:=h.i19;have:=p.le;have:=r.i75;have:=r.i76;exact⟨h.s,h.pr p.p hn,by rw[h.l3];exact p.buf,by omega,by omega,.inl ⟨hl,h.win,h.i8,h.i9,h.i10,h.rest,h.b11⟩⟩
theorem afY{a a' b b':Ren}(h:UT a' b)(ea:Al a a')(e12:gI a' 12=gI a 12)(eb:Al b b')(hn:Ln b'):UT a b':=by
 have h19:=h.b19;have e19:=ea.i19;have f19:=eb.i19;have e75:=eb.i75;have e76:=eb.i76;have e8:=ea.i8;have l:=h.le;refine⟨(ea.s.trans h.s).trans eb.s,eb.pr h.p hn,by rw[eb.l3];exact h.buf,by omega,by omega,?_⟩;rcases h.cs with⟨c1,c2,c3,c4,c5,c6,c7⟩|⟨c0,R1,cs,z,k,c1,c2,c3,c4,c5,c6,c7,c8⟩
 .exact .inl ⟨by omega,by rw[eb.win,c2,ea.win],by rw[eb.i8,c3,ea.i8],by rw[eb.i9,c4,ea.i9],by rw[eb.i10,c5,ea.i10],by rw[eb.rest,c6,ea.rest],by rw[eb.b11,c7,ea.b11]⟩
 .refine .inr ⟨by omega,R1,cs,z,k,?_,?_,?_,?_,?_,?_,?_,?_⟩
  .rw[eb.i10,<-ea.i10,<-ea.rest];exact c1
  .rw[eb.i10];exact c2
  .rw[eb.i10,eb.rest];exact c3
  .rw[eb.win,c4,ea.win]
  .rw[eb.i8,c5,ea.i8]
  .rw[eb.i9,eb.rest,c6,ea.i9,ea.rest]
  .omega
  .rw[eb.i8,eb.b11,eb.rest,eb.win,<-e12];exact c8
theorem ag4{a a' b b':Ren}(h:UE a' b)(ea:Al a a')(h0:b'[0]?=b[0]?)(h73:b'[73]?=b[73]?):UE a b':=by
 obtain⟨he,e,R1,cs,R,h1,h2,h3⟩:=h;exact⟨⟨h0.trans (he.1.trans ea.s.h0),h73.trans (he.2.trans ea.s.h73)⟩,e,R1,cs,R,by rw[<-ea.i10,<-ea.rest];exact h1,h2,h3⟩
def GC(V:Ren):Goal where
 J:=fun j γ=>match j with
  |0=>UT V γ
  |1=>UE V γ
  |_=>False
 L:=fun _ _=>False
 O:=fun _ _ _ _=>False
 W:=fun _ _=>False
 CL:=fun _ γ=>PU γ
 CO:=fun _ i γ J1=>match i with
  |0=>Ln J1/\UT γ J1
  |1=>Ln J1/\UE γ J1
  |_=>False
end U
namespace U
open Go Go.SM Go.Proofs
theorem aZ7:lF Tryd.prog puG okG:=rC (by kernel_rfl)
theorem zS:xH Tryd.prog { g:=g0,A:=[],pu:=puG } am6:=wY zQ follows aZ7 (tJ _ _) 8
theorem af1{G:Goal}{j i:Nat}{V V1:Ren}{v:Value}{tp:Tpl}{sm:List (Nat × Nat)}(pu:PU V)(hout:(spC j).outs[i]?=some (v,tp,sm))(hlen:V1.length=tp.m)(hJ:(GC V).J i V1)
    (h0:Ln V1->UT V V1->G.CO j 0 V V1) (h1:Ln V1->UE V V1->G.CO j 1 V V1):G.CO j i V V1/\∀ p∈sm,SmK V V1 p:=by
 match i,hout,hJ with
 |0,hout,hJ =>
  cases hout
  have q:UT V V1:=hJ
  refine⟨h0 q.p.n q,fun x hx=>?_⟩
  have hx:x∈[(0,0),(1,0),(2,0),(16,0),(73,0),(74,0),(17,2),(18,1),(72,1)]++opX.map fun i=>(i,4):=hx
  have q:=q.s
  rw[List.mem_append]at hx
  rcases hx with hx|hx
  .simp only[List.mem_cons,List.not_mem_nil,or_false]at hx
   rcases hx with rfl|rfl|rfl|rfl|rfl|rfl|rfl|rfl|rfl
   .exact q.h0
   .exact q.h1
   .exact q.h2
   .exact q.h16
   .exact q.h73
   .exact q.h74
   .exact q.l17
   .exact q.i18
   .exact q.i72
  .obtain⟨i,hi,rfl⟩:=List.mem_map.1 hx
   exact q.op i hi
 |1,hout,hJ =>
  cases hout
  have q:UE V V1:=hJ
  refine⟨h1 (aAG pu hlen q) q,fun x hx=>?_⟩
  have hx:x∈[(0,0),(73,0)]:=hx
  simp only[List.mem_cons,List.not_mem_nil,or_false]at hx
  rcases hx with rfl|rfl
  .exact q.1.1
  .exact q.1.2
def pt(n:Nat):Value:=.pointer (some ⟨n,0,none⟩)
def Y8:Blk:={ cells:=[],elem:=5,ro:=false,live:=true,seq:=some (x 82) }
def xE:Value:=sL 79 (Z 0) (x 80) (x 81)
def opK:List Nat:=(List.range 52).filterMap fun i=>if [16,17,18,19,24,26,45].contains i then none else some (20+i)
def bK:TI:=.sel (.var 3) (.var 76)
def aK(n:Int):TI:=.op .and bK (.lit n)
def k0:List TB:=[.lt (.var 76) (.lit 1536)]
def k1:List TB:=[.eq (aK 128) (.lit 0)]
def k2:List TB:=[.not (.eq (aK 128) (.lit 0)),.eq (aK 224) (.lit 192)]
def k3:List TB:=[.not (.eq (aK 128) (.lit 0)),.not (.eq (aK 224) (.lit 192)),.eq (aK 240) (.lit 224)]
def k4:List TB:=[.not (.eq (aK 128) (.lit 0)),.not (.eq (aK 224) (.lit 192)),.not (.eq (aK 240) (.lit 224)),.eq (aK 248) (.lit 240)]
def kz:List TB:=[.not (.eq (.var 80) (.lit 0))]
def wd(b:Int):Int:=if ia b 128=0 then 1 else if ia b 224=192 then 2 else if ia b 240=224 then 3 else if ia b 248=240 then 4 else 0
def bb(V:Ren):Int:=(((gL V 3).getD (gI V 76).toNat 0).toNat:Int)
structure KP(V:Ren):Prop where
 n:Ln V
 buf:(gL V 3).length=1536
 w:1<=wd (bb V)
 le:gI V 76+wd (bb V)<=gI V 75
 un:1<=gI V 8
 ix:gI V 77<8000000
 co:gI V 78<8000000
structure KO(V:Ren):Prop where
 n0:0<gI V 80
 nb:gI V 80<=4000000
 cl:gI V 81<=(gL V 82).length
structure RK(V:Ren):Prop where
 i75:0<=gI V 75/\gI V 75<=1536
 i76:0<=gI V 76/\gI V 76<=1536
 i8:0<=gI V 8/\gI V 8<=2000
 i77:0<=gI V 77/\gI V 77<=8000000
 i78:0<=gI V 78/\gI V 78<=8000000
def a0K(i:Nat)(a b:Int):List TB:=[.le (.lit a) (.var i),.le (.var i) (.lit b)]
structure KSm(V γ:Ren):Prop where
 h0:γ[0]?=V[0]?
 h1:γ[1]?=V[1]?
 h73:γ[73]?=V[73]?
 h74:γ[74]?=V[74]?
 l3:gL γ 3=gL V 3
 i75:gI γ 75=gI V 75
 op:∀ i∈opK,gV γ i=gV V i
structure KQ(V γ:Ren)(O:List UInt8):Prop where
 s:KSm V γ
 i76:gI γ 76=gI V 76+wd (bb V)
 i8:gI γ 8=gI V 8-1
 i77:gI γ 77=gI V 77+1
 i78:gI γ 78=gI V 78+1
 out:(gL γ 82).take (gI γ 80).toNat=O++((gL V 3).take (gI V 76+wd (bb V)).toNat).drop (gI V 76).toNat
 n:gI γ 80=O.length+wd (bb V)
 cl:gI γ 81<=(gL γ 82).length
theorem xA{V:Ren}(p:KP V)(r:RK V):((((gL V 3).take (gI V 76+wd (bb V)).toNat).drop (gI V 76).toNat).length:Int)=wd (bb V):=by
 have:=r.i76;have:=r.i75;have:=p.buf;have:=p.le;have:=p.w;rw[List.length_drop,List.length_take];omega
theorem wd1{b:Int}(h:ia b 128=0):wd b=1:=by unfold wd;rw[if_pos h]
theorem wd2{b:Int}(h0:¬ ia b 128=0)(h:ia b 224=192):wd b=2:=by unfold wd;rw[if_neg h0,if_pos h]
theorem wd3{b:Int}(h0:¬ ia b 128=0)(h1:¬ ia b 224=192)(h:ia b 240=224):wd b=3:=by unfold wd;rw[if_neg h0,if_neg h1,if_pos h]
theorem wd4{b:Int}(h0:¬ ia b 128=0)(h1:¬ ia b 224=192)(h2:¬ ia b 240=224)(h:ia b 248=240):wd b=4:=by unfold wd;rw[if_neg h0,if_neg h1,if_neg h2,if_pos h]
theorem mY{V:Ren}(p:KP V)(r:RK V)(h:wd (bb V)=1):((gL V 3).take (gI V 76+1).toNat).drop (gI V 76).toNat=[UInt8.ofNat (bb V).toNat]:=by
 have:=r.i76;have:=r.i75;have:=p.buf;have:=p.le;have:=p.w;have e:=drop_cons (L:=gL V 3) (a:=(gI V 76).toNat) (b:=(gI V 76+1).toNat) (by omega) (by omega);rw[e,List.drop_eq_nil_of_le (by rw[List.length_take];omega)];unfold bb;rw[Int.toNat_natCast];congr 1;exact (UInt8.ofNat_toNat).symm
def ON(V:Ren):List UInt8:=[]
def OS(V:Ren):List UInt8:=(gL V 82).take (gI V 80).toNat
set_option maxHeartbeats 0
end U
