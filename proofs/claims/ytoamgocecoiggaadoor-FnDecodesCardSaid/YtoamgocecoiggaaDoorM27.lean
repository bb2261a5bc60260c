-- the statement of this claim: see YtoamgocecoiggaaDoorRw
import Derived.Test.YtoamgocecoiggaaDoorM26
set_option linter.unusedVariables false
set_option linter.unusedSimpArgs false
open Go Go.SM Go.Proofs
namespace U
set_option maxRecDepth 100000
theorem hold_r1a {β:Ren} (p:PR β) (r:RR β) (hf:gB β 11=false):lit_r1a.Holds (GR9 β) β:=by
 unfold lit_r1a
 have hβ:=p.n.1
 obtain ⟨x18,x19,x6,x7⟩:=r
 have r:RR β:=⟨x18,x19,x6,x7⟩
 have y1:=p.raw; have y2:=p.le; have y3:=p.inp; have y4:=p.inl; have y5:=p.inb
 refine (need_o hβ ?_ (need_o hβ ?_ (leaf_o opR hβ ?_)))
 ·intro hA
  simp only [DD] at hA
  obtain ⟨a0,a1,a2,a3,a4,a5⟩:=hA
  simp only [DD]
  first | omega | (rw [putAt_len (by rw [← rawB,rawB_len p r]; omega)]; omega)
 ·intro hA
  simp only [DD] at hA
  obtain ⟨a0,a1,a2,a3,a4,a5,a6⟩:=hA
  simp only [DD]
  first | omega | (rw [putAt_len (by rw [← rawB,rawB_len p r]; omega)]; omega)
 ·intro γ0 hl0 hA hr0 hid0 hI
  simp only [DD] at hA
  obtain ⟨a0,a1,a2,a3,a4,a5,a6,a7⟩:=hA
  simp only [DD] at hI
  obtain ⟨i74,i17,i4,i7,i6,i2,i11,i19,i72,i18,i16,i0,i73⟩:=hI
  have s:SR9 β γ0:=⟨i0,i2,i16,i73,i74,i17,i18,i72,hid0⟩
  exact qr_a (K:=gL β 4) p r s i4 (kS1 (by omega)) p.raw i7 i6 i19 (i11.2 trivial) hf (by omega)
theorem hold_r1b {β:Ren} (p:PR β) (r:RR β) (hf:gB β 11=false):lit_r1b.Holds (GR9 β) β:=by
 unfold lit_r1b
 have hβ:=p.n.1
 obtain ⟨x18,x19,x6,x7⟩:=r
 have r:RR β:=⟨x18,x19,x6,x7⟩
 have y1:=p.raw; have y2:=p.le; have y3:=p.inp; have y4:=p.inl; have y5:=p.inb
 refine (need_o hβ ?_ (need_o hβ ?_ (need_o hβ ?_ (need_o hβ ?_ (need_o hβ ?_ (need_o hβ ?_ (need_o hβ ?_ (need_o hβ ?_ (fork_of (need_o hβ ?_ (leaf_o opR hβ ?_)) (need_o hβ ?_ (need_o hβ ?_ (need_o hβ ?_ (need_o hβ ?_ (need_o hβ ?_ (leaf_o opR hβ ?_)))))))))))))))
 ·intro hA
  simp only [DD] at hA
  obtain ⟨a0,a1,a2,a3,a4,a5,a6⟩:=hA
  simp only [DD]
  first | omega | (rw [putAt_len (by rw [← rawB,rawB_len p r]; omega)]; omega)
 ·intro hA
  simp only [DD] at hA
  obtain ⟨a0,a1,a2,a3,a4,a5,a6,a7⟩:=hA
  simp only [DD]
  first | omega | (rw [putAt_len (by rw [← rawB,rawB_len p r]; omega)]; omega)
 ·intro hA
  simp only [DD] at hA
  obtain ⟨a0,a1,a2,a3,a4,a5,a6,a7,a8⟩:=hA
  simp only [DD]
  first | omega | (rw [putAt_len (by rw [← rawB,rawB_len p r]; omega)]; omega)
 ·intro hA
  simp only [DD] at hA
  obtain ⟨a0,a1,a2,a3,a4,a5,a6,a7,a8,a9⟩:=hA
  simp only [DD]
  first | omega | (rw [putAt_len (by rw [← rawB,rawB_len p r]; omega)]; omega)
 ·intro hA
  simp only [DD] at hA
  obtain ⟨a0,a1,a2,a3,a4,a5,a6,a7,a8,a9,a10⟩:=hA
  simp only [DD]
  first | omega | (rw [putAt_len (by rw [← rawB,rawB_len p r]; omega)]; omega)
 ·intro hA
  simp only [DD] at hA
  obtain ⟨a0,a1,a2,a3,a4,a5,a6,a7,a8,a9,a10,a11⟩:=hA
  simp only [DD]
  first | omega | (rw [putAt_len (by rw [← rawB,rawB_len p r]; omega)]; omega)
 ·intro hA
  simp only [DD] at hA
  obtain ⟨a0,a1,a2,a3,a4,a5,a6,a7,a8,a9,a10,a11,a12⟩:=hA
  simp only [DD]
  first | omega | (rw [putAt_len (by rw [← rawB,rawB_len p r]; omega)]; omega)
 ·intro hA
  simp only [DD] at hA
  obtain ⟨a0,a1,a2,a3,a4,a5,a6,a7,a8,a9,a10,a11,a12,a13⟩:=hA
  simp only [DD]
  first | omega | (rw [putAt_len (by rw [← rawB,rawB_len p r]; omega)]; omega)
 ·intro hA
  simp only [DD] at hA
  obtain ⟨a0,a1,a2,a3,a4,a5,a6,a7,a8,a9,a10,a11,a12,a13,a14,a15⟩:=hA
  simp only [DD]
  first | omega | (rw [putAt_len (by rw [← rawB,rawB_len p r]; omega)]; omega)
 ·intro γ0 hl0 hA hr0 hid0 hI
  simp only [DD] at hA
  obtain ⟨a0,a1,a2,a3,a4,a5,a6,a7,a8,a9,a10,a11,a12,a13,a14,a15,a16⟩:=hA
  simp only [DD] at hI
  obtain ⟨i74,i17,i4,i7,i6,i2,i11,i19,i72,i18,i16,i0,i73⟩:=hI
  have s:SR9 β γ0:=⟨i0,i2,i16,i73,i74,i17,i18,i72,hid0⟩
  obtain ⟨m1,m2⟩:=mB1 (m:=512 - (gI β 6 - gI β 7)) p r (by omega) (by omega)
  exact qr_b (K:=gL β 4) p r s i4 (kS1 (by omega)) p.raw m1 m2 i7 (by omega) i19 (Bool.eq_iff_iff.2 i11) hf (by omega) (by omega) (by omega) (.inl (by omega))
 ·intro hA
  simp only [DD] at hA
  obtain ⟨a0,a1,a2,a3,a4,a5,a6,a7,a8,a9,a10,a11,a12,a13,a14,a15⟩:=hA
  simp only [DD]
  first | omega | (rw [putAt_len (by rw [← rawB,rawB_len p r]; omega)]; omega)
 ·intro hA
  simp only [DD] at hA
  obtain ⟨a0,a1,a2,a3,a4,a5,a6,a7,a8,a9,a10,a11,a12,a13,a14,a15,a16⟩:=hA
  simp only [DD]
  first | omega | (rw [putAt_len (by rw [← rawB,rawB_len p r]; omega)]; omega)
 ·intro hA
  simp only [DD] at hA
  obtain ⟨a0,a1,a2,a3,a4,a5,a6,a7,a8,a9,a10,a11,a12,a13,a14,a15,a16,a17⟩:=hA
  simp only [DD]
  first | omega | (rw [putAt_len (by rw [← rawB,rawB_len p r]; omega)]; omega)
 ·intro hA
  simp only [DD] at hA
  obtain ⟨a0,a1,a2,a3,a4,a5,a6,a7,a8,a9,a10,a11,a12,a13,a14,a15,a16,a17,a18⟩:=hA
  simp only [DD]
  first | omega | (rw [putAt_len (by rw [← rawB,rawB_len p r]; omega)]; omega)
 ·intro hA
  simp only [DD] at hA
  obtain ⟨a0,a1,a2,a3,a4,a5,a6,a7,a8,a9,a10,a11,a12,a13,a14,a15,a16,a17,a18,a19⟩:=hA
  simp only [DD]
  first | omega | (rw [putAt_len (by rw [← rawB,rawB_len p r]; omega)]; omega)
 ·intro γ0 hl0 hA hr0 hid0 hI
  simp only [DD] at hA
  obtain ⟨a0,a1,a2,a3,a4,a5,a6,a7,a8,a9,a10,a11,a12,a13,a14,a15,a16,a17,a18,a19,a20⟩:=hA
  simp only [DD] at hI
  obtain ⟨i74,i17,i4,i7,i6,i2,i11,i19,i72,i18,i16,i0,i73⟩:=hI
  have s:SR9 β γ0:=⟨i0,i2,i16,i73,i74,i17,i18,i72,hid0⟩
  obtain ⟨m1,m2⟩:=mB2 p r
  exact qr_b (K:=gL β 4) p r s i4 (kS1 (by omega)) p.raw m1 m2 i7 i6 (by omega) (Bool.eq_iff_iff.2 i11) hf (by omega) (by omega) (by omega) (.inr (by omega))
theorem hold_r2a {β:Ren} (p:PR β) (r:RR β) (hf:gB β 11=false):lit_r2a.Holds (GR9 β) β:=by
 unfold lit_r2a
 have hβ:=p.n.1
 obtain ⟨x18,x19,x6,x7⟩:=r
 have r:RR β:=⟨x18,x19,x6,x7⟩
 have y1:=p.raw; have y2:=p.le; have y3:=p.inp; have y4:=p.inl; have y5:=p.inb
 refine (need_o hβ ?_ (need_o hβ ?_ (need_o hβ ?_ (need_o hβ ?_ (need_o hβ ?_ (need_o hβ ?_ (leaf_o opR hβ ?_)))))))
 ·intro hA
  simp only [DD] at hA
  obtain ⟨a0,a1,a2,a3,a4,a5,a6,a7,a8⟩:=hA
  simp only [DD]
  first | omega | (rw [putAt_len (by rw [← rawB,rawB_len p r]; omega)]; omega)
 ·intro hA
  simp only [DD] at hA
  obtain ⟨a0,a1,a2,a3,a4,a5,a6,a7,a8,a9⟩:=hA
  simp only [DD]
  first | omega | (rw [putAt_len (by rw [← rawB,rawB_len p r]; omega)]; omega)
 ·intro hA
  simp only [DD] at hA
  obtain ⟨a0,a1,a2,a3,a4,a5,a6,a7,a8,a9,a10⟩:=hA
  simp only [DD]
  first | omega | (rw [putAt_len (by rw [← rawB,rawB_len p r]; omega)]; omega)
 ·intro hA
  simp only [DD] at hA
  obtain ⟨a0,a1,a2,a3,a4,a5,a6,a7,a8,a9,a10,a11⟩:=hA
  simp only [DD]
  first | omega | (rw [putAt_len (by rw [← rawB,rawB_len p r]; omega)]; omega)
 ·intro hA
  simp only [DD] at hA
  obtain ⟨a0,a1,a2,a3,a4,a5,a6,a7,a8,a9,a10,a11,a12⟩:=hA
  simp only [DD]
  first | omega | (rw [putAt_len (by rw [← rawB,rawB_len p r]; omega)]; omega)
 ·intro hA
  simp only [DD] at hA
  obtain ⟨a0,a1,a2,a3,a4,a5,a6,a7,a8,a9,a10,a11,a12,a13⟩:=hA
  simp only [DD]
  first | omega | (rw [putAt_len (by rw [← rawB,rawB_len p r]; omega)]; omega)
 ·intro γ0 hl0 hA hr0 hid0 hI
  simp only [DD] at hA
  obtain ⟨a0,a1,a2,a3,a4,a5,a6,a7,a8,a9,a10,a11,a12,a13,a14⟩:=hA
  simp only [DD] at hI
  obtain ⟨i74,i17,i4,i7,i6,i2,i11,i19,i72,i18,i16,i0,i73⟩:=hI
  have s:SR9 β γ0:=⟨i0,i2,i16,i73,i74,i17,i18,i72,hid0⟩
  exact qr_a (K:=putAt (gL β 4) 0 (rawB β)) p r s i4 (kS2 p r).1 (kS2 p r).2 i7 i6 i19 (i11.2 trivial) hf (by omega)
theorem hold_r2b {β:Ren} (p:PR β) (r:RR β) (hf:gB β 11=false):lit_r2b.Holds (GR9 β) β:=by
 unfold lit_r2b
 have hβ:=p.n.1
 obtain ⟨x18,x19,x6,x7⟩:=r
 have r:RR β:=⟨x18,x19,x6,x7⟩
 have y1:=p.raw; have y2:=p.le; have y3:=p.inp; have y4:=p.inl; have y5:=p.inb
 refine (need_o hβ ?_ (need_o hβ ?_ (need_o hβ ?_ (need_o hβ ?_ (need_o hβ ?_ (need_o hβ ?_ (need_o hβ ?_ (need_o hβ ?_ (need_o hβ ?_ (need_o hβ ?_ (need_o hβ ?_ (need_o hβ ?_ (fork_of (need_o hβ ?_ (leaf_o opR hβ ?_)) (need_o hβ ?_ (need_o hβ ?_ (need_o hβ ?_ (need_o hβ ?_ (need_o hβ ?_ (leaf_o opR hβ ?_)))))))))))))))))))
 ·intro hA
  simp only [DD] at hA
  obtain ⟨a0,a1,a2,a3,a4,a5,a6,a7,a8,a9⟩:=hA
  simp only [DD]
  first | omega | (rw [putAt_len (by rw [← rawB,rawB_len p r]; omega)]; omega)
 ·intro hA
  simp only [DD] at hA
  obtain ⟨a0,a1,a2,a3,a4,a5,a6,a7,a8,a9,a10⟩:=hA
  simp only [DD]
  first | omega | (rw [putAt_len (by rw [← rawB,rawB_len p r]; omega)]; omega)
 ·intro hA
  simp only [DD] at hA
  obtain ⟨a0,a1,a2,a3,a4,a5,a6,a7,a8,a9,a10,a11⟩:=hA
  simp only [DD]
  first | omega | (rw [putAt_len (by rw [← rawB,rawB_len p r]; omega)]; omega)
 ·intro hA
  simp only [DD] at hA
  obtain ⟨a0,a1,a2,a3,a4,a5,a6,a7,a8,a9,a10,a11,a12⟩:=hA
  simp only [DD]
  first | omega | (rw [putAt_len (by rw [← rawB,rawB_len p r]; omega)]; omega)
 ·intro hA
  simp only [DD] at hA
  obtain ⟨a0,a1,a2,a3,a4,a5,a6,a7,a8,a9,a10,a11,a12,a13⟩:=hA
  simp only [DD]
  first | omega | (rw [putAt_len (by rw [← rawB,rawB_len p r]; omega)]; omega)
 ·intro hA
  simp only [DD] at hA
  obtain ⟨a0,a1,a2,a3,a4,a5,a6,a7,a8,a9,a10,a11,a12,a13,a14⟩:=hA
  simp only [DD]
  first | omega | (rw [putAt_len (by rw [← rawB,rawB_len p r]; omega)]; omega)
 ·intro hA
  simp only [DD] at hA
  obtain ⟨a0,a1,a2,a3,a4,a5,a6,a7,a8,a9,a10,a11,a12,a13,a14,a15⟩:=hA
  simp only [DD]
  first | omega | (rw [putAt_len (by rw [← rawB,rawB_len p r]; omega)]; omega)
 ·intro hA
  simp only [DD] at hA
  obtain ⟨a0,a1,a2,a3,a4,a5,a6,a7,a8,a9,a10,a11,a12,a13,a14,a15,a16⟩:=hA
  simp only [DD]
  first | omega | (rw [putAt_len (by rw [← rawB,rawB_len p r]; omega)]; omega)
 ·intro hA
  simp only [DD] at hA
  obtain ⟨a0,a1,a2,a3,a4,a5,a6,a7,a8,a9,a10,a11,a12,a13,a14,a15,a16,a17⟩:=hA
  simp only [DD]
  first | omega | (rw [putAt_len (by rw [← rawB,rawB_len p r]; omega)]; omega)
 ·intro hA
  simp only [DD] at hA
  obtain ⟨a0,a1,a2,a3,a4,a5,a6,a7,a8,a9,a10,a11,a12,a13,a14,a15,a16,a17,a18⟩:=hA
  simp only [DD]
  first | omega | (rw [putAt_len (by rw [← rawB,rawB_len p r]; omega)]; omega)
 ·intro hA
  simp only [DD] at hA
  obtain ⟨a0,a1,a2,a3,a4,a5,a6,a7,a8,a9,a10,a11,a12,a13,a14,a15,a16,a17,a18,a19⟩:=hA
  simp only [DD]
  first | omega | (rw [putAt_len (by rw [← rawB,rawB_len p r]; omega)]; omega)
 ·intro hA
  simp only [DD] at hA
  obtain ⟨a0,a1,a2,a3,a4,a5,a6,a7,a8,a9,a10,a11,a12,a13,a14,a15,a16,a17,a18,a19,a20⟩:=hA
  simp only [DD]
  first | omega | (rw [putAt_len (by rw [← rawB,rawB_len p r]; omega)]; omega)
 ·intro hA
  simp only [DD] at hA
  obtain ⟨a0,a1,a2,a3,a4,a5,a6,a7,a8,a9,a10,a11,a12,a13,a14,a15,a16,a17,a18,a19,a20,a21,a22⟩:=hA
  simp only [DD]
  first | omega | (rw [putAt_len (by rw [← rawB,rawB_len p r]; omega)]; omega)
 ·intro γ0 hl0 hA hr0 hid0 hI
  simp only [DD] at hA
  obtain ⟨a0,a1,a2,a3,a4,a5,a6,a7,a8,a9,a10,a11,a12,a13,a14,a15,a16,a17,a18,a19,a20,a21,a22,a23⟩:=hA
  simp only [DD] at hI
  obtain ⟨i74,i17,i4,i7,i6,i2,i11,i19,i72,i18,i16,i0,i73⟩:=hI
  have s:SR9 β γ0:=⟨i0,i2,i16,i73,i74,i17,i18,i72,hid0⟩
  obtain ⟨m1,m2⟩:=mB1 (m:=512 - (gI β 6 - gI β 7)) p r (by omega) (by omega)
  exact qr_b (K:=putAt (gL β 4) 0 (rawB β)) p r s i4 (kS2 p r).1 (kS2 p r).2 m1 m2 i7 (by omega) i19 (Bool.eq_iff_iff.2 i11) hf (by omega) (by omega) (by omega) (.inl (by omega))
 ·intro hA
  simp only [DD] at hA
  obtain ⟨a0,a1,a2,a3,a4,a5,a6,a7,a8,a9,a10,a11,a12,a13,a14,a15,a16,a17,a18,a19,a20,a21,a22⟩:=hA
  simp only [DD]
  first | omega | (rw [putAt_len (by rw [← rawB,rawB_len p r]; omega)]; omega)
 ·intro hA
  simp only [DD] at hA
  obtain ⟨a0,a1,a2,a3,a4,a5,a6,a7,a8,a9,a10,a11,a12,a13,a14,a15,a16,a17,a18,a19,a20,a21,a22,a23⟩:=hA
  simp only [DD]
  first | omega | (rw [putAt_len (by rw [← rawB,rawB_len p r]; omega)]; omega)
 ·intro hA
  simp only [DD] at hA
  obtain ⟨a0,a1,a2,a3,a4,a5,a6,a7,a8,a9,a10,a11,a12,a13,a14,a15,a16,a17,a18,a19,a20,a21,a22,a23,a24⟩:=hA
  simp only [DD]
  first | omega | (rw [putAt_len (by rw [← rawB,rawB_len p r]; omega)]; omega)
 ·intro hA
  simp only [DD] at hA
  obtain ⟨a0,a1,a2,a3,a4,a5,a6,a7,a8,a9,a10,a11,a12,a13,a14,a15,a16,a17,a18,a19,a20,a21,a22,a23,a24,a25⟩:=hA
  simp only [DD]
  first | omega | (rw [putAt_len (by rw [← rawB,rawB_len p r]; omega)]; omega)
 ·intro hA
  simp only [DD] at hA
  obtain ⟨a0,a1,a2,a3,a4,a5,a6,a7,a8,a9,a10,a11,a12,a13,a14,a15,a16,a17,a18,a19,a20,a21,a22,a23,a24,a25,a26⟩:=hA
  simp only [DD]
  first | omega | (rw [putAt_len (by rw [← rawB,rawB_len p r]; omega)]; omega)
 ·intro γ0 hl0 hA hr0 hid0 hI
  simp only [DD] at hA
  obtain ⟨a0,a1,a2,a3,a4,a5,a6,a7,a8,a9,a10,a11,a12,a13,a14,a15,a16,a17,a18,a19,a20,a21,a22,a23,a24,a25,a26,a27⟩:=hA
  simp only [DD] at hI
  obtain ⟨i74,i17,i4,i7,i6,i2,i11,i19,i72,i18,i16,i0,i73⟩:=hI
  have s:SR9 β γ0:=⟨i0,i2,i16,i73,i74,i17,i18,i72,hid0⟩
  obtain ⟨m1,m2⟩:=mB2 p r
  exact qr_b (K:=putAt (gL β 4) 0 (rawB β)) p r s i4 (kS2 p r).1 (kS2 p r).2 m1 m2 i7 i6 (by omega) (Bool.eq_iff_iff.2 i11) hf (by omega) (by omega) (by omega) (.inr (by omega))
theorem hold_r3a {β:Ren} (p:PR β) (r:RR β) (hf:gB β 11=false):lit_r3a.Holds (GR9 β) β:=by
 unfold lit_r3a
 have hβ:=p.n.1
 obtain ⟨x18,x19,x6,x7⟩:=r
 have r:RR β:=⟨x18,x19,x6,x7⟩
 have y1:=p.raw; have y2:=p.le; have y3:=p.inp; have y4:=p.inl; have y5:=p.inb
 refine (need_o hβ ?_ (need_o hβ ?_ (leaf_o opR hβ ?_)))
 ·intro hA
  simp only [DD] at hA
  obtain ⟨a0,a1,a2,a3,a4,a5⟩:=hA
  simp only [DD]
  first | omega | (rw [putAt_len (by rw [← rawB,rawB_len p r]; omega)]; omega)
 ·intro hA
  simp only [DD] at hA
  obtain ⟨a0,a1,a2,a3,a4,a5,a6⟩:=hA
  simp only [DD]
  first | omega | (rw [putAt_len (by rw [← rawB,rawB_len p r]; omega)]; omega)
 ·intro γ0 hl0 hA hr0 hid0 hI
  simp only [DD] at hA
  obtain ⟨a0,a1,a2,a3,a4,a5,a6,a7⟩:=hA
  simp only [DD] at hI
  obtain ⟨i74,i17,i4,i7,i6,i2,i11,i19,i72,i18,i16,i0,i73⟩:=hI
  have s:SR9 β γ0:=⟨i0,i2,i16,i73,i74,i17,i18,i72,hid0⟩
  exact qr_a (K:=gL β 4) p r s i4 (kS3 r (by omega)) p.raw i7 i6 i19 (i11.2 trivial) hf (by omega)
theorem hold_r3b {β:Ren} (p:PR β) (r:RR β) (hf:gB β 11=false):lit_r3b.Holds (GR9 β) β:=by
 unfold lit_r3b
 have hβ:=p.n.1
 obtain ⟨x18,x19,x6,x7⟩:=r
 have r:RR β:=⟨x18,x19,x6,x7⟩
 have y1:=p.raw; have y2:=p.le; have y3:=p.inp; have y4:=p.inl; have y5:=p.inb
 refine (need_o hβ ?_ (need_o hβ ?_ (need_o hβ ?_ (need_o hβ ?_ (need_o hβ ?_ (need_o hβ ?_ (need_o hβ ?_ (need_o hβ ?_ (fork_of (need_o hβ ?_ (leaf_o opR hβ ?_)) (need_o hβ ?_ (need_o hβ ?_ (need_o hβ ?_ (need_o hβ ?_ (need_o hβ ?_ (leaf_o opR hβ ?_)))))))))))))))
 ·intro hA
  simp only [DD] at hA
  obtain ⟨a0,a1,a2,a3,a4,a5,a6⟩:=hA
  simp only [DD]
  first | omega | (rw [putAt_len (by rw [← rawB,rawB_len p r]; omega)]; omega)
 ·intro hA
  simp only [DD] at hA
  obtain ⟨a0,a1,a2,a3,a4,a5,a6,a7⟩:=hA
  simp only [DD]
  first | omega | (rw [putAt_len (by rw [← rawB,rawB_len p r]; omega)]; omega)
 ·intro hA
  simp only [DD] at hA
  obtain ⟨a0,a1,a2,a3,a4,a5,a6,a7,a8⟩:=hA
  simp only [DD]
  first | omega | (rw [putAt_len (by rw [← rawB,rawB_len p r]; omega)]; omega)
 ·intro hA
  simp only [DD] at hA
  obtain ⟨a0,a1,a2,a3,a4,a5,a6,a7,a8,a9⟩:=hA
  simp only [DD]
  first | omega | (rw [putAt_len (by rw [← rawB,rawB_len p r]; omega)]; omega)
 ·intro hA
  simp only [DD] at hA
  obtain ⟨a0,a1,a2,a3,a4,a5,a6,a7,a8,a9,a10⟩:=hA
  simp only [DD]
  first | omega | (rw [putAt_len (by rw [← rawB,rawB_len p r]; omega)]; omega)
 ·intro hA
  simp only [DD] at hA
  obtain ⟨a0,a1,a2,a3,a4,a5,a6,a7,a8,a9,a10,a11⟩:=hA
  simp only [DD]
  first | omega | (rw [putAt_len (by rw [← rawB,rawB_len p r]; omega)]; omega)
 ·intro hA
  simp only [DD] at hA
  obtain ⟨a0,a1,a2,a3,a4,a5,a6,a7,a8,a9,a10,a11,a12⟩:=hA
  simp only [DD]
  first | omega | (rw [putAt_len (by rw [← rawB,rawB_len p r]; omega)]; omega)
 ·intro hA
  simp only [DD] at hA
  obtain ⟨a0,a1,a2,a3,a4,a5,a6,a7,a8,a9,a10,a11,a12,a13⟩:=hA
  simp only [DD]
  first | omega | (rw [putAt_len (by rw [← rawB,rawB_len p r]; omega)]; omega)
 ·intro hA
  simp only [DD] at hA
  obtain ⟨a0,a1,a2,a3,a4,a5,a6,a7,a8,a9,a10,a11,a12,a13,a14,a15⟩:=hA
  simp only [DD]
  first | omega | (rw [putAt_len (by rw [← rawB,rawB_len p r]; omega)]; omega)
 ·intro γ0 hl0 hA hr0 hid0 hI
  simp only [DD] at hA
  obtain ⟨a0,a1,a2,a3,a4,a5,a6,a7,a8,a9,a10,a11,a12,a13,a14,a15,a16⟩:=hA
  simp only [DD] at hI
  obtain ⟨i74,i17,i4,i7,i6,i2,i11,i19,i72,i18,i16,i0,i73⟩:=hI
  have s:SR9 β γ0:=⟨i0,i2,i16,i73,i74,i17,i18,i72,hid0⟩
  obtain ⟨m1,m2⟩:=mB1 (m:=512 - (gI β 6 - gI β 7)) p r (by omega) (by omega)
  exact qr_b (K:=gL β 4) p r s i4 (kS3 r (by omega)) p.raw m1 m2 i7 (by omega) i19 (Bool.eq_iff_iff.2 i11) hf (by omega) (by omega) (by omega) (.inl (by omega))
 ·intro hA
  simp only [DD] at hA
  obtain ⟨a0,a1,a2,a3,a4,a5,a6,a7,a8,a9,a10,a11,a12,a13,a14,a15⟩:=hA
  simp only [DD]
  first | omega | (rw [putAt_len (by rw [← rawB,rawB_len p r]; omega)]; omega)
 ·intro hA
  simp only [DD] at hA
  obtain ⟨a0,a1,a2,a3,a4,a5,a6,a7,a8,a9,a10,a11,a12,a13,a14,a15,a16⟩:=hA
  simp only [DD]
  first | omega | (rw [putAt_len (by rw [← rawB,rawB_len p r]; omega)]; omega)
 ·intro hA
  simp only [DD] at hA
  obtain ⟨a0,a1,a2,a3,a4,a5,a6,a7,a8,a9,a10,a11,a12,a13,a14,a15,a16,a17⟩:=hA
  simp only [DD]
  first | omega | (rw [putAt_len (by rw [← rawB,rawB_len p r]; omega)]; omega)
 ·intro hA
  simp only [DD] at hA
  obtain ⟨a0,a1,a2,a3,a4,a5,a6,a7,a8,a9,a10,a11,a12,a13,a14,a15,a16,a17,a18⟩:=hA
  simp only [DD]
  first | omega | (rw [putAt_len (by rw [← rawB,rawB_len p r]; omega)]; omega)
 ·intro hA
  simp only [DD] at hA
  obtain ⟨a0,a1,a2,a3,a4,a5,a6,a7,a8,a9,a10,a11,a12,a13,a14,a15,a16,a17,a18,a19⟩:=hA
  simp only [DD]
  first | omega | (rw [putAt_len (by rw [← rawB,rawB_len p r]; omega)]; omega)
 ·intro γ0 hl0 hA hr0 hid0 hI
  simp only [DD] at hA
  obtain ⟨a0,a1,a2,a3,a4,a5,a6,a7,a8,a9,a10,a11,a12,a13,a14,a15,a16,a17,a18,a19,a20⟩:=hA
  simp only [DD] at hI
  obtain ⟨i74,i17,i4,i7,i6,i2,i11,i19,i72,i18,i16,i0,i73⟩:=hI
  have s:SR9 β γ0:=⟨i0,i2,i16,i73,i74,i17,i18,i72,hid0⟩
  obtain ⟨m1,m2⟩:=mB2 p r
  exact qr_b (K:=gL β 4) p r s i4 (kS3 r (by omega)) p.raw m1 m2 i7 i6 (by omega) (Bool.eq_iff_iff.2 i11) hf (by omega) (by omega) (by omega) (.inr (by omega))
theorem hold_rfu {β:Ren} (p:PR β) (r:RR β):lit_rfu.Holds (GR9 β) β:=by
 unfold lit_rfu
 have hβ:=p.n.1
 obtain ⟨x18,x19,x6,x7⟩:=r
 have r:RR β:=⟨x18,x19,x6,x7⟩
 have y1:=p.raw; have y2:=p.le; have y3:=p.inp; have y4:=p.inl; have y5:=p.inb
 refine (leaf_o opR hβ ?_)
 ·intro γ0 hl0 hA hr0 hid0 hI
  simp only [DD] at hA
  obtain ⟨a0,a1⟩:=hA
  simp only [DD] at hI
  obtain ⟨i74,i17,i4,i7,i6,i2,i11,i19,i72,i18,i16,i0,i73⟩:=hI
  have s:SR9 β γ0:=⟨i0,i2,i16,i73,i74,i17,i18,i72,hid0⟩
  exact qr_same p r s i4 i7 i6 i19 (Bool.eq_iff_iff.2 i11) (.inr ⟨by omega,by omega⟩)
theorem hold_reo {β:Ren} (p:PR β) (r:RR β):lit_reo.Holds (GR9 β) β:=by
 unfold lit_reo
 have hβ:=p.n.1
 obtain ⟨x18,x19,x6,x7⟩:=r
 have r:RR β:=⟨x18,x19,x6,x7⟩
 have y1:=p.raw; have y2:=p.le; have y3:=p.inp; have y4:=p.inl; have y5:=p.inb
 refine (fork_of (leaf_o opR hβ ?_) (leaf_o opR hβ ?_))
 ·intro γ0 hl0 hA hr0 hid0 hI
  simp only [DD] at hA
  obtain ⟨a0,a1,a2⟩:=hA
  simp only [DD] at hI
  obtain ⟨i74,i17,i4,i7,i6,i2,i11,i19,i72,i18,i16,i0,i73⟩:=hI
  have s:SR9 β γ0:=⟨i0,i2,i16,i73,i74,i17,i18,i72,hid0⟩
  exact qr_same p r s i4 i7 i6 i19 (Bool.eq_iff_iff.2 i11) (.inl (by assumption))
 ·intro γ0 hl0 hA hr0 hid0 hI
  simp only [DD] at hA
  obtain ⟨a0,a1⟩:=hA
  simp only [DD] at hI
  obtain ⟨i74,i17,i4,i7,i6,i2,i11,i19,i72,i18,i16,i0,i73⟩:=hI
  have s:SR9 β γ0:=⟨i0,i2,i16,i73,i74,i17,i18,i72,hid0⟩
  exact qr_same p r s i4 i7 i6 i19 (Bool.eq_iff_iff.2 i11) (.inl (by assumption))
set_option maxRecDepth 100000
noncomputable def fnAt (f:Nat):Func:=(Tryd.prog.funcs[f]?).getD default
theorem noLaws {P:Program} {G:Goal}:∀ (f:FuncId) (s:CSpec),(fun _:FuncId=>(none:Option CSpec)) f=some s→CLaw P G f s:=fun _ _ h=>by cases h
theorem qr_ln {β β1:Ren} (p:PR β) (hl:β1.length=90) (h:QR β β1):Ln β1:=p.n.of h.h73 hl
theorem law49 {G:Goal} (hCL:∀ β,G.CL 49 β→PR β) (hCO:∀ β β1,G.CL 49 β→PR β→Ln β1→QR β β1→G.CO 49 0 β β1):CLaw Tryd.prog G 49 spR:=by
 refine claw_of (E:=ER) (Gt:=GR9) (fn:=fnAt 49) (c:=body 49) (s:=spR) noNum callOk follows (by kernel_rfl) (by kernel_rfl) (by kernel_rfl) (by kernel_rfl) (by kernel_rfl) (by kernel_rfl) ?_ ?_ ?_ (fun β w0 r s c h=>by rcases h with h | h <;> cases h) (fun β j i β1 β2 h=>h.elim) (fun β r s h=>by rcases h with h | h <;> cases h) (fun β=>noLaws)
 ·intro e j tp h
  have h:=h.resolve_right fun h=>by cases h
  cases e with
  | normal=>cases h; exact ⟨(fun id h=>by cases h),.bool true,by kernel_rfl,_,rfl⟩
  | ret=>cases h; exact ⟨(fun id h=>by cases h),.bool true,by kernel_rfl,_,rfl⟩
  | exit id=>cases h
 ·intro β hcl hlen hr
  have p:=hCL β hcl
  have r:=rr_of hr
  refine ⟨p.n.2,?_⟩
  obtain ⟨x18,x19,x6,x7⟩:=r
  have r:RR β:=⟨x18,x19,x6,x7⟩
  have y1:=p.raw; have y2:=p.le; have y3:=p.inp; have y4:=p.inl; have y5:=p.inb
  have fin:∀ {A:List TB} {t:Tre},treR A=t→t.Holds (GR9 β) β→(A.all fun t=>t.ok 90)=true→FactsP β A→∃ (A:List Value) (k:Nat),Facts β A∧(tre ER k (body 49) [] A spR.tin.frame spR.tin.heap).Holds (GR9 β) β:=by
   intro A t ht hh hok hA
   refine ⟨A.map TB.enc,2000,Facts.ofP hA fun t ht=>?_,?_⟩
   ·rw [p.n.1]; exact List.all_eq_true.1 hok t ht
   ·unfold treR at ht
    show (tre ER 2000 (body 49) [] (A.map TB.enc) tR.frame tR.heap).Holds (GR9 β) β
    rw [ht]; exact hh
  have s67d:s67.den β=gI β 6 - gI β 7:=rfl
  by_cases hf:gB β 11=true
  ·exact fin lit_reo_eq (hold_reo p r) (by decide) ⟨hf,trivial⟩
  have hf':gB β 11=false:=by simpa using hf
  by_cases h0:gI β 7=0
  ·by_cases h5:gI β 6=512
   ·exact fin lit_rfu_eq (hold_rfu p r) (by decide) ⟨h0,h5,trivial⟩
   by_cases he:gI β 19=gI β 18
   ·refine fin lit_r1a_eq (hold_r1a p r hf') (by decide) ?_
    simp only [fS1,fEa,List.cons_append,List.nil_append,FactsP,TB.P,den_litI,den_varI,s67d,and_true]
    exact ⟨h0,h5,by omega,hf,by omega,he⟩
   ·refine fin lit_r1b_eq (hold_r1b p r hf') (by decide) ?_
    simp only [fS1,fEb,List.cons_append,List.nil_append,FactsP,TB.P,den_litI,den_varI,s67d,and_true]
    exact ⟨h0,h5,by omega,hf,by omega,he,by omega⟩
  ·by_cases hl:gI β 7 < gI β 6
   ·by_cases he:gI β 19=gI β 18
    ·refine fin lit_r2a_eq (hold_r2a p r hf') (by decide) ?_
     simp only [fS2,fEa,List.cons_append,List.nil_append,FactsP,TB.P,den_litI,den_varI,s67d,and_true]
     exact ⟨h0,by omega,hl,by omega,by omega,by omega,hf,by omega,he⟩
    ·refine fin lit_r2b_eq (hold_r2b p r hf') (by decide) ?_
     simp only [fS2,fEb,List.cons_append,List.nil_append,FactsP,TB.P,den_litI,den_varI,s67d,and_true]
     exact ⟨h0,by omega,hl,by omega,by omega,by omega,hf,by omega,he,by omega⟩
   ·by_cases he:gI β 19=gI β 18
    ·refine fin lit_r3a_eq (hold_r3a p r hf') (by decide) ?_
     simp only [fS3,fEa,List.cons_append,List.nil_append,FactsP,TB.P,den_litI,den_varI,s67d,and_true]
     exact ⟨h0,by omega,hl,hf,by omega,he⟩
    ·refine fin lit_r3b_eq (hold_r3b p r hf') (by decide) ?_
     simp only [fS3,fEb,List.cons_append,List.nil_append,FactsP,TB.P,den_litI,den_varI,s67d,and_true]
     exact ⟨h0,by omega,hl,hf,by omega,he,by omega⟩
 ·intro β j v tp sm β1 hcl hout hlen _ hJ
  have p:=hCL β hcl
  have q:QR β β1:=hJ
  match j,hout with
  | 0,hout =>
   cases hout
   refine ⟨hCO β β1 hcl p (qr_ln p hlen q) q,fun x hx=>?_⟩
   have hx:x ∈ [(0,0),(2,0),(16,0),(73,0),(74,0),(17,2),(18,1),(72,1)]++opR.map fun i=>(i,4):=hx
   rw [List.mem_append] at hx
   rcases hx with hx | hx
   ·simp only [List.mem_cons,List.not_mem_nil,or_false] at hx
    rcases hx with rfl | rfl | rfl | rfl | rfl | rfl | rfl | rfl
    ·exact q.h0
    ·exact q.h2
    ·exact q.h16
    ·exact q.h73
    ·exact q.h74
    ·exact q.l17
    ·exact q.i18
    ·exact q.i72
   ·obtain ⟨i,hi,rfl⟩:=List.mem_map.1 hx
    exact q.op i hi
def updD (lo:Int):List (Nat × Value):=[(22,I 10 lo 3),(23,I 9 0 10000000)]++updR
def HPD (lo:Int):List (Nat × Blk):=[(0,{ cells:=cellsP (updD lo),elem:=76,ro:=false,live:=true }),
 (2,{ cells:=[],elem:=5,ro:=false,live:=true,seq:=some (x 4) }),(16,{ cells:=[],elem:=5,ro:=true,live:=true,seq:=some (x 17) }),(73,{ cells:=[.iface 89 (.pointer (some ⟨74,0,none⟩))],elem:=86,ro:=true,live:=true })]
def tD:Tpl:={ m:=90,F:=[(0,.pointer (some ⟨0,0,none⟩))],H:=HPD 0,G:=[73] }
def tDo:Tpl:={ m:=90,F:=[(0,.pointer (some ⟨0,0,none⟩)),(2,.bool true)],H:=HPD 1,G:=[73] }
def opD:List Nat:=(List.range 52).filterMap fun i=>if [11,13,14,15,20,21,22,23,45].contains i then none else some (20 + i)
def spD:CSpec:={ j:=48,n:=1,tin:=tD,outs:=[(.bool true,tDo,[(0,0),(2,0),(16,0),(73,0),(74,0),(17,2),(18,1),(72,1)]++opD.map fun i=>(i,4))] }
def ct49:FuncId→Option CSpec:=fun f=>if f=49 then some spR else none
def sp48:LSpec:={ j:=1,tin:=tD,outs:=[(.exit 0,tD,[])] }
def ftD1:AExit→Option (Nat × Tpl):=fun e=>match e with
 | .normal=>some (0,tD)
 | .exit 0=>some (1,tD)
 | _=>none
def ftD:AExit→Option (Nat × Tpl):=fun e=>match e with
 | .normal=>some (0,tDo)
 | .ret=>some (0,tDo)
 | _=>none
def rc2:Nat→Bool:=fun n=>Nat.beq n 2
def lt1:Nat→Option LSpec:=fun n=>if n=1 then some sp48 else none
noncomputable def ED1:Env:=EF 48 ct49 rc2 (fun _=>none) (fun _=>none) ftD1
noncomputable def ED:Env:=EF 48 ct49 rc2 (fun _=>none) lt1 ftD
noncomputable def loop48:Code:=(findLoop 1 100 (body 48)).getD .skip
noncomputable def treD1:Tre:=tre ED1 2000 loop48 [] [] tD.frame tD.heap
noncomputable def treD (A:List TB):Tre:=tre ED 2000 (body 48) [] (A.map TB.enc) tD.frame tD.heap
set_option maxRecDepth 100000
theorem PR.of {β γ:Ren} (p:PR β) (hn:Ln γ) (h4:gL γ 4=gL β 4) (h6:gI γ 6=gI β 6) (h7:gI γ 7=gI β 7) (h11:gB γ 11=gB β 11) (h17:gL γ 17=gL β 17) (h18:gI γ 18=gI β 18) (h19:gI γ 19=gI β 19):PR γ :=
 ⟨hn,by rw [h4]; exact p.raw,by rw [h6,h7]; exact p.le,by rw [h18,h19]; exact p.inp,by rw [h18,h17]; exact p.inl,by rw [h18]; exact p.inb,by rw [h11,h18,h19]; exact p.eo⟩
theorem rest_of {β γ:Ren} (h4:gL γ 4=gL β 4) (h6:gI γ 6=gI β 6) (h7:gI γ 7=gI β 7) (h17:gL γ 17=gL β 17) (h18:gI γ 18=gI β 18) (h19:gI γ 19=gI β 19):restB γ=restB β:=by
 unfold restB rawB inpB; rw [h4,h6,h7,h17,h18,h19]
theorem QR.pp {β β1:Ren} (p:PR β) (hn:Ln β1) (q:QR β β1):PR β1:=by
 have h1:=q.b6; have h2:=q.b19; have h3:=q.i18
 refine ⟨hn,q.raw,by omega,by omega,by rw [q.i18,q.l17]; exact p.inl,by rw [q.i18]; exact p.inb,fun h=>?_⟩
 rcases q.pr with ⟨_,_,_,h19,h11,_⟩ | ⟨_,_,_,⟨h11,h5⟩ | ⟨h11,_⟩⟩
 ·have:=p.eo (by rw [← h11]; exact h); omega
 ·omega
 ·rw [h11] at h; cases h
structure SD9 (β β1:Ren):Prop where
 h0:β1[0]?=β[0]?
 h2:β1[2]?=β[2]?
 h16:β1[16]?=β[16]?
 h73:β1[73]?=β[73]?
 h74:β1[74]?=β[74]?
 l17:gL β1 17=gL β 17
 i18:gI β1 18=gI β 18
 i72:gI β1 72=gI β 72
 op:∀ i ∈ opD,gV β1 i=gV β i
theorem SD9.trans {a b c:Ren} (h:SD9 a b) (g:SD9 b c):SD9 a c:=⟨g.h0.trans h.h0,g.h2.trans h.h2,g.h16.trans h.h16,g.h73.trans h.h73,g.h74.trans h.h74,g.l17.trans h.l17,g.i18.trans h.i18,g.i72.trans h.i72,fun i hi=>(g.op i hi).trans (h.op i hi)⟩
theorem SD9.refl (a:Ren):SD9 a a:=⟨rfl,rfl,rfl,rfl,rfl,rfl,rfl,rfl,fun _ _=>rfl⟩
structure LD (β β1:Ren):Prop where
 s:SD9 β β1
 p:PR β1
 rest:restB β1=restB β
 i9:gI β1 9=gI β 9
 i10:gI β1 10=gI β 10
 b19:gI β 19≤gI β1 19
theorem LD.trans {a b c:Ren} (h:LD a b) (g:LD b c):LD a c:=⟨h.s.trans g.s,g.p,g.rest.trans h.rest,g.i9.trans h.i9,g.i10.trans h.i10,Int.le_trans h.b19 g.b19⟩
theorem LD.refl {a:Ren} (p:PR a):LD a a:=⟨SD9.refl a,p,rfl,rfl,rfl,Int.le_refl _⟩
def Prog (β β1:Ren):Prop:=gB β 11=false∧(gB β1 11=true∨gI β 19 < gI β1 19)
def Full (β:Ren):Prop:=gB β 11=true∨3≤gI β 6 - gI β 7
def GD1 (β:Ren):Goal where
 J:=fun j β1=>match j with
  | 0=>LD β β1∧Prog β β1
  | 1=>LD β β1∧Full β1
  | _=>False
 L:=fun _ _=>False
 O:=fun _ _ _ _=>False
 W:=fun _ _=>False
 CL:=fun j β1=>j=49∧PR β1
 CO:=fun j i β1 β2=>Ln β2∧QR β1 β2
def le0S0 (i:Nat) (a b:Int):List TB:=[.le (.lit a) (.var i),.le (.var i) (.lit b)]
structure RD (β:Ren):Prop extends RR β where
 i9:0≤gI β 9∧gI β 9≤10000000
 i10:0≤gI β 10∧gI β 10≤3
theorem rgs_D:rgs 1 tD=[.le (.lit 0) (.lit 0),.le (.lit 0) (.var 18),.le (.var 18) (.var 72)]++(le0S0 19 0 2000000++([.le (.lit 0) (.lit 0),.le (.lit 0) (.var 6),.le (.var 6) (.lit 512)]++(le0S0 7 0 512++(le0S0 10 0 3++le0S0 9 0 10000000)))):=by kernel_rfl
theorem rgs_D48:rgs (ntmps 48) tD=rgs 1 tD:=by kernel_rfl
theorem rd_of {β:Ren} (h:FactsP β (rgs 1 tD)):RD β:=by
 rw [rgs_D] at h
 simp only [le0S0,List.cons_append,List.nil_append,FactsP,TB.P,den_litI,den_varI] at h
 obtain ⟨_,a1,a2,a3,a4,_,a5,a6,a7,a8,a9,a10,a11,a12,_⟩:=h
 exact ⟨⟨⟨a1,a2⟩,⟨a3,a4⟩,⟨a5,a6⟩,⟨a7,a8⟩⟩,⟨a11,a12⟩,⟨a9,a10⟩⟩
theorem d1_leaf {β γ0 β1 γ1:Ren} (p:PR β) (r:RR β) (hf:gB β 11=false) (hlt:gI β 6 - gI β 7 < 3) (s0:SD9 β γ0) (p0:PR γ0) (e4:gL γ0 4=gL β 4) (e6:gI γ0 6=gI β 6) (e7:gI γ0 7=gI β 7) (e11:gB γ0 11=gB β 11) (e19:gI γ0 19=gI β 19)
    (hn:Ln β1) (q:QR γ0 β1) (hn1:Ln γ1) (f4:gL γ1 4=gL β1 4) (f6:gI γ1 6=gI β1 6) (f7:gI γ1 7=gI β1 7) (f11:gB γ1 11=gB β1 11) (f19:gI γ1 19=gI β1 19) (s1:SD9 β γ1) (e9:gI γ1 9=gI β 9) (e10:gI γ1 10=gI β 10) :
    LD β γ1∧Prog β γ1:=by
 have p1:=q.pp p0 hn
 have b19:=q.b19
 have x6:=r.i6; have x7:=r.i7; have y:=p.le
 refine ⟨⟨s1,p1.of hn1 f4 f6 f7 f11 (by rw [s1.l17,q.l17,s0.l17]) (by rw [s1.i18,q.i18,s0.i18]) f19,?_,e9,e10,by omega⟩,hf,?_⟩
 ·rw [rest_of (β:=β1) f4 f6 f7 (by rw [s1.l17,q.l17,s0.l17]) (by rw [s1.i18,q.i18,s0.i18]) f19,q.rest]
  exact rest_of e4 e6 e7 s0.l17 s0.i18 e19
 ·rcases q.pr with ⟨_,_,_,_,_,h | h⟩ | ⟨_,_,_,⟨h,_⟩ | ⟨_,h,_⟩⟩
  ·rw [e11,hf] at h; cases h
  ·omega
  ·exact .inl (by rw [f11]; exact h)
  ·exact .inr (by omega)
end U
