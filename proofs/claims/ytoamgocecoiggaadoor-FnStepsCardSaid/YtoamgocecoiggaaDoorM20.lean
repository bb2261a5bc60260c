-- the statement of this claim: see YtoamgocecoiggaaDoorRs
import Derived.Test.YtoamgocecoiggaaDoorM19
set_option linter.unusedVariables false
set_option linter.unusedSimpArgs false
set_option maxRecDepth 100000
noncomputable section
open Go Go.SM Go.Proofs
namespace U
theorem ajV{V:Ren}(p:PR V)(r:RR V)(hf:gB V 11=false):aH.Holds (GR9 V) V:=by
 unfold aH;have hβ:=p.n.1;obtain⟨x18,x19,x6,x7⟩:=r;have r:RR V:=⟨x18,x19,x6,x7⟩
 have y1:=p.raw;have y2:=p.le;have y3:=p.inp;have y4:=p.inl;have y5:=p.inb;refine (nO hβ ?_ (nO hβ ?_ (lO opR hβ ?_)))
 .intro hA;simp only[DD]at hA ⊢;first|omega|(rw[zC (by rw[<-zY,zG p r];omega)];omega)
 .intro hA;simp only[DD]at hA ⊢;first|omega|(rw[zC (by rw[<-zY,zG p r];omega)];omega)
 .intro J0 hl0 hA hr0 hid0 hI;simp only[DD]at hA hI;obtain⟨i74,i17,i4,i7,i6,i2,i11,i19,i72,i18,i16,i0,i73⟩:=hI;have s:SR9 V J0:=⟨i0,i2,i16,i73,i74,i17,i18,i72,hid0⟩
  exact aNJ (K:=gL V 4) p r s i4 (kS1 (by omega)) p.raw i7 i6 i19 (i11.2 trivial) hf (by omega)
theorem anE{V:Ren}(p:PR V)(r:RR V)(hf:gB V 11=false):aR.Holds (GR9 V) V:=by
 unfold aR;have hβ:=p.n.1;obtain⟨x18,x19,x6,x7⟩:=r;have r:RR V:=⟨x18,x19,x6,x7⟩
 have y1:=p.raw;have y2:=p.le;have y3:=p.inp;have y4:=p.inl;have y5:=p.inb;refine (nO hβ ?_ (nO hβ ?_ (nO hβ ?_ (nO hβ ?_ (nO hβ ?_ (nO hβ ?_ (nO hβ ?_ (nO hβ ?_ (fO (nO hβ ?_ (lO opR hβ ?_)) (nO hβ ?_ (nO hβ ?_ (nO hβ ?_ (nO hβ ?_ (nO hβ ?_ (lO opR hβ ?_)))))))))))))))
 .intro hA;simp only[DD]at hA ⊢;first|omega|(rw[zC (by rw[<-zY,zG p r];omega)];omega)
 .intro hA;simp only[DD]at hA ⊢;first|omega|(rw[zC (by rw[<-zY,zG p r];omega)];omega)
 .intro hA;simp only[DD]at hA ⊢;first|omega|(rw[zC (by rw[<-zY,zG p r];omega)];omega)
 .intro hA;simp only[DD]at hA ⊢;first|omega|(rw[zC (by rw[<-zY,zG p r];omega)];omega)
 .intro hA;simp only[DD]at hA ⊢;first|omega|(rw[zC (by rw[<-zY,zG p r];omega)];omega)
 .intro hA;simp only[DD]at hA ⊢;first|omega|(rw[zC (by rw[<-zY,zG p r];omega)];omega)
 .intro hA;simp only[DD]at hA ⊢;first|omega|(rw[zC (by rw[<-zY,zG p r];omega)];omega)
 .intro hA;simp only[DD]at hA ⊢;first|omega|(rw[zC (by rw[<-zY,zG p r];omega)];omega)
 .intro hA;simp only[DD]at hA ⊢;first|omega|(rw[zC (by rw[<-zY,zG p r];omega)];omega)
 .intro J0 hl0 hA hr0 hid0 hI;simp only[DD]at hA hI;obtain⟨i74,i17,i4,i7,_,i2,i11,i19,i72,i18,i16,i0,i73⟩:=hI;have s:SR9 V J0:=⟨i0,i2,i16,i73,i74,i17,i18,i72,hid0⟩
  obtain⟨m1,m2⟩:=mB1 (m:=512-(gI V 6-gI V 7)) p r (by omega) (by omega);exact ajB (K:=gL V 4) p r s i4 (kS1 (by omega)) p.raw m1 m2 i7 (by omega) i19 (Bool.eq_iff_iff.2 i11) hf (by omega) (by omega) (by omega) (.inl (by omega))
 .intro hA;simp only[DD]at hA ⊢;first|omega|(rw[zC (by rw[<-zY,zG p r];omega)];omega)
 .intro hA;simp only[DD]at hA ⊢;first|omega|(rw[zC (by rw[<-zY,zG p r];omega)];omega)
 .intro hA;simp only[DD]at hA ⊢;first|omega|(rw[zC (by rw[<-zY,zG p r];omega)];omega)
 .intro hA;simp only[DD]at hA ⊢;first|omega|(rw[zC (by rw[<-zY,zG p r];omega)];omega)
 .intro hA;simp only[DD]at hA ⊢;first|omega|(rw[zC (by rw[<-zY,zG p r];omega)];omega)
 .intro J0 hl0 hA hr0 hid0 hI;simp only[DD]at hA hI;obtain⟨i74,i17,i4,i7,i6,i2,i11,_,i72,i18,i16,i0,i73⟩:=hI;have s:SR9 V J0:=⟨i0,i2,i16,i73,i74,i17,i18,i72,hid0⟩
  obtain⟨m1,m2⟩:=mB2 p r;exact ajB (K:=gL V 4) p r s i4 (kS1 (by omega)) p.raw m1 m2 i7 i6 (by omega) (Bool.eq_iff_iff.2 i11) hf (by omega) (by omega) (by omega) (.inr (by omega))
theorem am7{V:Ren}(p:PR V)(r:RR V)(hf:gB V 11=false):aF.Holds (GR9 V) V:=by
 unfold aF;have hβ:=p.n.1;obtain⟨x18,x19,x6,x7⟩:=r;have r:RR V:=⟨x18,x19,x6,x7⟩
 have y1:=p.raw;have y2:=p.le;have y3:=p.inp;have y4:=p.inl;have y5:=p.inb;refine (nO hβ ?_ (nO hβ ?_ (nO hβ ?_ (nO hβ ?_ (nO hβ ?_ (nO hβ ?_ (lO opR hβ ?_)))))))
 .intro hA;simp only[DD]at hA ⊢;first|omega|(rw[zC (by rw[<-zY,zG p r];omega)];omega)
 .intro hA;simp only[DD]at hA ⊢;first|omega|(rw[zC (by rw[<-zY,zG p r];omega)];omega)
 .intro hA;simp only[DD]at hA ⊢;first|omega|(rw[zC (by rw[<-zY,zG p r];omega)];omega)
 .intro hA;simp only[DD]at hA ⊢;first|omega|(rw[zC (by rw[<-zY,zG p r];omega)];omega)
 .intro hA;simp only[DD]at hA ⊢;first|omega|(rw[zC (by rw[<-zY,zG p r];omega)];omega)
 .intro hA;simp only[DD]at hA ⊢;first|omega|(rw[zC (by rw[<-zY,zG p r];omega)];omega)
 .intro J0 hl0 hA hr0 hid0 hI;simp only[DD]at hA hI;obtain⟨i74,i17,i4,i7,i6,i2,i11,i19,i72,i18,i16,i0,i73⟩:=hI;have s:SR9 V J0:=⟨i0,i2,i16,i73,i74,i17,i18,i72,hid0⟩
  exact aNJ (K:=putAt (gL V 4) 0 (zY V)) p r s i4 (kS2 p r).1 (kS2 p r).2 i7 i6 i19 (i11.2 trivial) hf (by omega)
theorem amF{V:Ren}(p:PR V)(r:RR V)(hf:gB V 11=false):L9.Holds (GR9 V) V:=by
 unfold L9;have hβ:=p.n.1;obtain⟨x18,x19,x6,x7⟩:=r;have r:RR V:=⟨x18,x19,x6,x7⟩
 have y1:=p.raw;have y2:=p.le;have y3:=p.inp;have y4:=p.inl;have y5:=p.inb;refine (nO hβ ?_ (nO hβ ?_ (nO hβ ?_ (nO hβ ?_ (nO hβ ?_ (nO hβ ?_ (nO hβ ?_ (nO hβ ?_ (nO hβ ?_ (nO hβ ?_ (nO hβ ?_ (nO hβ ?_ (fO (nO hβ ?_ (lO opR hβ ?_)) (nO hβ ?_ (nO hβ ?_ (nO hβ ?_ (nO hβ ?_ (nO hβ ?_ (lO opR hβ ?_)))))))))))))))))))
 .intro hA;simp only[DD]at hA ⊢;first|omega|(rw[zC (by rw[<-zY,zG p r];omega)];omega)
 .intro hA;simp only[DD]at hA ⊢;first|omega|(rw[zC (by rw[<-zY,zG p r];omega)];omega)
 .intro hA;simp only[DD]at hA ⊢;first|omega|(rw[zC (by rw[<-zY,zG p r];omega)];omega)
 .intro hA;simp only[DD]at hA ⊢;first|omega|(rw[zC (by rw[<-zY,zG p r];omega)];omega)
 .intro hA;simp only[DD]at hA ⊢;first|omega|(rw[zC (by rw[<-zY,zG p r];omega)];omega)
 .intro hA;simp only[DD]at hA ⊢;first|omega|(rw[zC (by rw[<-zY,zG p r];omega)];omega)
 .intro hA;simp only[DD]at hA ⊢;first|omega|(rw[zC (by rw[<-zY,zG p r];omega)];omega)
 .intro hA;simp only[DD]at hA ⊢;first|omega|(rw[zC (by rw[<-zY,zG p r];omega)];omega)
 .intro hA;simp only[DD]at hA ⊢;first|omega|(rw[zC (by rw[<-zY,zG p r];omega)];omega)
 .intro hA;simp only[DD]at hA ⊢;first|omega|(rw[zC (by rw[<-zY,zG p r];omega)];omega)
 .intro hA;simp only[DD]at hA ⊢;first|omega|(rw[zC (by rw[<-zY,zG p r];omega)];omega)
 .intro hA;simp only[DD]at hA ⊢;first|omega|(rw[zC (by rw[<-zY,zG p r];omega)];omega)
 .intro hA;simp only[DD]at hA ⊢;first|omega|(rw[zC (by rw[<-zY,zG p r];omega)];omega)
 .intro J0 hl0 hA hr0 hid0 hI;simp only[DD]at hA hI;obtain⟨i74,i17,i4,i7,_,i2,i11,i19,i72,i18,i16,i0,i73⟩:=hI;have s:SR9 V J0:=⟨i0,i2,i16,i73,i74,i17,i18,i72,hid0⟩
  obtain⟨m1,m2⟩:=mB1 (m:=512-(gI V 6-gI V 7)) p r (by omega) (by omega);exact ajB (K:=putAt (gL V 4) 0 (zY V)) p r s i4 (kS2 p r).1 (kS2 p r).2 m1 m2 i7 (by omega) i19 (Bool.eq_iff_iff.2 i11) hf (by omega) (by omega) (by omega) (.inl (by omega))
 .intro hA;simp only[DD]at hA ⊢;first|omega|(rw[zC (by rw[<-zY,zG p r];omega)];omega)
 .intro hA;simp only[DD]at hA ⊢;first|omega|(rw[zC (by rw[<-zY,zG p r];omega)];omega)
 .intro hA;simp only[DD]at hA ⊢;first|omega|(rw[zC (by rw[<-zY,zG p r];omega)];omega)
 .intro hA;simp only[DD]at hA ⊢;first|omega|(rw[zC (by rw[<-zY,zG p r];omega)];omega)
 .intro hA;simp only[DD]at hA ⊢;first|omega|(rw[zC (by rw[<-zY,zG p r];omega)];omega)
 .intro J0 hl0 hA hr0 hid0 hI;simp only[DD]at hA hI;obtain⟨i74,i17,i4,i7,i6,i2,i11,_,i72,i18,i16,i0,i73⟩:=hI;have s:SR9 V J0:=⟨i0,i2,i16,i73,i74,i17,i18,i72,hid0⟩
  obtain⟨m1,m2⟩:=mB2 p r;exact ajB (K:=putAt (gL V 4) 0 (zY V)) p r s i4 (kS2 p r).1 (kS2 p r).2 m1 m2 i7 i6 (by omega) (Bool.eq_iff_iff.2 i11) hf (by omega) (by omega) (by omega) (.inr (by omega))
theorem alR{V:Ren}(p:PR V)(r:RR V)(hf:gB V 11=false):aY.Holds (GR9 V) V:=by
 unfold aY;have hβ:=p.n.1;obtain⟨x18,x19,x6,x7⟩:=r;have r:RR V:=⟨x18,x19,x6,x7⟩
 have y1:=p.raw;have y2:=p.le;have y3:=p.inp;have y4:=p.inl;have y5:=p.inb;refine (nO hβ ?_ (nO hβ ?_ (lO opR hβ ?_)))
 .intro hA;simp only[DD]at hA ⊢;first|omega|(rw[zC (by rw[<-zY,zG p r];omega)];omega)
 .intro hA;simp only[DD]at hA ⊢;first|omega|(rw[zC (by rw[<-zY,zG p r];omega)];omega)
 .intro J0 hl0 hA hr0 hid0 hI;simp only[DD]at hA hI;obtain⟨i74,i17,i4,i7,i6,i2,i11,i19,i72,i18,i16,i0,i73⟩:=hI;have s:SR9 V J0:=⟨i0,i2,i16,i73,i74,i17,i18,i72,hid0⟩
  exact aNJ (K:=gL V 4) p r s i4 (kS3 r (by omega)) p.raw i7 i6 i19 (i11.2 trivial) hf (by omega)
theorem ajU{V:Ren}(p:PR V)(r:RR V)(hf:gB V 11=false):cH.Holds (GR9 V) V:=by
 unfold cH;have hβ:=p.n.1;obtain⟨x18,x19,x6,x7⟩:=r;have r:RR V:=⟨x18,x19,x6,x7⟩
 have y1:=p.raw;have y2:=p.le;have y3:=p.inp;have y4:=p.inl;have y5:=p.inb;refine (nO hβ ?_ (nO hβ ?_ (nO hβ ?_ (nO hβ ?_ (nO hβ ?_ (nO hβ ?_ (nO hβ ?_ (nO hβ ?_ (fO (nO hβ ?_ (lO opR hβ ?_)) (nO hβ ?_ (nO hβ ?_ (nO hβ ?_ (nO hβ ?_ (nO hβ ?_ (lO opR hβ ?_)))))))))))))))
 .intro hA;simp only[DD]at hA ⊢;first|omega|(rw[zC (by rw[<-zY,zG p r];omega)];omega)
 .intro hA;simp only[DD]at hA ⊢;first|omega|(rw[zC (by rw[<-zY,zG p r];omega)];omega)
 .intro hA;simp only[DD]at hA ⊢;first|omega|(rw[zC (by rw[<-zY,zG p r];omega)];omega)
 .intro hA;simp only[DD]at hA ⊢;first|omega|(rw[zC (by rw[<-zY,zG p r];omega)];omega)
 .intro hA;simp only[DD]at hA ⊢;first|omega|(rw[zC (by rw[<-zY,zG p r];omega)];omega)
 .intro hA;simp only[DD]at hA ⊢;first|omega|(rw[zC (by rw[<-zY,zG p r];omega)];omega)
 .intro hA;simp only[DD]at hA ⊢;first|omega|(rw[zC (by rw[<-zY,zG p r];omega)];omega)
 .intro hA;simp only[DD]at hA ⊢;first|omega|(rw[zC (by rw[<-zY,zG p r];omega)];omega)
 .intro hA;simp only[DD]at hA ⊢;first|omega|(rw[zC (by rw[<-zY,zG p r];omega)];omega)
 .intro J0 hl0 hA hr0 hid0 hI;simp only[DD]at hA hI;obtain⟨i74,i17,i4,i7,_,i2,i11,i19,i72,i18,i16,i0,i73⟩:=hI;have s:SR9 V J0:=⟨i0,i2,i16,i73,i74,i17,i18,i72,hid0⟩
  obtain⟨m1,m2⟩:=mB1 (m:=512-(gI V 6-gI V 7)) p r (by omega) (by omega);exact ajB (K:=gL V 4) p r s i4 (kS3 r (by omega)) p.raw m1 m2 i7 (by omega) i19 (Bool.eq_iff_iff.2 i11) hf (by omega) (by omega) (by omega) (.inl (by omega))
 .intro hA;simp only[DD]at hA ⊢;first|omega|(rw[zC (by rw[<-zY,zG p r];omega)];omega)
 .intro hA;simp only[DD]at hA ⊢;first|omega|(rw[zC (by rw[<-zY,zG p r];omega)];omega)
 .intro hA;simp only[DD]at hA ⊢;first|omega|(rw[zC (by rw[<-zY,zG p r];omega)];omega)
 .intro hA;simp only[DD]at hA ⊢;first|omega|(rw[zC (by rw[<-zY,zG p r];omega)];omega)
 .intro hA;simp only[DD]at hA ⊢;first|omega|(rw[zC (by rw[<-zY,zG p r];omega)];omega)
 .intro J0 hl0 hA hr0 hid0 hI;simp only[DD]at hA hI;obtain⟨i74,i17,i4,i7,i6,i2,i11,_,i72,i18,i16,i0,i73⟩:=hI;have s:SR9 V J0:=⟨i0,i2,i16,i73,i74,i17,i18,i72,hid0⟩
  obtain⟨m1,m2⟩:=mB2 p r;exact ajB (K:=gL V 4) p r s i4 (kS3 r (by omega)) p.raw m1 m2 i7 i6 (by omega) (Bool.eq_iff_iff.2 i11) hf (by omega) (by omega) (by omega) (.inr (by omega))
theorem auJ{V:Ren}(p:PR V)(r:RR V):bO.Holds (GR9 V) V:=by
 unfold bO;have hβ:=p.n.1;obtain⟨x18,x19,x6,x7⟩:=r;have r:RR V:=⟨x18,x19,x6,x7⟩
 have y1:=p.raw;have y2:=p.le;have y3:=p.inp;have y4:=p.inl;have y5:=p.inb;refine (lO opR hβ ?_)
 .intro J0 hl0 hA hr0 hid0 hI;simp only[DD]at hA hI;obtain⟨i74,i17,i4,i7,i6,i2,i11,i19,i72,i18,i16,i0,i73⟩:=hI;have s:SR9 V J0:=⟨i0,i2,i16,i73,i74,i17,i18,i72,hid0⟩
  exact cN p r s i4 i7 i6 i19 (Bool.eq_iff_iff.2 i11) (.inr ⟨by omega,by omega⟩)
theorem arS{V:Ren}(p:PR V)(r:RR V):N3.Holds (GR9 V) V:=by
 unfold N3;have hβ:=p.n.1;obtain⟨x18,x19,x6,x7⟩:=r;have r:RR V:=⟨x18,x19,x6,x7⟩
 have y1:=p.raw;have y2:=p.le;have y3:=p.inp;have y4:=p.inl;have y5:=p.inb;refine (fO (lO opR hβ ?_) (lO opR hβ ?_))
 .intro J0 hl0 hA hr0 hid0 hI;simp only[DD]at hA hI;obtain⟨a0,a1,a2⟩:=hA;obtain⟨i74,i17,i4,i7,i6,i2,i11,i19,i72,i18,i16,i0,i73⟩:=hI;have s:SR9 V J0:=⟨i0,i2,i16,i73,i74,i17,i18,i72,hid0⟩
  exact cN p r s i4 i7 i6 i19 (Bool.eq_iff_iff.2 i11) (.inl (by assumption))
 .intro J0 hl0 hA hr0 hid0 hI;simp only[DD]at hA hI;obtain⟨a0,a1⟩:=hA;obtain⟨i74,i17,i4,i7,i6,i2,i11,i19,i72,i18,i16,i0,i73⟩:=hI;have s:SR9 V J0:=⟨i0,i2,i16,i73,i74,i17,i18,i72,hid0⟩
  exact cN p r s i4 i7 i6 i19 (Bool.eq_iff_iff.2 i11) (.inl (by assumption))
def wK(f:Nat):Func:=(Tryd.prog.funcs[f]?).getD default
theorem t8{P:Program}{G:Goal}:∀(f:FuncId)(s:CSpec),(fun _:FuncId=>(none:Option CSpec)) f=some s->yT P G f s:=fun _ _ h=>by cases h
theorem aX3{V V1:Ren}(p:PR V)(hl:V1.length=90)(h:QR V V1):Ln V1:=p.n.of h.h73 hl
theorem akU{G:Goal}(hCL:∀ V,G.CL 49 V->PR V)(hCO:∀ V V1,G.CL 49 V->PR V->Ln V1->QR V V1->G.CO 49 0 V V1):yT Tryd.prog G 49 spR:=by
 refine zU (E:=ER) (Gt:=GR9) (fn:=wK 49) (c:=body 49) (s:=spR) zQ qB follows (by kernel_rfl) (by kernel_rfl) (by kernel_rfl) (by kernel_rfl) (by kernel_rfl) (by kernel_rfl) ?_ ?_ ?_ (fun V w0 r s c h=>by rcases h with h|h<;>cases h) (fun V j i V1 V2 h=>h.elim) (fun V r s h=>by rcases h with h|h<;>cases h) (fun V=>t8)
 .intro e j tp h;have h:=h.resolve_right fun h=>by cases h
  cases e with
  |normal=>cases h;exact⟨(fun id h=>by cases h),.bool true,by kernel_rfl,_,rfl⟩
  |ret=>cases h;exact⟨(fun id h=>by cases h),.bool true,by kernel_rfl,_,rfl⟩
  |exit id=>cases h
 .intro V hcl hlen hr;have p:=hCL V hcl;have r:=aT4 hr;refine⟨p.n.2,?_⟩;obtain⟨x18,x19,x6,x7⟩:=r;have r:RR V:=⟨x18,x19,x6,x7⟩
  have y1:=p.raw;have y2:=p.le;have y3:=p.inp;have y4:=p.inl;have y5:=p.inb;have fin:∀ {A:List TB} {t:Tre},eB A=t->t.Holds (GR9 V) V->(A.all fun t=>t.ok 90)=true->zF V A->∃ (A:List Value) (k:Nat),Facts V A/\(tre ER k (body 49) [] A spR.tin.frame spR.tin.heap).Holds (GR9 V) V:=by
   intro A t ht hh hok hA;refine⟨A.map TB.enc,2000,Facts.ofP hA fun t ht=>?_,?_⟩
   .rw[p.n.1];exact List.all_eq_true.1 hok t ht
   .unfold eB at ht;show (tre ER 2000 (body 49) [] (A.map TB.enc) tR.frame tR.heap).Holds (GR9 V) V;rw[ht];exact hh
  have s67d:s67.den V=gI V 6-gI V 7:=rfl;by_cases hf:gB V 11=true
  .exact fin ac0 (arS p r) (by decide) ⟨hf,trivial⟩
  have hf':gB V 11=false:=by simpa using hf
  by_cases h0:gI V 7=0
  .by_cases h5:gI V 6=512
   .exact fin acF (auJ p r) (by decide) ⟨h0,h5,trivial⟩
   by_cases he:gI V 19=gI V 18
   .refine fin acP (ajV p r hf') (by decide) ?_;simp only[fS1,fEa,List.cons_append,List.nil_append,zF,TB.P,xW,xT,s67d,and_true];exact⟨h0,h5,by omega,hf,by omega,he⟩
   .refine fin aeO (anE p r hf') (by decide) ?_;simp only[fS1,fEb,List.cons_append,List.nil_append,zF,TB.P,xW,xT,s67d,and_true];exact⟨h0,h5,by omega,hf,by omega,he,by omega⟩
  .by_cases hl:gI V 7<gI V 6
   .by_cases he:gI V 19=gI V 18
    .refine fin ac2 (am7 p r hf') (by decide) ?_;simp only[fS2,fEa,List.cons_append,List.nil_append,zF,TB.P,xW,xT,s67d,and_true];exact⟨h0,by omega,hl,by omega,by omega,by omega,hf,by omega,he⟩
    .refine fin acG (amF p r hf') (by decide) ?_;simp only[fS2,fEb,List.cons_append,List.nil_append,zF,TB.P,xW,xT,s67d,and_true];exact⟨h0,by omega,hl,by omega,by omega,by omega,hf,by omega,he,by omega⟩
   .by_cases he:gI V 19=gI V 18
    .refine fin ab9 (alR p r hf') (by decide) ?_;simp only[fS3,fEa,List.cons_append,List.nil_append,zF,TB.P,xW,xT,s67d,and_true];exact⟨h0,by omega,hl,hf,by omega,he⟩
    .refine fin adJ (ajU p r hf') (by decide) ?_;simp only[fS3,fEb,List.cons_append,List.nil_append,zF,TB.P,xW,xT,s67d,and_true];exact⟨h0,by omega,hl,hf,by omega,he,by omega⟩
 .intro V j v tp sm V1 hcl hout hlen _ hJ;have p:=hCL V hcl;have q:QR V V1:=hJ;match j,hout with
  |0,hout =>
   cases hout;refine⟨hCO V V1 hcl p (aX3 p hlen q) q,fun x hx=>?_⟩;have hx:x∈[(0,0),(2,0),(16,0),(73,0),(74,0),(17,2),(18,1),(72,1)]++opR.map fun i=>(i,4):=hx;rw[List.mem_append]at hx;rcases hx with hx|hx
   .simp only[List.mem_cons,List.not_mem_nil,or_false]at hx;rcases hx with rfl|rfl|rfl|rfl|rfl|rfl|rfl|rfl
    .exact q.h0
    .exact q.h2
    .exact q.h16
    .exact q.h73
    .exact q.h74
    .exact q.l17
    .exact q.i18
    .exact q.i72
   .obtain⟨i,hi,rfl⟩:=List.mem_map.1 hx;exact q.op i hi
def aZD(lo:Int):List (Nat × Value):=[(22,I 10 lo 3),(23,I 9 0 10000000)]++aSD
def HPD(lo:Int):List (Nat × Blk):=[(0,{ cells:=rX (aZD lo),elem:=76,ro:=false,live:=true }),
 (2,{ cells:=[],elem:=5,ro:=false,live:=true,seq:=some (x 4) }),(16,{ cells:=[],elem:=5,ro:=true,live:=true,seq:=some (x 17) }),(73,{ cells:=[.iface 89 (.pointer (some ⟨74,0,none⟩))],elem:=86,ro:=true,live:=true })]
def tD:Tpl:={ m:=90,F:=[(0,.pointer (some ⟨0,0,none⟩))],H:=HPD 0,G:=[73] }
def tDo:Tpl:={ m:=90,F:=[(0,.pointer (some ⟨0,0,none⟩)),(2,.bool true)],H:=HPD 1,G:=[73] }
def opD:List Nat:=(List.range 52).filterMap fun i=>if [11,13,14,15,20,21,22,23,45].contains i then none else some (20+i)
def spD:CSpec:={ j:=48,n:=1,tin:=tD,outs:=[(.bool true,tDo,[(0,0),(2,0),(16,0),(73,0),(74,0),(17,2),(18,1),(72,1)]++opD.map fun i=>(i,4))] }
def cM:FuncId->Option CSpec:=fun f=>if f=49 then some spR else none
def aXV:LSpec:={ j:=1,tin:=tD,outs:=[(.exit 0,tD,[])] }
def aZR:AExit->Option (Nat × Tpl):=fun e=>match e with
 | .normal=>some (0,tD)
 | .exit 0=>some (1,tD)
 |_=>none
def ftD:AExit->Option (Nat × Tpl):=fun e=>match e with
 | .normal=>some (0,tDo)
 | .ret=>some (0,tDo)
 |_=>none
def rc2:Nat->Bool:=fun n=>Nat.beq n 2
def lt1:Nat->Option LSpec:=fun n=>if n=1 then some aXV else none
def ED1:Env:=EF 48 cM rc2 (fun _=>none) (fun _=>none) aZR
def ED:Env:=EF 48 cM rc2 (fun _=>none) lt1 ftD
def abY:Code:=(findLoop 1 100 (body 48)).getD .skip
def asH:Tre:=tre ED1 2000 abY [] [] tD.frame tD.heap
def aRV(A:List TB):Tre:=tre ED 2000 (body 48) [] (A.map TB.enc) tD.frame tD.heap
theorem PR.of{V γ:Ren}(p:PR V)(hn:Ln γ)(h4:gL γ 4=gL V 4)(h6:gI γ 6=gI V 6)(h7:gI γ 7=gI V 7)(h11:gB γ 11=gB V 11)(h17:gL γ 17=gL V 17)(h18:gI γ 18=gI V 18)(h19:gI γ 19=gI V 19):PR γ :=
 ⟨hn,by rw[h4];exact p.raw,by rw[h6,h7];exact p.le,by rw[h18,h19];exact p.inp,by rw[h18,h17];exact p.inl,by rw[h18];exact p.inb,by rw[h11,h18,h19];exact p.eo⟩
theorem rest_of{V γ:Ren}(h4:gL γ 4=gL V 4)(h6:gI γ 6=gI V 6)(h7:gI γ 7=gI V 7)(h17:gL γ 17=gL V 17)(h18:gI γ 18=gI V 18)(h19:gI γ 19=gI V 19):zH γ=zH V:=by
 unfold zH zY uJ;rw[h4,h6,h7,h17,h18,h19]
theorem QR.pp{V V1:Ren}(p:PR V)(hn:Ln V1)(q:QR V V1):PR V1:=by
 have h1:=q.b6;have h2:=q.b19;have h3:=q.i18;refine⟨hn,q.raw,by omega,by omega,by rw[q.i18,q.l17];exact p.inl,by rw[q.i18];exact p.inb,fun h=>?_⟩;rcases q.pr with⟨_,_,_,h19,h11,_⟩|⟨_,_,_,⟨h11,h5⟩|⟨h11,_⟩⟩
 .have:=p.eo (by rw[<-h11];exact h);omega
 .omega
 .rw[h11]at h;cases h
structure SD9(V V1:Ren):Prop where
 h0:V1[0]?=V[0]?
 h2:V1[2]?=V[2]?
 h16:V1[16]?=V[16]?
 h73:V1[73]?=V[73]?
 h74:V1[74]?=V[74]?
 l17:gL V1 17=gL V 17
 i18:gI V1 18=gI V 18
 i72:gI V1 72=gI V 72
 op:∀ i∈opD,gV V1 i=gV V i
theorem SD9.trans{a b c:Ren}(h:SD9 a b)(g:SD9 b c):SD9 a c:=⟨g.h0.trans h.h0,g.h2.trans h.h2,g.h16.trans h.h16,g.h73.trans h.h73,g.h74.trans h.h74,g.l17.trans h.l17,g.i18.trans h.i18,g.i72.trans h.i72,fun i hi=>(g.op i hi).trans (h.op i hi)⟩
theorem SD9.refl(a:Ren):SD9 a a:=⟨rfl,rfl,rfl,rfl,rfl,rfl,rfl,rfl,fun _ _=>rfl⟩
structure LD(V V1:Ren):Prop where
 s:SD9 V V1
 p:PR V1
 rest:zH V1=zH V
 i9:gI V1 9=gI V 9
 i10:gI V1 10=gI V 10
 b19:gI V 19<=gI V1 19
theorem LD.trans{a b c:Ren}(h:LD a b)(g:LD b c):LD a c:=⟨h.s.trans g.s,g.p,g.rest.trans h.rest,g.i9.trans h.i9,g.i10.trans h.i10,Int.le_trans h.b19 g.b19⟩
theorem LD.refl{a:Ren}(p:PR a):LD a a:=⟨SD9.refl a,p,rfl,rfl,rfl,Int.le_refl _⟩
def aRX(V V1:Ren):Prop:=gB V 11=false/\(gB V1 11=true\/gI V 19<gI V1 19)
def Full(V:Ren):Prop:=gB V 11=true\/3<=gI V 6-gI V 7
def GD1(V:Ren):Goal where
 J:=fun j V1=>match j with
  |0=>LD V V1/\aRX V V1
  |1=>LD V V1/\Full V1
  |_=>False
 L:=fun _ _=>False
 O:=fun _ _ _ _=>False
 W:=fun _ _=>False
 CL:=fun j V1=>j=49/\PR V1
 CO:=fun j i V1 V2=>Ln V2/\QR V1 V2
def aaS(i:Nat)(a b:Int):List TB:=[.le (.lit a) (.var i),.le (.var i) (.lit b)]
structure RD(V:Ren):Prop extends RR V where
 i9:0<=gI V 9/\gI V 9<=10000000
 i10:0<=gI V 10/\gI V 10<=3
theorem aQ6:rgs 1 tD=[.le (.lit 0) (.lit 0),.le (.lit 0) (.var 18),.le (.var 18) (.var 72)]++(aaS 19 0 2000000++([.le (.lit 0) (.lit 0),.le (.lit 0) (.var 6),.le (.var 6) (.lit 512)]++(aaS 7 0 512++(aaS 10 0 3++aaS 9 0 10000000)))):=by kernel_rfl
theorem M3:rgs (ntmps 48) tD=rgs 1 tD:=by kernel_rfl
theorem ahH{V:Ren}(h:zF V (rgs 1 tD)):RD V:=by
 rw[aQ6]at h;simp only[aaS,List.cons_append,List.nil_append,zF,TB.P,xW,xT]at h;obtain⟨_,a1,a2,a3,a4,_,a5,a6,a7,a8,a9,a10,a11,a12,_⟩:=h;exact⟨⟨⟨a1,a2⟩,⟨a3,a4⟩,⟨a5,a6⟩,⟨a7,a8⟩⟩,⟨a11,a12⟩,⟨a9,a10⟩⟩
theorem avN{V J0 V1 J1:Ren}(p:PR V)(r:RR V)(hf:gB V 11=false)(hlt:gI V 6-gI V 7<3)(s0:SD9 V J0)(p0:PR J0)(e4:gL J0 4=gL V 4)(e6:gI J0 6=gI V 6)(e7:gI J0 7=gI V 7)(e11:gB J0 11=gB V 11)(e19:gI J0 19=gI V 19)
    (hn:Ln V1) (q:QR J0 V1) (hn1:Ln J1) (f4:gL J1 4=gL V1 4) (f6:gI J1 6=gI V1 6) (f7:gI J1 7=gI V1 7) (f11:gB J1 11=gB V1 11) (f19:gI J1 19=gI V1 19) (s1:SD9 V J1) (e9:gI J1 9=gI V 9) (e10:gI J1 10=gI V 10) :
    LD V J1/\aRX V J1:=by
 have p1:=q.pp p0 hn
 have b19:=q.b19
 have x6:=r.i6;have x7:=r.i7;have y:=p.le
 refine⟨⟨s1,p1.of hn1 f4 f6 f7 f11 (by rw[s1.l17,q.l17,s0.l17]) (by rw[s1.i18,q.i18,s0.i18]) f19,?_,e9,e10,by omega⟩,hf,?_⟩
 .rw[rest_of (V:=V1) f4 f6 f7 (by rw[s1.l17,q.l17,s0.l17]) (by rw[s1.i18,q.i18,s0.i18]) f19,q.rest]
  exact rest_of e4 e6 e7 s0.l17 s0.i18 e19
 .rcases q.pr with⟨_,_,_,_,_,h|h⟩|⟨_,_,_,⟨h,_⟩|⟨_,h,_⟩⟩
  .rw[e11,hf]at h;cases h
  .omega
  .exact .inl (by rw[f11];exact h)
  .exact .inr (by omega)
def aqG:Code:=.loop abY
abbrev aWD:List TB:=[(.not (.var 11)),(.lt (v 6-v 7) 3)]
abbrev aUN:SgT:=im 72::im 18::bm 16::(ids ([32]++dn 30 11)++[bm 0,bm 73])
abbrev aNV:SgT:=im 6::bm 2::(ids (dn 39 4)++((11,.btm (.var 11))::im 19::aUN))
abbrev aNH:SgT:=im 7::aNV
abbrev aWF:SgT:=bm 74::lm 17::lm 4::(ids (dn 71 6++dn 64 21)++(im 9::im 10::aNH))
def aeD:Tre:=(.fork (.call 49 90 90 (rgs spR.n spR.tin) (SgT.enc (bm 74::lm 17::lm 4::(ids (dn 71 6++dn 64 21)++((43,.val (rv 9 0 10000000))::(42,.val (rv 10 0 3))::aNH)))) (List.map TB.enc aWD) (.cons (rgs 0 tRo++rgV (.bool true)) (lf 0 90 180 (rgs ED1.n tD) (bm 74::lm 17::lj 4 94::(ids (dn 71 6++dn 64 21)++(im 9::im 10::ij 7 97::ij 6 96::bm 2::(ids (dn 39 4)++((11,.btm (.var 101))::ij 19 109::aUN))))) aWD)
 .nil))
 (lf 1 90 90 (rgs ED1.n tD) aWF [(.not (.and (.not (.var 11)) (.lt (v 6-v 7) 3)))]))
theorem dL:asH=aeD:=by kernel_rfl
abbrev aYC:List TB:=[(.or (.lt (v 6-v 7) 2) (.lt (v 7) (v 6)))]
abbrev aRS:=.or (.lt (v 6-v 7) 2) (.lt (v 7) (lb 4))::aYC
abbrev aX0:=.or (.not (.and (nl (v 6-v 7) 2) (.eq (sb 4 (v 7)) 255))) (.lt (v 7+1) (v 6))::aRS
abbrev aQW:=.or (.not (.and (nl (v 6-v 7) 2) (.eq (sb 4 (v 7)) 255))) (.lt (v 7+1) (lb 4))::aX0
abbrev aWJ:=nl (v 6-v 7) 2::.eq (sb 4 (v 7)) 255::.eq (sb 4 (v 7+1)) 254::aQW
abbrev aUG:=nl 512 (v 7+2)::aWJ
abbrev aXM:=.not (.and (.and (nl (v 6-v 7) 2) (.eq (sb 4 (v 7)) 255)) (.eq (sb 4 (v 7+1)) 254))::aQW
abbrev aWO:=.or (.not (.and (nl (v 6-v 7) 2) (.eq (sb 4 (v 7)) 254))) (.lt (v 7+1) (v 6))::aXM
abbrev aS4:=.or (.not (.and (nl (v 6-v 7) 2) (.eq (sb 4 (v 7)) 254))) (.lt (v 7+1) (lb 4))::aWO
abbrev aFY:=nl (v 6-v 7) 2::.eq (sb 4 (v 7)) 254::.eq (sb 4 (v 7+1)) 255::aS4
abbrev aI5:=nl 512 (v 7+2)::aFY
abbrev aKS:=.not (.and (.and (nl (v 6-v 7) 2) (.eq (sb 4 (v 7)) 254)) (.eq (sb 4 (v 7+1)) 255))::aS4
abbrev aF9:=.or (.lt (v 6-v 7) 3) (.lt (v 7) (v 6))::aKS
abbrev aKT:=.or (.lt (v 6-v 7) 3) (.lt (v 7) (lb 4))::aF9
abbrev aD7:=.or (.not (.and (nl (v 6-v 7) 3) (.eq (sb 4 (v 7)) 239))) (.lt (v 7+1) (v 6))::aKT
abbrev aAM:=.or (.not (.and (nl (v 6-v 7) 3) (.eq (sb 4 (v 7)) 239))) (.lt (v 7+1) (lb 4))::aD7
abbrev aMS:=.or (.not (.and (.and (nl (v 6-v 7) 3) (.eq (sb 4 (v 7)) 239)) (.eq (sb 4 (v 7+1)) 187))) (.lt (v 7+2) (v 6))::aAM
abbrev aBV:=.or (.not (.and (.and (nl (v 6-v 7) 3) (.eq (sb 4 (v 7)) 239)) (.eq (sb 4 (v 7+1)) 187))) (.lt (v 7+2) (lb 4))::aMS
abbrev aFT:=nl (v 6-v 7) 3::.eq (sb 4 (v 7)) 239::.eq (sb 4 (v 7+1)) 187::.eq (sb 4 (v 7+2)) 191::aBV
abbrev aH4:=nl 512 (v 7+3)::aFT
abbrev aVY:SgT:=(7,.itm (v 7+2))::aNV
def aeT:Tre:=(.loop 1 90 90 (rgs ED.n aXV.tin) aqG (SgT.enc aWF) (List.map TB.enc []) (.cons (rgs ED.n tD) (nd 90 [] ((.or (.lt (v 6-v 7) 2) (.lt (v 7) (v 6))))
 (nd 90 aYC ((.or (.lt (v 6-v 7) 2) (.lt (v 7) (lb 4))))
 (nd 90 aRS ((.or (.not (.and (nl (v 6-v 7) 2) (.eq (sb 4 (v 7)) 255))) (.lt (v 7+1) (v 6))))
 (nd 90 aX0 ((.or (.not (.and (nl (v 6-v 7) 2) (.eq (sb 4 (v 7)) 255))) (.lt (v 7+1) (lb 4))))
 (.fork (nd 90 aWJ ((nl 512 (v 7+2)))
 (nd 90 aUG ((nl 10000000 (v 9+2)))
 (lf 0 90 90 (rgs ED.n tDo) (bm 74::lm 17::lm 4::(ids (dn 71 6++dn 64 21)++((9,.itm (v 9+2))::ik 10 2::aVY))) ((nl 10000000 (v 9+2))::aUG))))
 (nd 90 aXM ((.or (.not (.and (nl (v 6-v 7) 2) (.eq (sb 4 (v 7)) 254))) (.lt (v 7+1) (v 6))))
 (nd 90 aWO ((.or (.not (.and (nl (v 6-v 7) 2) (.eq (sb 4 (v 7)) 254))) (.lt (v 7+1) (lb 4))))
 (.fork (nd 90 aFY ((nl 512 (v 7+2)))
 (nd 90 aI5 ((nl 10000000 (v 9+2)))
 (lf 0 90 90 (rgs ED.n tDo) (bm 74::lm 17::lm 4::(ids (dn 71 6++dn 64 21)++((9,.itm (v 9+2))::ik 10 3::aVY))) ((nl 10000000 (v 9+2))::aI5))))
 (nd 90 aKS ((.or (.lt (v 6-v 7) 3) (.lt (v 7) (v 6))))
 (nd 90 aF9 ((.or (.lt (v 6-v 7) 3) (.lt (v 7) (lb 4))))
 (nd 90 aKT ((.or (.not (.and (nl (v 6-v 7) 3) (.eq (sb 4 (v 7)) 239))) (.lt (v 7+1) (v 6))))
 (nd 90 aD7 ((.or (.not (.and (nl (v 6-v 7) 3) (.eq (sb 4 (v 7)) 239))) (.lt (v 7+1) (lb 4))))
 (nd 90 aAM ((.or (.not (.and (.and (nl (v 6-v 7) 3) (.eq (sb 4 (v 7)) 239)) (.eq (sb 4 (v 7+1)) 187))) (.lt (v 7+2) (v 6))))
 (nd 90 aMS ((.or (.not (.and (.and (nl (v 6-v 7) 3) (.eq (sb 4 (v 7)) 239)) (.eq (sb 4 (v 7+1)) 187))) (.lt (v 7+2) (lb 4))))
 (.fork (nd 90 aFT ((nl 512 (v 7+3)))
 (nd 90 aH4 ((nl 10000000 (v 9+3)))
 (lf 0 90 90 (rgs ED.n tDo) (bm 74::lm 17::lm 4::(ids (dn 71 6++dn 64 21)++((9,.itm (v 9+3))::ik 10 1::(7,.itm (v 7+3))::aNV))) ((nl 10000000 (v 9+3))::aH4))))
 (lf 0 90 90 (rgs ED.n tDo) (bm 74::lm 17::lm 4::(ids (dn 71 6++dn 64 21)++(im 9::ik 10 1::aNH))) ((.not (.and (.and (.and (nl (v 6-v 7) 3) (.eq (sb 4 (v 7)) 239)) (.eq (sb 4 (v 7+1)) 187)) (.eq (sb 4 (v 7+2)) 191)))::aBV)))))))))))))))))
 .nil))
theorem aiZ:aRV []=aeT:=by kernel_rfl
theorem agM{V:Ren}(p:PR V)(r:RD V):aeD.Holds (GD1 V) V:=by
 unfold aeD;have hβ:=p.n.1;obtain⟨⟨x18,x19,x6,x7⟩,x9,x10⟩:=r;have r:RR V:=⟨x18,x19,x6,x7⟩
 have y1:=p.raw;have y2:=p.le;have y3:=p.inp;have y4:=p.inl;have y5:=p.inb;refine (fO (cO opD hβ ?_) (lO opD hβ ?_))
 .intro J0 hl0 hA hr0 hid0 hI;simp only[DD]at hA hI;obtain⟨a0,a1⟩:=hA;obtain⟨i74,i17,i4,_,_,i7,i6,i2,i11,i19,i72,i18,i16,i0,i73⟩:=hI;have s0:SD9 V J0:=⟨i0,i2,i16,i73,i74,i17,i18,i72,hid0⟩
  have hn0:Ln J0:=p.n.of i73 hl0;have p0:PR J0:=p.of hn0 i4 i6 i7 (Bool.eq_iff_iff.2 i11) i17 i18 i19;have hL0:(GD1 V).CL 49 J0:=⟨rfl,p0⟩
  refine⟨hL0,(aC ?_ aN)⟩
  .intro V1 hq1 hO1;obtain⟨hn1,q⟩:=hO1;have hb1:=zE hβ hn1.1;simp only[Nat.reduceAdd]at hb1;refine (lO opD hb1 ?_)
   .intro J1 hl1 hA hr1 hid1 hI;simp +decide only[DD,aA hβ]at hA hI;obtain⟨b0,b1⟩:=hA;obtain⟨j74,j17,j4,j9,j10,j7,j6,j2,j11,j19,j72,j18,j16,j0,j73⟩:=hI;have s1:SD9 V J1:=⟨j0,j2,j16,j73,j74,j17,j18,j72,uU hβ (by decide) hid1⟩
    exact avN p r (by simpa using (by assumption:¬ gB V 11=true)) (by omega) s0 p0 i4 i6 i7 (Bool.eq_iff_iff.2 i11) i19 hn1 q (p.n.of j73 hl1) j4 j6 j7 (Bool.eq_iff_iff.2 j11) j19 s1 j9 j10
 .intro J0 hl0 hA hr0 hid0 hI;simp only[DD]at hA hI;have a0:=hA;obtain⟨i74,i17,i4,i9,i10,i7,i6,i2,i11,i19,i72,i18,i16,i0,i73⟩:=hI;have s1:SD9 V J0:=⟨i0,i2,i16,i73,i74,i17,i18,i72,hid0⟩
  refine⟨⟨s1,p.of (p.n.of i73 hl0) i4 i6 i7 (Bool.eq_iff_iff.2 i11) i17 i18 i19,rest_of i4 i6 i7 i17 i18 i19,i9,i10,by omega⟩,?_⟩;unfold Full;rw[i6,i7];by_cases h:gB V 11=true
  .exact .inl (i11.2 h)
  .exact .inr (Int.not_lt.1 fun hh=>a0 ⟨h,hh⟩)
def av6(V:Ren):Nat:=2*(gI V 18-gI V 19).toNat+(if gB V 11=true then 0 else 1)
theorem adA{w0:W0}{Q:Exit->Act->World->Prop}:∀(m:Nat)(V:Ren)(a:Act)(w:World),av6 V<=m->PR V->HR w0 V tD.heap w->FS V (ntmps 48) tD.frame a ->
    (∀ V1 a' w',LD V V1->Full V1->HR w0 V1 tD.heap w'->FS V1 (ntmps 48) tD.frame a'->Q (.exit 0) a' w')->wpL Tryd.prog abY Q a w:=by
 intro m
 induction m with
 |zero =>
  intro V a w hm p hH hF hQ
  refine zR (yC (E:=ED1) (G:=GD1 V) zQ qB follows (by show (asH).Holds _ _;rw[dL];exact agM p (ahH (by rw[<-M3];exact yS hH hF))) p.n.2 hH (Facts.nil _) hF ?_ (fun r s c h=>by rcases h with h|h<;>cases h) (fun j i V1 V2 h=>h.elim) (fun r s h=>by rcases h with h|h<;>cases h) ?_)
  .intro j e tp V1 a' w' hft h1 h2 h3
   cases e with
   |normal =>
    cases hft
    exfalso
    obtain⟨l,hf,_⟩:=h3
    unfold av6 at hm
    rw[hf]at hm
    simp at hm
   |ret=>cases hft
   |exit id =>
    match id,hft with
    |0,hft=>cases hft;exact hQ V1 a' w' h3.1 h3.2 h1 h2
  .intro f s hs
   have hs:cM f=some s:=hs
   unfold cM at hs
   split at hs
   .rename_i hf;subst hf;cases hs
    exact akU (fun V h=>h.2) (fun V V1 _ _ h1 h2=>⟨h1,h2⟩)
   .cases hs
 |succ m ih =>
  intro V a w hm p hH hF hQ
  refine zR (yC (E:=ED1) (G:=GD1 V) zQ qB follows (by show (asH).Holds _ _;rw[dL];exact agM p (ahH (by rw[<-M3];exact yS hH hF))) p.n.2 hH (Facts.nil _) hF ?_ (fun r s c h=>by rcases h with h|h<;>cases h) (fun j i V1 V2 h=>h.elim) (fun r s h=>by rcases h with h|h<;>cases h) ?_)
  .intro j e tp V1 a' w' hft h1 h2 h3
   cases e with
   |normal =>
    cases hft
    obtain⟨l,hf,hp⟩:=h3
    refine ih V1 a' w' ?_ l.p h1 h2 (fun V2 a2 w2 l2=>hQ V2 a2 w2 (l.trans l2))
    unfold av6 at hm ⊢
    rw[hf]at hm
    have h18:=l.s.i18
    have h19:=l.b19
    have p1:=p.inp;have p2:=l.p.inp
    rw[if_neg (by simp)]at hm
    rcases hp with hp|hp
    .rw[hp,if_pos rfl];omega
    .split<;>omega
   |ret=>cases hft
   |exit id =>
    match id,hft with
    |0,hft=>cases hft;exact hQ V1 a' w' h3.1 h3.2 h1 h2
  .intro f s hs
   have hs:cM f=some s:=hs
   unfold cM at hs
   split at hs
   .rename_i hf;subst hf;cases hs
    exact akU (fun V h=>h.2) (fun V V1 _ _ h1 h2=>⟨h1,h2⟩)
   .cases hs
def yY(V:Ren)(k:Int):UInt8:=(gL V 4).getD (gI V 7+k).toNat 0
theorem drop_cons{L:List UInt8}{a b:Nat}(h:a<b)(hb:b<=L.length):(L.take b).drop a=L.getD a 0::(L.take b).drop (a+1):=by
 rw[List.drop_eq_getElem_cons (by rw[List.length_take];omega)];congr 1;rw[List.getElem_take,List.getD_eq_getElem?_getD,List.getElem?_eq_getElem (by omega)];rfl
theorem aeK{V:Ren}(p:PR V)(r:RR V)(k:Nat)(hk:(k:Int)<gI V 6-gI V 7):(zY V).drop k=yY V k::(zY V).drop (k+1):=by
 have x6:=r.i6;have x7:=r.i7;have y:=p.raw;unfold zY yY;rw[List.drop_drop,List.drop_drop,show (gI V 7+(k:Int)).toNat=(gI V 7).toNat+k from by omega,drop_cons (by omega) (by omega)];rfl
theorem ag3{V:Ren}(p:PR V)(r:RR V)(h:2<=gI V 6-gI V 7):zH V=yY V 0::yY V 1::((zY V).drop 2++uJ V):=by
 have e0:=aeK p r 0 (by omega);have e1:=aeK p r 1 (by omega);rw[List.drop_zero]at e0;unfold zH;rw[e0,e1];rfl
theorem aJ2{V:Ren}(p:PR V)(r:RR V)(h:3<=gI V 6-gI V 7):zH V=yY V 0::yY V 1::yY V 2::((zY V).drop 3++uJ V):=by
 rw[ag3 p r (by omega),aeK p r 2 (by omega)];rfl
theorem jN{V:Ren}(p:PR V)(r:RR V)(f:Full V)(h:gI V 6-gI V 7<3):(zH V).length=(gI V 6-gI V 7).toNat:=by
 have e:uJ V=[]:=by
  rcases f with f|f
  .have:=p.eo f;unfold uJ;exact List.drop_eq_nil_of_le (by rw[List.length_take,this];omega)
  .omega
 unfold zH;rw[e,List.append_nil,zG p r]
theorem pre2{V:Ren}(p:PR V)(r:RR V)(f:Full V)(a b:UInt8):[a,b] <+: zH V↔(2<=gI V 6-gI V 7/\yY V 0=a/\yY V 1=b):=by
 by_cases h:2<=gI V 6-gI V 7
 .rw[ag3 p r h,List.cons_prefix_cons,List.cons_prefix_cons];simp[h,eq_comm]
 .constructor
  .intro hp;have:=hp.length_le;rw[jN p r f (by omega)]at this;simp at this;omega
  .exact fun hp=>absurd hp.1 h
theorem a0H{V:Ren}(p:PR V)(r:RR V)(f:Full V)(a b c:UInt8):[a,b,c] <+: zH V↔(3<=gI V 6-gI V 7/\yY V 0=a/\yY V 1=b/\yY V 2=c):=by
 by_cases h:3<=gI V 6-gI V 7
 .rw[aJ2 p r h,List.cons_prefix_cons,List.cons_prefix_cons,List.cons_prefix_cons];simp[h,eq_comm]
 .constructor
  .intro hp;have:=hp.length_le;rw[jN p r f (by omega)]at this;simp at this;omega
  .exact fun hp=>absurd hp.1 h
structure DE(V V1:Ren):Prop where
 s:SD9 V V1
 p:PR V1
 b19:gI V 19<=gI V1 19
 e:∃ bom:List UInt8,zH V=bom++zH V1/\gI V1 9=gI V 9+bom.length/\((bom=[255,254]/\gI V1 10=2)\/(bom=[254,255]/\gI V1 10=3)\/(bom=[239,187,191]/\gI V1 10=1) \/
  (bom=[]/\gI V1 10=1/\¬ [255,254] <+: zH V/\¬ [254,255] <+: zH V/\¬ [239,187,191] <+: zH V))
theorem byte_of{x:UInt8}{n:Nat}(h:((x.toNat:Nat):Int)=(n:Int))(hn:n<256):x=UInt8.ofNat n:=by
 apply UInt8.toNat_inj.1;rw[UInt8.toNat_ofNat'];omega
theorem rN{x:UInt8}{n:Nat}(h:x=UInt8.ofNat n)(hn:n<256):((x.toNat:Nat):Int)=(n:Int):=by
 subst h;rw[UInt8.toNat_ofNat'];omega
theorem cB{V γ:Ren}{k:Int}(p:PR V)(r:RR V)(h4:gL γ 4=gL V 4)(h6:gI γ 6=gI V 6)(h7:gI γ 7=gI V 7+k)(h17:gL γ 17=gL V 17)(h18:gI γ 18=gI V 18)(h19:gI γ 19=gI V 19)(h0:0<=k):zH γ=(zY V).drop k.toNat++uJ V:=by
 have x7:=r.i7;unfold zH zY uJ;rw[h4,h6,h7,h17,h18,h19,List.drop_drop,show (gI V 7+k).toNat=(gI V 7).toNat+k.toNat from by omega]
theorem aE{V V1 J1:Ren}(bom:List UInt8){k:Int}(hk:(bom.length:Int)=k)(s:SD9 V J1)(s1:SD9 V1 J1)(p1:PR V1)(r1:RR V1)(hn:Ln J1)(rest:zH V1=zH V)(b19:gI V 19<=gI V1 19)(i9:gI V1 9=gI V 9)
    (e4:gL J1 4=gL V1 4) (e6:gI J1 6=gI V1 6) (e7:gI J1 7=gI V1 7+k) (e11:gB J1 11=gB V1 11) (e19:gI J1 19=gI V1 19) (e9:gI J1 9=gI V1 9+k) (hle:gI V1 7+k<=gI V1 6)
    (h:zH V1=bom++((zY V1).drop k.toNat++uJ V1)) (hc:(bom=[255,254]/\gI J1 10=2)\/(bom=[254,255]/\gI J1 10=3)\/(bom=[239,187,191]/\gI J1 10=1) \/
    (bom=[]/\gI J1 10=1/\¬ [255,254] <+: zH V/\¬ [254,255] <+: zH V/\¬ [239,187,191] <+: zH V)):DE V J1:=by
 have h0:0<=k:=by omega
 refine⟨s,⟨hn,by rw[e4];exact p1.raw,by omega,by rw[e19,s1.i18];exact p1.inp,by rw[s1.i18,s1.l17];exact p1.inl,by rw[s1.i18];exact p1.inb,by rw[e11,e19,s1.i18];exact p1.eo⟩,by omega,bom,?_,by rw[e9,i9,hk],hc⟩
 rw[<-rest,h,cB p1 r1 e4 e6 e7 s1.l17 s1.i18 e19 h0]
def GD(V:Ren):Goal where
 J:=fun _ V1=>DE V V1
 L:=fun _ V1=>PR V1
 O:=fun _ _ V1 V2=>Ln V2/\LD V1 V2/\Full V2
 W:=fun _ c=>c=aqG
theorem bb0(V:Ren):(gL V 4).getD (gI V 7).toNat 0=yY V 0:=by unfold yY;rw[Int.add_zero]
theorem bb1(V:Ren)(k:Int):(gL V 4).getD (gI V 7+k).toNat 0=yY V k:=rfl
theorem awH{V:Ren}(p:PR V)(r:RD V)(ho:gI V 9<=9000000):aeT.Holds (GD V) V:=by
 unfold aeT;have hβ:=p.n.1;obtain⟨⟨x18,x19,x6,x7⟩,x9,x10⟩:=r;have r:RR V:=⟨x18,x19,x6,x7⟩
 have y1:=p.raw;have y2:=p.le;have y3:=p.inp;have y4:=p.inl;have y5:=p.inb;refine (pO opD hβ rfl ?_)
 .intro J0 hl0 hA hr0 hid0 hI;simp only[DD]at hI;obtain⟨i74,i17,i4,i9,_,i7,i6,i2,i11,i19,i72,i18,i16,i0,i73⟩:=hI;have s0:SD9 V J0:=⟨i0,i2,i16,i73,i74,i17,i18,i72,hid0⟩
  have hn0:Ln J0:=p.n.of i73 hl0;have p0:PR J0:=p.of hn0 i4 i6 i7 (Bool.eq_iff_iff.2 i11) i17 i18 i19;have hL0:(GD V).L 1 J0:=p0;refine⟨hL0,(oC ?_ oN)⟩
  .intro V1 hq1 hO1;obtain⟨⟨hb1,hg1⟩,l,fu⟩:=hO1;have hn1:Ln V1:=⟨hb1,hg1⟩
   have rd1:RD V1:=ahH (by rw[<-M3];exact hq1);have r1:RR V1:=rd1.toRR;have z6:=r1.i6;have z7:=r1.i7;have z9:=rd1.i9;have w1:=l.p.raw;have w2:=l.p.le;have rest:zH V1=zH V:=l.rest.trans (rest_of i4 i6 i7 i17 i18 i19);have le19:gI V 19<=gI V1 19:=by have:=l.b19;omega
   have i9':gI V1 9=gI V 9:=l.i9.trans i9;refine (nO hb1 ?_ (nO hb1 ?_ (nO hb1 ?_ (nO hb1 ?_ (fO (nO hb1 ?_ (nO hb1 ?_ (lO opD hb1 ?_))) (nO hb1 ?_ (nO hb1 ?_ (fO (nO hb1 ?_ (nO hb1 ?_ (lO opD hb1 ?_))) (nO hb1 ?_ (nO hb1 ?_ (nO hb1 ?_ (nO hb1 ?_ (nO hb1 ?_ (nO hb1 ?_ (fO (nO hb1 ?_ (nO hb1 ?_ (lO opD hb1 ?_))) (lO opD hb1 ?_))))))))))))))))
   .intro hA;clear hA;simp only[DD];omega
   iterate 5 (focus (intro hA;simp only[DD]at hA ⊢;omega))
   .intro J1 hl1 hA hr1 hid1 hI;simp only[DD]at hA hI;obtain⟨b0,b1,b2,b3,b4,b5,b6,b7,b8⟩:=hA;obtain⟨j74,j17,j4,j9,j10,j7,j6,j2,j11,j19,j72,j18,j16,j0,j73⟩:=hI;simp only[bb0,bb1]at *;have s1:SD9 V1 J1:=⟨j0,j2,j16,j73,j74,j17,j18,j72,hid1⟩
    have s:SD9 V J1:=(s0.trans l.s).trans s1;have h0:yY V1 0=255:=byte_of (n:=255) (by assumption) (by decide);have h1:yY V1 1=254:=byte_of (n:=254) (by assumption) (by decide);exact aE [255,254] (k:=2) rfl s s1 l.p r1 (hn1.of j73 hl1) rest le19 i9' j4 j6 j7 (Bool.eq_iff_iff.2 j11) j19 j9 (by omega) (by rw[ag3 l.p r1 (by omega),h0,h1];rfl) (.inl ⟨rfl,j10⟩)
   iterate 4 (focus (intro hA;simp only[DD]at hA ⊢;omega))
   .intro J1 hl1 hA hr1 hid1 hI;simp only[DD]at hA hI;obtain⟨b0,b1,b2,b3,b4,b5,b6,b7,b8,b9,b10,b11⟩:=hA;obtain⟨j74,j17,j4,j9,j10,j7,j6,j2,j11,j19,j72,j18,j16,j0,j73⟩:=hI;simp only[bb0,bb1]at *;have s1:SD9 V1 J1:=⟨j0,j2,j16,j73,j74,j17,j18,j72,hid1⟩
    have s:SD9 V J1:=(s0.trans l.s).trans s1;have h0:yY V1 0=254:=byte_of (n:=254) (by assumption) (by decide);have h1:yY V1 1=255:=byte_of (n:=255) (by assumption) (by decide);exact aE [254,255] (k:=2) rfl s s1 l.p r1 (hn1.of j73 hl1) rest le19 i9' j4 j6 j7 (Bool.eq_iff_iff.2 j11) j19 j9 (by omega) (by rw[ag3 l.p r1 (by omega),h0,h1];rfl) (.inr (.inl ⟨rfl,j10⟩))
   iterate 8 (focus (intro hA;simp only[DD]at hA ⊢;omega))
   .intro J1 hl1 hA hr1 hid1 hI;simp only[DD]at hA hI;obtain⟨b0,b1,b2,b3,b4,b5,b6,b7,b8,b9,b10,b11,b12,b13,b14,b15,b16,b17,b18,b19⟩:=hA;obtain⟨j74,j17,j4,j9,j10,j7,j6,j2,j11,j19,j72,j18,j16,j0,j73⟩:=hI;simp only[bb0,bb1]at *;have s1:SD9 V1 J1:=⟨j0,j2,j16,j73,j74,j17,j18,j72,hid1⟩
    have s:SD9 V J1:=(s0.trans l.s).trans s1;have h0:yY V1 0=239:=byte_of (n:=239) (by assumption) (by decide);have h1:yY V1 1=187:=byte_of (n:=187) (by assumption) (by decide);have h2:yY V1 2=191:=byte_of (n:=191) (by assumption) (by decide);exact aE [239,187,191] (k:=3) rfl s s1 l.p r1 (hn1.of j73 hl1) rest le19 i9' j4 j6 j7 (Bool.eq_iff_iff.2 j11) j19 j9 (by omega) (by rw[aJ2 l.p r1 (by omega),h0,h1,h2];rfl) (.inr (.inr (.inl ⟨rfl,j10⟩)))
   .intro J1 hl1 hA hr1 hid1 hI;simp only[DD]at hA hI;obtain⟨b0,b1,b2,b3,b4,b5,b6,b7,b8,b9,b10,b11,b12,b13,b14⟩:=hA;obtain⟨j74,j17,j4,_,j10,_,j6,j2,j11,j19,j72,j18,j16,j0,j73⟩:=hI;simp only[bb0,bb1]at *;have s1:SD9 V1 J1:=⟨j0,j2,j16,j73,j74,j17,j18,j72,hid1⟩
    have s:SD9 V J1:=(s0.trans l.s).trans s1;refine aE [] (k:=0) rfl s s1 l.p r1 (hn1.of j73 hl1) rest le19 i9' j4 j6 (by omega) (Bool.eq_iff_iff.2 j11) j19 (by omega) (by omega) rfl (.inr (.inr (.inr ⟨rfl,j10,?_,?_,?_⟩)))
    .rw[<-rest,pre2 l.p r1 fu];rintro⟨hl,h0,h1⟩;have h0:=rN (n:=255) h0 (by decide);have h1:=rN (n:=254) h1 (by decide);rw[show yY V1 0=yY V1 0 from rfl]at h0;first|(exact absurd (show (¬ gI V1 6-gI V1 7<2/\((yY V1 0).toNat:Int)=255)/\((yY V1 1).toNat:Int)=254 from ⟨⟨by omega,h0⟩,h1⟩) (by assumption))
    .rw[<-rest,pre2 l.p r1 fu];rintro⟨hl,h0,h1⟩;have h0:=rN (n:=254) h0 (by decide);have h1:=rN (n:=255) h1 (by decide);rw[show yY V1 0=yY V1 0 from rfl]at h0;first|(exact absurd (show (¬ gI V1 6-gI V1 7<2/\((yY V1 0).toNat:Int)=254)/\((yY V1 1).toNat:Int)=255 from ⟨⟨by omega,h0⟩,h1⟩) (by assumption))
    .rw[<-rest,a0H l.p r1 fu];rintro⟨hl,h0,h1,h2⟩;have h0:=rN (n:=239) h0 (by decide);have h1:=rN (n:=187) h1 (by decide);have h2:=rN (n:=191) h2 (by decide);rw[show yY V1 0=yY V1 0 from rfl]at h0;exact absurd (show ((¬ gI V1 6-gI V1 7<3/\((yY V1 0).toNat:Int)=239)/\((yY V1 1).toNat:Int)=187)/\((yY V1 2).toNat:Int)=191 from ⟨⟨⟨by omega,h0⟩,h1⟩,h2⟩) (by assumption)
end U
