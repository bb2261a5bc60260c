-- the statement of this claim: see YtoamgocecoiggaaDoorRs
import Derived.Test.YtoamgocecoiggaaDoorM25
set_option linter.unusedVariables false
set_option linter.unusedSimpArgs false
set_option maxRecDepth 100000
noncomputable section
open Go Go.SM Go.Proofs
namespace U
theorem aq0{V:Ren}(p:P6 V):cT.Holds (Gd6 (fun _=>[]) (fun _ _=>True) V) V:=by
 unfold cT;have hβ:=p.n.1;have p20:=p.i20;have p21:=p.i21;have pl:=p.le;have p23:=p.i23;refine (fO (nO hβ ?_ (fO (fO (lO [] hβ ?_) (nO hβ ?_ (lG [] hβ ?_))) (fO (fO (lO [] hβ ?_) (nO hβ ?_ (nO hβ ?_ (fO (lO [] hβ ?_) (nO hβ ?_ (lG [] hβ ?_)))))) (fO (fO (lO [] hβ ?_) (nO hβ ?_ (nO hβ ?_ (fO (lO [] hβ ?_) (nO hβ ?_ (nO hβ ?_ (fO (lO [] hβ ?_) (fO (lO [] hβ ?_) (nO hβ ?_ (lG [] hβ ?_)))))))))) (fO (fO (lO [] hβ ?_) (nO hβ ?_ (nO hβ ?_ (fO (lO [] hβ ?_) (nO hβ ?_ (nO hβ ?_ (fO (lO [] hβ ?_) (nO hβ ?_ (nO hβ ?_ (fO (lO [] hβ ?_) (fO (lO [] hβ ?_) (nO hβ ?_ (lG [] hβ ?_))))))))))))) (lO [] hβ ?_)))))) (lO [] hβ ?_))
 .intro hA;simp only[DD]at hA ⊢;omega
 .intro J0 hl0 hA hr0 hid0 hI;simp only[DD]at hA hI;obtain⟨a0,a1,a2,a3⟩:=hA;obtain⟨_,i17,i22,i21,i20,i16,i73⟩:=hI;simp only[ub0,ubk]at *;exact wG p ⟨i73,i16,i17,i20,i21,i22⟩ a3 (nk1 (yB V) (by omega) (by omega))
 .intro hA;simp only[DD]at hA ⊢;omega
 .intro δ0 J0 hl0 hA hr0 hid0 hI;simp +decide only[DD,aL hβ]at hA hI;obtain⟨a0,a1,a2,a3,a4⟩:=hA;obtain⟨i33,_,i17,i23,i32,i31,i22,i21,i20,i16,i73⟩:=hI;simp only[ub0,ubk]at *;exact W6 (O:=[]) p ⟨i73,i16,i17,i20,i21,i22⟩ a4 (st1 (yB V) (by omega) (by omega)) i23 (by omega) i33 (by rw[i31];rfl) (by rw[i31,i32,i33];constructor<;>(try simp)<;>(try omega))
 .intro J0 hl0 hA hr0 hid0 hI;simp only[DD]at hA hI;obtain⟨a0,a1,a2,a3,a4,a5⟩:=hA;obtain⟨_,i17,i22,i21,i20,i16,i73⟩:=hI;simp only[ub0,ubk]at *;exact wG p ⟨i73,i16,i17,i20,i21,i22⟩ a5 (nk2 (yB V) (by omega) (by omega) (.inl (by omega)))
 iterate 2 (focus (intro hA;simp only[DD]at hA ⊢;omega))
 .intro J0 hl0 hA hr0 hid0 hI;simp only[DD]at hA hI;obtain⟨a0,a1,a2,a3,a4,a5,a6,a7,a8⟩:=hA;obtain⟨_,i17,i22,i21,i20,i16,i73⟩:=hI;simp only[ub0,ubk]at *;exact wG p ⟨i73,i16,i17,i20,i21,i22⟩ a8 (nk2 (yB V) (by omega) (by omega) (.inr (.inl a0)))
 .intro hA;simp only[DD]at hA ⊢;omega
 .intro δ0 J0 hl0 hA hr0 hid0 hI;simp +decide only[DD,aL hβ]at hA hI;obtain⟨a0,a1,a2,a3,a4,a5,a6,a7,a8,a9⟩:=hA;obtain⟨i33,_,i17,i23,i32,i31,i22,i21,i20,i16,i73⟩:=hI;simp only[ub0,ubk]at *;exact W6 (O:=[]) p ⟨i73,i16,i17,i20,i21,i22⟩ a9 (st2 (yB V) (by omega) (by omega) (by omega) a1) i23 (by omega) i33 (by rw[i31];rfl) (by rw[i31,i32,i33];constructor<;>(try simp)<;>(try omega))
 .intro J0 hl0 hA hr0 hid0 hI;simp only[DD]at hA hI;obtain⟨a0,a1,a2,a3,a4,a5,a6⟩:=hA;obtain⟨_,i17,i22,i21,i20,i16,i73⟩:=hI;simp only[ub0,ubk]at *;exact wG p ⟨i73,i16,i17,i20,i21,i22⟩ a6 (nk3 (yB V) (by omega) (by omega) (.inl (by omega)))
 iterate 2 (focus (intro hA;simp only[DD]at hA ⊢;omega))
 .intro J0 hl0 hA hr0 hid0 hI;simp only[DD]at hA hI;obtain⟨a0,a1,a2,a3,a4,a5,a6,a7,a8,a9⟩:=hA;obtain⟨_,i17,i22,i21,i20,i16,i73⟩:=hI;simp only[ub0,ubk]at *;exact wG p ⟨i73,i16,i17,i20,i21,i22⟩ a9 (nk3 (yB V) (by omega) (by omega) (.inr (.inl a0)))
 iterate 2 (focus (intro hA;simp only[DD]at hA ⊢;omega))
 .intro J0 hl0 hA hr0 hid0 hI;simp only[DD]at hA hI;obtain⟨a0,a1,a2,a3,a4,a5,a6,a7,a8,a9,a10,a11,a12⟩:=hA;obtain⟨_,i17,i22,i21,i20,i16,i73⟩:=hI;simp only[ub0,ubk]at *;exact wG p ⟨i73,i16,i17,i20,i21,i22⟩ a12 (nk3 (yB V) (by omega) (by omega) (.inr (.inr (.inl a0))))
 .intro J0 hl0 hA hr0 hid0 hI;simp only[DD]at hA hI;obtain⟨a0,a1,a2,a3,a4,a5,a6,a7,a8,a9,a10,a11,a12,a13⟩:=hA;obtain⟨_,i17,i22,i21,i20,i16,i73⟩:=hI;simp only[ub0,ubk]at *;exact wG p ⟨i73,i16,i17,i20,i21,i22⟩ a13 (nk3 (yB V) (by omega) (by omega) (.inr (.inr (.inr a0))))
 .intro hA;simp only[DD]at hA ⊢;omega
 .intro δ0 J0 hl0 hA hr0 hid0 hI;simp +decide only[DD,aL hβ]at hA hI;obtain⟨a0,a1,a2,a3,a4,a5,a6,a7,a8,a9,a10,a11,a12,a13,a14,a15⟩:=hA;obtain⟨i33,_,i17,i23,i32,i31,i22,i21,i20,i16,i73⟩:=hI;simp only[ub0,ubk]at *;exact W6 (O:=[]) p ⟨i73,i16,i17,i20,i21,i22⟩ a15 (st3 (yB V) (by omega) (by omega) (by omega) a6 a3 ⟨a1,a2⟩) i23 (by omega) i33 (by rw[i31];rfl) (by rw[i31,i32,i33];constructor<;>(try simp)<;>(try omega))
 .intro J0 hl0 hA hr0 hid0 hI;simp only[DD]at hA hI;obtain⟨a0,a1,a2,a3,a4,a5,a6,a7⟩:=hA;obtain⟨_,i17,i22,i21,i20,i16,i73⟩:=hI;simp only[ub0,ubk]at *;exact wG p ⟨i73,i16,i17,i20,i21,i22⟩ a7 (nk4 (yB V) (by omega) (by omega) (.inl (by omega)))
 iterate 2 (focus (intro hA;simp only[DD]at hA ⊢;omega))
 .intro J0 hl0 hA hr0 hid0 hI;simp only[DD]at hA hI;obtain⟨a0,a1,a2,a3,a4,a5,a6,a7,a8,a9,a10⟩:=hA;obtain⟨_,i17,i22,i21,i20,i16,i73⟩:=hI;simp only[ub0,ubk]at *;exact wG p ⟨i73,i16,i17,i20,i21,i22⟩ a10 (nk4 (yB V) (by omega) (by omega) (.inr (.inl a0)))
 iterate 2 (focus (intro hA;simp only[DD]at hA ⊢;omega))
 .intro J0 hl0 hA hr0 hid0 hI;simp only[DD]at hA hI;obtain⟨a0,a1,a2,a3,a4,a5,a6,a7,a8,a9,a10,a11,a12,a13⟩:=hA;obtain⟨_,i17,i22,i21,i20,i16,i73⟩:=hI;simp only[ub0,ubk]at *;exact wG p ⟨i73,i16,i17,i20,i21,i22⟩ a13 (nk4 (yB V) (by omega) (by omega) (.inr (.inr (.inl a0))))
 iterate 2 (focus (intro hA;simp only[DD]at hA ⊢;omega))
 .intro J0 hl0 hA hr0 hid0 hI;simp only[DD]at hA hI;obtain⟨a0,a1,a2,a3,a4,a5,a6,a7,a8,a9,a10,a11,a12,a13,a14,a15,a16⟩:=hA;obtain⟨_,i17,i22,i21,i20,i16,i73⟩:=hI;simp only[ub0,ubk]at *;exact wG p ⟨i73,i16,i17,i20,i21,i22⟩ a16 (nk4 (yB V) (by omega) (by omega) (.inr (.inr (.inr (.inl a0)))))
 .intro J0 hl0 hA hr0 hid0 hI;simp only[DD]at hA hI;obtain⟨a0,a1,a2,a3,a4,a5,a6,a7,a8,a9,a10,a11,a12,a13,a14,a15,a16,a17⟩:=hA;obtain⟨_,i17,i22,i21,i20,i16,i73⟩:=hI;simp only[ub0,ubk]at *;exact wG p ⟨i73,i16,i17,i20,i21,i22⟩ a17 (nk4 (yB V) (by omega) (by omega) (.inr (.inr (.inr (.inr a0)))))
 .intro hA;simp only[DD]at hA ⊢;omega
 .intro δ0 J0 hl0 hA hr0 hid0 hI;simp +decide only[DD,aL hβ]at hA hI;obtain⟨a0,a1,a2,a3,a4,a5,a6,a7,a8,a9,a10,a11,a12,a13,a14,a15,a16,a17,a18,a19⟩:=hA;obtain⟨i33,_,i17,i23,i32,i31,i22,i21,i20,i16,i73⟩:=hI;simp only[ub0,ubk]at *;exact W6 (O:=[]) p ⟨i73,i16,i17,i20,i21,i22⟩ a19 (st4 (yB V) (by omega) (by omega) (by omega) a9 a6 a3 ⟨a1,a2⟩) i23 (by omega) i33 (by rw[i31];rfl) (by rw[i31,i32,i33];constructor<;>(try simp)<;>(try omega))
 .intro J0 hl0 hA hr0 hid0 hI;simp only[DD]at hA hI;obtain⟨a0,a1,a2,a3,a4,a5⟩:=hA;obtain⟨_,i17,i22,i21,i20,i16,i73⟩:=hI;simp only[ub0,ubk]at *;exact wG p ⟨i73,i16,i17,i20,i21,i22⟩ a5 (nk0 (yB V) (by omega) (by omega))
 .intro J0 hl0 hA hr0 hid0 hI;simp only[DD]at hA hI;obtain⟨_,i17,_,i22,i21,i20,i16,i73⟩:=hI;exact⟨⟨i73,i16,i17,i20,i21,i22⟩,by omega,trivial⟩
theorem aa8{V:Ren}(p:P6 V)(q:K6 V):bC.Holds (Gd6 O6 (fun a b=>dX a b) V) V:=by
 unfold bC;have hβ:=p.n.1;have p20:=p.i20;have p21:=p.i21;have pl:=p.le;have p23:=p.i23;have qa:=q.a;have qb:=q.b;have qc:=q.c;have ol:(O6 V).length=(gI V 31).toNat:=by unfold O6;simp;omega
 have ol2:(List.drop (Int.toNat 0) (List.take (gI V 31).toNat (gN V 33))).length<=(gI V 31).toNat:=by simp;omega
 refine (fO (nO hβ ?_ (fO (fO (lO [] hβ ?_) (nO hβ ?_ (nO hβ ?_ (nO hβ ?_ (lG [] hβ ?_))))) (fO (fO (lO [] hβ ?_) (nO hβ ?_ (nO hβ ?_ (fO (lO [] hβ ?_) (nO hβ ?_ (nO hβ ?_ (nO hβ ?_ (lG [] hβ ?_)))))))) (fO (fO (lO [] hβ ?_) (nO hβ ?_ (nO hβ ?_ (fO (lO [] hβ ?_) (nO hβ ?_ (nO hβ ?_ (fO (lO [] hβ ?_) (fO (lO [] hβ ?_) (nO hβ ?_ (nO hβ ?_ (nO hβ ?_ (lG [] hβ ?_)))))))))))) (fO (fO (lO [] hβ ?_) (nO hβ ?_ (nO hβ ?_ (fO (lO [] hβ ?_) (nO hβ ?_ (nO hβ ?_ (fO (lO [] hβ ?_) (nO hβ ?_ (nO hβ ?_ (fO (lO [] hβ ?_) (fO (lO [] hβ ?_) (nO hβ ?_ (nO hβ ?_ (nO hβ ?_ (lG [] hβ ?_))))))))))))))) (lO [] hβ ?_)))))) (lO [] hβ ?_))
 .intro hA;simp only[DD]at hA ⊢;omega
 .intro J0 hl0 hA hr0 hid0 hI;simp only[DD]at hA hI;obtain⟨a0,a1,a2,a3⟩:=hA;obtain⟨_,i17,i22,i21,i20,i16,i73⟩:=hI;simp only[ub0,ubk]at *;exact wG p ⟨i73,i16,i17,i20,i21,i22⟩ a3 (nk1 (yB V) (by omega) (by omega))
 iterate 3 (focus (intro hA;simp only[DD]at hA ⊢;omega))
 .intro δ0 J0 hl0 hA hr0 hid0 hI;simp +decide only[DD,aL hβ]at hA hI;obtain⟨a0,a1,a2,a3,a4,a5,a6⟩:=hA;obtain⟨i33,_,i17,i23,i32,i31,i22,i21,i20,i16,i73⟩:=hI;simp only[ub0,ubk]at *;exact W6 (O:=O6 V) p ⟨i73,i16,i17,i20,i21,i22⟩ a6 (st1 (yB V) (by omega) (by omega)) i23 (by omega) (i33.trans (List.append_assoc _ _ _)) (by rw[i31];unfold O6;simp;try omega) (by rw[i31,i32,i33];constructor<;>(try simp)<;>(try omega))
 .intro J0 hl0 hA hr0 hid0 hI;simp only[DD]at hA hI;obtain⟨a0,a1,a2,a3,a4,a5⟩:=hA;obtain⟨_,i17,i22,i21,i20,i16,i73⟩:=hI;simp only[ub0,ubk]at *;exact wG p ⟨i73,i16,i17,i20,i21,i22⟩ a5 (nk2 (yB V) (by omega) (by omega) (.inl (by omega)))
 iterate 2 (focus (intro hA;simp only[DD]at hA ⊢;omega))
 .intro J0 hl0 hA hr0 hid0 hI;simp only[DD]at hA hI;obtain⟨a0,a1,a2,a3,a4,a5,a6,a7,a8⟩:=hA;obtain⟨_,i17,i22,i21,i20,i16,i73⟩:=hI;simp only[ub0,ubk]at *;exact wG p ⟨i73,i16,i17,i20,i21,i22⟩ a8 (nk2 (yB V) (by omega) (by omega) (.inr (.inl a0)))
 iterate 3 (focus (intro hA;simp only[DD]at hA ⊢;omega))
 .intro δ0 J0 hl0 hA hr0 hid0 hI;simp +decide only[DD,aL hβ]at hA hI;obtain⟨a0,a1,a2,a3,a4,a5,a6,a7,a8,a9,a10,a11⟩:=hA;obtain⟨i33,_,i17,i23,i32,i31,i22,i21,i20,i16,i73⟩:=hI;simp only[ub0,ubk]at *;exact W6 (O:=O6 V) p ⟨i73,i16,i17,i20,i21,i22⟩ a11 (st2 (yB V) (by omega) (by omega) (by omega) a3) i23 (by omega) (i33.trans (List.append_assoc _ _ _)) (by rw[i31];unfold O6;simp;try omega) (by rw[i31,i32,i33];constructor<;>(try simp)<;>(try omega))
 .intro J0 hl0 hA hr0 hid0 hI;simp only[DD]at hA hI;obtain⟨a0,a1,a2,a3,a4,a5,a6⟩:=hA;obtain⟨_,i17,i22,i21,i20,i16,i73⟩:=hI;simp only[ub0,ubk]at *;exact wG p ⟨i73,i16,i17,i20,i21,i22⟩ a6 (nk3 (yB V) (by omega) (by omega) (.inl (by omega)))
 iterate 2 (focus (intro hA;simp only[DD]at hA ⊢;omega))
 .intro J0 hl0 hA hr0 hid0 hI;simp only[DD]at hA hI;obtain⟨a0,a1,a2,a3,a4,a5,a6,a7,a8,a9⟩:=hA;obtain⟨_,i17,i22,i21,i20,i16,i73⟩:=hI;simp only[ub0,ubk]at *;exact wG p ⟨i73,i16,i17,i20,i21,i22⟩ a9 (nk3 (yB V) (by omega) (by omega) (.inr (.inl a0)))
 iterate 2 (focus (intro hA;simp only[DD]at hA ⊢;omega))
 .intro J0 hl0 hA hr0 hid0 hI;simp only[DD]at hA hI;obtain⟨a0,a1,a2,a3,a4,a5,a6,a7,a8,a9,a10,a11,a12⟩:=hA;obtain⟨_,i17,i22,i21,i20,i16,i73⟩:=hI;simp only[ub0,ubk]at *;exact wG p ⟨i73,i16,i17,i20,i21,i22⟩ a12 (nk3 (yB V) (by omega) (by omega) (.inr (.inr (.inl a0))))
 .intro J0 hl0 hA hr0 hid0 hI;simp only[DD]at hA hI;obtain⟨a0,a1,a2,a3,a4,a5,a6,a7,a8,a9,a10,a11,a12,a13⟩:=hA;obtain⟨_,i17,i22,i21,i20,i16,i73⟩:=hI;simp only[ub0,ubk]at *;exact wG p ⟨i73,i16,i17,i20,i21,i22⟩ a13 (nk3 (yB V) (by omega) (by omega) (.inr (.inr (.inr a0))))
 iterate 3 (focus (intro hA;simp only[DD]at hA ⊢;omega))
 .intro δ0 J0 hl0 hA hr0 hid0 hI;simp +decide only[DD,aL hβ]at hA hI;obtain⟨a0,a1,a2,a3,a4,a5,a6,a7,a8,a9,a10,a11,a12,a13,a14,a15,a16,a17⟩:=hA;obtain⟨i33,_,i17,i23,i32,i31,i22,i21,i20,i16,i73⟩:=hI;simp only[ub0,ubk]at *;exact W6 (O:=O6 V) p ⟨i73,i16,i17,i20,i21,i22⟩ a17 (st3 (yB V) (by omega) (by omega) (by omega) a8 a5 ⟨a3,a4⟩) i23 (by omega) (i33.trans (List.append_assoc _ _ _)) (by rw[i31];unfold O6;simp;try omega) (by rw[i31,i32,i33];constructor<;>(try simp)<;>(try omega))
 .intro J0 hl0 hA hr0 hid0 hI;simp only[DD]at hA hI;obtain⟨a0,a1,a2,a3,a4,a5,a6,a7⟩:=hA;obtain⟨_,i17,i22,i21,i20,i16,i73⟩:=hI;simp only[ub0,ubk]at *;exact wG p ⟨i73,i16,i17,i20,i21,i22⟩ a7 (nk4 (yB V) (by omega) (by omega) (.inl (by omega)))
 iterate 2 (focus (intro hA;simp only[DD]at hA ⊢;omega))
 .intro J0 hl0 hA hr0 hid0 hI;simp only[DD]at hA hI;obtain⟨a0,a1,a2,a3,a4,a5,a6,a7,a8,a9,a10⟩:=hA;obtain⟨_,i17,i22,i21,i20,i16,i73⟩:=hI;simp only[ub0,ubk]at *;exact wG p ⟨i73,i16,i17,i20,i21,i22⟩ a10 (nk4 (yB V) (by omega) (by omega) (.inr (.inl a0)))
 iterate 2 (focus (intro hA;simp only[DD]at hA ⊢;omega))
 .intro J0 hl0 hA hr0 hid0 hI;simp only[DD]at hA hI;obtain⟨a0,a1,a2,a3,a4,a5,a6,a7,a8,a9,a10,a11,a12,a13⟩:=hA;obtain⟨_,i17,i22,i21,i20,i16,i73⟩:=hI;simp only[ub0,ubk]at *;exact wG p ⟨i73,i16,i17,i20,i21,i22⟩ a13 (nk4 (yB V) (by omega) (by omega) (.inr (.inr (.inl a0))))
 iterate 2 (focus (intro hA;simp only[DD]at hA ⊢;omega))
 .intro J0 hl0 hA hr0 hid0 hI;simp only[DD]at hA hI;obtain⟨a0,a1,a2,a3,a4,a5,a6,a7,a8,a9,a10,a11,a12,a13,a14,a15,a16⟩:=hA;obtain⟨_,i17,i22,i21,i20,i16,i73⟩:=hI;simp only[ub0,ubk]at *;exact wG p ⟨i73,i16,i17,i20,i21,i22⟩ a16 (nk4 (yB V) (by omega) (by omega) (.inr (.inr (.inr (.inl a0)))))
 .intro J0 hl0 hA hr0 hid0 hI;simp only[DD]at hA hI;obtain⟨a0,a1,a2,a3,a4,a5,a6,a7,a8,a9,a10,a11,a12,a13,a14,a15,a16,a17⟩:=hA;obtain⟨_,i17,i22,i21,i20,i16,i73⟩:=hI;simp only[ub0,ubk]at *;exact wG p ⟨i73,i16,i17,i20,i21,i22⟩ a17 (nk4 (yB V) (by omega) (by omega) (.inr (.inr (.inr (.inr a0)))))
 iterate 3 (focus (intro hA;simp only[DD]at hA ⊢;omega))
 .intro δ0 J0 hl0 hA hr0 hid0 hI;simp +decide only[DD,aL hβ]at hA hI;obtain⟨a0,a1,a2,a3,a4,a5,a6,a7,a8,a9,a10,a11,a12,a13,a14,a15,a16,a17,a18,a19,a20,a21⟩:=hA;obtain⟨i33,_,i17,i23,i32,i31,i22,i21,i20,i16,i73⟩:=hI;simp only[ub0,ubk]at *;exact W6 (O:=O6 V) p ⟨i73,i16,i17,i20,i21,i22⟩ a21 (st4 (yB V) (by omega) (by omega) (by omega) a11 a8 a5 ⟨a3,a4⟩) i23 (by omega) (i33.trans (List.append_assoc _ _ _)) (by rw[i31];unfold O6;simp;try omega) (by rw[i31,i32,i33];constructor<;>(try simp)<;>(try omega))
 .intro J0 hl0 hA hr0 hid0 hI;simp only[DD]at hA hI;obtain⟨a0,a1,a2,a3,a4,a5⟩:=hA;obtain⟨_,i17,i22,i21,i20,i16,i73⟩:=hI;simp only[ub0,ubk]at *;exact wG p ⟨i73,i16,i17,i20,i21,i22⟩ a5 (nk0 (yB V) (by omega) (by omega))
 .intro J0 hl0 hA hr0 hid0 hI;simp only[DD]at hA hI;obtain⟨i33,_,i17,_,i32,i31,i30,i22,i21,i20,i16,i73⟩:=hI;exact⟨⟨i73,i16,i17,i20,i21,i22⟩,by omega,i30,i33,i31,i32⟩
inductive DC(e:Int):List UInt8->List Int->List UInt8->Prop
 |nil (R:List UInt8):DC e R [] R
 |cons {R R':List UInt8} {v w:Int} {cs:List Int}:d1 e R=.ok v w->1<=w->w<=R.length->DC e (R.drop w.toNat) cs R'->DC e R (v::cs) R'
def oU(e:Int)(R:List UInt8):Prop:=∃ cs R',DC e R cs R'/\R'≠[]/\Nok (d1 e R')
theorem oU.cons{e:Int}{R:List UInt8}{v w:Int}(h:d1 e R=.ok v w)(h1:1<=w)(h2:w<=R.length)(g:oU e (R.drop w.toNat)):oU e R:=by
 obtain⟨cs,R',a,b,c⟩:=g;exact⟨v::cs,R',.cons h h1 h2 a,b,c⟩
structure Num6(O:List Int)(γ:Ren):Prop where
 b:O6 γ=O
 l:gI γ 31=(O.length:Int)
 c:gI γ 31<=gI γ 32
 d:gI γ 32<=(gN γ 33).length
theorem bN{V γ:Ren}{w:Int}(p:P6 V)(hn:γ.length=90)(s:SmD V γ)(hw:1<=w)(hw2:w<=gI V 21-gI V 23)(h:gI γ 23=gI V 23+w):P6 γ:=by
 obtain⟨s1,s2,s3,s4,s5,s6⟩:=s;have:=p.i23;have:=p.i20;have:=p.i21;exact⟨p.n.of s1 hn,by omega,by omega,by rw[s3,s4,s5];exact p.le,by omega⟩
theorem jB{V γ:Ren}{w:Int}(p:P6 V)(s:SmD V γ)(hw:1<=w)(h:gI γ 23=gI V 23+w):R6 γ=(R6 V).drop w.toNat:=by
 obtain⟨s1,s2,s3,s4,s5,s6⟩:=s;have:=p.i23;have:=p.i20;have:=p.i21;unfold R6;rw[s3,s4,s5,h,List.drop_drop];congr 1;omega
theorem mD{V:Ren}(p:P6 V)(h:¬ gI V 23<gI V 21):R6 V=[]:=by
 have:=mO p;exact List.length_eq_zero_iff.1 (by omega)
theorem agN{V:Ren}(p:P6 V)(h:gI V 23<gI V 21):R6 V≠[]:=by
 intro h';have:=mO p;rw[h']at this;simp at this;omega
theorem adD{w0:W0}{Q:Exit->Act->World->Prop}:∀(m:Nat)(O:List Int)(V:Ren)(a:Act)(w:World),(gI V 21-gI V 23).toNat<=m->P6 V->Num6 O V->gI V 31<=gI V 23->HR w0 V t6S.heap w->FS V (ntmps 6) t6S.frame a ->
    (∀ V1 a' w' cs,Ln V1->SmD V V1->DC 1 (R6 V) cs []->Num6 (O++cs) V1->HR w0 V1 t6S.heap w'->FS V1 (ntmps 6) t6S.frame a'->Q (.exit 0) a' w') ->
    (∀ V1 a' w',Ln V1->SmD V V1->oU 1 (R6 V)->HR w0 V1 t6f.heap w'->FS V1 (ntmps 6) t6f.frame a'->Q .ret a' w')->wpL Tryd.prog Q0 Q a w:=by
 intro m
 induction m with
 |zero =>
  intro O V a w hm p o h4 hH hF h1 h2
  have h5:=o.l
  refine zR (yC (E:=E6 t6S) (G:=Gd6 O6 (fun a b=>dX a b) V) zQ zS follows (by show (asW t6S []).Holds _ _;rw[fV];exact aa8 p ⟨⟨by omega,o.c⟩,o.d,h4⟩) p.n.2 hH (Facts.nil _) hF ?_ (fun r s c h=>by rcases h with h|h<;>cases h) (fun j i V1 V2 h=>h.elim) (fun r s h=>by rcases h with h|h<;>cases h) (fun f s h=>by cases h))
  intro j e tp V1 a' w' hft q1 q2 q3
  have hl:V1.length=tp.m:=by rw[q1.len];exact zK _ _
  cases e with
  |normal=>cases hft;obtain⟨_,h,_⟩:=q3;omega
  |ret =>
   cases hft
   obtain⟨s,h,e1⟩:=q3
   exact h2 V1 a' w' (p.n.of s.1 hl) s ⟨[],R6 V,.nil _,agN p h,e1⟩ q1 q2
  |exit id =>
   match id,hft with
   |0,hft =>
    cases hft
    obtain⟨s,h,e1,e2,e3,e4⟩:=q3
    exact h1 V1 a' w' [] (p.n.of s.1 hl) s (by rw[mD p h];exact .nil _) (by rw[List.append_nil];exact⟨by unfold O6;rw[e2,e3];exact o.b,by rw[e3];exact o.l,by rw[e3,e4];exact o.c,by rw[e4,e2];exact o.d⟩) q1 q2
 |succ m ih =>
  intro O V a w hm p o h4 hH hF h1 h2
  have h5:=o.l
  refine zR (yC (E:=E6 t6S) (G:=Gd6 O6 (fun a b=>dX a b) V) zQ zS follows (by show (asW t6S []).Holds _ _;rw[fV];exact aa8 p ⟨⟨by omega,o.c⟩,o.d,h4⟩) p.n.2 hH (Facts.nil _) hF ?_ (fun r s c h=>by rcases h with h|h<;>cases h) (fun j i V1 V2 h=>h.elim) (fun r s h=>by rcases h with h|h<;>cases h) (fun f s h=>by cases h))
  intro j e tp V1 a' w' hft q1 q2 q3
  have hl:V1.length=tp.m:=by rw[q1.len];exact zK _ _
  cases e with
  |normal =>
   cases hft
   obtain⟨s,h,v,wd,hd,h23,hw1,hw2,e1,e2,e3,e4⟩:=q3
   rw[o.b]at e1 e2
   have s5:=s.2.2.2.2.1
   have hrl:=mO p
   have hr:=jB p s hw1 h23
   rw[List.length_append]at e2
   simp only[List.length_singleton]at e2
   refine ih (O++[v]) V1 a' w' (by omega) (bN p hl s hw1 hw2 h23) ⟨e1,by rw[e2,List.length_append];rfl,e3,e4⟩ (by omega) q1 q2 ?_ ?_
   .intro V2 a2 w2 cs hn2 s2 dc o2 r1 r2
    refine h1 V2 a2 w2 (v::cs) hn2 (s.trans s2) (.cons hd hw1 (by omega) (by rw[<-hr];exact dc)) (by simpa using o2) r1 r2
   .intro V2 a2 w2 hn2 s2 bc r1 r2
    exact h2 V2 a2 w2 hn2 (s.trans s2) (.cons hd hw1 (by omega) (by rw[<-hr];exact bc)) r1 r2
  |ret =>
   cases hft
   obtain⟨s,h,e1⟩:=q3
   exact h2 V1 a' w' (p.n.of s.1 hl) s ⟨[],R6 V,.nil _,agN p h,e1⟩ q1 q2
  |exit id =>
   match id,hft with
   |0,hft =>
    cases hft
    obtain⟨s,h,e1,e2,e3,e4⟩:=q3
    exact h1 V1 a' w' [] (p.n.of s.1 hl) s (by rw[mD p h];exact .nil _) (by rw[List.append_nil];exact⟨by unfold O6;rw[e2,e3];exact o.b,by rw[e3];exact o.l,by rw[e3,e4];exact o.c,by rw[e4,e2];exact o.d⟩) q1 q2
theorem abO{w0:W0}{Q:Exit->Act->World->Prop}(V:Ren)(a:Act)(w:World)(p:P6 V)(hH:HR w0 V t6N.heap w)(hF:FS V (ntmps 6) t6N.frame a)
    (h0:∀ V1 a' w',Ln V1->SmD V V1->R6 V=[]->HR w0 V1 t6N.heap w'->FS V1 (ntmps 6) t6N.frame a'->Q (.exit 0) a' w')
    (h1:∀ V1 a' w' cs,Ln V1->SmD V V1->DC 1 (R6 V) cs []->cs≠[]->Num6 cs V1->HR w0 V1 t6S.heap w'->FS V1 (ntmps 6) t6S.frame a'->Q (.exit 0) a' w')
    (h2:∀ V1 a' w',Ln V1->SmD V V1->oU 1 (R6 V)->HR w0 V1 t6f.heap w'->FS V1 (ntmps 6) t6f.frame a'->Q .ret a' w'):wpL Tryd.prog Q0 Q a w:=by
 refine zR (yC (E:=E6 t6N) (G:=Gd6 (fun _=>[]) (fun _ _=>True) V) zQ zS follows (by show (asW t6N []).Holds _ _;rw[adB];exact aq0 p) p.n.2 hH (Facts.nil _) hF ?_ (fun r s c h=>by rcases h with h|h<;>cases h) (fun j i V1 V2 h=>h.elim) (fun r s h=>by rcases h with h|h<;>cases h) (fun f s h=>by cases h))
 intro j e tp V1 a' w' hft q1 q2 q3
 have hl:V1.length=tp.m:=by rw[q1.len];exact zK _ _
 cases e with
 |normal =>
  cases hft
  obtain⟨s,h,v,wd,hd,h23,hw1,hw2,e1,e2,e3,e4⟩:=q3
  have hrl:=mO p
  have hr:=jB p s hw1 h23
  have:=p.i23
  rw[List.nil_append]at e1 e2
  refine adD _ [v] V1 a' w' (Nat.le_refl _) (bN p hl s hw1 hw2 h23) ⟨e1,e2,e3,e4⟩ (by rw[e2];simp;omega) q1 q2 ?_ ?_
  .intro V2 a2 w2 cs hn2 s2 dc o2 r1 r2
   exact h1 V2 a2 w2 (v::cs) hn2 (s.trans s2) (.cons hd hw1 (by omega) (by rw[<-hr];exact dc)) (by simp) (by simpa using o2) r1 r2
  .intro V2 a2 w2 hn2 s2 bc r1 r2
   exact h2 V2 a2 w2 hn2 (s.trans s2) (.cons hd hw1 (by omega) (by rw[<-hr];exact bc)) r1 r2
 |ret =>
  cases hft
  obtain⟨s,h,e1⟩:=q3
  exact h2 V1 a' w' (p.n.of s.1 hl) s ⟨[],R6 V,.nil _,agN p h,e1⟩ q1 q2
 |exit id =>
  match id,hft with
  |0,hft =>
   cases hft
   obtain⟨s,h,_⟩:=q3
   exact h0 V1 a' w' (p.n.of s.1 hl) s (mD p h) q1 q2
def t6:Tpl:={ m:=90,F:=[(0,nV)],H:=[(16,vM),(73,xB)],G:=[73] }
def t6a:Tpl:={ m:=90,F:=[(0,nV),(2,.slice none 0 0),(3,sB (x 84))],H:=[(16,vM),(73,xB)],G:=[73] }
def t6b:Tpl:={ m:=90,F:=[(0,nV),(2,wF),(3,.bool true)],H:=[(16,vM),(73,xB),(30,kJ)],G:=[73] }
def sm6:List (Nat × Nat):=[(16,0),(17,2),(20,1),(21,1),(22,1),(73,0)]
def sp6:CSpec:={ j:=6,n:=1,tin:=t6,outs:=[(.tuple #[.slice none 0 0,sB (x 84)],t6a,sm6),(.tuple #[wF,.bool true],t6b,sm6)] }
def aUI:LSpec:={ j:=3,tin:=t6N,outs:=[(.exit 0,t6N,[]),(.exit 0,t6S,[]),(.ret,t6f,[])] }
def lt6:Nat->Option LSpec:=fun n=>if n=3 then some aUI else none
def rG(a:Tpl)(j:Nat):AExit->Option (Nat × Tpl):=fun e=>match e with
 | .normal=>some (j,a)
 | .ret=>some (j,a)
 |_=>none
def EF6:Env:=EG 6 (fun _=>none) (fun _=>false) (fun _=>none) lt6 (rG t6a 0) (rG t6b 1)
def aG1:Tre:=tre EF6 2000 (body 6) [] [] t6.frame t6.heap
def A6(V:Ren):List UInt8:=((gL V 17).take (gI V 20+gI V 21).toNat).drop (gI V 20).toNat
structure PA(V:Ren):Prop where
 n:Ln V
 i20:0<=gI V 20
 i21:0<=gI V 21/\gI V 21<=2147483647
 le:gI V 20+gI V 21<=(gL V 17).length
def Z6(e:Int)(V γ:Ren)(j:Nat):Prop:=match j with
    |0=>gB γ 84=true/\A6 V=[]\/gB γ 84=false/\oU e (A6 V)
    |1=>∃ cs,DC e (A6 V) cs []/\cs≠[]/\Num6 cs γ
    |_=>False
def GF6(V:Ren):Goal where
 J:=fun j γ=>Ln γ/\SmD V γ/\Z6 1 V γ j
 L:=fun _ γ=>P6 γ/\SmD V γ/\gI γ 23=0
 O:=fun _ i γ J1=>Ln J1/\SmD γ J1/\match i with
  |0=>R6 γ=[]
  |1=>∃ cs,DC 1 (R6 γ) cs []/\cs≠[]/\Num6 cs J1
  |2=>oU 1 (R6 γ)
  |_=>False
 W:=fun _ c=>c=.loop Q0
theorem aj0{V γ:Ren}(s:SmD V γ)(h:gI γ 23=0):R6 γ=A6 V:=by
 obtain⟨_,_,s3,s4,s5,_⟩:=s;unfold R6 A6;rw[h,s3,s4,s5,Int.add_zero]
abbrev apW:Code:=.loop Q0
theorem K0{V V1:Ren}(q:SmD V V1):∀ p∈sm6,SmK V V1 p:=by
 intro x hx;have hx:x∈[(16,0),(17,2),(20,1),(21,1),(22,1),(73,0)]:=hx;obtain⟨q1,q2,q3,q4,q5,q6⟩:=q;simp only[List.mem_cons,List.not_mem_nil,or_false]at hx;rcases hx with rfl|rfl|rfl|rfl|rfl|rfl
 .exact q2
 .exact q3
 .exact q4
 .exact q5
 .exact q6
 .exact q1
def u16(b:Bool)(x y:Int):Int:=if b then y+x*256 else x+y*256
def uA(b:Bool):List UInt8->List Int
 |x::y::r=>u16 b x.toNat y.toNat::uA b r
 |_=>[]
def eb(b:Bool):Int:=if b then 3 else 2
theorem pT(b:Bool)(x y:UInt8):0<=u16 b x.toNat y.toNat/\u16 b x.toNat y.toNat<=65535:=by
 have:=UInt8.toNat_lt x;have:=UInt8.toNat_lt y;unfold u16;split<;>omega
theorem aaT{b:Bool}:∀ {R:List UInt8} {x:Int},x∈uA b R->0<=x/\x<=65535
 |[],_,h=>by cases h
 |[_],_,h=>by cases h
 |x::y::r,z,h=>by
  rcases List.mem_cons.1 h with rfl|h
  .exact pT b x y
  .exact aaT h
theorem aaQ{b:Bool}:∀(R:List UInt8),(uA b R).length=R.length/2
 |[]=>rfl
 |[_]=>by simp[uA]
 |x::y::r=>by simp only[uA,List.length_cons,aaQ r];omega
theorem lQ{n:Int}(h:0<=n/\n<=65535):ia n 64512=n-n%1024/\ia n 1023=n%1024:=by
 obtain⟨k,rfl⟩:=Int.eq_ofNat_of_zero_le h.1;have hk:k<=65535:=by omega
 have e1:k &&& 1023=k%1024:=Nat.and_two_pow_sub_one_eq_mod k 10;have e2:(k &&& 64512)%2 ^ 10=0:=by rw[Nat.and_mod_two_pow];simp
 have e3:(k &&& 64512)/2 ^ 10=k/1024:=by
  rw[Nat.and_div_two_pow];show (k/1024) &&& 63=k/1024;have:(k/1024) &&& 63=k/1024%64:=Nat.and_two_pow_sub_one_eq_mod (k/1024) 6;rw[this];omega
 constructor
 .show ((k &&& 64512:Nat):Int)=(k:Int)-(k:Int)%1024;omega
 .show ((k &&& 1023:Nat):Int)=(k:Int)%1024;omega
theorem apX(b:Bool)(x y:UInt8)(r:List UInt8):d1 (eb b) (x::y::r)=zW (r.length+2) (u16 b x.toNat y.toNat) (u16 b (r.getD 0 0).toNat (r.getD 1 0).toNat):=by
 unfold d1 dcd eb;have e0:bt (x::y::r) 0=(x.toNat:Int):=rfl;have e1:bt (x::y::r) 1=(y.toNat:Int):=rfl;have e2:bt (x::y::r) 2=((r.getD 0 0).toNat:Int):=by unfold bt;cases r<;>rfl
 have e3:bt (x::y::r) 3=((r.getD 1 0).toNat:Int):=by unfold bt;cases r with
  |nil=>rfl
  |cons a r=>cases r<;>rfl
 have el:((x::y::r).length:Int)=(r.length:Int)+2:=by simp only[List.length_cons];omega
 rw[e0,e1,e2,e3,el];cases b
 .rfl
 .rfl
theorem auZ{n u v:Int}(hu:0<=u/\u<=65535)(h:56320<=u/\u<57344):Nok (zW n u v):=by
 have:=(lQ hu).1;unfold zW;split
 .exact .more
 rw[if_pos (by omega)];exact .bad
theorem atN{n u v:Int}(hu:0<=u/\u<=65535)(hv:0<=v/\v<=65535)(h:55296<=u/\u<56320)(hn:4<=n)(h2:56320<=v/\v<57344):zW n u v=.ok (65536+(u-55296)*1024+v-56320) 4:=by
 obtain⟨a1,a2⟩:=lQ hu;obtain⟨b1,b2⟩:=lQ hv;unfold zW;rw[if_neg (by omega),if_neg (by omega),if_pos (by omega),if_neg (by omega),if_pos (by omega),a2,b2];congr 1;show u%1024*2 ^ 10+65536+v%1024=_;omega
theorem fC{n u v:Int}(hu:0<=u/\u<=65535)(hv:0<=v/\v<=65535)(h:55296<=u/\u<56320)(h2:n<4\/v<56320\/57344<=v):Nok (zW n u v):=by
 obtain⟨a1,a2⟩:=lQ hu;obtain⟨b1,b2⟩:=lQ hv;unfold zW;split
 .exact .more
 rw[if_neg (by omega),if_pos (by omega)];split
 .exact .more
 rw[if_neg (by omega)];exact .bad
theorem axA{n u v:Int}(hu:0<=u/\u<=65535)(hn:2<=n)(h:u<55296\/57344<=u):zW n u v=.ok u 2:=by
 obtain⟨a1,a2⟩:=lQ hu;unfold zW;rw[if_neg (by omega),if_neg (by omega),if_neg (by omega)]
theorem ajD{n u v c w:Int}(h:zW n u v=.ok c w):w=2/\2<=n\/w=4/\4<=n:=by
 unfold zW at h;split at h
 .cases h
 split at h
 .cases h
 split at h
 .split at h
  .cases h
  split at h
  .cases h;exact .inr ⟨rfl,by omega⟩
  .cases h
 .cases h;exact .inl ⟨rfl,by omega⟩
theorem awY(b:Bool):∀(n:Nat)(R:List UInt8),R.length<=n->R.length%2=1->oU (eb b) R:=by
 intro n;induction n with
 |zero=>intro R h1 h2;omega
 |succ n ih =>
  intro R h1 h2;match R,h1,h2 with
  |[x],h1,h2=>exact⟨[],[x],.nil _,by simp,by
      unfold d1 dcd eb;cases b
      .exact .more
      .exact .more⟩
  |x::y::r,h1,h2 =>
   simp only[List.length_cons]at h1 h2;cases hd:d1 (eb b) (x::y::r) with
   |more=>exact⟨[],_,.nil _,by simp,by rw[hd];exact .more⟩
   |bad=>exact⟨[],_,.nil _,by simp,by rw[hd];exact .bad⟩
   |ok c w =>
    have hd':=hd;rw[apX]at hd';have hw:=ajD hd';have hw1:1<=w:=by omega
    have hw2:w<=((x::y::r).length:Int):=by simp only[List.length_cons];omega
    refine oU.cons hd hw1 hw2 (ih _ ?_ ?_)
    .rw[List.length_drop];simp only[List.length_cons];omega
    .rw[List.length_drop];simp only[List.length_cons];omega
structure P7(V:Ren):Prop where
 p:P6 V
 e21:gI V 21%2=0
 e23:gI V 23%2=0
def ub2(V:Ren):Int:=u16 (gB V 85) (ub V 0) (ub V 1)
def SmF(V γ:Ren):Prop:=SmD V γ/\gB γ 85=gB V 85
theorem SmF.trans{a b c:Ren}(h:SmF a b)(g:SmF b c):SmF a c:=⟨h.1.trans g.1,g.2.trans h.2⟩
def Gd7(O:Ren->List Int)(E:Ren->Ren->Prop)(V:Ren):Goal where
 J:=fun j γ=>match j with
  |0=>SmF V γ/\gI V 23<gI V 21/\gI γ 23=gI V 23+2/\O6 γ=O V++[ub2 V]/\gI γ 31=((O V++[ub2 V]).length:Int)/\gI γ 31<=gI γ 32/\gI γ 32<=(gN γ 33).length
  |1=>SmF V γ/\¬ gI V 23<gI V 21/\E V γ
  |_=>False
 L:=fun _ _=>False
 O:=fun _ _ _ _=>False
 W:=fun _ _=>False
theorem or8{a c:Int}(h:0<=a)(h0:0<=c/\c<=255):IOp.fn .or (IOp.fn .shl a 8) c=c+a*256:=by
 obtain⟨n,rfl⟩:=Int.eq_ofNat_of_zero_le h;obtain⟨m,rfl⟩:=Int.eq_ofNat_of_zero_le h0.1;show ((Nat.lor (((n:Int)*2 ^ (8:Int).toNat)).toNat ((m:Int)).toNat:Nat):Int)=(m:Int)+(n:Int)*256;have e1:((n:Int)*2 ^ (8:Int).toNat).toNat=n <<< 8:=by
  rw[Nat.shiftLeft_eq];show ((n:Int)*256).toNat=n*256;omega
 rw[e1,Int.toNat_natCast];have:=Nat.shiftLeft_add_eq_or_of_lt (show m<2 ^ 8 by omega) n;show ((n <<< 8 ||| m:Nat):Int)=_;rw[<-this,Nat.shiftLeft_eq];show ((n*256+m:Nat):Int)=(m:Int)+(n:Int)*256;omega
theorem aMP{V:Ren}(h:gB V 85=true):IOp.fn .or (IOp.fn .shl (ub V 0) 8) (ub V 1)=ub2 V:=by
 rw[or8 (yB V 0).1 (yB V 1)];unfold ub2 u16;rw[if_pos h]
theorem aBE{V:Ren}(h:¬ gB V 85=true):IOp.fn .or (IOp.fn .shl (ub V 1) 8) (ub V 0)=ub2 V:=by
 rw[or8 (yB V 1).1 (yB V 0)];unfold ub2 u16;rw[if_neg h]
theorem axF{O Z:List Int}{v:Int}{V γ:Ren}(s:SmF V γ)(hl:gI V 23<gI V 21)(hv:v=ub2 V)(h23:gI γ 23=gI V 23+2)(h33:gN γ 33=O++([v]++Z))(h31:gI γ 31=((O++[v]).length:Int))(h32:gI γ 32<=(gN γ 33).length/\gI γ 31<=gI γ 32) :
    SmF V γ/\gI V 23<gI V 21/\gI γ 23=gI V 23+2/\O6 γ=O++[ub2 V]/\gI γ 31=((O++[ub2 V]).length:Int)/\gI γ 31<=gI γ 32/\gI γ 32<=(gN γ 33).length:=by
 subst hv
 refine⟨s,hl,h23,?_,h31,h32.2,h32.1⟩
 unfold O6
 rw[h33,h31,Int.toNat_natCast,<-List.append_assoc,List.take_left]
def uT(v:Int):Prop:=56320<=v/\v<57344
def aaX(v:Int):Prop:=55296<=v/\v<56320
instance (v:Int):Decidable (uT v):=inferInstanceAs (Decidable (_/\_))
instance (v:Int):Decidable (aaX v):=inferInstanceAs (Decidable (_/\_))
def du:List Int->Option (Int × Int)
 |[]=>none
 |u::r=>if uT u then none else if aaX u then (match r with
  |v::_=>if uT v then some (65536+(u-55296)*1024+v-56320,2) else none
  |[]=>none) else some (u,1)
structure P8(V:Ren):Prop where
 p:PE V
def vF(V:Ren):Int:=(gN V 33).getD (gI V 23+1).toNat 0
theorem bU{V:Ren}(p:PE V)(h:gI V 23<gI V 31):zZ V=vE V::(if gI V 23+1<gI V 31 then vF V::((gN V 33).take (gI V 31).toNat).drop (gI V 23+2).toNat else []):=by
 have:=p.i23;have:=p.len;rw[uD p h];congr 1;split
 .unfold vF;have hl:(gI V 23+1).toNat<((gN V 33).take (gI V 31).toNat).length:=by rw[List.length_take];omega
  rw[List.drop_eq_getElem_cons hl,show (gI V 23+2).toNat=(gI V 23+1).toNat+1 from by omega];congr 1;rw[List.getElem_take,List.getD_eq_getElem?_getD,List.getElem?_eq_getElem (by omega)];rfl
 .rw[List.drop_eq_nil_iff,List.length_take];omega
def SmG(V γ:Ren):Prop:=SmD V γ/\SmE V γ
theorem SmE.trans'{a b c:Ren}(h:SmE a b)(g:SmE b c):SmE a c:=⟨g.1.trans h.1,g.2.1.trans h.2.1,g.2.2.1.trans h.2.2.1,g.2.2.2.trans h.2.2.2⟩
theorem SmG.trans{a b c:Ren}(h:SmG a b)(g:SmG b c):SmG a c:=⟨h.1.trans g.1,h.2.trans' g.2⟩
def O8(γ:Ren):List Int:=(gN γ 37).take (gI γ 35).toNat
def alZ(V γ:Ren):Prop:=γ[34]?=V[34]?/\gN γ 37=gN V 37/\gI γ 35=gI V 35/\gI γ 36=gI V 36
structure K8(V:Ren):Prop where
 a:0<=gI V 35/\gI V 35<=gI V 36
 b:gI V 36<=(gN V 37).length
 c:gI V 35<=gI V 23
def Gd8(O:Ren->List Int)(E:Ren->Ren->Prop)(V:Ren):Goal where
 J:=fun j γ=>match j with
  |0=>SmG V γ/\gI V 23<gI V 31/\∃ v k,du (zZ V)=some (v,k)/\1<=k/\gI γ 23=gI V 23+k/\gI γ 23<=gI V 31/\O8 γ=O V++[v]/\gI γ 35=((O V++[v]).length:Int)/\gI γ 35<=gI γ 36/\gI γ 36<=(gN γ 37).length
  |1=>SmG V γ/\¬ gI V 23<gI V 31/\E V γ
  |2=>SmD V γ/\gI V 23<gI V 31/\du (zZ V)=none
  |_=>False
 L:=fun _ _=>False
 O:=fun _ _ _ _=>False
 W:=fun _ _=>False
theorem awR{O Z:List Int}{v k:Int}{V γ:Ren}(s:SmG V γ)(hl:gI V 23<gI V 31)(hd:du (zZ V)=some (v,k))(hk:1<=k)(h23:gI γ 23=gI V 23+k)(h23b:gI γ 23<=gI V 31)(h33:gN γ 37=O++([v]++Z))(h31:gI γ 35=((O++[v]).length:Int))(h32:gI γ 36<=(gN γ 37).length/\gI γ 35<=gI γ 36) :
    SmG V γ/\gI V 23<gI V 31/\∃ v k,du (zZ V)=some (v,k)/\1<=k/\gI γ 23=gI V 23+k/\gI γ 23<=gI V 31/\O8 γ=O++[v]/\gI γ 35=((O++[v]).length:Int)/\gI γ 35<=gI γ 36/\gI γ 36<=(gN γ 37).length:=by
 refine⟨s,hl,v,k,hd,hk,h23,h23b,?_,h31,h32.2,h32.1⟩
 unfold O8
 rw[h33,h31,Int.toNat_natCast,<-List.append_assoc,List.take_left]
theorem pQ(u:Int)(r:List Int):du (u::r)=(if uT u then none else if aaX u then (match r with
    |v::_=>if uT v then some (65536+(u-55296)*1024+v-56320,2) else none
    |[]=>none) else some (u,1):Option (Int × Int)):=rfl
theorem aCW(a b:Int):IOp.fn .shl (a + -55296) 10+65536+b + -56320=65536+(a-55296)*1024+b-56320:=by
 show (a + -55296)*2 ^ 10+65536+b + -56320=_;omega
theorem alN{V:Ren}(p:PE V)(h:gI V 23<gI V 31)(h1:vE V<57344)(h2:¬ vE V<56320):du (zZ V)=none:=by
 have c:uT (vE V):=⟨by omega,h1⟩
 rw[bU p h,pQ,if_pos c]
theorem aj9{V:Ren}(p:PE V)(h:gI V 23<gI V 31)(h1:¬ (¬ vE V<56320/\vE V<57344))(h2:¬ (¬ vE V<55296/\vE V<56320)):du (zZ V)=some (vE V,1):=by
 have c:¬ uT (vE V):=fun c=>by unfold uT at c;omega
 have c2:¬ aaX (vE V):=fun c=>by unfold aaX at c;omega
 rw[bU p h,pQ,if_neg c,if_neg c2]
theorem af7{V:Ren}(p:PE V)(h:gI V 23+1<gI V 31)(h1:vE V<56320)(h2:¬ vE V<55296)(h3:vF V<57344)(h4:¬ vF V<56320):du (zZ V)=some (65536+(vE V-55296)*1024+vF V-56320,2):=by
 have c:¬ uT (vE V):=fun c=>by unfold uT at c;omega
 have c2:aaX (vE V):=⟨by omega,h1⟩
 have c3:uT (vF V):=⟨by omega,h3⟩
 rw[bU p (by omega),if_pos h,pQ,if_neg c,if_pos c2];simp only[];rw[if_pos c3]
theorem eM{V:Ren}(p:PE V)(h:gI V 23<gI V 31)(h1:vE V<56320)(h2:¬ vE V<55296)(h3:(¬ gI V 23+1<gI V 31\/vF V<56320)\/¬ vF V<57344):du (zZ V)=none:=by
 have c:¬ uT (vE V):=fun c=>by unfold uT at c;omega
 have c2:aaX (vE V):=⟨by omega,h1⟩
 rw[bU p h,pQ,if_neg c,if_pos c2];by_cases h5:gI V 23+1<gI V 31
 .have c3:¬ uT (vF V):=fun c=>by unfold uT at c;omega
  rw[if_pos h5];simp only[];rw[if_neg c3]
 .rw[if_neg h5]
end U
