-- the statement of this claim: see YtoamgocecoiggaaDoorRw
import Derived.Test.YtoamgocecoiggaaDoorM41
import Derived.Test.YtoamgocecoiggaaDoorM42
set_option linter.unusedVariables false
set_option linter.unusedSimpArgs false
open Go Go.SM Go.Proofs
namespace U
set_option maxRecDepth 100000
theorem hold_b6n {β:Ren} (p:P6 β):lit_b6n.Holds (Gd6 (fun _=>[]) (fun _ _=>True) β) β:=by
 unfold lit_b6n
 have hβ:=p.n.1
 have p20:=p.i20; have p21:=p.i21; have pl:=p.le; have p23:=p.i23
 refine (fork_of (need_o hβ ?_ (fork_of (fork_of (leaf_o [] hβ ?_) (need_o hβ ?_ (leaf_gen [] hβ (by kernel_rfl) (by kernel_rfl) ?_))) (fork_of (fork_of (leaf_o [] hβ ?_) (need_o hβ ?_ (need_o hβ ?_ (fork_of (leaf_o [] hβ ?_) (need_o hβ ?_ (leaf_gen [] hβ (by kernel_rfl) (by kernel_rfl) ?_)))))) (fork_of (fork_of (leaf_o [] hβ ?_) (need_o hβ ?_ (need_o hβ ?_ (fork_of (leaf_o [] hβ ?_) (need_o hβ ?_ (need_o hβ ?_ (fork_of (leaf_o [] hβ ?_) (fork_of (leaf_o [] hβ ?_) (need_o hβ ?_ (leaf_gen [] hβ (by kernel_rfl) (by kernel_rfl) ?_)))))))))) (fork_of (fork_of (leaf_o [] hβ ?_) (need_o hβ ?_ (need_o hβ ?_ (fork_of (leaf_o [] hβ ?_) (need_o hβ ?_ (need_o hβ ?_ (fork_of (leaf_o [] hβ ?_) (need_o hβ ?_ (need_o hβ ?_ (fork_of (leaf_o [] hβ ?_) (fork_of (leaf_o [] hβ ?_) (need_o hβ ?_ (leaf_gen [] hβ (by kernel_rfl) (by kernel_rfl) ?_))))))))))))) (leaf_o [] hβ ?_)))))) (leaf_o [] hβ ?_))
 ·intro hA; simp only [DD] at hA ⊢; omega
 ·intro γ0 hl0 hA hr0 hid0 hI
  simp only [DD] at hA
  obtain ⟨a0,a1,a2,a3⟩:=hA
  simp only [DD] at hI
  obtain ⟨i74,i17,i22,i21,i20,i16,i73⟩:=hI
  simp only [ub0,ubk] at *
  exact failD p ⟨i73,i16,i17,i20,i21,i22⟩ a3 (nk1 (ub_byt β) (by omega) (by omega))
 ·intro hA; simp only [DD] at hA ⊢; omega
 ·intro δ0 γ0 hl0 hA hr0 hid0 hI
  simp only [DD,aL hβ,Nat.reduceLT,Nat.reduceLeDiff,Nat.reduceSub] at hA
  obtain ⟨a0,a1,a2,a3,a4⟩:=hA
  simp only [DD,aL hβ,Nat.reduceLT,Nat.reduceLeDiff,Nat.reduceSub] at hI
  obtain ⟨i33,i74,i17,i23,i32,i31,i22,i21,i20,i16,i73⟩:=hI
  simp only [ub0,ubk] at *
  exact finD (O:=[]) p ⟨i73,i16,i17,i20,i21,i22⟩ a4 (st1 (ub_byt β) (by omega) (by omega)) i23 (by omega) i33 (by rw [i31]; rfl) (by rw [i31,i32,i33]; constructor <;> (try simp) <;> (try omega))
 ·intro γ0 hl0 hA hr0 hid0 hI
  simp only [DD] at hA
  obtain ⟨a0,a1,a2,a3,a4,a5⟩:=hA
  simp only [DD] at hI
  obtain ⟨i74,i17,i22,i21,i20,i16,i73⟩:=hI
  simp only [ub0,ubk] at *
  exact failD p ⟨i73,i16,i17,i20,i21,i22⟩ a5 (nk2 (ub_byt β) (by omega) (by omega) (.inl (by omega)))
 iterate 2 (focus (intro hA; simp only [DD] at hA ⊢; omega))
 ·intro γ0 hl0 hA hr0 hid0 hI
  simp only [DD] at hA
  obtain ⟨a0,a1,a2,a3,a4,a5,a6,a7,a8⟩:=hA
  simp only [DD] at hI
  obtain ⟨i74,i17,i22,i21,i20,i16,i73⟩:=hI
  simp only [ub0,ubk] at *
  exact failD p ⟨i73,i16,i17,i20,i21,i22⟩ a8 (nk2 (ub_byt β) (by omega) (by omega) (.inr (.inl a0)))
 ·intro hA; simp only [DD] at hA ⊢; omega
 ·intro δ0 γ0 hl0 hA hr0 hid0 hI
  simp only [DD,aL hβ,Nat.reduceLT,Nat.reduceLeDiff,Nat.reduceSub] at hA
  obtain ⟨a0,a1,a2,a3,a4,a5,a6,a7,a8,a9⟩:=hA
  simp only [DD,aL hβ,Nat.reduceLT,Nat.reduceLeDiff,Nat.reduceSub] at hI
  obtain ⟨i33,i74,i17,i23,i32,i31,i22,i21,i20,i16,i73⟩:=hI
  simp only [ub0,ubk] at *
  exact finD (O:=[]) p ⟨i73,i16,i17,i20,i21,i22⟩ a9 (st2 (ub_byt β) (by omega) (by omega) (by omega) a1) i23 (by omega) i33 (by rw [i31]; rfl) (by rw [i31,i32,i33]; constructor <;> (try simp) <;> (try omega))
 ·intro γ0 hl0 hA hr0 hid0 hI
  simp only [DD] at hA
  obtain ⟨a0,a1,a2,a3,a4,a5,a6⟩:=hA
  simp only [DD] at hI
  obtain ⟨i74,i17,i22,i21,i20,i16,i73⟩:=hI
  simp only [ub0,ubk] at *
  exact failD p ⟨i73,i16,i17,i20,i21,i22⟩ a6 (nk3 (ub_byt β) (by omega) (by omega) (.inl (by omega)))
 iterate 2 (focus (intro hA; simp only [DD] at hA ⊢; omega))
 ·intro γ0 hl0 hA hr0 hid0 hI
  simp only [DD] at hA
  obtain ⟨a0,a1,a2,a3,a4,a5,a6,a7,a8,a9⟩:=hA
  simp only [DD] at hI
  obtain ⟨i74,i17,i22,i21,i20,i16,i73⟩:=hI
  simp only [ub0,ubk] at *
  exact failD p ⟨i73,i16,i17,i20,i21,i22⟩ a9 (nk3 (ub_byt β) (by omega) (by omega) (.inr (.inl a0)))
 iterate 2 (focus (intro hA; simp only [DD] at hA ⊢; omega))
 ·intro γ0 hl0 hA hr0 hid0 hI
  simp only [DD] at hA
  obtain ⟨a0,a1,a2,a3,a4,a5,a6,a7,a8,a9,a10,a11,a12⟩:=hA
  simp only [DD] at hI
  obtain ⟨i74,i17,i22,i21,i20,i16,i73⟩:=hI
  simp only [ub0,ubk] at *
  exact failD p ⟨i73,i16,i17,i20,i21,i22⟩ a12 (nk3 (ub_byt β) (by omega) (by omega) (.inr (.inr (.inl a0))))
 ·intro γ0 hl0 hA hr0 hid0 hI
  simp only [DD] at hA
  obtain ⟨a0,a1,a2,a3,a4,a5,a6,a7,a8,a9,a10,a11,a12,a13⟩:=hA
  simp only [DD] at hI
  obtain ⟨i74,i17,i22,i21,i20,i16,i73⟩:=hI
  simp only [ub0,ubk] at *
  exact failD p ⟨i73,i16,i17,i20,i21,i22⟩ a13 (nk3 (ub_byt β) (by omega) (by omega) (.inr (.inr (.inr a0))))
 ·intro hA; simp only [DD] at hA ⊢; omega
 ·intro δ0 γ0 hl0 hA hr0 hid0 hI
  simp only [DD,aL hβ,Nat.reduceLT,Nat.reduceLeDiff,Nat.reduceSub] at hA
  obtain ⟨a0,a1,a2,a3,a4,a5,a6,a7,a8,a9,a10,a11,a12,a13,a14,a15⟩:=hA
  simp only [DD,aL hβ,Nat.reduceLT,Nat.reduceLeDiff,Nat.reduceSub] at hI
  obtain ⟨i33,i74,i17,i23,i32,i31,i22,i21,i20,i16,i73⟩:=hI
  simp only [ub0,ubk] at *
  exact finD (O:=[]) p ⟨i73,i16,i17,i20,i21,i22⟩ a15 (st3 (ub_byt β) (by omega) (by omega) (by omega) a6 a3 ⟨a1,a2⟩) i23 (by omega) i33 (by rw [i31]; rfl) (by rw [i31,i32,i33]; constructor <;> (try simp) <;> (try omega))
 ·intro γ0 hl0 hA hr0 hid0 hI
  simp only [DD] at hA
  obtain ⟨a0,a1,a2,a3,a4,a5,a6,a7⟩:=hA
  simp only [DD] at hI
  obtain ⟨i74,i17,i22,i21,i20,i16,i73⟩:=hI
  simp only [ub0,ubk] at *
  exact failD p ⟨i73,i16,i17,i20,i21,i22⟩ a7 (nk4 (ub_byt β) (by omega) (by omega) (.inl (by omega)))
 iterate 2 (focus (intro hA; simp only [DD] at hA ⊢; omega))
 ·intro γ0 hl0 hA hr0 hid0 hI
  simp only [DD] at hA
  obtain ⟨a0,a1,a2,a3,a4,a5,a6,a7,a8,a9,a10⟩:=hA
  simp only [DD] at hI
  obtain ⟨i74,i17,i22,i21,i20,i16,i73⟩:=hI
  simp only [ub0,ubk] at *
  exact failD p ⟨i73,i16,i17,i20,i21,i22⟩ a10 (nk4 (ub_byt β) (by omega) (by omega) (.inr (.inl a0)))
 iterate 2 (focus (intro hA; simp only [DD] at hA ⊢; omega))
 ·intro γ0 hl0 hA hr0 hid0 hI
  simp only [DD] at hA
  obtain ⟨a0,a1,a2,a3,a4,a5,a6,a7,a8,a9,a10,a11,a12,a13⟩:=hA
  simp only [DD] at hI
  obtain ⟨i74,i17,i22,i21,i20,i16,i73⟩:=hI
  simp only [ub0,ubk] at *
  exact failD p ⟨i73,i16,i17,i20,i21,i22⟩ a13 (nk4 (ub_byt β) (by omega) (by omega) (.inr (.inr (.inl a0))))
 iterate 2 (focus (intro hA; simp only [DD] at hA ⊢; omega))
 ·intro γ0 hl0 hA hr0 hid0 hI
  simp only [DD] at hA
  obtain ⟨a0,a1,a2,a3,a4,a5,a6,a7,a8,a9,a10,a11,a12,a13,a14,a15,a16⟩:=hA
  simp only [DD] at hI
  obtain ⟨i74,i17,i22,i21,i20,i16,i73⟩:=hI
  simp only [ub0,ubk] at *
  exact failD p ⟨i73,i16,i17,i20,i21,i22⟩ a16 (nk4 (ub_byt β) (by omega) (by omega) (.inr (.inr (.inr (.inl a0)))))
 ·intro γ0 hl0 hA hr0 hid0 hI
  simp only [DD] at hA
  obtain ⟨a0,a1,a2,a3,a4,a5,a6,a7,a8,a9,a10,a11,a12,a13,a14,a15,a16,a17⟩:=hA
  simp only [DD] at hI
  obtain ⟨i74,i17,i22,i21,i20,i16,i73⟩:=hI
  simp only [ub0,ubk] at *
  exact failD p ⟨i73,i16,i17,i20,i21,i22⟩ a17 (nk4 (ub_byt β) (by omega) (by omega) (.inr (.inr (.inr (.inr a0)))))
 ·intro hA; simp only [DD] at hA ⊢; omega
 ·intro δ0 γ0 hl0 hA hr0 hid0 hI
  simp only [DD,aL hβ,Nat.reduceLT,Nat.reduceLeDiff,Nat.reduceSub] at hA
  obtain ⟨a0,a1,a2,a3,a4,a5,a6,a7,a8,a9,a10,a11,a12,a13,a14,a15,a16,a17,a18,a19⟩:=hA
  simp only [DD,aL hβ,Nat.reduceLT,Nat.reduceLeDiff,Nat.reduceSub] at hI
  obtain ⟨i33,i74,i17,i23,i32,i31,i22,i21,i20,i16,i73⟩:=hI
  simp only [ub0,ubk] at *
  exact finD (O:=[]) p ⟨i73,i16,i17,i20,i21,i22⟩ a19 (st4 (ub_byt β) (by omega) (by omega) (by omega) a9 a6 a3 ⟨a1,a2⟩) i23 (by omega) i33 (by rw [i31]; rfl) (by rw [i31,i32,i33]; constructor <;> (try simp) <;> (try omega))
 ·intro γ0 hl0 hA hr0 hid0 hI
  simp only [DD] at hA
  obtain ⟨a0,a1,a2,a3,a4,a5⟩:=hA
  simp only [DD] at hI
  obtain ⟨i74,i17,i22,i21,i20,i16,i73⟩:=hI
  simp only [ub0,ubk] at *
  exact failD p ⟨i73,i16,i17,i20,i21,i22⟩ a5 (nk0 (ub_byt β) (by omega) (by omega))
 ·intro γ0 hl0 hA hr0 hid0 hI
  simp only [DD] at hA
  have a0:=hA
  simp only [DD] at hI
  obtain ⟨i74,i17,i23,i22,i21,i20,i16,i73⟩:=hI
  exact ⟨⟨i73,i16,i17,i20,i21,i22⟩,by omega,trivial⟩
theorem hold_b6s {β:Ren} (p:P6 β) (q:K6 β):lit_b6s.Holds (Gd6 O6 (fun a b=>NumEq a b) β) β:=by
 unfold lit_b6s
 have hβ:=p.n.1
 have p20:=p.i20; have p21:=p.i21; have pl:=p.le; have p23:=p.i23
 have qa:=q.a; have qb:=q.b; have qc:=q.c
 have ol:(O6 β).length=(gI β 31).toNat:=by unfold O6; simp; omega
 have ol2:(List.drop (Int.toNat 0) (List.take (gI β 31).toNat (gN β 33))).length≤(gI β 31).toNat:=by simp; omega
 refine (fork_of (need_o hβ ?_ (fork_of (fork_of (leaf_o [] hβ ?_) (need_o hβ ?_ (need_o hβ ?_ (need_o hβ ?_ (leaf_gen [] hβ (by kernel_rfl) (by kernel_rfl) ?_))))) (fork_of (fork_of (leaf_o [] hβ ?_) (need_o hβ ?_ (need_o hβ ?_ (fork_of (leaf_o [] hβ ?_) (need_o hβ ?_ (need_o hβ ?_ (need_o hβ ?_ (leaf_gen [] hβ (by kernel_rfl) (by kernel_rfl) ?_)))))))) (fork_of (fork_of (leaf_o [] hβ ?_) (need_o hβ ?_ (need_o hβ ?_ (fork_of (leaf_o [] hβ ?_) (need_o hβ ?_ (need_o hβ ?_ (fork_of (leaf_o [] hβ ?_) (fork_of (leaf_o [] hβ ?_) (need_o hβ ?_ (need_o hβ ?_ (need_o hβ ?_ (leaf_gen [] hβ (by kernel_rfl) (by kernel_rfl) ?_)))))))))))) (fork_of (fork_of (leaf_o [] hβ ?_) (need_o hβ ?_ (need_o hβ ?_ (fork_of (leaf_o [] hβ ?_) (need_o hβ ?_ (need_o hβ ?_ (fork_of (leaf_o [] hβ ?_) (need_o hβ ?_ (need_o hβ ?_ (fork_of (leaf_o [] hβ ?_) (fork_of (leaf_o [] hβ ?_) (need_o hβ ?_ (need_o hβ ?_ (need_o hβ ?_ (leaf_gen [] hβ (by kernel_rfl) (by kernel_rfl) ?_))))))))))))))) (leaf_o [] hβ ?_)))))) (leaf_o [] hβ ?_))
 ·intro hA; simp only [DD] at hA ⊢; omega
 ·intro γ0 hl0 hA hr0 hid0 hI
  simp only [DD] at hA
  obtain ⟨a0,a1,a2,a3⟩:=hA
  simp only [DD] at hI
  obtain ⟨i74,i17,i22,i21,i20,i16,i73⟩:=hI
  simp only [ub0,ubk] at *
  exact failD p ⟨i73,i16,i17,i20,i21,i22⟩ a3 (nk1 (ub_byt β) (by omega) (by omega))
 iterate 3 (focus (intro hA; simp only [DD] at hA ⊢; omega))
 ·intro δ0 γ0 hl0 hA hr0 hid0 hI
  simp only [DD,aL hβ,Nat.reduceLT,Nat.reduceLeDiff,Nat.reduceSub] at hA
  obtain ⟨a0,a1,a2,a3,a4,a5,a6⟩:=hA
  simp only [DD,aL hβ,Nat.reduceLT,Nat.reduceLeDiff,Nat.reduceSub] at hI
  obtain ⟨i33,i74,i17,i23,i32,i31,i22,i21,i20,i16,i73⟩:=hI
  simp only [ub0,ubk] at *
  exact finD (O:=O6 β) p ⟨i73,i16,i17,i20,i21,i22⟩ a6 (st1 (ub_byt β) (by omega) (by omega)) i23 (by omega) (i33.trans (List.append_assoc _ _ _)) (by rw [i31]; unfold O6; simp; try omega) (by rw [i31,i32,i33]; constructor <;> (try simp) <;> (try omega))
 ·intro γ0 hl0 hA hr0 hid0 hI
  simp only [DD] at hA
  obtain ⟨a0,a1,a2,a3,a4,a5⟩:=hA
  simp only [DD] at hI
  obtain ⟨i74,i17,i22,i21,i20,i16,i73⟩:=hI
  simp only [ub0,ubk] at *
  exact failD p ⟨i73,i16,i17,i20,i21,i22⟩ a5 (nk2 (ub_byt β) (by omega) (by omega) (.inl (by omega)))
 iterate 2 (focus (intro hA; simp only [DD] at hA ⊢; omega))
 ·intro γ0 hl0 hA hr0 hid0 hI
  simp only [DD] at hA
  obtain ⟨a0,a1,a2,a3,a4,a5,a6,a7,a8⟩:=hA
  simp only [DD] at hI
  obtain ⟨i74,i17,i22,i21,i20,i16,i73⟩:=hI
  simp only [ub0,ubk] at *
  exact failD p ⟨i73,i16,i17,i20,i21,i22⟩ a8 (nk2 (ub_byt β) (by omega) (by omega) (.inr (.inl a0)))
 iterate 3 (focus (intro hA; simp only [DD] at hA ⊢; omega))
 ·intro δ0 γ0 hl0 hA hr0 hid0 hI
  simp only [DD,aL hβ,Nat.reduceLT,Nat.reduceLeDiff,Nat.reduceSub] at hA
  obtain ⟨a0,a1,a2,a3,a4,a5,a6,a7,a8,a9,a10,a11⟩:=hA
  simp only [DD,aL hβ,Nat.reduceLT,Nat.reduceLeDiff,Nat.reduceSub] at hI
  obtain ⟨i33,i74,i17,i23,i32,i31,i22,i21,i20,i16,i73⟩:=hI
  simp only [ub0,ubk] at *
  exact finD (O:=O6 β) p ⟨i73,i16,i17,i20,i21,i22⟩ a11 (st2 (ub_byt β) (by omega) (by omega) (by omega) a3) i23 (by omega) (i33.trans (List.append_assoc _ _ _)) (by rw [i31]; unfold O6; simp; try omega) (by rw [i31,i32,i33]; constructor <;> (try simp) <;> (try omega))
 ·intro γ0 hl0 hA hr0 hid0 hI
  simp only [DD] at hA
  obtain ⟨a0,a1,a2,a3,a4,a5,a6⟩:=hA
  simp only [DD] at hI
  obtain ⟨i74,i17,i22,i21,i20,i16,i73⟩:=hI
  simp only [ub0,ubk] at *
  exact failD p ⟨i73,i16,i17,i20,i21,i22⟩ a6 (nk3 (ub_byt β) (by omega) (by omega) (.inl (by omega)))
 iterate 2 (focus (intro hA; simp only [DD] at hA ⊢; omega))
 ·intro γ0 hl0 hA hr0 hid0 hI
  simp only [DD] at hA
  obtain ⟨a0,a1,a2,a3,a4,a5,a6,a7,a8,a9⟩:=hA
  simp only [DD] at hI
  obtain ⟨i74,i17,i22,i21,i20,i16,i73⟩:=hI
  simp only [ub0,ubk] at *
  exact failD p ⟨i73,i16,i17,i20,i21,i22⟩ a9 (nk3 (ub_byt β) (by omega) (by omega) (.inr (.inl a0)))
 iterate 2 (focus (intro hA; simp only [DD] at hA ⊢; omega))
 ·intro γ0 hl0 hA hr0 hid0 hI
  simp only [DD] at hA
  obtain ⟨a0,a1,a2,a3,a4,a5,a6,a7,a8,a9,a10,a11,a12⟩:=hA
  simp only [DD] at hI
  obtain ⟨i74,i17,i22,i21,i20,i16,i73⟩:=hI
  simp only [ub0,ubk] at *
  exact failD p ⟨i73,i16,i17,i20,i21,i22⟩ a12 (nk3 (ub_byt β) (by omega) (by omega) (.inr (.inr (.inl a0))))
 ·intro γ0 hl0 hA hr0 hid0 hI
  simp only [DD] at hA
  obtain ⟨a0,a1,a2,a3,a4,a5,a6,a7,a8,a9,a10,a11,a12,a13⟩:=hA
  simp only [DD] at hI
  obtain ⟨i74,i17,i22,i21,i20,i16,i73⟩:=hI
  simp only [ub0,ubk] at *
  exact failD p ⟨i73,i16,i17,i20,i21,i22⟩ a13 (nk3 (ub_byt β) (by omega) (by omega) (.inr (.inr (.inr a0))))
 iterate 3 (focus (intro hA; simp only [DD] at hA ⊢; omega))
 ·intro δ0 γ0 hl0 hA hr0 hid0 hI
  simp only [DD,aL hβ,Nat.reduceLT,Nat.reduceLeDiff,Nat.reduceSub] at hA
  obtain ⟨a0,a1,a2,a3,a4,a5,a6,a7,a8,a9,a10,a11,a12,a13,a14,a15,a16,a17⟩:=hA
  simp only [DD,aL hβ,Nat.reduceLT,Nat.reduceLeDiff,Nat.reduceSub] at hI
  obtain ⟨i33,i74,i17,i23,i32,i31,i22,i21,i20,i16,i73⟩:=hI
  simp only [ub0,ubk] at *
  exact finD (O:=O6 β) p ⟨i73,i16,i17,i20,i21,i22⟩ a17 (st3 (ub_byt β) (by omega) (by omega) (by omega) a8 a5 ⟨a3,a4⟩) i23 (by omega) (i33.trans (List.append_assoc _ _ _)) (by rw [i31]; unfold O6; simp; try omega) (by rw [i31,i32,i33]; constructor <;> (try simp) <;> (try omega))
 ·intro γ0 hl0 hA hr0 hid0 hI
  simp only [DD] at hA
  obtain ⟨a0,a1,a2,a3,a4,a5,a6,a7⟩:=hA
  simp only [DD] at hI
  obtain ⟨i74,i17,i22,i21,i20,i16,i73⟩:=hI
  simp only [ub0,ubk] at *
  exact failD p ⟨i73,i16,i17,i20,i21,i22⟩ a7 (nk4 (ub_byt β) (by omega) (by omega) (.inl (by omega)))
 iterate 2 (focus (intro hA; simp only [DD] at hA ⊢; omega))
 ·intro γ0 hl0 hA hr0 hid0 hI
  simp only [DD] at hA
  obtain ⟨a0,a1,a2,a3,a4,a5,a6,a7,a8,a9,a10⟩:=hA
  simp only [DD] at hI
  obtain ⟨i74,i17,i22,i21,i20,i16,i73⟩:=hI
  simp only [ub0,ubk] at *
  exact failD p ⟨i73,i16,i17,i20,i21,i22⟩ a10 (nk4 (ub_byt β) (by omega) (by omega) (.inr (.inl a0)))
 iterate 2 (focus (intro hA; simp only [DD] at hA ⊢; omega))
 ·intro γ0 hl0 hA hr0 hid0 hI
  simp only [DD] at hA
  obtain ⟨a0,a1,a2,a3,a4,a5,a6,a7,a8,a9,a10,a11,a12,a13⟩:=hA
  simp only [DD] at hI
  obtain ⟨i74,i17,i22,i21,i20,i16,i73⟩:=hI
  simp only [ub0,ubk] at *
  exact failD p ⟨i73,i16,i17,i20,i21,i22⟩ a13 (nk4 (ub_byt β) (by omega) (by omega) (.inr (.inr (.inl a0))))
 iterate 2 (focus (intro hA; simp only [DD] at hA ⊢; omega))
 ·intro γ0 hl0 hA hr0 hid0 hI
  simp only [DD] at hA
  obtain ⟨a0,a1,a2,a3,a4,a5,a6,a7,a8,a9,a10,a11,a12,a13,a14,a15,a16⟩:=hA
  simp only [DD] at hI
  obtain ⟨i74,i17,i22,i21,i20,i16,i73⟩:=hI
  simp only [ub0,ubk] at *
  exact failD p ⟨i73,i16,i17,i20,i21,i22⟩ a16 (nk4 (ub_byt β) (by omega) (by omega) (.inr (.inr (.inr (.inl a0)))))
 ·intro γ0 hl0 hA hr0 hid0 hI
  simp only [DD] at hA
  obtain ⟨a0,a1,a2,a3,a4,a5,a6,a7,a8,a9,a10,a11,a12,a13,a14,a15,a16,a17⟩:=hA
  simp only [DD] at hI
  obtain ⟨i74,i17,i22,i21,i20,i16,i73⟩:=hI
  simp only [ub0,ubk] at *
  exact failD p ⟨i73,i16,i17,i20,i21,i22⟩ a17 (nk4 (ub_byt β) (by omega) (by omega) (.inr (.inr (.inr (.inr a0)))))
 iterate 3 (focus (intro hA; simp only [DD] at hA ⊢; omega))
 ·intro δ0 γ0 hl0 hA hr0 hid0 hI
  simp only [DD,aL hβ,Nat.reduceLT,Nat.reduceLeDiff,Nat.reduceSub] at hA
  obtain ⟨a0,a1,a2,a3,a4,a5,a6,a7,a8,a9,a10,a11,a12,a13,a14,a15,a16,a17,a18,a19,a20,a21⟩:=hA
  simp only [DD,aL hβ,Nat.reduceLT,Nat.reduceLeDiff,Nat.reduceSub] at hI
  obtain ⟨i33,i74,i17,i23,i32,i31,i22,i21,i20,i16,i73⟩:=hI
  simp only [ub0,ubk] at *
  exact finD (O:=O6 β) p ⟨i73,i16,i17,i20,i21,i22⟩ a21 (st4 (ub_byt β) (by omega) (by omega) (by omega) a11 a8 a5 ⟨a3,a4⟩) i23 (by omega) (i33.trans (List.append_assoc _ _ _)) (by rw [i31]; unfold O6; simp; try omega) (by rw [i31,i32,i33]; constructor <;> (try simp) <;> (try omega))
 ·intro γ0 hl0 hA hr0 hid0 hI
  simp only [DD] at hA
  obtain ⟨a0,a1,a2,a3,a4,a5⟩:=hA
  simp only [DD] at hI
  obtain ⟨i74,i17,i22,i21,i20,i16,i73⟩:=hI
  simp only [ub0,ubk] at *
  exact failD p ⟨i73,i16,i17,i20,i21,i22⟩ a5 (nk0 (ub_byt β) (by omega) (by omega))
 ·intro γ0 hl0 hA hr0 hid0 hI
  simp only [DD] at hA
  have a0:=hA
  simp only [DD] at hI
  obtain ⟨i33,i74,i17,i23,i32,i31,i30,i22,i21,i20,i16,i73⟩:=hI
  exact ⟨⟨i73,i16,i17,i20,i21,i22⟩,by omega,i30,i33,i31,i32⟩
set_option maxRecDepth 100000
inductive DC (e:Int):List UInt8→List Int→List UInt8→Prop
 | nil (R:List UInt8):DC e R [] R
 | cons {R R':List UInt8} {v w:Int} {cs:List Int}:d1 e R=.ok v w→1≤w→w≤R.length→DC e (R.drop w.toNat) cs R'→DC e R (v::cs) R'
def BadC (e:Int) (R:List UInt8):Prop:=∃ cs R',DC e R cs R'∧R'≠[]∧Nok (d1 e R')
theorem BadC.cons {e:Int} {R:List UInt8} {v w:Int} (h:d1 e R=.ok v w) (h1:1≤w) (h2:w≤R.length) (g:BadC e (R.drop w.toNat)):BadC e R:=by
 obtain ⟨cs,R',a,b,c⟩:=g
 exact ⟨v::cs,R',.cons h h1 h2 a,b,c⟩
structure Num6 (O:List Int) (γ:Ren):Prop where
 b:O6 γ=O
 l:gI γ 31=(O.length:Int)
 c:gI γ 31≤gI γ 32
 d:gI γ 32≤(gN γ 33).length
theorem p6_next {β γ:Ren} {w:Int} (p:P6 β) (hn:γ.length=90) (s:SmD β γ) (hw:1≤w) (hw2:w≤gI β 21 - gI β 23) (h:gI γ 23=gI β 23 + w):P6 γ:=by
 obtain ⟨s1,s2,s3,s4,s5,s6⟩:=s
 have:=p.i23; have:=p.i20; have:=p.i21
 exact ⟨p.n.of s1 hn,by omega,by omega,by rw [s3,s4,s5]; exact p.le,by omega⟩
theorem r6_next {β γ:Ren} {w:Int} (p:P6 β) (s:SmD β γ) (hw:1≤w) (h:gI γ 23=gI β 23 + w):R6 γ=(R6 β).drop w.toNat:=by
 obtain ⟨s1,s2,s3,s4,s5,s6⟩:=s
 have:=p.i23; have:=p.i20; have:=p.i21
 unfold R6
 rw [s3,s4,s5,h,List.drop_drop]
 congr 1
 omega
theorem r6_nil {β:Ren} (p:P6 β) (h:¬ gI β 23 < gI β 21):R6 β=[]:=by
 have:=R6_len p
 exact List.length_eq_zero_iff.1 (by omega)
theorem r6_ne {β:Ren} (p:P6 β) (h:gI β 23 < gI β 21):R6 β≠[]:=by
 intro h'
 have:=R6_len p
 rw [h'] at this; simp at this; omega
theorem loop6S_law {w0:W0} {Q:Exit→Act→World→Prop}:∀ (m:Nat) (O:List Int) (β:Ren) (a:Act) (w:World),(gI β 21 - gI β 23).toNat≤m→P6 β→Num6 O β→gI β 31≤gI β 23→HR w0 β t6S.heap w→FS β (ntmps 6) t6S.frame a →
    (∀ β1 a' w' cs,Ln β1→SmD β β1→DC 1 (R6 β) cs []→Num6 (O++cs) β1→HR w0 β1 t6S.heap w'→FS β1 (ntmps 6) t6S.frame a'→Q (.exit 0) a' w') →
    (∀ β1 a' w',Ln β1→SmD β β1→BadC 1 (R6 β)→HR w0 β1 t6f.heap w'→FS β1 (ntmps 6) t6f.frame a'→Q .ret a' w')→wpL Tryd.prog loop6 Q a w:=by
 intro m
 induction m with
 | zero =>
  intro O β a w hm p o h4 hH hF h1 h2
  have h5:=o.l
  refine wpL_round (wp_of_tre (E:=E6 t6S) (G:=Gd6 O6 (fun a b=>NumEq a b) β) noNum callOkG follows (by show (tre6 t6S []).Holds _ _; rw [lit_b6s_eq]; exact hold_b6s p ⟨⟨by omega,o.c⟩,o.d,h4⟩) p.n.2 hH (Facts.nil _) hF ?_ (fun r s c h=>by rcases h with h | h <;> cases h) (fun j i β1 β2 h=>h.elim) (fun r s h=>by rcases h with h | h <;> cases h) (fun f s h=>by cases h))
  intro j e tp β1 a' w' hft q1 q2 q3
  have hl:β1.length=tp.m:=by rw [q1.len]; exact heapOf_size _ _
  cases e with
  | normal=>cases hft; obtain ⟨_,h,_⟩:=q3; omega
  | ret =>
   cases hft
   obtain ⟨s,h,e1⟩:=q3
   exact h2 β1 a' w' (p.n.of s.1 hl) s ⟨[],R6 β,.nil _,r6_ne p h,e1⟩ q1 q2
  | exit id =>
   match id,hft with
   | 0,hft =>
    cases hft
    obtain ⟨s,h,e1,e2,e3,e4⟩:=q3
    exact h1 β1 a' w' [] (p.n.of s.1 hl) s (by rw [r6_nil p h]; exact .nil _) (by rw [List.append_nil]; exact ⟨by unfold O6; rw [e2,e3]; exact o.b,by rw [e3]; exact o.l,by rw [e3,e4]; exact o.c,by rw [e4,e2]; exact o.d⟩) q1 q2
 | succ m ih =>
  intro O β a w hm p o h4 hH hF h1 h2
  have h5:=o.l
  refine wpL_round (wp_of_tre (E:=E6 t6S) (G:=Gd6 O6 (fun a b=>NumEq a b) β) noNum callOkG follows (by show (tre6 t6S []).Holds _ _; rw [lit_b6s_eq]; exact hold_b6s p ⟨⟨by omega,o.c⟩,o.d,h4⟩) p.n.2 hH (Facts.nil _) hF ?_ (fun r s c h=>by rcases h with h | h <;> cases h) (fun j i β1 β2 h=>h.elim) (fun r s h=>by rcases h with h | h <;> cases h) (fun f s h=>by cases h))
  intro j e tp β1 a' w' hft q1 q2 q3
  have hl:β1.length=tp.m:=by rw [q1.len]; exact heapOf_size _ _
  cases e with
  | normal =>
   cases hft
   obtain ⟨s,h,v,wd,hd,h23,hw1,hw2,e1,e2,e3,e4⟩:=q3
   rw [o.b] at e1 e2
   have s5:=s.2.2.2.2.1
   have hrl:=R6_len p
   have hr:=r6_next p s hw1 h23
   rw [List.length_append] at e2
   simp only [List.length_singleton] at e2
   refine ih (O++[v]) β1 a' w' (by omega) (p6_next p hl s hw1 hw2 h23) ⟨e1,by rw [e2,List.length_append]; rfl,e3,e4⟩ (by omega) q1 q2 ?_ ?_
   ·intro β2 a2 w2 cs hn2 s2 dc o2 r1 r2
    refine h1 β2 a2 w2 (v::cs) hn2 (s.trans s2) (.cons hd hw1 (by omega) (by rw [← hr]; exact dc)) (by simpa using o2) r1 r2
   ·intro β2 a2 w2 hn2 s2 bc r1 r2
    exact h2 β2 a2 w2 hn2 (s.trans s2) (.cons hd hw1 (by omega) (by rw [← hr]; exact bc)) r1 r2
  | ret =>
   cases hft
   obtain ⟨s,h,e1⟩:=q3
   exact h2 β1 a' w' (p.n.of s.1 hl) s ⟨[],R6 β,.nil _,r6_ne p h,e1⟩ q1 q2
  | exit id =>
   match id,hft with
   | 0,hft =>
    cases hft
    obtain ⟨s,h,e1,e2,e3,e4⟩:=q3
    exact h1 β1 a' w' [] (p.n.of s.1 hl) s (by rw [r6_nil p h]; exact .nil _) (by rw [List.append_nil]; exact ⟨by unfold O6; rw [e2,e3]; exact o.b,by rw [e3]; exact o.l,by rw [e3,e4]; exact o.c,by rw [e4,e2]; exact o.d⟩) q1 q2
theorem loop6N_law {w0:W0} {Q:Exit→Act→World→Prop} (β:Ren) (a:Act) (w:World) (p:P6 β) (hH:HR w0 β t6N.heap w) (hF:FS β (ntmps 6) t6N.frame a)
    (h0:∀ β1 a' w',Ln β1→SmD β β1→R6 β=[]→HR w0 β1 t6N.heap w'→FS β1 (ntmps 6) t6N.frame a'→Q (.exit 0) a' w')
    (h1:∀ β1 a' w' cs,Ln β1→SmD β β1→DC 1 (R6 β) cs []→cs≠[]→Num6 cs β1→HR w0 β1 t6S.heap w'→FS β1 (ntmps 6) t6S.frame a'→Q (.exit 0) a' w')
    (h2:∀ β1 a' w',Ln β1→SmD β β1→BadC 1 (R6 β)→HR w0 β1 t6f.heap w'→FS β1 (ntmps 6) t6f.frame a'→Q .ret a' w'):wpL Tryd.prog loop6 Q a w:=by
 refine wpL_round (wp_of_tre (E:=E6 t6N) (G:=Gd6 (fun _=>[]) (fun _ _=>True) β) noNum callOkG follows (by show (tre6 t6N []).Holds _ _; rw [lit_b6n_eq]; exact hold_b6n p) p.n.2 hH (Facts.nil _) hF ?_ (fun r s c h=>by rcases h with h | h <;> cases h) (fun j i β1 β2 h=>h.elim) (fun r s h=>by rcases h with h | h <;> cases h) (fun f s h=>by cases h))
 intro j e tp β1 a' w' hft q1 q2 q3
 have hl:β1.length=tp.m:=by rw [q1.len]; exact heapOf_size _ _
 cases e with
 | normal =>
  cases hft
  obtain ⟨s,h,v,wd,hd,h23,hw1,hw2,e1,e2,e3,e4⟩:=q3
  have hrl:=R6_len p
  have hr:=r6_next p s hw1 h23
  have:=p.i23
  rw [List.nil_append] at e1 e2
  refine loop6S_law _ [v] β1 a' w' (Nat.le_refl _) (p6_next p hl s hw1 hw2 h23) ⟨e1,e2,e3,e4⟩ (by rw [e2]; simp; omega) q1 q2 ?_ ?_
  ·intro β2 a2 w2 cs hn2 s2 dc o2 r1 r2
   exact h1 β2 a2 w2 (v::cs) hn2 (s.trans s2) (.cons hd hw1 (by omega) (by rw [← hr]; exact dc)) (by simp) (by simpa using o2) r1 r2
  ·intro β2 a2 w2 hn2 s2 bc r1 r2
   exact h2 β2 a2 w2 hn2 (s.trans s2) (.cons hd hw1 (by omega) (by rw [← hr]; exact bc)) r1 r2
 | ret =>
  cases hft
  obtain ⟨s,h,e1⟩:=q3
  exact h2 β1 a' w' (p.n.of s.1 hl) s ⟨[],R6 β,.nil _,r6_ne p h,e1⟩ q1 q2
 | exit id =>
  match id,hft with
  | 0,hft =>
   cases hft
   obtain ⟨s,h,_⟩:=q3
   exact h0 β1 a' w' (p.n.of s.1 hl) s (r6_nil p h) q1 q2
def t6:Tpl:={ m:=90,F:=[(0,sArg)],H:=[(16,txtB),(73,eofB)],G:=[73] }
def t6a:Tpl:={ m:=90,F:=[(0,sArg),(2,.slice none 0 0),(3,sB (x 84))],H:=[(16,txtB),(73,eofB)],G:=[73] }
def t6b:Tpl:={ m:=90,F:=[(0,sArg),(2,sNum),(3,.bool true)],H:=[(16,txtB),(73,eofB),(30,numB)],G:=[73] }
def sm6:List (Nat × Nat):=[(16,0),(17,2),(20,1),(21,1),(22,1),(73,0)]
def sp6:CSpec:={ j:=6,n:=1,tin:=t6,outs:=[(.tuple #[.slice none 0 0,sB (x 84)],t6a,sm6),(.tuple #[sNum,.bool true],t6b,sm6)] }
def sp6L:LSpec:={ j:=3,tin:=t6N,outs:=[(.exit 0,t6N,[]),(.exit 0,t6S,[]),(.ret,t6f,[])] }
def lt6:Nat→Option LSpec:=fun n=>if n=3 then some sp6L else none
def ftab (a:Tpl) (j:Nat):AExit→Option (Nat × Tpl):=fun e=>match e with
 | .normal=>some (j,a)
 | .ret=>some (j,a)
 | _=>none
noncomputable def EF6:Env:=EG 6 (fun _=>none) (fun _=>false) (fun _=>none) lt6 (ftab t6a 0) (ftab t6b 1)
noncomputable def tref6:Tre:=tre EF6 2000 (body 6) [] [] t6.frame t6.heap
noncomputable def A6 (β:Ren):List UInt8:=((gL β 17).take (gI β 20 + gI β 21).toNat).drop (gI β 20).toNat
structure PA (β:Ren):Prop where
 n:Ln β
 i20:0≤gI β 20
 i21:0≤gI β 21∧gI β 21≤1048576
 le:gI β 20 + gI β 21≤(gL β 17).length
def Z6 (e:Int) (β γ:Ren) (j:Nat):Prop:=match j with
    | 0=>gB γ 84=true∧A6 β=[]∨gB γ 84=false∧BadC e (A6 β)
    | 1=>∃ cs,DC e (A6 β) cs []∧cs≠[]∧Num6 cs γ
    | _=>False
def GF6 (β:Ren):Goal where
 J:=fun j γ=>Ln γ∧SmD β γ∧Z6 1 β γ j
 L:=fun _ γ=>P6 γ∧SmD β γ∧gI γ 23=0
 O:=fun _ i γ γ1=>Ln γ1∧SmD γ γ1∧match i with
  | 0=>R6 γ=[]
  | 1=>∃ cs,DC 1 (R6 γ) cs []∧cs≠[]∧Num6 cs γ1
  | 2=>BadC 1 (R6 γ)
  | _=>False
 W:=fun _ c=>c=.loop loop6
theorem r6_0 {β γ:Ren} (s:SmD β γ) (h:gI γ 23=0):R6 γ=A6 β:=by
 obtain ⟨_,_,s3,s4,s5,_⟩:=s
 unfold R6 A6; rw [h,s3,s4,s5,Int.add_zero]
noncomputable abbrev loopD6:Code:=.loop loop6
theorem sm6_of {β β1:Ren} (q:SmD β β1):∀ p ∈ sm6,SmK β β1 p:=by
 intro x hx
 have hx:x ∈ [(16,0),(17,2),(20,1),(21,1),(22,1),(73,0)]:=hx
 obtain ⟨q1,q2,q3,q4,q5,q6⟩:=q
 simp only [List.mem_cons,List.not_mem_nil,or_false] at hx
 rcases hx with rfl | rfl | rfl | rfl | rfl | rfl
 ·exact q2
 ·exact q3
 ·exact q4
 ·exact q5
 ·exact q6
 ·exact q1
set_option maxRecDepth 100000
def u16 (b:Bool) (x y:Int):Int:=if b then y + x * 256 else x + y * 256
def ul16 (b:Bool):List UInt8→List Int
 | x::y::r=>u16 b x.toNat y.toNat::ul16 b r
 | _=>[]
def eb (b:Bool):Int:=if b then 3 else 2
theorem u16_rng (b:Bool) (x y:UInt8):0≤u16 b x.toNat y.toNat∧u16 b x.toNat y.toNat≤65535:=by
 have:=UInt8.toNat_lt x; have:=UInt8.toNat_lt y
 unfold u16; split <;> omega
theorem ul16_rng {b:Bool}:∀ {R:List UInt8} {x:Int},x ∈ ul16 b R→0≤x∧x≤65535
 | [],_,h=>by cases h
 | [_],_,h=>by cases h
 | x::y::r,z,h=>by
  rcases List.mem_cons.1 h with rfl | h
  ·exact u16_rng b x y
  ·exact ul16_rng h
theorem ul16_len {b:Bool}:∀ (R:List UInt8),(ul16 b R).length=R.length / 2
 | []=>rfl
 | [_]=>by simp [ul16]
 | x::y::r=>by simp only [ul16,List.length_cons,ul16_len r]; omega
theorem ia_hi {n:Int} (h:0≤n∧n≤65535):ia n 64512=n - n % 1024∧ia n 1023=n % 1024:=by
 obtain ⟨k,rfl⟩:=Int.eq_ofNat_of_zero_le h.1
 have hk:k≤65535:=by omega
 have e1:k &&& 1023=k % 1024:=Nat.and_two_pow_sub_one_eq_mod k 10
 have e2:(k &&& 64512) % 2 ^ 10=0:=by rw [Nat.and_mod_two_pow]; simp
 have e3:(k &&& 64512) / 2 ^ 10=k / 1024:=by
  rw [Nat.and_div_two_pow]
  show (k / 1024) &&& 63=k / 1024
  have:(k / 1024) &&& 63=k / 1024 % 64:=Nat.and_two_pow_sub_one_eq_mod (k / 1024) 6
  rw [this]; omega
 constructor
 ·show ((k &&& 64512:Nat):Int)=(k:Int) - (k:Int) % 1024
  omega
 ·show ((k &&& 1023:Nat):Int)=(k:Int) % 1024
  omega
theorem d1_un (b:Bool) (x y:UInt8) (r:List UInt8):d1 (eb b) (x::y::r)=dcd16 (r.length + 2) (u16 b x.toNat y.toNat) (u16 b (r.getD 0 0).toNat (r.getD 1 0).toNat):=by
 unfold d1 dcd eb
 have e0:bt (x::y::r) 0=(x.toNat:Int):=rfl
 have e1:bt (x::y::r) 1=(y.toNat:Int):=rfl
 have e2:bt (x::y::r) 2=((r.getD 0 0).toNat:Int):=by unfold bt; cases r <;> rfl
 have e3:bt (x::y::r) 3=((r.getD 1 0).toNat:Int):=by unfold bt; cases r with
  | nil=>rfl
  | cons a r=>cases r <;> rfl
 have el:((x::y::r).length:Int)=(r.length:Int) + 2:=by simp only [List.length_cons]; omega
 rw [e0,e1,e2,e3,el]
 cases b
 ·rfl
 ·rfl
theorem d16_low {n u v:Int} (hu:0≤u∧u≤65535) (h:56320≤u∧u < 57344):Nok (dcd16 n u v):=by
 have:=(ia_hi hu).1
 unfold dcd16
 split
 ·exact .more
 rw [if_pos (by omega)]; exact .bad
theorem d16_pair {n u v:Int} (hu:0≤u∧u≤65535) (hv:0≤v∧v≤65535) (h:55296≤u∧u < 56320) (hn:4≤n) (h2:56320≤v∧v < 57344):dcd16 n u v=.ok (65536 + (u - 55296) * 1024 + v - 56320) 4:=by
 obtain ⟨a1,a2⟩:=ia_hi hu
 obtain ⟨b1,b2⟩:=ia_hi hv
 unfold dcd16
 rw [if_neg (by omega),if_neg (by omega),if_pos (by omega),if_neg (by omega),if_pos (by omega),a2,b2]
 congr 1
 show u % 1024 * 2 ^ 10 + 65536 + v % 1024=_
 omega
theorem d16_nopair {n u v:Int} (hu:0≤u∧u≤65535) (hv:0≤v∧v≤65535) (h:55296≤u∧u < 56320) (h2:n < 4∨v < 56320∨57344≤v):Nok (dcd16 n u v):=by
 obtain ⟨a1,a2⟩:=ia_hi hu
 obtain ⟨b1,b2⟩:=ia_hi hv
 unfold dcd16
 split
 ·exact .more
 rw [if_neg (by omega),if_pos (by omega)]
 split
 ·exact .more
 rw [if_neg (by omega)]
 exact .bad
theorem d16_one {n u v:Int} (hu:0≤u∧u≤65535) (hn:2≤n) (h:u < 55296∨57344≤u):dcd16 n u v=.ok u 2:=by
 obtain ⟨a1,a2⟩:=ia_hi hu
 unfold dcd16
 rw [if_neg (by omega),if_neg (by omega),if_neg (by omega)]
theorem d16_width {n u v c w:Int} (h:dcd16 n u v=.ok c w):w=2∧2≤n∨w=4∧4≤n:=by
 unfold dcd16 at h
 split at h
 ·cases h
 split at h
 ·cases h
 split at h
 ·split at h
  ·cases h
  split at h
  ·cases h; exact .inr ⟨rfl,by omega⟩
  ·cases h
 ·cases h; exact .inl ⟨rfl,by omega⟩
theorem bad_odd (b:Bool):∀ (n:Nat) (R:List UInt8),R.length≤n→R.length % 2=1→BadC (eb b) R:=by
 intro n
 induction n with
 | zero=>intro R h1 h2; omega
 | succ n ih =>
  intro R h1 h2
  match R,h1,h2 with
  | [x],h1,h2=>exact ⟨[],[x],.nil _,by simp,by
      unfold d1 dcd eb
      cases b
      ·exact .more
      ·exact .more⟩
  | x::y::r,h1,h2 =>
   simp only [List.length_cons] at h1 h2
   cases hd:d1 (eb b) (x::y::r) with
   | more=>exact ⟨[],_,.nil _,by simp,by rw [hd]; exact .more⟩
   | bad=>exact ⟨[],_,.nil _,by simp,by rw [hd]; exact .bad⟩
   | ok c w =>
    have hd':=hd
    rw [d1_un] at hd'
    have hw:=d16_width hd'
    have hw1:1≤w:=by omega
    have hw2:w≤((x::y::r).length:Int):=by simp only [List.length_cons]; omega
    refine BadC.cons hd hw1 hw2 (ih _ ?_ ?_)
    ·rw [List.length_drop]; simp only [List.length_cons]; omega
    ·rw [List.length_drop]; simp only [List.length_cons]; omega
end U
