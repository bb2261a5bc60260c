-- the statement of this claim: see YtoamgocecoiggaaDoorRw
import Derived.Test.YtoamgocecoiggaaDoorM35
set_option linter.unusedVariables false
set_option linter.unusedSimpArgs false
open Go Go.SM Go.Proofs
namespace U
set_option maxRecDepth 100000
set_option maxHeartbeats 0
theorem hold_kn1 {β:Ren} (p:KP β) (r:RK β) (hw:wd (bb β)=1):lit_kn1.Holds (GK ON β) β:=by
 unfold lit_kn1
 have hβ:=p.n.1
 obtain ⟨x75,x76,x8,x77,x78⟩:=r
 have r:RK β:=⟨x75,x76,x8,x77,x78⟩
 have y1:=p.buf; have y2:=p.le; have y3:=p.un; have y4:=p.ix; have y5:=p.co
 rw [hw] at y2
 refine (need_o hβ ?_ (need_o hβ ?_ (fork_of (need_o hβ ?_ (need_o hβ ?_ (need_o hβ ?_ (need_o hβ ?_ (leaf_gen opK hβ (by kernel_rfl) (by kernel_rfl) ?_))))) (need_o hβ ?_ (need_o hβ ?_ (need_o hβ ?_ (need_o hβ ?_ (leaf_gen opK hβ (by kernel_rfl) (by kernel_rfl) ?_))))))))
 ·intro hA
  simp only [DD] at hA
  obtain ⟨a0,a1⟩:=hA
  simp only [DD]
  try simp only [LL]
  omega
 ·intro hA
  simp only [DD] at hA
  obtain ⟨a0,a1,a2⟩:=hA
  simp only [DD]
  try simp only [LL]
  omega
 ·intro hA
  simp only [DD] at hA
  obtain ⟨a0,a1,a2,a3,a4,a5⟩:=hA
  simp only [DD]
  try simp only [LL]
  omega
 ·intro hA
  simp only [DD] at hA
  obtain ⟨a0,a1,a2,a3,a4,a5,a6⟩:=hA
  simp only [DD]
  try simp only [LL]
  omega
 ·intro hA
  simp only [DD] at hA
  obtain ⟨a0,a1,a2,a3,a4,a5,a6,a7⟩:=hA
  simp only [DD]
  try simp only [LL]
  omega
 ·intro hA
  simp only [DD] at hA
  obtain ⟨a0,a1,a2,a3,a4,a5,a6,a7,a8⟩:=hA
  simp only [DD]
  try simp only [LL]
  omega
 ·intro δ0 γ0 hl0 hA hr0 hid0 hI
  simp only [DD,aL hβ,Nat.reduceLT,Nat.reduceLeDiff,Nat.reduceSub] at hA
  obtain ⟨a0,a1,a2,a3,a4,a5,a6,a7,a8,a9⟩:=hA
  simp only [DD,aL hβ,Nat.reduceLT,Nat.reduceLeDiff,Nat.reduceSub] at hI
  obtain ⟨i82,i74,i3,i78,i77,i39,i8,i76,i75,i1,i81,i80,i0,i73⟩:=hI
  have s:KSm β γ0:=⟨i0,i1,i73,i74,i3,i75,hid0⟩
  have c1:=chunk1 p r hw
  exact ⟨s,by rw [hw]; exact i76,by omega,i77,i78,by rw [i82,i80,hw,c1]; rfl,by rw [i80,hw]; rfl,by rw [i81,i82]; simp⟩
 ·intro hA
  simp only [DD] at hA
  obtain ⟨a0,a1,a2,a3,a4⟩:=hA
  simp only [DD]
  try simp only [LL]
  omega
 ·intro hA
  simp only [DD] at hA
  obtain ⟨a0,a1,a2,a3,a4,a5⟩:=hA
  simp only [DD]
  try simp only [LL]
  omega
 ·intro hA
  simp only [DD] at hA
  obtain ⟨a0,a1,a2,a3,a4,a5,a6⟩:=hA
  simp only [DD]
  try simp only [LL]
  omega
 ·intro hA
  simp only [DD] at hA
  obtain ⟨a0,a1,a2,a3,a4,a5,a6,a7⟩:=hA
  simp only [DD]
  try simp only [LL]
  omega
 ·intro δ0 γ0 hl0 hA hr0 hid0 hI
  simp only [DD,aL hβ,Nat.reduceLT,Nat.reduceLeDiff,Nat.reduceSub] at hA
  obtain ⟨a0,a1,a2,a3,a4,a5,a6,a7,a8⟩:=hA
  simp only [DD,aL hβ,Nat.reduceLT,Nat.reduceLeDiff,Nat.reduceSub] at hI
  obtain ⟨i82,i74,i3,i78,i77,i8,i76,i75,i1,i81,i80,i0,i73⟩:=hI
  have s:KSm β γ0:=⟨i0,i1,i73,i74,i3,i75,hid0⟩
  have c1:=chunk1 p r hw
  exact ⟨s,by rw [hw]; exact i76,by omega,i77,i78,by rw [i82,i80,hw,c1]; rfl,by rw [i80,hw]; rfl,by rw [i81,i82]; simp⟩
theorem hold_kn2 {β:Ren} (p:KP β) (r:RK β) (hw:wd (bb β)=2):lit_kn2.Holds (GK ON β) β:=by
 unfold lit_kn2
 have hβ:=p.n.1
 obtain ⟨x75,x76,x8,x77,x78⟩:=r
 have r:RK β:=⟨x75,x76,x8,x77,x78⟩
 have y1:=p.buf; have y2:=p.le; have y3:=p.un; have y4:=p.ix; have y5:=p.co
 rw [hw] at y2
 refine (need_o hβ ?_ (need_o hβ ?_ (fork_of (need_o hβ ?_ (need_o hβ ?_ (need_o hβ ?_ (need_o hβ ?_ (need_o hβ ?_ (need_o hβ ?_ (need_o hβ ?_ (need_o hβ ?_ (need_o hβ ?_ (leaf_gen opK hβ (by kernel_rfl) (by kernel_rfl) ?_)))))))))) (need_o hβ ?_ (need_o hβ ?_ (need_o hβ ?_ (need_o hβ ?_ (need_o hβ ?_ (need_o hβ ?_ (need_o hβ ?_ (need_o hβ ?_ (need_o hβ ?_ (leaf_gen opK hβ (by kernel_rfl) (by kernel_rfl) ?_)))))))))))))
 ·intro hA
  simp only [DD] at hA
  obtain ⟨a0,a1,a2⟩:=hA
  simp only [DD]
  try simp only [LL]
  omega
 ·intro hA
  simp only [DD] at hA
  obtain ⟨a0,a1,a2,a3⟩:=hA
  simp only [DD]
  try simp only [LL]
  omega
 ·intro hA
  simp only [DD] at hA
  obtain ⟨a0,a1,a2,a3,a4,a5,a6⟩:=hA
  simp only [DD]
  try simp only [LL]
  omega
 ·intro hA
  simp only [DD] at hA
  obtain ⟨a0,a1,a2,a3,a4,a5,a6,a7⟩:=hA
  simp only [DD]
  try simp only [LL]
  omega
 ·intro hA
  simp only [DD] at hA
  obtain ⟨a0,a1,a2,a3,a4,a5,a6,a7,a8⟩:=hA
  simp only [DD]
  try simp only [LL]
  omega
 ·intro hA
  simp only [DD] at hA
  obtain ⟨a0,a1,a2,a3,a4,a5,a6,a7,a8,a9⟩:=hA
  simp only [DD]
  try simp only [LL]
  omega
 ·intro hA
  simp only [DD] at hA
  obtain ⟨a0,a1,a2,a3,a4,a5,a6,a7,a8,a9,a10⟩:=hA
  simp only [DD]
  try simp only [LL]
  omega
 ·intro hA
  simp only [DD] at hA
  obtain ⟨a0,a1,a2,a3,a4,a5,a6,a7,a8,a9,a10,a11⟩:=hA
  simp only [DD]
  try simp only [LL]
  omega
 ·intro hA
  simp only [DD] at hA
  obtain ⟨a0,a1,a2,a3,a4,a5,a6,a7,a8,a9,a10,a11,a12⟩:=hA
  simp only [DD]
  try simp only [LL]
  omega
 ·intro hA
  simp only [DD] at hA
  obtain ⟨a0,a1,a2,a3,a4,a5,a6,a7,a8,a9,a10,a11,a12,a13⟩:=hA
  simp only [DD]
  try simp only [LL]
  omega
 ·intro hA
  simp only [DD] at hA
  obtain ⟨a0,a1,a2,a3,a4,a5,a6,a7,a8,a9,a10,a11,a12,a13,a14⟩:=hA
  simp only [DD]
  try simp only [LL]
  omega
 ·intro δ0 γ0 hl0 hA hr0 hid0 hI
  simp only [DD,aL hβ,Nat.reduceLT,Nat.reduceLeDiff,Nat.reduceSub] at hA
  obtain ⟨a0,a1,a2,a3,a4,a5,a6,a7,a8,a9,a10,a11,a12,a13,a14,a15⟩:=hA
  simp only [DD,aL hβ,Nat.reduceLT,Nat.reduceLeDiff,Nat.reduceSub] at hI
  obtain ⟨i82,i74,i3,i78,i77,i39,i8,i76,i75,i1,i81,i80,i0,i73⟩:=hI
  have s:KSm β γ0:=⟨i0,i1,i73,i74,i3,i75,hid0⟩
  have cl:=chunk_len p r
  rw [hw] at cl
  refine ⟨s,by rw [hw]; exact i76,by omega,i77,i78,?_,by rw [i80,cl,hw]; simp [ON],by rw [i81,i82,List.length_append]; omega⟩
  rw [i82,i80,hw,Int.toNat_natCast,List.take_append_of_le_length (Nat.le_refl _),List.take_length]; rfl
 ·intro hA
  simp only [DD] at hA
  obtain ⟨a0,a1,a2,a3,a4,a5⟩:=hA
  simp only [DD]
  try simp only [LL]
  omega
 ·intro hA
  simp only [DD] at hA
  obtain ⟨a0,a1,a2,a3,a4,a5,a6⟩:=hA
  simp only [DD]
  try simp only [LL]
  omega
 ·intro hA
  simp only [DD] at hA
  obtain ⟨a0,a1,a2,a3,a4,a5,a6,a7⟩:=hA
  simp only [DD]
  try simp only [LL]
  omega
 ·intro hA
  simp only [DD] at hA
  obtain ⟨a0,a1,a2,a3,a4,a5,a6,a7,a8⟩:=hA
  simp only [DD]
  try simp only [LL]
  omega
 ·intro hA
  simp only [DD] at hA
  obtain ⟨a0,a1,a2,a3,a4,a5,a6,a7,a8,a9⟩:=hA
  simp only [DD]
  try simp only [LL]
  omega
 ·intro hA
  simp only [DD] at hA
  obtain ⟨a0,a1,a2,a3,a4,a5,a6,a7,a8,a9,a10⟩:=hA
  simp only [DD]
  try simp only [LL]
  omega
 ·intro hA
  simp only [DD] at hA
  obtain ⟨a0,a1,a2,a3,a4,a5,a6,a7,a8,a9,a10,a11⟩:=hA
  simp only [DD]
  try simp only [LL]
  omega
 ·intro hA
  simp only [DD] at hA
  obtain ⟨a0,a1,a2,a3,a4,a5,a6,a7,a8,a9,a10,a11,a12⟩:=hA
  simp only [DD]
  try simp only [LL]
  omega
 ·intro hA
  simp only [DD] at hA
  obtain ⟨a0,a1,a2,a3,a4,a5,a6,a7,a8,a9,a10,a11,a12,a13⟩:=hA
  simp only [DD]
  try simp only [LL]
  omega
 ·intro δ0 γ0 hl0 hA hr0 hid0 hI
  simp only [DD,aL hβ,Nat.reduceLT,Nat.reduceLeDiff,Nat.reduceSub] at hA
  obtain ⟨a0,a1,a2,a3,a4,a5,a6,a7,a8,a9,a10,a11,a12,a13,a14⟩:=hA
  simp only [DD,aL hβ,Nat.reduceLT,Nat.reduceLeDiff,Nat.reduceSub] at hI
  obtain ⟨i82,i74,i3,i78,i77,i8,i76,i75,i1,i81,i80,i0,i73⟩:=hI
  have s:KSm β γ0:=⟨i0,i1,i73,i74,i3,i75,hid0⟩
  have cl:=chunk_len p r
  rw [hw] at cl
  refine ⟨s,by rw [hw]; exact i76,by omega,i77,i78,?_,by rw [i80,cl,hw]; simp [ON],by rw [i81,i82,List.length_append]; omega⟩
  rw [i82,i80,hw,Int.toNat_natCast,List.take_append_of_le_length (Nat.le_refl _),List.take_length]; rfl
theorem hold_kn3 {β:Ren} (p:KP β) (r:RK β) (hw:wd (bb β)=3):lit_kn3.Holds (GK ON β) β:=by
 unfold lit_kn3
 have hβ:=p.n.1
 obtain ⟨x75,x76,x8,x77,x78⟩:=r
 have r:RK β:=⟨x75,x76,x8,x77,x78⟩
 have y1:=p.buf; have y2:=p.le; have y3:=p.un; have y4:=p.ix; have y5:=p.co
 rw [hw] at y2
 refine (need_o hβ ?_ (need_o hβ ?_ (fork_of (need_o hβ ?_ (need_o hβ ?_ (need_o hβ ?_ (need_o hβ ?_ (need_o hβ ?_ (need_o hβ ?_ (need_o hβ ?_ (need_o hβ ?_ (need_o hβ ?_ (leaf_gen opK hβ (by kernel_rfl) (by kernel_rfl) ?_)))))))))) (need_o hβ ?_ (need_o hβ ?_ (need_o hβ ?_ (need_o hβ ?_ (need_o hβ ?_ (need_o hβ ?_ (need_o hβ ?_ (need_o hβ ?_ (need_o hβ ?_ (leaf_gen opK hβ (by kernel_rfl) (by kernel_rfl) ?_)))))))))))))
 ·intro hA
  simp only [DD] at hA
  obtain ⟨a0,a1,a2,a3⟩:=hA
  simp only [DD]
  try simp only [LL]
  omega
 ·intro hA
  simp only [DD] at hA
  obtain ⟨a0,a1,a2,a3,a4⟩:=hA
  simp only [DD]
  try simp only [LL]
  omega
 ·intro hA
  simp only [DD] at hA
  obtain ⟨a0,a1,a2,a3,a4,a5,a6,a7⟩:=hA
  simp only [DD]
  try simp only [LL]
  omega
 ·intro hA
  simp only [DD] at hA
  obtain ⟨a0,a1,a2,a3,a4,a5,a6,a7,a8⟩:=hA
  simp only [DD]
  try simp only [LL]
  omega
 ·intro hA
  simp only [DD] at hA
  obtain ⟨a0,a1,a2,a3,a4,a5,a6,a7,a8,a9⟩:=hA
  simp only [DD]
  try simp only [LL]
  omega
 ·intro hA
  simp only [DD] at hA
  obtain ⟨a0,a1,a2,a3,a4,a5,a6,a7,a8,a9,a10⟩:=hA
  simp only [DD]
  try simp only [LL]
  omega
 ·intro hA
  simp only [DD] at hA
  obtain ⟨a0,a1,a2,a3,a4,a5,a6,a7,a8,a9,a10,a11⟩:=hA
  simp only [DD]
  try simp only [LL]
  omega
 ·intro hA
  simp only [DD] at hA
  obtain ⟨a0,a1,a2,a3,a4,a5,a6,a7,a8,a9,a10,a11,a12⟩:=hA
  simp only [DD]
  try simp only [LL]
  omega
 ·intro hA
  simp only [DD] at hA
  obtain ⟨a0,a1,a2,a3,a4,a5,a6,a7,a8,a9,a10,a11,a12,a13⟩:=hA
  simp only [DD]
  try simp only [LL]
  omega
 ·intro hA
  simp only [DD] at hA
  obtain ⟨a0,a1,a2,a3,a4,a5,a6,a7,a8,a9,a10,a11,a12,a13,a14⟩:=hA
  simp only [DD]
  try simp only [LL]
  omega
 ·intro hA
  simp only [DD] at hA
  obtain ⟨a0,a1,a2,a3,a4,a5,a6,a7,a8,a9,a10,a11,a12,a13,a14,a15⟩:=hA
  simp only [DD]
  try simp only [LL]
  omega
 ·intro δ0 γ0 hl0 hA hr0 hid0 hI
  simp only [DD,aL hβ,Nat.reduceLT,Nat.reduceLeDiff,Nat.reduceSub] at hA
  obtain ⟨a0,a1,a2,a3,a4,a5,a6,a7,a8,a9,a10,a11,a12,a13,a14,a15,a16⟩:=hA
  simp only [DD,aL hβ,Nat.reduceLT,Nat.reduceLeDiff,Nat.reduceSub] at hI
  obtain ⟨i82,i74,i3,i78,i77,i39,i8,i76,i75,i1,i81,i80,i0,i73⟩:=hI
  have s:KSm β γ0:=⟨i0,i1,i73,i74,i3,i75,hid0⟩
  have cl:=chunk_len p r
  rw [hw] at cl
  refine ⟨s,by rw [hw]; exact i76,by omega,i77,i78,?_,by rw [i80,cl,hw]; simp [ON],by rw [i81,i82,List.length_append]; omega⟩
  rw [i82,i80,hw,Int.toNat_natCast,List.take_append_of_le_length (Nat.le_refl _),List.take_length]; rfl
 ·intro hA
  simp only [DD] at hA
  obtain ⟨a0,a1,a2,a3,a4,a5,a6⟩:=hA
  simp only [DD]
  try simp only [LL]
  omega
 ·intro hA
  simp only [DD] at hA
  obtain ⟨a0,a1,a2,a3,a4,a5,a6,a7⟩:=hA
  simp only [DD]
  try simp only [LL]
  omega
 ·intro hA
  simp only [DD] at hA
  obtain ⟨a0,a1,a2,a3,a4,a5,a6,a7,a8⟩:=hA
  simp only [DD]
  try simp only [LL]
  omega
 ·intro hA
  simp only [DD] at hA
  obtain ⟨a0,a1,a2,a3,a4,a5,a6,a7,a8,a9⟩:=hA
  simp only [DD]
  try simp only [LL]
  omega
 ·intro hA
  simp only [DD] at hA
  obtain ⟨a0,a1,a2,a3,a4,a5,a6,a7,a8,a9,a10⟩:=hA
  simp only [DD]
  try simp only [LL]
  omega
 ·intro hA
  simp only [DD] at hA
  obtain ⟨a0,a1,a2,a3,a4,a5,a6,a7,a8,a9,a10,a11⟩:=hA
  simp only [DD]
  try simp only [LL]
  omega
 ·intro hA
  simp only [DD] at hA
  obtain ⟨a0,a1,a2,a3,a4,a5,a6,a7,a8,a9,a10,a11,a12⟩:=hA
  simp only [DD]
  try simp only [LL]
  omega
 ·intro hA
  simp only [DD] at hA
  obtain ⟨a0,a1,a2,a3,a4,a5,a6,a7,a8,a9,a10,a11,a12,a13⟩:=hA
  simp only [DD]
  try simp only [LL]
  omega
 ·intro hA
  simp only [DD] at hA
  obtain ⟨a0,a1,a2,a3,a4,a5,a6,a7,a8,a9,a10,a11,a12,a13,a14⟩:=hA
  simp only [DD]
  try simp only [LL]
  omega
 ·intro δ0 γ0 hl0 hA hr0 hid0 hI
  simp only [DD,aL hβ,Nat.reduceLT,Nat.reduceLeDiff,Nat.reduceSub] at hA
  obtain ⟨a0,a1,a2,a3,a4,a5,a6,a7,a8,a9,a10,a11,a12,a13,a14,a15⟩:=hA
  simp only [DD,aL hβ,Nat.reduceLT,Nat.reduceLeDiff,Nat.reduceSub] at hI
  obtain ⟨i82,i74,i3,i78,i77,i8,i76,i75,i1,i81,i80,i0,i73⟩:=hI
  have s:KSm β γ0:=⟨i0,i1,i73,i74,i3,i75,hid0⟩
  have cl:=chunk_len p r
  rw [hw] at cl
  refine ⟨s,by rw [hw]; exact i76,by omega,i77,i78,?_,by rw [i80,cl,hw]; simp [ON],by rw [i81,i82,List.length_append]; omega⟩
  rw [i82,i80,hw,Int.toNat_natCast,List.take_append_of_le_length (Nat.le_refl _),List.take_length]; rfl
theorem hold_kn4 {β:Ren} (p:KP β) (r:RK β) (hw:wd (bb β)=4):lit_kn4.Holds (GK ON β) β:=by
 unfold lit_kn4
 have hβ:=p.n.1
 obtain ⟨x75,x76,x8,x77,x78⟩:=r
 have r:RK β:=⟨x75,x76,x8,x77,x78⟩
 have y1:=p.buf; have y2:=p.le; have y3:=p.un; have y4:=p.ix; have y5:=p.co
 rw [hw] at y2
 refine (need_o hβ ?_ (need_o hβ ?_ (fork_of (need_o hβ ?_ (need_o hβ ?_ (need_o hβ ?_ (need_o hβ ?_ (need_o hβ ?_ (need_o hβ ?_ (need_o hβ ?_ (need_o hβ ?_ (need_o hβ ?_ (leaf_gen opK hβ (by kernel_rfl) (by kernel_rfl) ?_)))))))))) (need_o hβ ?_ (need_o hβ ?_ (need_o hβ ?_ (need_o hβ ?_ (need_o hβ ?_ (need_o hβ ?_ (need_o hβ ?_ (need_o hβ ?_ (need_o hβ ?_ (leaf_gen opK hβ (by kernel_rfl) (by kernel_rfl) ?_)))))))))))))
 ·intro hA
  simp only [DD] at hA
  obtain ⟨a0,a1,a2,a3,a4⟩:=hA
  simp only [DD]
  try simp only [LL]
  omega
 ·intro hA
  simp only [DD] at hA
  obtain ⟨a0,a1,a2,a3,a4,a5⟩:=hA
  simp only [DD]
  try simp only [LL]
  omega
 ·intro hA
  simp only [DD] at hA
  obtain ⟨a0,a1,a2,a3,a4,a5,a6,a7,a8⟩:=hA
  simp only [DD]
  try simp only [LL]
  omega
 ·intro hA
  simp only [DD] at hA
  obtain ⟨a0,a1,a2,a3,a4,a5,a6,a7,a8,a9⟩:=hA
  simp only [DD]
  try simp only [LL]
  omega
 ·intro hA
  simp only [DD] at hA
  obtain ⟨a0,a1,a2,a3,a4,a5,a6,a7,a8,a9,a10⟩:=hA
  simp only [DD]
  try simp only [LL]
  omega
 ·intro hA
  simp only [DD] at hA
  obtain ⟨a0,a1,a2,a3,a4,a5,a6,a7,a8,a9,a10,a11⟩:=hA
  simp only [DD]
  try simp only [LL]
  omega
 ·intro hA
  simp only [DD] at hA
  obtain ⟨a0,a1,a2,a3,a4,a5,a6,a7,a8,a9,a10,a11,a12⟩:=hA
  simp only [DD]
  try simp only [LL]
  omega
 ·intro hA
  simp only [DD] at hA
  obtain ⟨a0,a1,a2,a3,a4,a5,a6,a7,a8,a9,a10,a11,a12,a13⟩:=hA
  simp only [DD]
  try simp only [LL]
  omega
 ·intro hA
  simp only [DD] at hA
  obtain ⟨a0,a1,a2,a3,a4,a5,a6,a7,a8,a9,a10,a11,a12,a13,a14⟩:=hA
  simp only [DD]
  try simp only [LL]
  omega
 ·intro hA
  simp only [DD] at hA
  obtain ⟨a0,a1,a2,a3,a4,a5,a6,a7,a8,a9,a10,a11,a12,a13,a14,a15⟩:=hA
  simp only [DD]
  try simp only [LL]
  omega
 ·intro hA
  simp only [DD] at hA
  obtain ⟨a0,a1,a2,a3,a4,a5,a6,a7,a8,a9,a10,a11,a12,a13,a14,a15,a16⟩:=hA
  simp only [DD]
  try simp only [LL]
  omega
 ·intro δ0 γ0 hl0 hA hr0 hid0 hI
  simp only [DD,aL hβ,Nat.reduceLT,Nat.reduceLeDiff,Nat.reduceSub] at hA
  obtain ⟨a0,a1,a2,a3,a4,a5,a6,a7,a8,a9,a10,a11,a12,a13,a14,a15,a16,a17⟩:=hA
  simp only [DD,aL hβ,Nat.reduceLT,Nat.reduceLeDiff,Nat.reduceSub] at hI
  obtain ⟨i82,i74,i3,i78,i77,i39,i8,i76,i75,i1,i81,i80,i0,i73⟩:=hI
  have s:KSm β γ0:=⟨i0,i1,i73,i74,i3,i75,hid0⟩
  have cl:=chunk_len p r
  rw [hw] at cl
  refine ⟨s,by rw [hw]; exact i76,by omega,i77,i78,?_,by rw [i80,cl,hw]; simp [ON],by rw [i81,i82,List.length_append]; omega⟩
  rw [i82,i80,hw,Int.toNat_natCast,List.take_append_of_le_length (Nat.le_refl _),List.take_length]; rfl
 ·intro hA
  simp only [DD] at hA
  obtain ⟨a0,a1,a2,a3,a4,a5,a6,a7⟩:=hA
  simp only [DD]
  try simp only [LL]
  omega
 ·intro hA
  simp only [DD] at hA
  obtain ⟨a0,a1,a2,a3,a4,a5,a6,a7,a8⟩:=hA
  simp only [DD]
  try simp only [LL]
  omega
 ·intro hA
  simp only [DD] at hA
  obtain ⟨a0,a1,a2,a3,a4,a5,a6,a7,a8,a9⟩:=hA
  simp only [DD]
  try simp only [LL]
  omega
 ·intro hA
  simp only [DD] at hA
  obtain ⟨a0,a1,a2,a3,a4,a5,a6,a7,a8,a9,a10⟩:=hA
  simp only [DD]
  try simp only [LL]
  omega
 ·intro hA
  simp only [DD] at hA
  obtain ⟨a0,a1,a2,a3,a4,a5,a6,a7,a8,a9,a10,a11⟩:=hA
  simp only [DD]
  try simp only [LL]
  omega
 ·intro hA
  simp only [DD] at hA
  obtain ⟨a0,a1,a2,a3,a4,a5,a6,a7,a8,a9,a10,a11,a12⟩:=hA
  simp only [DD]
  try simp only [LL]
  omega
 ·intro hA
  simp only [DD] at hA
  obtain ⟨a0,a1,a2,a3,a4,a5,a6,a7,a8,a9,a10,a11,a12,a13⟩:=hA
  simp only [DD]
  try simp only [LL]
  omega
 ·intro hA
  simp only [DD] at hA
  obtain ⟨a0,a1,a2,a3,a4,a5,a6,a7,a8,a9,a10,a11,a12,a13,a14⟩:=hA
  simp only [DD]
  try simp only [LL]
  omega
 ·intro hA
  simp only [DD] at hA
  obtain ⟨a0,a1,a2,a3,a4,a5,a6,a7,a8,a9,a10,a11,a12,a13,a14,a15⟩:=hA
  simp only [DD]
  try simp only [LL]
  omega
 ·intro δ0 γ0 hl0 hA hr0 hid0 hI
  simp only [DD,aL hβ,Nat.reduceLT,Nat.reduceLeDiff,Nat.reduceSub] at hA
  obtain ⟨a0,a1,a2,a3,a4,a5,a6,a7,a8,a9,a10,a11,a12,a13,a14,a15,a16⟩:=hA
  simp only [DD,aL hβ,Nat.reduceLT,Nat.reduceLeDiff,Nat.reduceSub] at hI
  obtain ⟨i82,i74,i3,i78,i77,i8,i76,i75,i1,i81,i80,i0,i73⟩:=hI
  have s:KSm β γ0:=⟨i0,i1,i73,i74,i3,i75,hid0⟩
  have cl:=chunk_len p r
  rw [hw] at cl
  refine ⟨s,by rw [hw]; exact i76,by omega,i77,i78,?_,by rw [i80,cl,hw]; simp [ON],by rw [i81,i82,List.length_append]; omega⟩
  rw [i82,i80,hw,Int.toNat_natCast,List.take_append_of_le_length (Nat.le_refl _),List.take_length]; rfl
theorem hold_ks1 {β:Ren} (p:KP β) (r:RK β) (o:KO β) (o81:gI β 80≤gI β 81) (hw:wd (bb β)=1):lit_ks1.Holds (GK OS β) β:=by
 unfold lit_ks1
 have hβ:=p.n.1
 obtain ⟨x75,x76,x8,x77,x78⟩:=r
 have r:RK β:=⟨x75,x76,x8,x77,x78⟩
 have y1:=p.buf; have y2:=p.le; have y3:=p.un; have y4:=p.ix; have y5:=p.co
 rw [hw] at y2
 have o1:=o.n0; have o2:=o.nb; have o3:=o.cl
 refine (need_o hβ ?_ (need_o hβ ?_ (fork_of (fork_of (need_o hβ ?_ (need_o hβ ?_ (need_o hβ ?_ (need_o hβ ?_ (need_o hβ ?_ (need_o hβ ?_ (need_o hβ ?_ (need_o hβ ?_ (need_o hβ ?_ (leaf_o opK hβ ?_)))))))))) (need_o hβ ?_ (need_o hβ ?_ (need_o hβ ?_ (need_o hβ ?_ (need_o hβ ?_ (need_o hβ ?_ (need_o hβ ?_ (need_o hβ ?_ (need_o hβ ?_ (need_o hβ ?_ (leaf_gen opK hβ (by kernel_rfl) (by kernel_rfl) ?_)))))))))))) (fork_of (need_o hβ ?_ (need_o hβ ?_ (need_o hβ ?_ (need_o hβ ?_ (need_o hβ ?_ (need_o hβ ?_ (need_o hβ ?_ (need_o hβ ?_ (need_o hβ ?_ (leaf_o opK hβ ?_)))))))))) (need_o hβ ?_ (need_o hβ ?_ (need_o hβ ?_ (need_o hβ ?_ (need_o hβ ?_ (need_o hβ ?_ (need_o hβ ?_ (need_o hβ ?_ (need_o hβ ?_ (need_o hβ ?_ (leaf_gen opK hβ (by kernel_rfl) (by kernel_rfl) ?_)))))))))))))))
 ·intro hA
  simp only [DD] at hA
  obtain ⟨a0,a1,a2⟩:=hA
  simp only [DD]
  try simp only [LL]
  omega
 ·intro hA
  simp only [DD] at hA
  obtain ⟨a0,a1,a2,a3⟩:=hA
  simp only [DD]
  try simp only [LL]
  omega
 ·intro hA
  simp only [DD] at hA
  obtain ⟨a0,a1,a2,a3,a4,a5,a6,a7⟩:=hA
  simp only [DD]
  try simp only [LL]
  omega
 ·intro hA
  simp only [DD] at hA
  obtain ⟨a0,a1,a2,a3,a4,a5,a6,a7,a8⟩:=hA
  simp only [DD]
  try simp only [LL]
  omega
 ·intro hA
  simp only [DD] at hA
  obtain ⟨a0,a1,a2,a3,a4,a5,a6,a7,a8,a9⟩:=hA
  simp only [DD]
  try simp only [LL]
  omega
 ·intro hA
  simp only [DD] at hA
  obtain ⟨a0,a1,a2,a3,a4,a5,a6,a7,a8,a9,a10⟩:=hA
  simp only [DD]
  try simp only [LL]
  omega
 ·intro hA
  simp only [DD] at hA
  obtain ⟨a0,a1,a2,a3,a4,a5,a6,a7,a8,a9,a10,a11⟩:=hA
  simp only [DD]
  try simp only [LL]
  omega
 ·intro hA
  simp only [DD] at hA
  obtain ⟨a0,a1,a2,a3,a4,a5,a6,a7,a8,a9,a10,a11,a12⟩:=hA
  simp only [DD]
  try simp only [LL]
  omega
 ·intro hA
  simp only [DD] at hA
  obtain ⟨a0,a1,a2,a3,a4,a5,a6,a7,a8,a9,a10,a11,a12,a13⟩:=hA
  simp only [DD]
  try simp only [LL]
  omega
 ·intro hA
  simp only [DD] at hA
  obtain ⟨a0,a1,a2,a3,a4,a5,a6,a7,a8,a9,a10,a11,a12,a13,a14⟩:=hA
  simp only [DD]
  try simp only [LL]
  omega
 ·intro hA
  simp only [DD] at hA
  obtain ⟨a0,a1,a2,a3,a4,a5,a6,a7,a8,a9,a10,a11,a12,a13,a14,a15⟩:=hA
  simp only [DD]
  try simp only [LL]
  omega
 ·intro γ0 hl0 hA hr0 hid0 hI
  simp only [DD] at hA
  obtain ⟨a0,a1,a2,a3,a4,a5,a6,a7,a8,a9,a10,a11,a12,a13,a14,a15,a16⟩:=hA
  simp only [DD] at hI
  obtain ⟨i82,i74,i3,i78,i77,i39,i8,i76,i75,i1,i81,i80,i79,i0,i73⟩:=hI
  have s:KSm β γ0:=⟨i0,i1,i73,i74,i3,i75,hid0⟩
  have c1:=chunk1 p r hw
  refine ⟨s,by rw [hw]; exact i76,by omega,i77,i78,?_,by rw [i80,hw]; unfold OS; rw [List.length_take]; omega,by rw [i81,i82]; simp; omega⟩
  rw [i82,i80,hw,c1]
  exact bput1 (by omega) (by omega)
 ·intro hA
  simp only [DD] at hA
  obtain ⟨a0,a1,a2,a3,a4,a5,a6,a7⟩:=hA
  simp only [DD]
  try simp only [LL]
  omega
 ·intro hA
  simp only [DD] at hA
  obtain ⟨a0,a1,a2,a3,a4,a5,a6,a7,a8⟩:=hA
  simp only [DD]
  try simp only [LL]
  omega
 ·intro hA
  simp only [DD] at hA
  obtain ⟨a0,a1,a2,a3,a4,a5,a6,a7,a8,a9⟩:=hA
  simp only [DD]
  try simp only [LL]
  omega
 ·intro hA
  simp only [DD] at hA
  obtain ⟨a0,a1,a2,a3,a4,a5,a6,a7,a8,a9,a10⟩:=hA
  simp only [DD]
  try simp only [LL]
  omega
 ·intro hA
  simp only [DD] at hA
  obtain ⟨a0,a1,a2,a3,a4,a5,a6,a7,a8,a9,a10,a11⟩:=hA
  simp only [DD]
  try simp only [LL]
  omega
 ·intro hA
  simp only [DD] at hA
  obtain ⟨a0,a1,a2,a3,a4,a5,a6,a7,a8,a9,a10,a11,a12⟩:=hA
  simp only [DD]
  try simp only [LL]
  omega
 ·intro hA
  simp only [DD] at hA
  obtain ⟨a0,a1,a2,a3,a4,a5,a6,a7,a8,a9,a10,a11,a12,a13⟩:=hA
  simp only [DD]
  try simp only [LL]
  omega
 ·intro hA
  simp only [DD] at hA
  obtain ⟨a0,a1,a2,a3,a4,a5,a6,a7,a8,a9,a10,a11,a12,a13,a14⟩:=hA
  simp only [DD]
  try simp only [LL]
  omega
 ·intro hA
  simp only [DD] at hA
  obtain ⟨a0,a1,a2,a3,a4,a5,a6,a7,a8,a9,a10,a11,a12,a13,a14,a15⟩:=hA
  simp only [DD]
  try simp only [LL]
  omega
 ·intro hA
  simp only [DD] at hA
  obtain ⟨a0,a1,a2,a3,a4,a5,a6,a7,a8,a9,a10,a11,a12,a13,a14,a15,a16⟩:=hA
  simp only [DD]
  try simp only [LL]
  omega
 ·intro δ0 γ0 hl0 hA hr0 hid0 hI
  simp only [DD,aL hβ,Nat.reduceLT,Nat.reduceLeDiff,Nat.reduceSub] at hA
  obtain ⟨a0,a1,a2,a3,a4,a5,a6,a7,a8,a9,a10,a11,a12,a13,a14,a15,a16,a17⟩:=hA
  simp only [DD,aL hβ,Nat.reduceLT,Nat.reduceLeDiff,Nat.reduceSub] at hI
  obtain ⟨i82,i74,i3,i78,i77,i39,i8,i76,i75,i1,i81,i80,i0,i73⟩:=hI
  have s:KSm β γ0:=⟨i0,i1,i73,i74,i3,i75,hid0⟩
  have c1:=chunk1 p r hw
  have cl:=chunk_len p r
  rw [hw] at cl
  have ol:((OS β).length:Int)=gI β 80:=by unfold OS; rw [List.length_take]; omega
  simp only [Int.toNat_zero,List.drop_zero] at i80 i81 i82
  refine ⟨s,by rw [hw]; exact i76,by omega,i77,i78,?_,by rw [i80,hw]; unfold OS at *; omega,by rw [i81,i82,List.length_append,List.length_append]; unfold OS at *; omega⟩
  rw [i82,i80,hw,← Int.natCast_add,Int.toNat_natCast,← List.length_append,List.take_append_of_le_length (Nat.le_refl _),List.take_length]; rfl
 ·intro hA
  simp only [DD] at hA
  obtain ⟨a0,a1,a2,a3,a4,a5,a6⟩:=hA
  simp only [DD]
  try simp only [LL]
  omega
 ·intro hA
  simp only [DD] at hA
  obtain ⟨a0,a1,a2,a3,a4,a5,a6,a7⟩:=hA
  simp only [DD]
  try simp only [LL]
  omega
 ·intro hA
  simp only [DD] at hA
  obtain ⟨a0,a1,a2,a3,a4,a5,a6,a7,a8⟩:=hA
  simp only [DD]
  try simp only [LL]
  omega
 ·intro hA
  simp only [DD] at hA
  obtain ⟨a0,a1,a2,a3,a4,a5,a6,a7,a8,a9⟩:=hA
  simp only [DD]
  try simp only [LL]
  omega
 ·intro hA
  simp only [DD] at hA
  obtain ⟨a0,a1,a2,a3,a4,a5,a6,a7,a8,a9,a10⟩:=hA
  simp only [DD]
  try simp only [LL]
  omega
 ·intro hA
  simp only [DD] at hA
  obtain ⟨a0,a1,a2,a3,a4,a5,a6,a7,a8,a9,a10,a11⟩:=hA
  simp only [DD]
  try simp only [LL]
  omega
 ·intro hA
  simp only [DD] at hA
  obtain ⟨a0,a1,a2,a3,a4,a5,a6,a7,a8,a9,a10,a11,a12⟩:=hA
  simp only [DD]
  try simp only [LL]
  omega
 ·intro hA
  simp only [DD] at hA
  obtain ⟨a0,a1,a2,a3,a4,a5,a6,a7,a8,a9,a10,a11,a12,a13⟩:=hA
  simp only [DD]
  try simp only [LL]
  omega
 ·intro hA
  simp only [DD] at hA
  obtain ⟨a0,a1,a2,a3,a4,a5,a6,a7,a8,a9,a10,a11,a12,a13,a14⟩:=hA
  simp only [DD]
  try simp only [LL]
  omega
 ·intro γ0 hl0 hA hr0 hid0 hI
  simp only [DD] at hA
  obtain ⟨a0,a1,a2,a3,a4,a5,a6,a7,a8,a9,a10,a11,a12,a13,a14,a15⟩:=hA
  simp only [DD] at hI
  obtain ⟨i82,i74,i3,i78,i77,i8,i76,i75,i1,i81,i80,i79,i0,i73⟩:=hI
  have s:KSm β γ0:=⟨i0,i1,i73,i74,i3,i75,hid0⟩
  have c1:=chunk1 p r hw
  refine ⟨s,by rw [hw]; exact i76,by omega,i77,i78,?_,by rw [i80,hw]; unfold OS; rw [List.length_take]; omega,by rw [i81,i82]; simp; omega⟩
  rw [i82,i80,hw,c1]
  exact bput1 (by omega) (by omega)
 ·intro hA
  simp only [DD] at hA
  obtain ⟨a0,a1,a2,a3,a4,a5,a6⟩:=hA
  simp only [DD]
  try simp only [LL]
  omega
 ·intro hA
  simp only [DD] at hA
  obtain ⟨a0,a1,a2,a3,a4,a5,a6,a7⟩:=hA
  simp only [DD]
  try simp only [LL]
  omega
 ·intro hA
  simp only [DD] at hA
  obtain ⟨a0,a1,a2,a3,a4,a5,a6,a7,a8⟩:=hA
  simp only [DD]
  try simp only [LL]
  omega
 ·intro hA
  simp only [DD] at hA
  obtain ⟨a0,a1,a2,a3,a4,a5,a6,a7,a8,a9⟩:=hA
  simp only [DD]
  try simp only [LL]
  omega
 ·intro hA
  simp only [DD] at hA
  obtain ⟨a0,a1,a2,a3,a4,a5,a6,a7,a8,a9,a10⟩:=hA
  simp only [DD]
  try simp only [LL]
  omega
 ·intro hA
  simp only [DD] at hA
  obtain ⟨a0,a1,a2,a3,a4,a5,a6,a7,a8,a9,a10,a11⟩:=hA
  simp only [DD]
  try simp only [LL]
  omega
 ·intro hA
  simp only [DD] at hA
  obtain ⟨a0,a1,a2,a3,a4,a5,a6,a7,a8,a9,a10,a11,a12⟩:=hA
  simp only [DD]
  try simp only [LL]
  omega
 ·intro hA
  simp only [DD] at hA
  obtain ⟨a0,a1,a2,a3,a4,a5,a6,a7,a8,a9,a10,a11,a12,a13⟩:=hA
  simp only [DD]
  try simp only [LL]
  omega
 ·intro hA
  simp only [DD] at hA
  obtain ⟨a0,a1,a2,a3,a4,a5,a6,a7,a8,a9,a10,a11,a12,a13,a14⟩:=hA
  simp only [DD]
  try simp only [LL]
  omega
 ·intro hA
  simp only [DD] at hA
  obtain ⟨a0,a1,a2,a3,a4,a5,a6,a7,a8,a9,a10,a11,a12,a13,a14,a15⟩:=hA
  simp only [DD]
  try simp only [LL]
  omega
 ·intro δ0 γ0 hl0 hA hr0 hid0 hI
  simp only [DD,aL hβ,Nat.reduceLT,Nat.reduceLeDiff,Nat.reduceSub] at hA
  obtain ⟨a0,a1,a2,a3,a4,a5,a6,a7,a8,a9,a10,a11,a12,a13,a14,a15,a16⟩:=hA
  simp only [DD,aL hβ,Nat.reduceLT,Nat.reduceLeDiff,Nat.reduceSub] at hI
  obtain ⟨i82,i74,i3,i78,i77,i8,i76,i75,i1,i81,i80,i0,i73⟩:=hI
  have s:KSm β γ0:=⟨i0,i1,i73,i74,i3,i75,hid0⟩
  have c1:=chunk1 p r hw
  have cl:=chunk_len p r
  rw [hw] at cl
  have ol:((OS β).length:Int)=gI β 80:=by unfold OS; rw [List.length_take]; omega
  simp only [Int.toNat_zero,List.drop_zero] at i80 i81 i82
  refine ⟨s,by rw [hw]; exact i76,by omega,i77,i78,?_,by rw [i80,hw]; unfold OS at *; omega,by rw [i81,i82,List.length_append,List.length_append]; unfold OS at *; omega⟩
  rw [i82,i80,hw,← Int.natCast_add,Int.toNat_natCast,← List.length_append,List.take_append_of_le_length (Nat.le_refl _),List.take_length]; rfl
theorem hold_ks2 {β:Ren} (p:KP β) (r:RK β) (o:KO β) (o81:gI β 80≤gI β 81) (hw:wd (bb β)=2):lit_ks2.Holds (GK OS β) β:=by
 unfold lit_ks2
 have hβ:=p.n.1
 obtain ⟨x75,x76,x8,x77,x78⟩:=r
 have r:RK β:=⟨x75,x76,x8,x77,x78⟩
 have y1:=p.buf; have y2:=p.le; have y3:=p.un; have y4:=p.ix; have y5:=p.co
 rw [hw] at y2
 have o1:=o.n0; have o2:=o.nb; have o3:=o.cl
 refine (need_o hβ ?_ (need_o hβ ?_ (fork_of (need_o hβ ?_ (need_o hβ ?_ (need_o hβ ?_ (need_o hβ ?_ (need_o hβ ?_ (need_o hβ ?_ (need_o hβ ?_ (need_o hβ ?_ (need_o hβ ?_ (need_o hβ ?_ (leaf_gen opK hβ (by kernel_rfl) (by kernel_rfl) ?_))))))))))) (need_o hβ ?_ (need_o hβ ?_ (need_o hβ ?_ (need_o hβ ?_ (need_o hβ ?_ (need_o hβ ?_ (need_o hβ ?_ (need_o hβ ?_ (need_o hβ ?_ (need_o hβ ?_ (leaf_gen opK hβ (by kernel_rfl) (by kernel_rfl) ?_))))))))))))))
 ·intro hA
  simp only [DD] at hA
  obtain ⟨a0,a1,a2,a3⟩:=hA
  simp only [DD]
  try simp only [LL]
  omega
 ·intro hA
  simp only [DD] at hA
  obtain ⟨a0,a1,a2,a3,a4⟩:=hA
  simp only [DD]
  try simp only [LL]
  omega
 ·intro hA
  simp only [DD] at hA
  obtain ⟨a0,a1,a2,a3,a4,a5,a6,a7⟩:=hA
  simp only [DD]
  try simp only [LL]
  omega
 ·intro hA
  simp only [DD] at hA
  obtain ⟨a0,a1,a2,a3,a4,a5,a6,a7,a8⟩:=hA
  simp only [DD]
  try simp only [LL]
  omega
 ·intro hA
  simp only [DD] at hA
  obtain ⟨a0,a1,a2,a3,a4,a5,a6,a7,a8,a9⟩:=hA
  simp only [DD]
  try simp only [LL]
  omega
 ·intro hA
  simp only [DD] at hA
  obtain ⟨a0,a1,a2,a3,a4,a5,a6,a7,a8,a9,a10⟩:=hA
  simp only [DD]
  try simp only [LL]
  omega
 ·intro hA
  simp only [DD] at hA
  obtain ⟨a0,a1,a2,a3,a4,a5,a6,a7,a8,a9,a10,a11⟩:=hA
  simp only [DD]
  try simp only [LL]
  omega
 ·intro hA
  simp only [DD] at hA
  obtain ⟨a0,a1,a2,a3,a4,a5,a6,a7,a8,a9,a10,a11,a12⟩:=hA
  simp only [DD]
  try simp only [LL]
  omega
 ·intro hA
  simp only [DD] at hA
  obtain ⟨a0,a1,a2,a3,a4,a5,a6,a7,a8,a9,a10,a11,a12,a13⟩:=hA
  simp only [DD]
  try simp only [LL]
  omega
 ·intro hA
  simp only [DD] at hA
  obtain ⟨a0,a1,a2,a3,a4,a5,a6,a7,a8,a9,a10,a11,a12,a13,a14⟩:=hA
  simp only [DD]
  try simp only [LL]
  omega
 ·intro hA
  simp only [DD] at hA
  obtain ⟨a0,a1,a2,a3,a4,a5,a6,a7,a8,a9,a10,a11,a12,a13,a14,a15⟩:=hA
  simp only [DD]
  try simp only [LL]
  omega
 ·intro hA
  simp only [DD] at hA
  obtain ⟨a0,a1,a2,a3,a4,a5,a6,a7,a8,a9,a10,a11,a12,a13,a14,a15,a16⟩:=hA
  simp only [DD]
  try simp only [LL]
  omega
 ·intro δ0 γ0 hl0 hA hr0 hid0 hI
  simp only [DD,aL hβ,Nat.reduceLT,Nat.reduceLeDiff,Nat.reduceSub] at hA
  obtain ⟨a0,a1,a2,a3,a4,a5,a6,a7,a8,a9,a10,a11,a12,a13,a14,a15,a16,a17⟩:=hA
  simp only [DD,aL hβ,Nat.reduceLT,Nat.reduceLeDiff,Nat.reduceSub] at hI
  obtain ⟨i82,i74,i3,i78,i77,i39,i8,i76,i75,i1,i81,i80,i0,i73⟩:=hI
  have s:KSm β γ0:=⟨i0,i1,i73,i74,i3,i75,hid0⟩
  have cl:=chunk_len p r
  rw [hw] at cl
  have ol:((OS β).length:Int)=gI β 80:=by unfold OS; rw [List.length_take]; omega
  simp only [Int.toNat_zero,List.drop_zero] at i80 i81 i82
  refine ⟨s,by rw [hw]; exact i76,by omega,i77,i78,?_,by rw [i80,hw]; unfold OS at *; omega,by rw [i81,i82,List.length_append,List.length_append]; unfold OS at *; omega⟩
  rw [i82,i80,hw,← Int.natCast_add,Int.toNat_natCast,← List.length_append,List.take_append_of_le_length (Nat.le_refl _),List.take_length]; rfl
 ·intro hA
  simp only [DD] at hA
  obtain ⟨a0,a1,a2,a3,a4,a5,a6⟩:=hA
  simp only [DD]
  try simp only [LL]
  omega
 ·intro hA
  simp only [DD] at hA
  obtain ⟨a0,a1,a2,a3,a4,a5,a6,a7⟩:=hA
  simp only [DD]
  try simp only [LL]
  omega
 ·intro hA
  simp only [DD] at hA
  obtain ⟨a0,a1,a2,a3,a4,a5,a6,a7,a8⟩:=hA
  simp only [DD]
  try simp only [LL]
  omega
 ·intro hA
  simp only [DD] at hA
  obtain ⟨a0,a1,a2,a3,a4,a5,a6,a7,a8,a9⟩:=hA
  simp only [DD]
  try simp only [LL]
  omega
 ·intro hA
  simp only [DD] at hA
  obtain ⟨a0,a1,a2,a3,a4,a5,a6,a7,a8,a9,a10⟩:=hA
  simp only [DD]
  try simp only [LL]
  omega
 ·intro hA
  simp only [DD] at hA
  obtain ⟨a0,a1,a2,a3,a4,a5,a6,a7,a8,a9,a10,a11⟩:=hA
  simp only [DD]
  try simp only [LL]
  omega
 ·intro hA
  simp only [DD] at hA
  obtain ⟨a0,a1,a2,a3,a4,a5,a6,a7,a8,a9,a10,a11,a12⟩:=hA
  simp only [DD]
  try simp only [LL]
  omega
 ·intro hA
  simp only [DD] at hA
  obtain ⟨a0,a1,a2,a3,a4,a5,a6,a7,a8,a9,a10,a11,a12,a13⟩:=hA
  simp only [DD]
  try simp only [LL]
  omega
 ·intro hA
  simp only [DD] at hA
  obtain ⟨a0,a1,a2,a3,a4,a5,a6,a7,a8,a9,a10,a11,a12,a13,a14⟩:=hA
  simp only [DD]
  try simp only [LL]
  omega
 ·intro hA
  simp only [DD] at hA
  obtain ⟨a0,a1,a2,a3,a4,a5,a6,a7,a8,a9,a10,a11,a12,a13,a14,a15⟩:=hA
  simp only [DD]
  try simp only [LL]
  omega
 ·intro δ0 γ0 hl0 hA hr0 hid0 hI
  simp only [DD,aL hβ,Nat.reduceLT,Nat.reduceLeDiff,Nat.reduceSub] at hA
  obtain ⟨a0,a1,a2,a3,a4,a5,a6,a7,a8,a9,a10,a11,a12,a13,a14,a15,a16⟩:=hA
  simp only [DD,aL hβ,Nat.reduceLT,Nat.reduceLeDiff,Nat.reduceSub] at hI
  obtain ⟨i82,i74,i3,i78,i77,i8,i76,i75,i1,i81,i80,i0,i73⟩:=hI
  have s:KSm β γ0:=⟨i0,i1,i73,i74,i3,i75,hid0⟩
  have cl:=chunk_len p r
  rw [hw] at cl
  have ol:((OS β).length:Int)=gI β 80:=by unfold OS; rw [List.length_take]; omega
  simp only [Int.toNat_zero,List.drop_zero] at i80 i81 i82
  refine ⟨s,by rw [hw]; exact i76,by omega,i77,i78,?_,by rw [i80,hw]; unfold OS at *; omega,by rw [i81,i82,List.length_append,List.length_append]; unfold OS at *; omega⟩
  rw [i82,i80,hw,← Int.natCast_add,Int.toNat_natCast,← List.length_append,List.take_append_of_le_length (Nat.le_refl _),List.take_length]; rfl
theorem hold_ks3 {β:Ren} (p:KP β) (r:RK β) (o:KO β) (o81:gI β 80≤gI β 81) (hw:wd (bb β)=3):lit_ks3.Holds (GK OS β) β:=by
 unfold lit_ks3
 have hβ:=p.n.1
 obtain ⟨x75,x76,x8,x77,x78⟩:=r
 have r:RK β:=⟨x75,x76,x8,x77,x78⟩
 have y1:=p.buf; have y2:=p.le; have y3:=p.un; have y4:=p.ix; have y5:=p.co
 rw [hw] at y2
 have o1:=o.n0; have o2:=o.nb; have o3:=o.cl
 refine (need_o hβ ?_ (need_o hβ ?_ (fork_of (need_o hβ ?_ (need_o hβ ?_ (need_o hβ ?_ (need_o hβ ?_ (need_o hβ ?_ (need_o hβ ?_ (need_o hβ ?_ (need_o hβ ?_ (need_o hβ ?_ (need_o hβ ?_ (leaf_gen opK hβ (by kernel_rfl) (by kernel_rfl) ?_))))))))))) (need_o hβ ?_ (need_o hβ ?_ (need_o hβ ?_ (need_o hβ ?_ (need_o hβ ?_ (need_o hβ ?_ (need_o hβ ?_ (need_o hβ ?_ (need_o hβ ?_ (need_o hβ ?_ (leaf_gen opK hβ (by kernel_rfl) (by kernel_rfl) ?_))))))))))))))
 ·intro hA
  simp only [DD] at hA
  obtain ⟨a0,a1,a2,a3,a4⟩:=hA
  simp only [DD]
  try simp only [LL]
  omega
 ·intro hA
  simp only [DD] at hA
  obtain ⟨a0,a1,a2,a3,a4,a5⟩:=hA
  simp only [DD]
  try simp only [LL]
  omega
 ·intro hA
  simp only [DD] at hA
  obtain ⟨a0,a1,a2,a3,a4,a5,a6,a7,a8⟩:=hA
  simp only [DD]
  try simp only [LL]
  omega
 ·intro hA
  simp only [DD] at hA
  obtain ⟨a0,a1,a2,a3,a4,a5,a6,a7,a8,a9⟩:=hA
  simp only [DD]
  try simp only [LL]
  omega
 ·intro hA
  simp only [DD] at hA
  obtain ⟨a0,a1,a2,a3,a4,a5,a6,a7,a8,a9,a10⟩:=hA
  simp only [DD]
  try simp only [LL]
  omega
 ·intro hA
  simp only [DD] at hA
  obtain ⟨a0,a1,a2,a3,a4,a5,a6,a7,a8,a9,a10,a11⟩:=hA
  simp only [DD]
  try simp only [LL]
  omega
 ·intro hA
  simp only [DD] at hA
  obtain ⟨a0,a1,a2,a3,a4,a5,a6,a7,a8,a9,a10,a11,a12⟩:=hA
  simp only [DD]
  try simp only [LL]
  omega
 ·intro hA
  simp only [DD] at hA
  obtain ⟨a0,a1,a2,a3,a4,a5,a6,a7,a8,a9,a10,a11,a12,a13⟩:=hA
  simp only [DD]
  try simp only [LL]
  omega
 ·intro hA
  simp only [DD] at hA
  obtain ⟨a0,a1,a2,a3,a4,a5,a6,a7,a8,a9,a10,a11,a12,a13,a14⟩:=hA
  simp only [DD]
  try simp only [LL]
  omega
 ·intro hA
  simp only [DD] at hA
  obtain ⟨a0,a1,a2,a3,a4,a5,a6,a7,a8,a9,a10,a11,a12,a13,a14,a15⟩:=hA
  simp only [DD]
  try simp only [LL]
  omega
 ·intro hA
  simp only [DD] at hA
  obtain ⟨a0,a1,a2,a3,a4,a5,a6,a7,a8,a9,a10,a11,a12,a13,a14,a15,a16⟩:=hA
  simp only [DD]
  try simp only [LL]
  omega
 ·intro hA
  simp only [DD] at hA
  obtain ⟨a0,a1,a2,a3,a4,a5,a6,a7,a8,a9,a10,a11,a12,a13,a14,a15,a16,a17⟩:=hA
  simp only [DD]
  try simp only [LL]
  omega
 ·intro δ0 γ0 hl0 hA hr0 hid0 hI
  simp only [DD,aL hβ,Nat.reduceLT,Nat.reduceLeDiff,Nat.reduceSub] at hA
  obtain ⟨a0,a1,a2,a3,a4,a5,a6,a7,a8,a9,a10,a11,a12,a13,a14,a15,a16,a17,a18⟩:=hA
  simp only [DD,aL hβ,Nat.reduceLT,Nat.reduceLeDiff,Nat.reduceSub] at hI
  obtain ⟨i82,i74,i3,i78,i77,i39,i8,i76,i75,i1,i81,i80,i0,i73⟩:=hI
  have s:KSm β γ0:=⟨i0,i1,i73,i74,i3,i75,hid0⟩
  have cl:=chunk_len p r
  rw [hw] at cl
  have ol:((OS β).length:Int)=gI β 80:=by unfold OS; rw [List.length_take]; omega
  simp only [Int.toNat_zero,List.drop_zero] at i80 i81 i82
  refine ⟨s,by rw [hw]; exact i76,by omega,i77,i78,?_,by rw [i80,hw]; unfold OS at *; omega,by rw [i81,i82,List.length_append,List.length_append]; unfold OS at *; omega⟩
  rw [i82,i80,hw,← Int.natCast_add,Int.toNat_natCast,← List.length_append,List.take_append_of_le_length (Nat.le_refl _),List.take_length]; rfl
 ·intro hA
  simp only [DD] at hA
  obtain ⟨a0,a1,a2,a3,a4,a5,a6,a7⟩:=hA
  simp only [DD]
  try simp only [LL]
  omega
 ·intro hA
  simp only [DD] at hA
  obtain ⟨a0,a1,a2,a3,a4,a5,a6,a7,a8⟩:=hA
  simp only [DD]
  try simp only [LL]
  omega
 ·intro hA
  simp only [DD] at hA
  obtain ⟨a0,a1,a2,a3,a4,a5,a6,a7,a8,a9⟩:=hA
  simp only [DD]
  try simp only [LL]
  omega
 ·intro hA
  simp only [DD] at hA
  obtain ⟨a0,a1,a2,a3,a4,a5,a6,a7,a8,a9,a10⟩:=hA
  simp only [DD]
  try simp only [LL]
  omega
 ·intro hA
  simp only [DD] at hA
  obtain ⟨a0,a1,a2,a3,a4,a5,a6,a7,a8,a9,a10,a11⟩:=hA
  simp only [DD]
  try simp only [LL]
  omega
 ·intro hA
  simp only [DD] at hA
  obtain ⟨a0,a1,a2,a3,a4,a5,a6,a7,a8,a9,a10,a11,a12⟩:=hA
  simp only [DD]
  try simp only [LL]
  omega
 ·intro hA
  simp only [DD] at hA
  obtain ⟨a0,a1,a2,a3,a4,a5,a6,a7,a8,a9,a10,a11,a12,a13⟩:=hA
  simp only [DD]
  try simp only [LL]
  omega
 ·intro hA
  simp only [DD] at hA
  obtain ⟨a0,a1,a2,a3,a4,a5,a6,a7,a8,a9,a10,a11,a12,a13,a14⟩:=hA
  simp only [DD]
  try simp only [LL]
  omega
 ·intro hA
  simp only [DD] at hA
  obtain ⟨a0,a1,a2,a3,a4,a5,a6,a7,a8,a9,a10,a11,a12,a13,a14,a15⟩:=hA
  simp only [DD]
  try simp only [LL]
  omega
 ·intro hA
  simp only [DD] at hA
  obtain ⟨a0,a1,a2,a3,a4,a5,a6,a7,a8,a9,a10,a11,a12,a13,a14,a15,a16⟩:=hA
  simp only [DD]
  try simp only [LL]
  omega
 ·intro δ0 γ0 hl0 hA hr0 hid0 hI
  simp only [DD,aL hβ,Nat.reduceLT,Nat.reduceLeDiff,Nat.reduceSub] at hA
  obtain ⟨a0,a1,a2,a3,a4,a5,a6,a7,a8,a9,a10,a11,a12,a13,a14,a15,a16,a17⟩:=hA
  simp only [DD,aL hβ,Nat.reduceLT,Nat.reduceLeDiff,Nat.reduceSub] at hI
  obtain ⟨i82,i74,i3,i78,i77,i8,i76,i75,i1,i81,i80,i0,i73⟩:=hI
  have s:KSm β γ0:=⟨i0,i1,i73,i74,i3,i75,hid0⟩
  have cl:=chunk_len p r
  rw [hw] at cl
  have ol:((OS β).length:Int)=gI β 80:=by unfold OS; rw [List.length_take]; omega
  simp only [Int.toNat_zero,List.drop_zero] at i80 i81 i82
  refine ⟨s,by rw [hw]; exact i76,by omega,i77,i78,?_,by rw [i80,hw]; unfold OS at *; omega,by rw [i81,i82,List.length_append,List.length_append]; unfold OS at *; omega⟩
  rw [i82,i80,hw,← Int.natCast_add,Int.toNat_natCast,← List.length_append,List.take_append_of_le_length (Nat.le_refl _),List.take_length]; rfl
theorem hold_ks4 {β:Ren} (p:KP β) (r:RK β) (o:KO β) (o81:gI β 80≤gI β 81) (hw:wd (bb β)=4):lit_ks4.Holds (GK OS β) β:=by
 unfold lit_ks4
 have hβ:=p.n.1
 obtain ⟨x75,x76,x8,x77,x78⟩:=r
 have r:RK β:=⟨x75,x76,x8,x77,x78⟩
 have y1:=p.buf; have y2:=p.le; have y3:=p.un; have y4:=p.ix; have y5:=p.co
 rw [hw] at y2
 have o1:=o.n0; have o2:=o.nb; have o3:=o.cl
 refine (need_o hβ ?_ (need_o hβ ?_ (fork_of (need_o hβ ?_ (need_o hβ ?_ (need_o hβ ?_ (need_o hβ ?_ (need_o hβ ?_ (need_o hβ ?_ (need_o hβ ?_ (need_o hβ ?_ (need_o hβ ?_ (need_o hβ ?_ (leaf_gen opK hβ (by kernel_rfl) (by kernel_rfl) ?_))))))))))) (need_o hβ ?_ (need_o hβ ?_ (need_o hβ ?_ (need_o hβ ?_ (need_o hβ ?_ (need_o hβ ?_ (need_o hβ ?_ (need_o hβ ?_ (need_o hβ ?_ (need_o hβ ?_ (leaf_gen opK hβ (by kernel_rfl) (by kernel_rfl) ?_))))))))))))))
 ·intro hA
  simp only [DD] at hA
  obtain ⟨a0,a1,a2,a3,a4,a5⟩:=hA
  simp only [DD]
  try simp only [LL]
  omega
 ·intro hA
  simp only [DD] at hA
  obtain ⟨a0,a1,a2,a3,a4,a5,a6⟩:=hA
  simp only [DD]
  try simp only [LL]
  omega
 ·intro hA
  simp only [DD] at hA
  obtain ⟨a0,a1,a2,a3,a4,a5,a6,a7,a8,a9⟩:=hA
  simp only [DD]
  try simp only [LL]
  omega
 ·intro hA
  simp only [DD] at hA
  obtain ⟨a0,a1,a2,a3,a4,a5,a6,a7,a8,a9,a10⟩:=hA
  simp only [DD]
  try simp only [LL]
  omega
 ·intro hA
  simp only [DD] at hA
  obtain ⟨a0,a1,a2,a3,a4,a5,a6,a7,a8,a9,a10,a11⟩:=hA
  simp only [DD]
  try simp only [LL]
  omega
 ·intro hA
  simp only [DD] at hA
  obtain ⟨a0,a1,a2,a3,a4,a5,a6,a7,a8,a9,a10,a11,a12⟩:=hA
  simp only [DD]
  try simp only [LL]
  omega
 ·intro hA
  simp only [DD] at hA
  obtain ⟨a0,a1,a2,a3,a4,a5,a6,a7,a8,a9,a10,a11,a12,a13⟩:=hA
  simp only [DD]
  try simp only [LL]
  omega
 ·intro hA
  simp only [DD] at hA
  obtain ⟨a0,a1,a2,a3,a4,a5,a6,a7,a8,a9,a10,a11,a12,a13,a14⟩:=hA
  simp only [DD]
  try simp only [LL]
  omega
 ·intro hA
  simp only [DD] at hA
  obtain ⟨a0,a1,a2,a3,a4,a5,a6,a7,a8,a9,a10,a11,a12,a13,a14,a15⟩:=hA
  simp only [DD]
  try simp only [LL]
  omega
 ·intro hA
  simp only [DD] at hA
  obtain ⟨a0,a1,a2,a3,a4,a5,a6,a7,a8,a9,a10,a11,a12,a13,a14,a15,a16⟩:=hA
  simp only [DD]
  try simp only [LL]
  omega
 ·intro hA
  simp only [DD] at hA
  obtain ⟨a0,a1,a2,a3,a4,a5,a6,a7,a8,a9,a10,a11,a12,a13,a14,a15,a16,a17⟩:=hA
  simp only [DD]
  try simp only [LL]
  omega
 ·intro hA
  simp only [DD] at hA
  obtain ⟨a0,a1,a2,a3,a4,a5,a6,a7,a8,a9,a10,a11,a12,a13,a14,a15,a16,a17,a18⟩:=hA
  simp only [DD]
  try simp only [LL]
  omega
 ·intro δ0 γ0 hl0 hA hr0 hid0 hI
  simp only [DD,aL hβ,Nat.reduceLT,Nat.reduceLeDiff,Nat.reduceSub] at hA
  obtain ⟨a0,a1,a2,a3,a4,a5,a6,a7,a8,a9,a10,a11,a12,a13,a14,a15,a16,a17,a18,a19⟩:=hA
  simp only [DD,aL hβ,Nat.reduceLT,Nat.reduceLeDiff,Nat.reduceSub] at hI
  obtain ⟨i82,i74,i3,i78,i77,i39,i8,i76,i75,i1,i81,i80,i0,i73⟩:=hI
  have s:KSm β γ0:=⟨i0,i1,i73,i74,i3,i75,hid0⟩
  have cl:=chunk_len p r
  rw [hw] at cl
  have ol:((OS β).length:Int)=gI β 80:=by unfold OS; rw [List.length_take]; omega
  simp only [Int.toNat_zero,List.drop_zero] at i80 i81 i82
  refine ⟨s,by rw [hw]; exact i76,by omega,i77,i78,?_,by rw [i80,hw]; unfold OS at *; omega,by rw [i81,i82,List.length_append,List.length_append]; unfold OS at *; omega⟩
  rw [i82,i80,hw,← Int.natCast_add,Int.toNat_natCast,← List.length_append,List.take_append_of_le_length (Nat.le_refl _),List.take_length]; rfl
 ·intro hA
  simp only [DD] at hA
  obtain ⟨a0,a1,a2,a3,a4,a5,a6,a7,a8⟩:=hA
  simp only [DD]
  try simp only [LL]
  omega
 ·intro hA
  simp only [DD] at hA
  obtain ⟨a0,a1,a2,a3,a4,a5,a6,a7,a8,a9⟩:=hA
  simp only [DD]
  try simp only [LL]
  omega
 ·intro hA
  simp only [DD] at hA
  obtain ⟨a0,a1,a2,a3,a4,a5,a6,a7,a8,a9,a10⟩:=hA
  simp only [DD]
  try simp only [LL]
  omega
 ·intro hA
  simp only [DD] at hA
  obtain ⟨a0,a1,a2,a3,a4,a5,a6,a7,a8,a9,a10,a11⟩:=hA
  simp only [DD]
  try simp only [LL]
  omega
 ·intro hA
  simp only [DD] at hA
  obtain ⟨a0,a1,a2,a3,a4,a5,a6,a7,a8,a9,a10,a11,a12⟩:=hA
  simp only [DD]
  try simp only [LL]
  omega
 ·intro hA
  simp only [DD] at hA
  obtain ⟨a0,a1,a2,a3,a4,a5,a6,a7,a8,a9,a10,a11,a12,a13⟩:=hA
  simp only [DD]
  try simp only [LL]
  omega
 ·intro hA
  simp only [DD] at hA
  obtain ⟨a0,a1,a2,a3,a4,a5,a6,a7,a8,a9,a10,a11,a12,a13,a14⟩:=hA
  simp only [DD]
  try simp only [LL]
  omega
 ·intro hA
  simp only [DD] at hA
  obtain ⟨a0,a1,a2,a3,a4,a5,a6,a7,a8,a9,a10,a11,a12,a13,a14,a15⟩:=hA
  simp only [DD]
  try simp only [LL]
  omega
 ·intro hA
  simp only [DD] at hA
  obtain ⟨a0,a1,a2,a3,a4,a5,a6,a7,a8,a9,a10,a11,a12,a13,a14,a15,a16⟩:=hA
  simp only [DD]
  try simp only [LL]
  omega
 ·intro hA
  simp only [DD] at hA
  obtain ⟨a0,a1,a2,a3,a4,a5,a6,a7,a8,a9,a10,a11,a12,a13,a14,a15,a16,a17⟩:=hA
  simp only [DD]
  try simp only [LL]
  omega
 ·intro δ0 γ0 hl0 hA hr0 hid0 hI
  simp only [DD,aL hβ,Nat.reduceLT,Nat.reduceLeDiff,Nat.reduceSub] at hA
  obtain ⟨a0,a1,a2,a3,a4,a5,a6,a7,a8,a9,a10,a11,a12,a13,a14,a15,a16,a17,a18⟩:=hA
  simp only [DD,aL hβ,Nat.reduceLT,Nat.reduceLeDiff,Nat.reduceSub] at hI
  obtain ⟨i82,i74,i3,i78,i77,i8,i76,i75,i1,i81,i80,i0,i73⟩:=hI
  have s:KSm β γ0:=⟨i0,i1,i73,i74,i3,i75,hid0⟩
  have cl:=chunk_len p r
  rw [hw] at cl
  have ol:((OS β).length:Int)=gI β 80:=by unfold OS; rw [List.length_take]; omega
  simp only [Int.toNat_zero,List.drop_zero] at i80 i81 i82
  refine ⟨s,by rw [hw]; exact i76,by omega,i77,i78,?_,by rw [i80,hw]; unfold OS at *; omega,by rw [i81,i82,List.length_append,List.length_append]; unfold OS at *; omega⟩
  rw [i82,i80,hw,← Int.natCast_add,Int.toNat_natCast,← List.length_append,List.take_append_of_le_length (Nat.le_refl _),List.take_length]; rfl
end U
