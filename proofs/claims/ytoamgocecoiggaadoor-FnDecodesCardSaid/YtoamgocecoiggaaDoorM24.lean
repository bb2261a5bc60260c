-- the statement of this claim: see YtoamgocecoiggaaDoorRw
import Derived.Test.YtoamgocecoiggaaDoorM23
set_option linter.unusedVariables false
set_option linter.unusedSimpArgs false
open Go Go.SM Go.Proofs
namespace U
set_option maxRecDepth 100000
theorem fnsU:FnsOk Tryd.prog pu0 okU:=fnsOk_of (by kernel_rfl)
theorem noNum:NoNum Tryd.prog:=noNum_of (by kernel_rfl)
theorem follows:Tryd.prog.follows .mixedOrders=true:=by kernel_rfl
theorem callOk:CallOk Tryd.prog { g:=g0,A:=[],pu:=pu0 } callE:=acall_sound noNum follows fnsU (noprim_ok _ _) 5
def opA:List Nat:=(List.range 52).filterMap fun i=>if [15,20,21,18,22,23,16,45,11,13,14].contains i then none else some (20 + i)
structure Fx (β β1:Ren):Prop where
 h0:β1[0]?=β[0]?
 h1:β1[1]?=β[1]?
 h2:β1[2]?=β[2]?
 l4:gL β1 4=gL β 4
 i6:gI β1 6=gI β 6
 i10:gI β1 10=gI β 10
 i12:gI β1 12=gI β 12
 b11:gB β1 11=gB β 11
 h16:β1[16]?=β[16]?
 h73:β1[73]?=β[73]?
 h74:β1[74]?=β[74]?
 l17:gL β1 17=gL β 17
 i18:gI β1 18=gI β 18
 i19:gI β1 19=gI β 19
 i72:gI β1 72=gI β 72
 op:∀ i ∈ opA,gV β1 i=gV β i
structure Sm (β β1:Ren):Prop extends Fx β β1 where
 l3:gL β1 3=gL β 3
 i5:gI β1 5=gI β 5
 i7:gI β1 7=gI β 7
 i8:gI β1 8=gI β 8
 i9:gI β1 9=gI β 9
def Prn (v:Int):Prop:=v=9∨v=10∨v=13∨(32≤v∧v≤126)∨v=133∨(160≤v∧v≤55295)∨(57344≤v∧v≤65533)∨(65536≤v∧v≤1114111)
structure RA (β:Ren):Prop where
 i12:0≤gI β 12∧gI β 12≤100
 i5:0≤gI β 5∧gI β 5≤1536
 i8:0≤gI β 8∧gI β 8≤2000
 i6:0≤gI β 6∧gI β 6≤512
 i7:0≤gI β 7∧gI β 7≤512
 i10:1≤gI β 10∧gI β 10≤3
 i9:0≤gI β 9∧gI β 9≤10000000
 i18:0≤gI β 18∧gI β 18≤gI β 72
 i19:0≤gI β 19∧gI β 19≤2000000
def Er (β β1:Ren):Prop:=β1[0]?=β[0]?∧β1[73]?=β[73]?
def Ln (β:Ren):Prop:=β.length=90∧GlobOk g0 β
structure RV (β:Ren):Prop extends RA β where
 i13:0≤gI β 13∧gI β 13≤1114111
 i14:1≤gI β 14∧gI β 14≤4
def le0U4 (i:Nat) (a b:Int):List TB:=[.le (.lit a) (.var i),.le (.var i) (.lit b)]
def triv1U4:List TB:=[.le (.lit 0) (.lit 0),.le (.lit 0) (.lit 1536),.le (.lit 1536) (.lit 1536)]
def rgCU4:List TB:=[.le (.lit 0) (.lit 0),.le (.lit 0) (.var 18),.le (.var 18) (.var 72)]++(le0U4 19 0 2000000++triv1U4)++(le0U4 8 0 2000++([.le (.lit 0) (.lit 0)]++(le0U4 6 0 512++(le0U4 7 0 512++(le0U4 10 1 3++le0U4 9 0 10000000)))))
theorem rgs_A:rgs (ntmps 42) tA=le0U4 12 0 100++(le0U4 5 0 1536++rgCU4):=by kernel_rfl
theorem rgs_V:rgs (ntmps 42) tV=le0U4 12 0 100++(le0U4 5 0 1536++(le0U4 13 0 1114111++(le0U4 14 1 4++rgCU4))):=by kernel_rfl
theorem rgs_4:rgs (ntmps 42) sp4.tin=le0U4 12 0 100++(le0U4 5 0 1536++(le0U4 15 0 512++(le0U4 10 1 3++rgCU4))):=by kernel_rfl
theorem r4_of {β:Ren} (h:FactsP β (rgs (ntmps 42) sp4.tin)):RA β:=by
 rw [rgs_4] at h
 simp only [le0U4,rgCU4,triv1U4,List.cons_append,List.nil_append,FactsP,TB.P,den_litI,den_varI] at h
 obtain ⟨a1,a2,a3,a4,_,_,_,_,_,c1,c2,c3,c4,_,_,_,a5,a6,_,a7,a8,a9,a10,a11,a12,a13,a14,_⟩:=h
 exact ⟨⟨a1,a2⟩,⟨a3,a4⟩,⟨a5,a6⟩,⟨a7,a8⟩,⟨a9,a10⟩,⟨a11,a12⟩,⟨a13,a14⟩,⟨c1,c2⟩,⟨c3,c4⟩⟩
theorem ra_of {β:Ren} (h:FactsP β (rgs (ntmps 42) tA)):RA β:=by
 rw [rgs_A] at h
 simp only [le0U4,rgCU4,triv1U4,List.cons_append,List.nil_append,FactsP,TB.P,den_litI,den_varI] at h
 obtain ⟨a1,a2,a3,a4,_,c1,c2,c3,c4,_,_,_,a5,a6,_,a7,a8,a9,a10,a11,a12,a13,a14,_⟩:=h
 exact ⟨⟨a1,a2⟩,⟨a3,a4⟩,⟨a5,a6⟩,⟨a7,a8⟩,⟨a9,a10⟩,⟨a11,a12⟩,⟨a13,a14⟩,⟨c1,c2⟩,⟨c3,c4⟩⟩
theorem rv_of {β:Ren} (h:FactsP β (rgs (ntmps 42) tV)):RV β:=by
 rw [rgs_V] at h
 simp only [le0U4,rgCU4,triv1U4,List.cons_append,List.nil_append,FactsP,TB.P,den_litI,den_varI] at h
 obtain ⟨a1,a2,a3,a4,b1,b2,b3,b4,_,c1,c2,c3,c4,_,_,_,a5,a6,_,a7,a8,a9,a10,a11,a12,a13,a14,_⟩:=h
 exact ⟨⟨⟨a1,a2⟩,⟨a3,a4⟩,⟨a5,a6⟩,⟨a7,a8⟩,⟨a9,a10⟩,⟨a11,a12⟩,⟨a13,a14⟩,⟨c1,c2⟩,⟨c3,c4⟩⟩,⟨b1,b2⟩,⟨b3,b4⟩⟩
def G10 (β:Ren):Goal where
 J:=fun j β1=>match j with
  | 0=>Sm β β1∧gI β1 13=gI β 13∧gI β1 14=gI β 14∧Prn (gI β 13)
  | 2=>Er β β1∧¬ Prn (gI β 13)
  | _=>False
 L:=fun _ _=>False
 O:=fun _ _ _ _=>False
 W:=fun _ _=>False
inductive Dc where
 | ok (v w:Int)
 | more
 | bad
abbrev ia (a b:Int):Int:=IOp.fn .and a b
abbrev sl (a b:Int):Int:=IOp.fn .shl a b
def dcd8 (n:Int) (b:Int→Int):Dc :=
 if ia (b 0) 128=0 then if n < 1 then .more else .ok (ia (b 0) 127) 1
 else if ia (b 0) 224=192 then
  if n < 2 then .more
  else if ia (b 1) 192=128 then if sl (ia (b 0) 31) 6 + ia (b 1) 63 < 128 then .bad else .ok (sl (ia (b 0) 31) 6 + ia (b 1) 63) 2
  else .bad
 else if ia (b 0) 240=224 then
  if n < 3 then .more
  else if ia (b 1) 192=128 then
   if ia (b 2) 192=128 then
    if sl (sl (ia (b 0) 15) 6 + ia (b 1) 63) 6 + ia (b 2) 63 < 2048 then .bad
    else if ¬ sl (sl (ia (b 0) 15) 6 + ia (b 1) 63) 6 + ia (b 2) 63 < 55296∧¬ 57343 < sl (sl (ia (b 0) 15) 6 + ia (b 1) 63) 6 + ia (b 2) 63 then .bad
    else .ok (sl (sl (ia (b 0) 15) 6 + ia (b 1) 63) 6 + ia (b 2) 63) 3
   else .bad
  else .bad
 else if ia (b 0) 248=240 then
  if n < 4 then .more
  else if ia (b 1) 192=128 then
   if ia (b 2) 192=128 then
    if ia (b 3) 192=128 then
     if sl (sl (sl (ia (b 0) 7) 6 + ia (b 1) 63) 6 + ia (b 2) 63) 6 + ia (b 3) 63 < 65536 then .bad
     else if (¬ sl (sl (sl (ia (b 0) 7) 6 + ia (b 1) 63) 6 + ia (b 2) 63) 6 + ia (b 3) 63 < 55296∧¬ 57343 < sl (sl (sl (ia (b 0) 7) 6 + ia (b 1) 63) 6 + ia (b 2) 63) 6 + ia (b 3) 63)∨1114111 < sl (sl (sl (ia (b 0) 7) 6 + ia (b 1) 63) 6 + ia (b 2) 63) 6 + ia (b 3) 63 then .bad
     else .ok (sl (sl (sl (ia (b 0) 7) 6 + ia (b 1) 63) 6 + ia (b 2) 63) 6 + ia (b 3) 63) 4
    else .bad
   else .bad
  else .bad
 else .bad
def dcd16 (n u v:Int):Dc :=
 if n < 2 then .more
 else if ia u 64512=56320 then .bad
 else if ia u 64512=55296 then
  if n < 4 then .more
  else if ia v 64512=56320 then .ok (sl (ia u 1023) 10 + 65536 + ia v 1023) 4 else .bad
 else .ok u 2
def dcd (e n:Int) (b:Int→Int):Dc :=
 if e=1 then dcd8 n b else if e=2 then dcd16 n (b 0 + sl (b 1) 8) (b 2 + sl (b 3) 8) else dcd16 n (b 1 + sl (b 0) 8) (b 3 + sl (b 2) 8)
noncomputable def rb (β:Ren) (k:Int):Int:=(((gL β 4).getD (gI β 7 + k).toNat 0).toNat:Int)
noncomputable def dcs (β:Ren):Dc:=dcd (gI β 10) (gI β 15) (rb β)
def G4 (β:Ren):Goal where
 J:=fun j β1=>match j with
  | 0=>Sm β β1∧dcs β=.ok (gI β1 13) (gI β1 14)
  | 1=>Sm β β1∧dcs β=.more∧gB β 11=false
  | 2=>Er β β1∧(dcs β=.bad∨dcs β=.more∧gB β 11=true)
  | _=>False
 L:=fun _ _=>False
 O:=fun _ _ _ _=>False
 W:=fun _ _=>False
theorem rb0 (β:Ren):(((gL β 4).getD (gI β 7).toNat 0).toNat:Int)=rb β 0:=by unfold rb; rw [Int.add_zero]
theorem rbk (β:Ren) (k:Int):(((gL β 4).getD (gI β 7 + k).toNat 0).toNat:Int)=rb β k:=rfl
theorem fn_add (a b:Int):IOp.fn .add a b=a + b:=rfl
theorem fn_sub (a b:Int):IOp.fn .sub a b=a - b:=rfl
structure Look (β:Ren):Prop where
 n:gI β 15=gI β 6 - gI β 7
 lt:gI β 7 < gI β 6
 len:(gL β 4).length=512
set_option maxRecDepth 100000
set_option maxHeartbeats 0
theorem hold41 {β:Ren} (hβ:β.length=90) (hv:RA β) (hL:Look β):lit41.Holds (G4 β) β:=by
 unfold lit41
 obtain ⟨r12,r5,r8,r6,r7,r10,r9,r18,r19⟩:=hv
 obtain ⟨ln,ll,lr⟩:=hL
 refine (need_o hβ ?_ (need_o hβ ?_ (fork_of (fork_of (fork_of (leaf_o [] hβ ?_) (leaf_o opA hβ ?_)) (leaf_o opA hβ ?_)) (fork_of (fork_of (fork_of (leaf_o [] hβ ?_) (leaf_o opA hβ ?_)) (need_o hβ ?_ (need_o hβ ?_ (fork_of (leaf_o [] hβ ?_) (fork_of (leaf_o opA hβ ?_) (leaf_o [] hβ ?_)))))) (fork_of (fork_of (fork_of (leaf_o [] hβ ?_) (leaf_o opA hβ ?_)) (need_o hβ ?_ (need_o hβ ?_ (fork_of (leaf_o [] hβ ?_) (need_o hβ ?_ (need_o hβ ?_ (fork_of (leaf_o [] hβ ?_) (fork_of (fork_of (leaf_o [] hβ ?_) (leaf_o opA hβ ?_)) (leaf_o [] hβ ?_))))))))) (fork_of (fork_of (fork_of (leaf_o [] hβ ?_) (leaf_o opA hβ ?_)) (need_o hβ ?_ (need_o hβ ?_ (fork_of (leaf_o [] hβ ?_) (need_o hβ ?_ (need_o hβ ?_ (fork_of (leaf_o [] hβ ?_) (need_o hβ ?_ (need_o hβ ?_ (fork_of (leaf_o [] hβ ?_) (fork_of (fork_of (leaf_o [] hβ ?_) (leaf_o opA hβ ?_)) (leaf_o [] hβ ?_)))))))))))) (leaf_o [] hβ ?_)))))))
 iterate 2 (focus (intro hA; simp only [DD] at hA ⊢; omega))
 ·intro γ0 hl0 hA hr0 hid0 hI
  simp only [DD] at hA
  obtain ⟨a0,a1,a2,a3,a4,a5⟩:=hA
  simp only [DD] at hI
  obtain ⟨i74,i17,i4,i3,i9,i10,i7,i6,i2,i8,i1,i11,i19,i72,i18,i16,i0,i73⟩:=hI
  try simp only [fn_add,fn_sub,rb0,rbk] at a0 a1 a2 a3 a4 a5
  refine ⟨⟨i0,i73⟩,.inr ⟨?_,a0⟩⟩
  simp [dcs,dcd,dcd8,dcd16,fn_add,a0,a1,a2,a3,a4,a5] <;> (simp only [sl,ia]; omega)
 ·intro γ0 hl0 hA hr0 hid0 hI
  simp only [DD] at hA
  obtain ⟨a0,a1,a2,a3,a4,a5⟩:=hA
  simp only [DD] at hI
  obtain ⟨i74,i17,i4,i3,i9,i10,i7,i6,i2,i8,i1,i11,i19,i72,i18,i16,i5,i12,i0,i73⟩:=hI
  try simp only [fn_add,fn_sub,rb0,rbk] at a0 a1 a2 a3 a4 a5
  refine ⟨⟨⟨i0,i1,i2,i4,i6,i10,i12,Bool.eq_iff_iff.2 i11,i16,i73,i74,i17,i18,i19,i72,hid0⟩,i3,i5,i7,i8,i9⟩,?_,by simpa using a0⟩
  simp [dcs,dcd,dcd8,dcd16,fn_add,a0,a1,a2,a3,a4,a5] <;> (simp only [sl,ia]; omega)
 ·intro γ0 hl0 hA hr0 hid0 hI
  simp only [DD] at hA
  obtain ⟨a0,a1,a2,a3,a4⟩:=hA
  simp only [DD] at hI
  obtain ⟨i74,i17,i4,i3,i9,i10,i7,i6,i2,i8,i1,i11,i19,i72,i18,i16,i14,i13,i5,i12,i0,i73⟩:=hI
  try simp only [fn_add,rb0,rbk] at a0 a1 a2 a3 a4 i13 i14
  refine ⟨⟨⟨i0,i1,i2,i4,i6,i10,i12,Bool.eq_iff_iff.2 i11,i16,i73,i74,i17,i18,i19,i72,hid0⟩,i3,i5,i7,i8,i9⟩,?_⟩
  rw [i13,i14]
  simp [dcs,dcd,dcd8,dcd16,fn_add,a0,a1,a2,a3,a4] <;> (simp only [sl,ia]; omega)
 ·intro γ0 hl0 hA hr0 hid0 hI
  simp only [DD] at hA
  obtain ⟨a0,a1,a2,a3,a4,a5,a6⟩:=hA
  simp only [DD] at hI
  obtain ⟨i74,i17,i4,i3,i9,i10,i7,i6,i2,i8,i1,i11,i19,i72,i18,i16,i0,i73⟩:=hI
  try simp only [fn_add,fn_sub,rb0,rbk] at a0 a1 a2 a3 a4 a5 a6
  refine ⟨⟨i0,i73⟩,.inr ⟨?_,a0⟩⟩
  simp [dcs,dcd,dcd8,dcd16,fn_add,a0,a1,a2,a3,a4,a5,a6] <;> (simp only [sl,ia]; omega)
 ·intro γ0 hl0 hA hr0 hid0 hI
  simp only [DD] at hA
  obtain ⟨a0,a1,a2,a3,a4,a5,a6⟩:=hA
  simp only [DD] at hI
  obtain ⟨i74,i17,i4,i3,i9,i10,i7,i6,i2,i8,i1,i11,i19,i72,i18,i16,i5,i12,i0,i73⟩:=hI
  try simp only [fn_add,fn_sub,rb0,rbk] at a0 a1 a2 a3 a4 a5 a6
  refine ⟨⟨⟨i0,i1,i2,i4,i6,i10,i12,Bool.eq_iff_iff.2 i11,i16,i73,i74,i17,i18,i19,i72,hid0⟩,i3,i5,i7,i8,i9⟩,?_,by simpa using a0⟩
  simp [dcs,dcd,dcd8,dcd16,fn_add,a0,a1,a2,a3,a4,a5,a6] <;> (simp only [sl,ia]; omega)
 iterate 2 (focus (intro hA; simp only [DD] at hA ⊢; omega))
 ·intro γ0 hl0 hA hr0 hid0 hI
  simp only [DD] at hA
  obtain ⟨a0,a1,a2,a3,a4,a5,a6,a7,a8⟩:=hA
  simp only [DD] at hI
  obtain ⟨i74,i17,i4,i3,i9,i10,i7,i6,i2,i8,i1,i11,i19,i72,i18,i16,i0,i73⟩:=hI
  try simp only [fn_add,fn_sub,rb0,rbk] at a0 a1 a2 a3 a4 a5 a6 a7 a8
  refine ⟨⟨i0,i73⟩,.inl ?_⟩
  simp [dcs,dcd,dcd8,dcd16,fn_add,a0,a1,a2,a3,a4,a5,a6,a7,a8] <;> (simp only [sl,ia]; omega)
 ·intro γ0 hl0 hA hr0 hid0 hI
  simp only [DD] at hA
  obtain ⟨a0,a1,a2,a3,a4,a5,a6,a7,a8,a9⟩:=hA
  simp only [DD] at hI
  obtain ⟨i74,i17,i4,i3,i9,i10,i7,i6,i2,i8,i1,i11,i19,i72,i18,i16,i14,i13,i5,i12,i0,i73⟩:=hI
  try simp only [fn_add,rb0,rbk] at a0 a1 a2 a3 a4 a5 a6 a7 a8 a9 i13 i14
  refine ⟨⟨⟨i0,i1,i2,i4,i6,i10,i12,Bool.eq_iff_iff.2 i11,i16,i73,i74,i17,i18,i19,i72,hid0⟩,i3,i5,i7,i8,i9⟩,?_⟩
  rw [i13,i14]
  simp [dcs,dcd,dcd8,dcd16,fn_add,a0,a1,a2,a3,a4,a5,a6,a7,a8,a9] <;> (simp only [sl,ia]; omega)
 ·intro γ0 hl0 hA hr0 hid0 hI
  simp only [DD] at hA
  obtain ⟨a0,a1,a2,a3,a4,a5,a6,a7,a8,a9⟩:=hA
  simp only [DD] at hI
  obtain ⟨i74,i17,i4,i3,i9,i10,i7,i6,i2,i8,i1,i11,i19,i72,i18,i16,i0,i73⟩:=hI
  try simp only [fn_add,fn_sub,rb0,rbk] at a0 a1 a2 a3 a4 a5 a6 a7 a8 a9
  refine ⟨⟨i0,i73⟩,.inl ?_⟩
  simp [dcs,dcd,dcd8,dcd16,fn_add,a0,a1,a2,a3,a4,a5,a6,a7,a8,a9] <;> (simp only [sl,ia]; omega)
 ·intro γ0 hl0 hA hr0 hid0 hI
  simp only [DD] at hA
  obtain ⟨a0,a1,a2,a3,a4,a5,a6,a7⟩:=hA
  simp only [DD] at hI
  obtain ⟨i74,i17,i4,i3,i9,i10,i7,i6,i2,i8,i1,i11,i19,i72,i18,i16,i0,i73⟩:=hI
  try simp only [fn_add,fn_sub,rb0,rbk] at a0 a1 a2 a3 a4 a5 a6 a7
  refine ⟨⟨i0,i73⟩,.inr ⟨?_,a0⟩⟩
  simp [dcs,dcd,dcd8,dcd16,fn_add,a0,a1,a2,a3,a4,a5,a6,a7] <;> (simp only [sl,ia]; omega)
 ·intro γ0 hl0 hA hr0 hid0 hI
  simp only [DD] at hA
  obtain ⟨a0,a1,a2,a3,a4,a5,a6,a7⟩:=hA
  simp only [DD] at hI
  obtain ⟨i74,i17,i4,i3,i9,i10,i7,i6,i2,i8,i1,i11,i19,i72,i18,i16,i5,i12,i0,i73⟩:=hI
  try simp only [fn_add,fn_sub,rb0,rbk] at a0 a1 a2 a3 a4 a5 a6 a7
  refine ⟨⟨⟨i0,i1,i2,i4,i6,i10,i12,Bool.eq_iff_iff.2 i11,i16,i73,i74,i17,i18,i19,i72,hid0⟩,i3,i5,i7,i8,i9⟩,?_,by simpa using a0⟩
  simp [dcs,dcd,dcd8,dcd16,fn_add,a0,a1,a2,a3,a4,a5,a6,a7] <;> (simp only [sl,ia]; omega)
 iterate 2 (focus (intro hA; simp only [DD] at hA ⊢; omega))
 ·intro γ0 hl0 hA hr0 hid0 hI
  simp only [DD] at hA
  obtain ⟨a0,a1,a2,a3,a4,a5,a6,a7,a8,a9⟩:=hA
  simp only [DD] at hI
  obtain ⟨i74,i17,i4,i3,i9,i10,i7,i6,i2,i8,i1,i11,i19,i72,i18,i16,i0,i73⟩:=hI
  try simp only [fn_add,fn_sub,rb0,rbk] at a0 a1 a2 a3 a4 a5 a6 a7 a8 a9
  refine ⟨⟨i0,i73⟩,.inl ?_⟩
  simp [dcs,dcd,dcd8,dcd16,fn_add,a0,a1,a2,a3,a4,a5,a6,a7,a8,a9] <;> (simp only [sl,ia]; omega)
 iterate 2 (focus (intro hA; simp only [DD] at hA ⊢; omega))
 ·intro γ0 hl0 hA hr0 hid0 hI
  simp only [DD] at hA
  obtain ⟨a0,a1,a2,a3,a4,a5,a6,a7,a8,a9,a10,a11,a12⟩:=hA
  simp only [DD] at hI
  obtain ⟨i74,i17,i4,i3,i9,i10,i7,i6,i2,i8,i1,i11,i19,i72,i18,i16,i0,i73⟩:=hI
  try simp only [fn_add,fn_sub,rb0,rbk] at a0 a1 a2 a3 a4 a5 a6 a7 a8 a9 a10 a11 a12
  refine ⟨⟨i0,i73⟩,.inl ?_⟩
  simp [dcs,dcd,dcd8,dcd16,fn_add,a0,a1,a2,a3,a4,a5,a6,a7,a8,a9,a10,a11,a12] <;> (simp only [sl,ia]; omega)
 ·intro γ0 hl0 hA hr0 hid0 hI
  simp only [DD] at hA
  obtain ⟨a0,a1,a2,a3,a4,a5,a6,a7,a8,a9,a10,a11,a12,a13,a14,a15⟩:=hA
  simp only [DD] at hI
  obtain ⟨i74,i17,i4,i3,i9,i10,i7,i6,i2,i8,i1,i11,i19,i72,i18,i16,i0,i73⟩:=hI
  try simp only [fn_add,fn_sub,rb0,rbk] at a0 a1 a2 a3 a4 a5 a6 a7 a8 a9 a10 a11 a12 a13 a14 a15
  refine ⟨⟨i0,i73⟩,.inl ?_⟩
  simp [dcs,dcd,dcd8,dcd16,fn_add,a0,a1,a2,a3,a4,a5,a6,a7,a8,a9,a10,a11,a12,a13,a14,a15] <;> (simp only [sl,ia]; omega)
 ·intro γ0 hl0 hA hr0 hid0 hI
  simp only [DD] at hA
  obtain ⟨a0,a1,a2,a3,a4,a5,a6,a7,a8,a9,a10,a11,a12,a13,a14⟩:=hA
  simp only [DD] at hI
  obtain ⟨i74,i17,i4,i3,i9,i10,i7,i6,i2,i8,i1,i11,i19,i72,i18,i16,i14,i13,i5,i12,i0,i73⟩:=hI
  try simp only [fn_add,rb0,rbk] at a0 a1 a2 a3 a4 a5 a6 a7 a8 a9 a10 a11 a12 a13 a14 i13 i14
  refine ⟨⟨⟨i0,i1,i2,i4,i6,i10,i12,Bool.eq_iff_iff.2 i11,i16,i73,i74,i17,i18,i19,i72,hid0⟩,i3,i5,i7,i8,i9⟩,?_⟩
  rw [i13,i14]
  simp [dcs,dcd,dcd8,dcd16,fn_add,a0,a1,a2,a3,a4,a5,a6,a7,a8,a9,a10,a11,a12,a13,a14] <;> (simp only [sl,ia]; omega)
 ·intro γ0 hl0 hA hr0 hid0 hI
  simp only [DD] at hA
  obtain ⟨a0,a1,a2,a3,a4,a5,a6,a7,a8,a9,a10,a11,a12,a13⟩:=hA
  simp only [DD] at hI
  obtain ⟨i74,i17,i4,i3,i9,i10,i7,i6,i2,i8,i1,i11,i19,i72,i18,i16,i0,i73⟩:=hI
  try simp only [fn_add,fn_sub,rb0,rbk] at a0 a1 a2 a3 a4 a5 a6 a7 a8 a9 a10 a11 a12 a13
  refine ⟨⟨i0,i73⟩,.inl ?_⟩
  simp [dcs,dcd,dcd8,dcd16,fn_add,a0,a1,a2,a3,a4,a5,a6,a7,a8,a9,a10,a11,a12,a13] <;> (simp only [sl,ia]; omega)
 ·intro γ0 hl0 hA hr0 hid0 hI
  simp only [DD] at hA
  obtain ⟨a0,a1,a2,a3,a4,a5,a6,a7,a8⟩:=hA
  simp only [DD] at hI
  obtain ⟨i74,i17,i4,i3,i9,i10,i7,i6,i2,i8,i1,i11,i19,i72,i18,i16,i0,i73⟩:=hI
  try simp only [fn_add,fn_sub,rb0,rbk] at a0 a1 a2 a3 a4 a5 a6 a7 a8
  refine ⟨⟨i0,i73⟩,.inr ⟨?_,a0⟩⟩
  simp [dcs,dcd,dcd8,dcd16,fn_add,a0,a1,a2,a3,a4,a5,a6,a7,a8] <;> (simp only [sl,ia]; omega)
 ·intro γ0 hl0 hA hr0 hid0 hI
  simp only [DD] at hA
  obtain ⟨a0,a1,a2,a3,a4,a5,a6,a7,a8⟩:=hA
  simp only [DD] at hI
  obtain ⟨i74,i17,i4,i3,i9,i10,i7,i6,i2,i8,i1,i11,i19,i72,i18,i16,i5,i12,i0,i73⟩:=hI
  try simp only [fn_add,fn_sub,rb0,rbk] at a0 a1 a2 a3 a4 a5 a6 a7 a8
  refine ⟨⟨⟨i0,i1,i2,i4,i6,i10,i12,Bool.eq_iff_iff.2 i11,i16,i73,i74,i17,i18,i19,i72,hid0⟩,i3,i5,i7,i8,i9⟩,?_,by simpa using a0⟩
  simp [dcs,dcd,dcd8,dcd16,fn_add,a0,a1,a2,a3,a4,a5,a6,a7,a8] <;> (simp only [sl,ia]; omega)
 iterate 2 (focus (intro hA; simp only [DD] at hA ⊢; omega))
 ·intro γ0 hl0 hA hr0 hid0 hI
  simp only [DD] at hA
  obtain ⟨a0,a1,a2,a3,a4,a5,a6,a7,a8,a9,a10⟩:=hA
  simp only [DD] at hI
  obtain ⟨i74,i17,i4,i3,i9,i10,i7,i6,i2,i8,i1,i11,i19,i72,i18,i16,i0,i73⟩:=hI
  try simp only [fn_add,fn_sub,rb0,rbk] at a0 a1 a2 a3 a4 a5 a6 a7 a8 a9 a10
  refine ⟨⟨i0,i73⟩,.inl ?_⟩
  simp [dcs,dcd,dcd8,dcd16,fn_add,a0,a1,a2,a3,a4,a5,a6,a7,a8,a9,a10] <;> (simp only [sl,ia]; omega)
 iterate 2 (focus (intro hA; simp only [DD] at hA ⊢; omega))
 ·intro γ0 hl0 hA hr0 hid0 hI
  simp only [DD] at hA
  obtain ⟨a0,a1,a2,a3,a4,a5,a6,a7,a8,a9,a10,a11,a12,a13⟩:=hA
  simp only [DD] at hI
  obtain ⟨i74,i17,i4,i3,i9,i10,i7,i6,i2,i8,i1,i11,i19,i72,i18,i16,i0,i73⟩:=hI
  try simp only [fn_add,fn_sub,rb0,rbk] at a0 a1 a2 a3 a4 a5 a6 a7 a8 a9 a10 a11 a12 a13
  refine ⟨⟨i0,i73⟩,.inl ?_⟩
  simp [dcs,dcd,dcd8,dcd16,fn_add,a0,a1,a2,a3,a4,a5,a6,a7,a8,a9,a10,a11,a12,a13] <;> (simp only [sl,ia]; omega)
 iterate 2 (focus (intro hA; simp only [DD] at hA ⊢; omega))
 ·intro γ0 hl0 hA hr0 hid0 hI
  simp only [DD] at hA
  obtain ⟨a0,a1,a2,a3,a4,a5,a6,a7,a8,a9,a10,a11,a12,a13,a14,a15,a16⟩:=hA
  simp only [DD] at hI
  obtain ⟨i74,i17,i4,i3,i9,i10,i7,i6,i2,i8,i1,i11,i19,i72,i18,i16,i0,i73⟩:=hI
  try simp only [fn_add,fn_sub,rb0,rbk] at a0 a1 a2 a3 a4 a5 a6 a7 a8 a9 a10 a11 a12 a13 a14 a15 a16
  refine ⟨⟨i0,i73⟩,.inl ?_⟩
  simp [dcs,dcd,dcd8,dcd16,fn_add,a0,a1,a2,a3,a4,a5,a6,a7,a8,a9,a10,a11,a12,a13,a14,a15,a16] <;> (simp only [sl,ia]; omega)
 ·intro γ0 hl0 hA hr0 hid0 hI
  simp only [DD] at hA
  obtain ⟨a0,a1,a2,a3,a4,a5,a6,a7,a8,a9,a10,a11,a12,a13,a14,a15,a16,a17,a18⟩:=hA
  simp only [DD] at hI
  obtain ⟨i74,i17,i4,i3,i9,i10,i7,i6,i2,i8,i1,i11,i19,i72,i18,i16,i0,i73⟩:=hI
  try simp only [fn_add,fn_sub,rb0,rbk] at a0 a1 a2 a3 a4 a5 a6 a7 a8 a9 a10 a11 a12 a13 a14 a15 a16 a17 a18
  refine ⟨⟨i0,i73⟩,.inl ?_⟩
  simp [dcs,dcd,dcd8,dcd16,fn_add,a0,a1,a2,a3,a4,a5,a6,a7,a8,a9,a10,a11,a12,a13,a14,a15,a16,a17,a18] <;> (simp only [sl,ia]; omega)
 ·intro γ0 hl0 hA hr0 hid0 hI
  simp only [DD] at hA
  obtain ⟨a0,a1,a2,a3,a4,a5,a6,a7,a8,a9,a10,a11,a12,a13,a14,a15,a16,a17,a18,a19⟩:=hA
  simp only [DD] at hI
  obtain ⟨i74,i17,i4,i3,i9,i10,i7,i6,i2,i8,i1,i11,i19,i72,i18,i16,i14,i13,i5,i12,i0,i73⟩:=hI
  try simp only [fn_add,rb0,rbk] at a0 a1 a2 a3 a4 a5 a6 a7 a8 a9 a10 a11 a12 a13 a14 a15 a16 a17 a18 a19 i13 i14
  refine ⟨⟨⟨i0,i1,i2,i4,i6,i10,i12,Bool.eq_iff_iff.2 i11,i16,i73,i74,i17,i18,i19,i72,hid0⟩,i3,i5,i7,i8,i9⟩,?_⟩
  rw [i13,i14]
  simp [dcs,dcd,dcd8,dcd16,fn_add,a0,a1,a2,a3,a4,a5,a6,a7,a8,a9,a10,a11,a12,a13,a14,a15,a16,a17,a18,a19] <;> (simp only [sl,ia]; omega)
 ·intro γ0 hl0 hA hr0 hid0 hI
  simp only [DD] at hA
  obtain ⟨a0,a1,a2,a3,a4,a5,a6,a7,a8,a9,a10,a11,a12,a13,a14,a15,a16,a17⟩:=hA
  simp only [DD] at hI
  obtain ⟨i74,i17,i4,i3,i9,i10,i7,i6,i2,i8,i1,i11,i19,i72,i18,i16,i0,i73⟩:=hI
  try simp only [fn_add,fn_sub,rb0,rbk] at a0 a1 a2 a3 a4 a5 a6 a7 a8 a9 a10 a11 a12 a13 a14 a15 a16 a17
  refine ⟨⟨i0,i73⟩,.inl ?_⟩
  simp [dcs,dcd,dcd8,dcd16,fn_add,a0,a1,a2,a3,a4,a5,a6,a7,a8,a9,a10,a11,a12,a13,a14,a15,a16,a17] <;> (simp only [sl,ia]; omega)
 ·intro γ0 hl0 hA hr0 hid0 hI
  simp only [DD] at hA
  obtain ⟨a0,a1,a2,a3,a4,a5,a6⟩:=hA
  simp only [DD] at hI
  obtain ⟨i74,i17,i4,i3,i9,i10,i7,i6,i2,i8,i1,i11,i19,i72,i18,i16,i0,i73⟩:=hI
  try simp only [fn_add,fn_sub,rb0,rbk] at a0 a1 a2 a3 a4 a5 a6
  refine ⟨⟨i0,i73⟩,.inl ?_⟩
  simp [dcs,dcd,dcd8,dcd16,fn_add,a0,a1,a2,a3,a4,a5,a6] <;> (simp only [sl,ia]; omega)
set_option maxRecDepth 100000
set_option maxHeartbeats 0
theorem hold42 {β:Ren} (hβ:β.length=90) (hv:RA β) (hL:Look β):lit42.Holds (G4 β) β:=by
 unfold lit42
 obtain ⟨r12,r5,r8,r6,r7,r10,r9,r18,r19⟩:=hv
 obtain ⟨ln,ll,lr⟩:=hL
 refine (fork_of (fork_of (leaf_o [] hβ ?_) (leaf_o opA hβ ?_)) (need_o hβ ?_ (need_o hβ ?_ (need_o hβ ?_ (need_o hβ ?_ (fork_of (leaf_o [] hβ ?_) (fork_of (fork_of (fork_of (leaf_o [] hβ ?_) (leaf_o opA hβ ?_)) (need_o hβ ?_ (need_o hβ ?_ (need_o hβ ?_ (need_o hβ ?_ (fork_of (leaf_o [] hβ ?_) (leaf_o opA hβ ?_))))))) (leaf_o opA hβ ?_))))))))
 ·intro γ0 hl0 hA hr0 hid0 hI
  simp only [DD] at hA
  obtain ⟨a0,a1,a2,a3⟩:=hA
  simp only [DD] at hI
  obtain ⟨i74,i17,i4,i3,i9,i10,i7,i6,i2,i8,i1,i11,i19,i72,i18,i16,i0,i73⟩:=hI
  try simp only [fn_add,fn_sub,rb0,rbk] at a0 a1 a2 a3
  refine ⟨⟨i0,i73⟩,.inr ⟨?_,a0⟩⟩
  simp [dcs,dcd,dcd8,dcd16,fn_add,a0,a1,a2,a3] <;> (simp only [sl,ia]; omega)
 ·intro γ0 hl0 hA hr0 hid0 hI
  simp only [DD] at hA
  obtain ⟨a0,a1,a2,a3⟩:=hA
  simp only [DD] at hI
  obtain ⟨i74,i17,i4,i3,i9,i10,i7,i6,i2,i8,i1,i11,i19,i72,i18,i16,i5,i12,i0,i73⟩:=hI
  try simp only [fn_add,fn_sub,rb0,rbk] at a0 a1 a2 a3
  refine ⟨⟨⟨i0,i1,i2,i4,i6,i10,i12,Bool.eq_iff_iff.2 i11,i16,i73,i74,i17,i18,i19,i72,hid0⟩,i3,i5,i7,i8,i9⟩,?_,by simpa using a0⟩
  simp [dcs,dcd,dcd8,dcd16,fn_add,a0,a1,a2,a3] <;> (simp only [sl,ia]; omega)
 iterate 4 (focus (intro hA; simp only [DD] at hA ⊢; omega))
 ·intro γ0 hl0 hA hr0 hid0 hI
  simp only [DD] at hA
  obtain ⟨a0,a1,a2,a3,a4,a5,a6,a7⟩:=hA
  simp only [DD] at hI
  obtain ⟨i74,i17,i4,i3,i9,i10,i7,i6,i2,i8,i1,i11,i19,i72,i18,i16,i0,i73⟩:=hI
  try simp only [fn_add,fn_sub,rb0,rbk] at a0 a1 a2 a3 a4 a5 a6 a7
  refine ⟨⟨i0,i73⟩,.inl ?_⟩
  simp [dcs,dcd,dcd8,dcd16,fn_add,a0,a1,a2,a3,a4,a5,a6,a7] <;> (simp only [sl,ia]; omega)
 ·intro γ0 hl0 hA hr0 hid0 hI
  simp only [DD] at hA
  obtain ⟨a0,a1,a2,a3,a4,a5,a6,a7,a8,a9,a10⟩:=hA
  simp only [DD] at hI
  obtain ⟨i74,i17,i4,i3,i9,i10,i7,i6,i2,i8,i1,i11,i19,i72,i18,i16,i0,i73⟩:=hI
  try simp only [fn_add,fn_sub,rb0,rbk] at a0 a1 a2 a3 a4 a5 a6 a7 a8 a9 a10
  refine ⟨⟨i0,i73⟩,.inr ⟨?_,a0⟩⟩
  simp [dcs,dcd,dcd8,dcd16,fn_add,a0,a1,a2,a3,a4,a5,a6,a7,a8,a9,a10] <;> (simp only [sl,ia]; omega)
 ·intro γ0 hl0 hA hr0 hid0 hI
  simp only [DD] at hA
  obtain ⟨a0,a1,a2,a3,a4,a5,a6,a7,a8,a9,a10⟩:=hA
  simp only [DD] at hI
  obtain ⟨i74,i17,i4,i3,i9,i10,i7,i6,i2,i8,i1,i11,i19,i72,i18,i16,i5,i12,i0,i73⟩:=hI
  try simp only [fn_add,fn_sub,rb0,rbk] at a0 a1 a2 a3 a4 a5 a6 a7 a8 a9 a10
  refine ⟨⟨⟨i0,i1,i2,i4,i6,i10,i12,Bool.eq_iff_iff.2 i11,i16,i73,i74,i17,i18,i19,i72,hid0⟩,i3,i5,i7,i8,i9⟩,?_,by simpa using a0⟩
  simp [dcs,dcd,dcd8,dcd16,fn_add,a0,a1,a2,a3,a4,a5,a6,a7,a8,a9,a10] <;> (simp only [sl,ia]; omega)
 iterate 4 (focus (intro hA; simp only [DD] at hA ⊢; omega))
 ·intro γ0 hl0 hA hr0 hid0 hI
  simp only [DD] at hA
  obtain ⟨a0,a1,a2,a3,a4,a5,a6,a7,a8,a9,a10,a11,a12,a13,a14⟩:=hA
  simp only [DD] at hI
  obtain ⟨i74,i17,i4,i3,i9,i10,i7,i6,i2,i8,i1,i11,i19,i72,i18,i16,i0,i73⟩:=hI
  try simp only [fn_add,fn_sub,rb0,rbk] at a0 a1 a2 a3 a4 a5 a6 a7 a8 a9 a10 a11 a12 a13 a14
  refine ⟨⟨i0,i73⟩,.inl ?_⟩
  simp [dcs,dcd,dcd8,dcd16,fn_add,a0,a1,a2,a3,a4,a5,a6,a7,a8,a9,a10,a11,a12,a13,a14] <;> (simp only [sl,ia]; omega)
 ·intro γ0 hl0 hA hr0 hid0 hI
  simp only [DD] at hA
  obtain ⟨a0,a1,a2,a3,a4,a5,a6,a7,a8,a9,a10,a11,a12,a13,a14⟩:=hA
  simp only [DD] at hI
  obtain ⟨i74,i17,i4,i3,i9,i10,i7,i6,i2,i8,i1,i11,i19,i72,i18,i16,i14,i13,i5,i12,i0,i73⟩:=hI
  try simp only [fn_add,rb0,rbk] at a0 a1 a2 a3 a4 a5 a6 a7 a8 a9 a10 a11 a12 a13 a14 i13 i14
  refine ⟨⟨⟨i0,i1,i2,i4,i6,i10,i12,Bool.eq_iff_iff.2 i11,i16,i73,i74,i17,i18,i19,i72,hid0⟩,i3,i5,i7,i8,i9⟩,?_⟩
  rw [i13,i14]
  simp [dcs,dcd,dcd8,dcd16,fn_add,a0,a1,a2,a3,a4,a5,a6,a7,a8,a9,a10,a11,a12,a13,a14] <;> (simp only [sl,ia]; omega)
 ·intro γ0 hl0 hA hr0 hid0 hI
  simp only [DD] at hA
  obtain ⟨a0,a1,a2,a3,a4,a5,a6,a7,a8⟩:=hA
  simp only [DD] at hI
  obtain ⟨i74,i17,i4,i3,i9,i10,i7,i6,i2,i8,i1,i11,i19,i72,i18,i16,i14,i13,i5,i12,i0,i73⟩:=hI
  try simp only [fn_add,rb0,rbk] at a0 a1 a2 a3 a4 a5 a6 a7 a8 i13 i14
  refine ⟨⟨⟨i0,i1,i2,i4,i6,i10,i12,Bool.eq_iff_iff.2 i11,i16,i73,i74,i17,i18,i19,i72,hid0⟩,i3,i5,i7,i8,i9⟩,?_⟩
  rw [i13,i14]
  simp [dcs,dcd,dcd8,dcd16,fn_add,a0,a1,a2,a3,a4,a5,a6,a7,a8] <;> (simp only [sl,ia]; omega)
set_option maxRecDepth 100000
set_option maxHeartbeats 0
theorem hold43 {β:Ren} (hβ:β.length=90) (hv:RA β) (hL:Look β):lit43.Holds (G4 β) β:=by
 unfold lit43
 obtain ⟨r12,r5,r8,r6,r7,r10,r9,r18,r19⟩:=hv
 obtain ⟨ln,ll,lr⟩:=hL
 refine (fork_of (fork_of (leaf_o [] hβ ?_) (leaf_o opA hβ ?_)) (need_o hβ ?_ (need_o hβ ?_ (need_o hβ ?_ (need_o hβ ?_ (fork_of (leaf_o [] hβ ?_) (fork_of (fork_of (fork_of (leaf_o [] hβ ?_) (leaf_o opA hβ ?_)) (need_o hβ ?_ (need_o hβ ?_ (need_o hβ ?_ (need_o hβ ?_ (fork_of (leaf_o [] hβ ?_) (leaf_o opA hβ ?_))))))) (leaf_o opA hβ ?_))))))))
 ·intro γ0 hl0 hA hr0 hid0 hI
  simp only [DD] at hA
  obtain ⟨a0,a1,a2,a3,a4⟩:=hA
  simp only [DD] at hI
  obtain ⟨i74,i17,i4,i3,i9,i10,i7,i6,i2,i8,i1,i11,i19,i72,i18,i16,i0,i73⟩:=hI
  try simp only [fn_add,fn_sub,rb0,rbk] at a0 a1 a2 a3 a4
  refine ⟨⟨i0,i73⟩,.inr ⟨?_,a0⟩⟩
  simp [dcs,dcd,dcd8,dcd16,fn_add,a0,a1,a2,a3,a4] <;> (simp only [sl,ia]; omega)
 ·intro γ0 hl0 hA hr0 hid0 hI
  simp only [DD] at hA
  obtain ⟨a0,a1,a2,a3,a4⟩:=hA
  simp only [DD] at hI
  obtain ⟨i74,i17,i4,i3,i9,i10,i7,i6,i2,i8,i1,i11,i19,i72,i18,i16,i5,i12,i0,i73⟩:=hI
  try simp only [fn_add,fn_sub,rb0,rbk] at a0 a1 a2 a3 a4
  refine ⟨⟨⟨i0,i1,i2,i4,i6,i10,i12,Bool.eq_iff_iff.2 i11,i16,i73,i74,i17,i18,i19,i72,hid0⟩,i3,i5,i7,i8,i9⟩,?_,by simpa using a0⟩
  simp [dcs,dcd,dcd8,dcd16,fn_add,a0,a1,a2,a3,a4] <;> (simp only [sl,ia]; omega)
 iterate 4 (focus (intro hA; simp only [DD] at hA ⊢; omega))
 ·intro γ0 hl0 hA hr0 hid0 hI
  simp only [DD] at hA
  obtain ⟨a0,a1,a2,a3,a4,a5,a6,a7,a8⟩:=hA
  simp only [DD] at hI
  obtain ⟨i74,i17,i4,i3,i9,i10,i7,i6,i2,i8,i1,i11,i19,i72,i18,i16,i0,i73⟩:=hI
  try simp only [fn_add,fn_sub,rb0,rbk] at a0 a1 a2 a3 a4 a5 a6 a7 a8
  refine ⟨⟨i0,i73⟩,.inl ?_⟩
  simp [dcs,dcd,dcd8,dcd16,fn_add,a0,a1,a2,a3,a4,a5,a6,a7,a8] <;> (simp only [sl,ia]; omega)
 ·intro γ0 hl0 hA hr0 hid0 hI
  simp only [DD] at hA
  obtain ⟨a0,a1,a2,a3,a4,a5,a6,a7,a8,a9,a10,a11⟩:=hA
  simp only [DD] at hI
  obtain ⟨i74,i17,i4,i3,i9,i10,i7,i6,i2,i8,i1,i11,i19,i72,i18,i16,i0,i73⟩:=hI
  try simp only [fn_add,fn_sub,rb0,rbk] at a0 a1 a2 a3 a4 a5 a6 a7 a8 a9 a10 a11
  refine ⟨⟨i0,i73⟩,.inr ⟨?_,a0⟩⟩
  simp [dcs,dcd,dcd8,dcd16,fn_add,a0,a1,a2,a3,a4,a5,a6,a7,a8,a9,a10,a11] <;> (simp only [sl,ia]; omega)
 ·intro γ0 hl0 hA hr0 hid0 hI
  simp only [DD] at hA
  obtain ⟨a0,a1,a2,a3,a4,a5,a6,a7,a8,a9,a10,a11⟩:=hA
  simp only [DD] at hI
  obtain ⟨i74,i17,i4,i3,i9,i10,i7,i6,i2,i8,i1,i11,i19,i72,i18,i16,i5,i12,i0,i73⟩:=hI
  try simp only [fn_add,fn_sub,rb0,rbk] at a0 a1 a2 a3 a4 a5 a6 a7 a8 a9 a10 a11
  refine ⟨⟨⟨i0,i1,i2,i4,i6,i10,i12,Bool.eq_iff_iff.2 i11,i16,i73,i74,i17,i18,i19,i72,hid0⟩,i3,i5,i7,i8,i9⟩,?_,by simpa using a0⟩
  simp [dcs,dcd,dcd8,dcd16,fn_add,a0,a1,a2,a3,a4,a5,a6,a7,a8,a9,a10,a11] <;> (simp only [sl,ia]; omega)
 iterate 4 (focus (intro hA; simp only [DD] at hA ⊢; omega))
 ·intro γ0 hl0 hA hr0 hid0 hI
  simp only [DD] at hA
  obtain ⟨a0,a1,a2,a3,a4,a5,a6,a7,a8,a9,a10,a11,a12,a13,a14,a15⟩:=hA
  simp only [DD] at hI
  obtain ⟨i74,i17,i4,i3,i9,i10,i7,i6,i2,i8,i1,i11,i19,i72,i18,i16,i0,i73⟩:=hI
  try simp only [fn_add,fn_sub,rb0,rbk] at a0 a1 a2 a3 a4 a5 a6 a7 a8 a9 a10 a11 a12 a13 a14 a15
  refine ⟨⟨i0,i73⟩,.inl ?_⟩
  simp [dcs,dcd,dcd8,dcd16,fn_add,a0,a1,a2,a3,a4,a5,a6,a7,a8,a9,a10,a11,a12,a13,a14,a15] <;> (simp only [sl,ia]; omega)
 ·intro γ0 hl0 hA hr0 hid0 hI
  simp only [DD] at hA
  obtain ⟨a0,a1,a2,a3,a4,a5,a6,a7,a8,a9,a10,a11,a12,a13,a14,a15⟩:=hA
  simp only [DD] at hI
  obtain ⟨i74,i17,i4,i3,i9,i10,i7,i6,i2,i8,i1,i11,i19,i72,i18,i16,i14,i13,i5,i12,i0,i73⟩:=hI
  try simp only [fn_add,rb0,rbk] at a0 a1 a2 a3 a4 a5 a6 a7 a8 a9 a10 a11 a12 a13 a14 a15 i13 i14
  refine ⟨⟨⟨i0,i1,i2,i4,i6,i10,i12,Bool.eq_iff_iff.2 i11,i16,i73,i74,i17,i18,i19,i72,hid0⟩,i3,i5,i7,i8,i9⟩,?_⟩
  rw [i13,i14]
  simp [dcs,dcd,dcd8,dcd16,fn_add,a0,a1,a2,a3,a4,a5,a6,a7,a8,a9,a10,a11,a12,a13,a14,a15] <;> (simp only [sl,ia]; omega)
 ·intro γ0 hl0 hA hr0 hid0 hI
  simp only [DD] at hA
  obtain ⟨a0,a1,a2,a3,a4,a5,a6,a7,a8,a9⟩:=hA
  simp only [DD] at hI
  obtain ⟨i74,i17,i4,i3,i9,i10,i7,i6,i2,i8,i1,i11,i19,i72,i18,i16,i14,i13,i5,i12,i0,i73⟩:=hI
  try simp only [fn_add,rb0,rbk] at a0 a1 a2 a3 a4 a5 a6 a7 a8 a9 i13 i14
  refine ⟨⟨⟨i0,i1,i2,i4,i6,i10,i12,Bool.eq_iff_iff.2 i11,i16,i73,i74,i17,i18,i19,i72,hid0⟩,i3,i5,i7,i8,i9⟩,?_⟩
  rw [i13,i14]
  simp [dcs,dcd,dcd8,dcd16,fn_add,a0,a1,a2,a3,a4,a5,a6,a7,a8,a9] <;> (simp only [sl,ia]; omega)
set_option maxRecDepth 100000
theorem hold10 {β:Ren} (hβ:β.length=90) (hv:RV β):lit10.Holds (G10 β) β:=by
 unfold lit10
 obtain ⟨⟨r12,r5,r8,r6,r7,r10,r9,r18,r19⟩,r13,r14⟩:=hv
 refine (fork_of (leaf_o opA hβ ?_) (fork_of (leaf_o opA hβ ?_) (fork_of (leaf_o opA hβ ?_) (fork_of (leaf_o opA hβ ?_) (fork_of (leaf_o opA hβ ?_) (fork_of (leaf_o opA hβ ?_) (fork_of (leaf_o opA hβ ?_) (fork_of (leaf_o opA hβ ?_) (leaf_o [] hβ ?_)))))))))
 ·intro γ0 hl0 hA hr0 hid0 hI
  simp only [DD] at hA
  have a0:=hA
  simp only [DD] at hI
  obtain ⟨i74,i17,i4,i3,i9,i10,i7,i6,i2,i8,i1,i11,i19,i72,i18,i16,i14,i13,i5,i12,i0,i73⟩:=hI
  exact ⟨⟨⟨i0,i1,i2,i4,i6,i10,i12,Bool.eq_iff_iff.2 i11,i16,i73,i74,i17,i18,i19,i72,hid0⟩,i3,i5,i7,i8,i9⟩,i13,i14,by unfold Prn; omega⟩
 ·intro γ0 hl0 hA hr0 hid0 hI
  simp only [DD] at hA
  obtain ⟨a0,a1⟩:=hA
  simp only [DD] at hI
  obtain ⟨i74,i17,i4,i3,i9,i10,i7,i6,i2,i8,i1,i11,i19,i72,i18,i16,i14,i13,i5,i12,i0,i73⟩:=hI
  exact ⟨⟨⟨i0,i1,i2,i4,i6,i10,i12,Bool.eq_iff_iff.2 i11,i16,i73,i74,i17,i18,i19,i72,hid0⟩,i3,i5,i7,i8,i9⟩,i13,i14,by unfold Prn; omega⟩
 ·intro γ0 hl0 hA hr0 hid0 hI
  simp only [DD] at hA
  obtain ⟨a0,a1,a2⟩:=hA
  simp only [DD] at hI
  obtain ⟨i74,i17,i4,i3,i9,i10,i7,i6,i2,i8,i1,i11,i19,i72,i18,i16,i14,i13,i5,i12,i0,i73⟩:=hI
  exact ⟨⟨⟨i0,i1,i2,i4,i6,i10,i12,Bool.eq_iff_iff.2 i11,i16,i73,i74,i17,i18,i19,i72,hid0⟩,i3,i5,i7,i8,i9⟩,i13,i14,by unfold Prn; omega⟩
 ·intro γ0 hl0 hA hr0 hid0 hI
  simp only [DD] at hA
  obtain ⟨a0,a1,a2,a3,a4⟩:=hA
  simp only [DD] at hI
  obtain ⟨i74,i17,i4,i3,i9,i10,i7,i6,i2,i8,i1,i11,i19,i72,i18,i16,i14,i13,i5,i12,i0,i73⟩:=hI
  exact ⟨⟨⟨i0,i1,i2,i4,i6,i10,i12,Bool.eq_iff_iff.2 i11,i16,i73,i74,i17,i18,i19,i72,hid0⟩,i3,i5,i7,i8,i9⟩,i13,i14,by unfold Prn; omega⟩
 ·intro γ0 hl0 hA hr0 hid0 hI
  simp only [DD] at hA
  obtain ⟨a0,a1,a2,a3,a4⟩:=hA
  simp only [DD] at hI
  obtain ⟨i74,i17,i4,i3,i9,i10,i7,i6,i2,i8,i1,i11,i19,i72,i18,i16,i14,i13,i5,i12,i0,i73⟩:=hI
  exact ⟨⟨⟨i0,i1,i2,i4,i6,i10,i12,Bool.eq_iff_iff.2 i11,i16,i73,i74,i17,i18,i19,i72,hid0⟩,i3,i5,i7,i8,i9⟩,i13,i14,by unfold Prn; omega⟩
 ·intro γ0 hl0 hA hr0 hid0 hI
  simp only [DD] at hA
  obtain ⟨a0,a1,a2,a3,a4,a5,a6⟩:=hA
  simp only [DD] at hI
  obtain ⟨i74,i17,i4,i3,i9,i10,i7,i6,i2,i8,i1,i11,i19,i72,i18,i16,i14,i13,i5,i12,i0,i73⟩:=hI
  exact ⟨⟨⟨i0,i1,i2,i4,i6,i10,i12,Bool.eq_iff_iff.2 i11,i16,i73,i74,i17,i18,i19,i72,hid0⟩,i3,i5,i7,i8,i9⟩,i13,i14,by unfold Prn; omega⟩
 ·intro γ0 hl0 hA hr0 hid0 hI
  simp only [DD] at hA
  obtain ⟨a0,a1,a2,a3,a4,a5,a6,a7⟩:=hA
  simp only [DD] at hI
  obtain ⟨i74,i17,i4,i3,i9,i10,i7,i6,i2,i8,i1,i11,i19,i72,i18,i16,i14,i13,i5,i12,i0,i73⟩:=hI
  exact ⟨⟨⟨i0,i1,i2,i4,i6,i10,i12,Bool.eq_iff_iff.2 i11,i16,i73,i74,i17,i18,i19,i72,hid0⟩,i3,i5,i7,i8,i9⟩,i13,i14,by unfold Prn; omega⟩
 ·intro γ0 hl0 hA hr0 hid0 hI
  simp only [DD] at hA
  obtain ⟨a0,a1,a2,a3,a4,a5,a6,a7⟩:=hA
  simp only [DD] at hI
  obtain ⟨i74,i17,i4,i3,i9,i10,i7,i6,i2,i8,i1,i11,i19,i72,i18,i16,i14,i13,i5,i12,i0,i73⟩:=hI
  exact ⟨⟨⟨i0,i1,i2,i4,i6,i10,i12,Bool.eq_iff_iff.2 i11,i16,i73,i74,i17,i18,i19,i72,hid0⟩,i3,i5,i7,i8,i9⟩,i13,i14,by unfold Prn; omega⟩
 ·intro γ0 hl0 hA hr0 hid0 hI
  simp only [DD] at hA
  obtain ⟨a0,a1,a2,a3,a4,a5,a6,a7⟩:=hA
  simp only [DD] at hI
  obtain ⟨i74,i17,i4,i3,i9,i10,i7,i6,i2,i8,i1,i11,i19,i72,i18,i16,i0,i73⟩:=hI
  exact ⟨⟨i0,i73⟩,by unfold Prn; omega⟩
end U
