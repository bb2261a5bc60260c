-- the statement of this claim: see YtoamgocecoiggaaDoorRw
import Derived.Test.YtoamgocecoiggaaDoorM39
set_option linter.unusedVariables false
set_option linter.unusedSimpArgs false
open Go Go.SM Go.Proofs
namespace U
set_option maxRecDepth 100000
abbrev b3a0:List TB:=[(.lt (.var 23) (.var 31))]
abbrev b3a1:List TB:=(.lt (.var 23) (.lenN (.var 33)))::b3a0
abbrev b3a2:List TB:=(.lt (.selN (.var 33) (.var 23)) (.lit 128))::b3a1
abbrev b3a3:List TB:=(.not (.lt (.selN (.var 33) (.var 23)) (.lit 128)))::b3a1
abbrev b3a4:List TB:=(.lt (.selN (.var 33) (.var 23)) (.lit 2048))::b3a3
abbrev b3a5:List TB:=(.not (.lt (.selN (.var 33) (.var 23)) (.lit 2048)))::b3a3
abbrev b3a6:List TB:=(.lt (.selN (.var 33) (.var 23)) (.lit 65536))::b3a5
abbrev b3a7:List TB:=(.not (.lt (.selN (.var 33) (.var 23)) (.lit 65536)))::b3a5
abbrev b3a8:List TB:=[(.not (.lt (.var 23) (.var 31)))]
abbrev b3s0:SgT:=[(32,.itm (.var 32)),(31,.itm (.var 31)),(30,.blk 30),(73,.blk 73)]
abbrev b3s1:SgT:=(79,.new 92)::(23,.itm (.op .add (.var 23) (.lit 1)))::b3s0
abbrev b3s2:SgT:=(23,.itm (.var 23))::b3s0
noncomputable def lit_b11n:Tre:=(.fork (nd 90 b3a0 ((.lt (.var 23) (.lenN (.var 33))))
 (.fork (nd 93 b3a2 ((.not (.lt (.lit 1125899906842624) (.op .add (.var 23) (.lit 1)))))
 (lf 0 90 93 (rgs (E11 t11N).n t11S) ((82,.ltm (.app (.one (.wrap .u8 (.selN (.var 33) (.var 23)))) (.var 91)))::(74,.blk 74)::(33,.ntm (.var 33))::(81,.itm (.op .add (.len (.var 91)) (.lit 1)))::(80,.itm (.lit 1))::b3s1) ((.not (.lt (.lit 1125899906842624) (.op .add (.var 23) (.lit 1))))::b3a2)))
 (.fork (nd 93 b3a4 ((.not (.lt (.lit 1125899906842624) (.op .add (.var 23) (.lit 1)))))
 (lf 0 90 93 (rgs (E11 t11N).n t11S) ((82,.ltm (.app (.app (.one (.wrap .u8 (.op .or (.lit 192) (.op .shr (.selN (.var 33) (.var 23)) (.lit 6))))) (.one (.op .or (.lit 128) (.op .and (.selN (.var 33) (.var 23)) (.lit 63))))) (.var 91)))::(74,.blk 74)::(33,.ntm (.var 33))::(81,.itm (.op .add (.len (.var 91)) (.lit 2)))::(80,.itm (.lit 2))::b3s1) ((.not (.lt (.lit 1125899906842624) (.op .add (.var 23) (.lit 1))))::b3a4)))
 (.fork (nd 93 b3a6 ((.not (.lt (.lit 1125899906842624) (.op .add (.var 23) (.lit 1)))))
 (lf 0 90 93 (rgs (E11 t11N).n t11S) ((82,.ltm (.app (.app (.one (.wrap .u8 (.op .or (.lit 224) (.op .shr (.selN (.var 33) (.var 23)) (.lit 12))))) (.app (.one (.op .or (.lit 128) (.op .and (.op .shr (.selN (.var 33) (.var 23)) (.lit 6)) (.lit 63)))) (.one (.op .or (.lit 128) (.op .and (.selN (.var 33) (.var 23)) (.lit 63)))))) (.var 91)))::(74,.blk 74)::(33,.ntm (.var 33))::(81,.itm (.op .add (.len (.var 91)) (.lit 3)))::(80,.itm (.lit 3))::b3s1) ((.not (.lt (.lit 1125899906842624) (.op .add (.var 23) (.lit 1))))::b3a6)))
 (nd 93 b3a7 ((.not (.lt (.lit 1125899906842624) (.op .add (.var 23) (.lit 1)))))
 (lf 0 90 93 (rgs (E11 t11N).n t11S) ((82,.ltm (.app (.app (.one (.op .or (.lit 240) (.op .shr (.selN (.var 33) (.var 23)) (.lit 18)))) (.app (.one (.op .or (.lit 128) (.op .and (.op .shr (.selN (.var 33) (.var 23)) (.lit 12)) (.lit 63)))) (.app (.one (.op .or (.lit 128) (.op .and (.op .shr (.selN (.var 33) (.var 23)) (.lit 6)) (.lit 63)))) (.one (.op .or (.lit 128) (.op .and (.selN (.var 33) (.var 23)) (.lit 63))))))) (.var 91)))::(74,.blk 74)::(33,.ntm (.var 33))::(81,.itm (.op .add (.len (.var 91)) (.lit 4)))::(80,.itm (.lit 4))::b3s1) ((.not (.lt (.lit 1125899906842624) (.op .add (.var 23) (.lit 1))))::b3a7)))))))
 (lf 1 90 90 (rgs (E11 t11N).n t11N) ((74,.blk 74)::(33,.ntm (.var 33))::b3s2) b3a8))
theorem lit_b11n_eq:tre11 t11N []=lit_b11n:=by kernel_rfl
abbrev b3a9:List TB:=(.not (.lt (.len (.var 82)) (.var 81)))::b3a2
abbrev b3a10:List TB:=(.not (.lt (.lit 70368744177664) (.op .add (.len (.sub (.var 82) (.lit 0) (.var 80))) (.lit 1))))::b3a9
abbrev b3a11:List TB:=(.not (.lt (.len (.var 82)) (.var 81)))::b3a4
abbrev b3a12:List TB:=(.not (.lt (.lit 70368744177664) (.op .add (.len (.sub (.var 82) (.lit 0) (.var 80))) (.lit 2))))::b3a11
abbrev b3a13:List TB:=(.not (.lt (.len (.var 82)) (.var 81)))::b3a6
abbrev b3a14:List TB:=(.not (.lt (.lit 70368744177664) (.op .add (.len (.sub (.var 82) (.lit 0) (.var 80))) (.lit 3))))::b3a13
abbrev b3a15:List TB:=(.not (.lt (.len (.var 82)) (.var 81)))::b3a7
abbrev b3a16:List TB:=(.not (.lt (.lit 70368744177664) (.op .add (.len (.sub (.var 82) (.lit 0) (.var 80))) (.lit 4))))::b3a15
noncomputable def lit_b11s:Tre:=(.fork (nd 90 b3a0 ((.lt (.var 23) (.lenN (.var 33))))
 (.fork (nd 90 b3a2 ((.not (.lt (.len (.var 82)) (.var 81))))
 (nd 90 b3a9 ((.not (.lt (.lit 70368744177664) (.op .add (.len (.sub (.var 82) (.lit 0) (.var 80))) (.lit 1)))))
 (nd 93 b3a10 ((.not (.lt (.lit 1125899906842624) (.op .add (.var 23) (.lit 1)))))
 (lf 0 90 93 (rgs (E11 t11S).n t11S) ((82,.ltm (.app (.app (.sub (.var 82) (.lit 0) (.var 80)) (.one (.wrap .u8 (.selN (.var 33) (.var 23))))) (.var 91)))::(74,.blk 74)::(33,.ntm (.var 33))::(81,.itm (.op .add (.op .add (.len (.sub (.var 82) (.lit 0) (.var 80))) (.lit 1)) (.len (.var 91))))::(80,.itm (.op .add (.len (.sub (.var 82) (.lit 0) (.var 80))) (.lit 1)))::b3s1) ((.not (.lt (.lit 1125899906842624) (.op .add (.var 23) (.lit 1))))::b3a10)))))
 (.fork (nd 90 b3a4 ((.not (.lt (.len (.var 82)) (.var 81))))
 (nd 90 b3a11 ((.not (.lt (.lit 70368744177664) (.op .add (.len (.sub (.var 82) (.lit 0) (.var 80))) (.lit 2)))))
 (nd 93 b3a12 ((.not (.lt (.lit 1125899906842624) (.op .add (.var 23) (.lit 1)))))
 (lf 0 90 93 (rgs (E11 t11S).n t11S) ((82,.ltm (.app (.app (.sub (.var 82) (.lit 0) (.var 80)) (.app (.one (.wrap .u8 (.op .or (.lit 192) (.op .shr (.selN (.var 33) (.var 23)) (.lit 6))))) (.one (.op .or (.lit 128) (.op .and (.selN (.var 33) (.var 23)) (.lit 63)))))) (.var 91)))::(74,.blk 74)::(33,.ntm (.var 33))::(81,.itm (.op .add (.op .add (.len (.sub (.var 82) (.lit 0) (.var 80))) (.lit 2)) (.len (.var 91))))::(80,.itm (.op .add (.len (.sub (.var 82) (.lit 0) (.var 80))) (.lit 2)))::b3s1) ((.not (.lt (.lit 1125899906842624) (.op .add (.var 23) (.lit 1))))::b3a12)))))
 (.fork (nd 90 b3a6 ((.not (.lt (.len (.var 82)) (.var 81))))
 (nd 90 b3a13 ((.not (.lt (.lit 70368744177664) (.op .add (.len (.sub (.var 82) (.lit 0) (.var 80))) (.lit 3)))))
 (nd 93 b3a14 ((.not (.lt (.lit 1125899906842624) (.op .add (.var 23) (.lit 1)))))
 (lf 0 90 93 (rgs (E11 t11S).n t11S) ((82,.ltm (.app (.app (.sub (.var 82) (.lit 0) (.var 80)) (.app (.one (.wrap .u8 (.op .or (.lit 224) (.op .shr (.selN (.var 33) (.var 23)) (.lit 12))))) (.app (.one (.op .or (.lit 128) (.op .and (.op .shr (.selN (.var 33) (.var 23)) (.lit 6)) (.lit 63)))) (.one (.op .or (.lit 128) (.op .and (.selN (.var 33) (.var 23)) (.lit 63))))))) (.var 91)))::(74,.blk 74)::(33,.ntm (.var 33))::(81,.itm (.op .add (.op .add (.len (.sub (.var 82) (.lit 0) (.var 80))) (.lit 3)) (.len (.var 91))))::(80,.itm (.op .add (.len (.sub (.var 82) (.lit 0) (.var 80))) (.lit 3)))::b3s1) ((.not (.lt (.lit 1125899906842624) (.op .add (.var 23) (.lit 1))))::b3a14)))))
 (nd 90 b3a7 ((.not (.lt (.len (.var 82)) (.var 81))))
 (nd 90 b3a15 ((.not (.lt (.lit 70368744177664) (.op .add (.len (.sub (.var 82) (.lit 0) (.var 80))) (.lit 4)))))
 (nd 93 b3a16 ((.not (.lt (.lit 1125899906842624) (.op .add (.var 23) (.lit 1)))))
 (lf 0 90 93 (rgs (E11 t11S).n t11S) ((82,.ltm (.app (.app (.sub (.var 82) (.lit 0) (.var 80)) (.app (.one (.op .or (.lit 240) (.op .shr (.selN (.var 33) (.var 23)) (.lit 18)))) (.app (.one (.op .or (.lit 128) (.op .and (.op .shr (.selN (.var 33) (.var 23)) (.lit 12)) (.lit 63)))) (.app (.one (.op .or (.lit 128) (.op .and (.op .shr (.selN (.var 33) (.var 23)) (.lit 6)) (.lit 63)))) (.one (.op .or (.lit 128) (.op .and (.selN (.var 33) (.var 23)) (.lit 63)))))))) (.var 91)))::(74,.blk 74)::(33,.ntm (.var 33))::(81,.itm (.op .add (.op .add (.len (.sub (.var 82) (.lit 0) (.var 80))) (.lit 4)) (.len (.var 91))))::(80,.itm (.op .add (.len (.sub (.var 82) (.lit 0) (.var 80))) (.lit 4)))::b3s1) ((.not (.lt (.lit 1125899906842624) (.op .add (.var 23) (.lit 1))))::b3a16)))))))))
 (lf 1 90 90 (rgs (E11 t11S).n t11S) ((82,.ltm (.var 82))::(74,.blk 74)::(33,.ntm (.var 33))::(81,.itm (.var 81))::(80,.itm (.var 80))::(79,.blk 79)::b3s2) b3a8))
theorem lit_b11s_eq:tre11 t11S []=lit_b11s:=by kernel_rfl
structure PE (β:Ren):Prop where
 n:Ln β
 i23:0≤gI β 23∧gI β 23≤gI β 31
 i31:gI β 31≤1048576
 len:gI β 31≤(gN β 33).length
 el:∀ k:Int,0≤k→k < gI β 31→0≤(gN β 33).getD k.toNat 0∧(gN β 33).getD k.toNat 0≤1114111
noncomputable def vE (β:Ren):Int:=(gN β 33).getD (gI β 23).toNat 0
theorem PE.hv {β:Ren} (p:PE β) (h:gI β 23 < gI β 31):0≤(gN β 33).getD (gI β 23).toNat 0∧(gN β 33).getD (gI β 23).toNat 0≤1114111:=p.el _ p.i23.1 h
structure KE (β:Ren):Prop where
 a:0≤gI β 80∧gI β 80≤gI β 81
 b:gI β 81≤(gL β 82).length
 c:gI β 80≤4 * gI β 23
def SmE (β γ:Ren):Prop:=γ[73]?=β[73]?∧γ[30]?=β[30]?∧gN γ 33=gN β 33∧gI γ 31=gI β 31
noncomputable def OE (γ:Ren):List UInt8:=(gL γ 82).take (gI γ 80).toNat
def GE (O:Ren→List UInt8) (E:Ren→Ren→Prop) (β:Ren):Goal where
 J:=fun j γ=>match j with
  | 0=>SmE β γ∧gI β 23 < gI β 31∧gI γ 23=gI β 23 + 1∧OE γ=O β++enc1 (vE β)∧gI γ 80=((O β++enc1 (vE β)).length:Int)∧gI γ 80≤gI γ 81∧gI γ 81≤(gL γ 82).length
  | 1=>SmE β γ∧¬ gI β 23 < gI β 31∧E β γ
  | _=>False
 L:=fun _ _=>False
 O:=fun _ _ _ _=>False
 W:=fun _ _=>False
def OutEq (β γ:Ren):Prop:=γ[79]?=β[79]?∧gL γ 82=gL β 82∧gI γ 80=gI β 80∧gI γ 81=gI β 81
theorem or192 {x:Int} (h:0≤x∧x < 32):IntKind.u8.wrap (IOp.fn .or 192 x)=IntKind.u8.wrap (x + 192):=by
 obtain ⟨n,rfl⟩:=Int.eq_ofNat_of_zero_le h.1
 have hn:n < 32:=by omega
 have:∀ n:Fin 32,IntKind.u8.wrap (IOp.fn .or 192 ((n.1:Nat):Int))=IntKind.u8.wrap (((n.1:Nat):Int) + 192):=by decide
 exact this ⟨n,hn⟩
theorem or224 {x:Int} (h:0≤x∧x < 16):IntKind.u8.wrap (IOp.fn .or 224 x)=IntKind.u8.wrap (x + 224):=by
 obtain ⟨n,rfl⟩:=Int.eq_ofNat_of_zero_le h.1
 have hn:n < 16:=by omega
 have:∀ n:Fin 16,IntKind.u8.wrap (IOp.fn .or 224 ((n.1:Nat):Int))=IntKind.u8.wrap (((n.1:Nat):Int) + 224):=by decide
 exact this ⟨n,hn⟩
theorem or240 {x:Int} (h:0≤x∧x < 8):IOp.fn .or 240 x=x + 240:=by
 obtain ⟨n,rfl⟩:=Int.eq_ofNat_of_zero_le h.1
 have hn:n < 8:=by omega
 have:∀ n:Fin 8,IOp.fn .or 240 ((n.1:Nat):Int)=((n.1:Nat):Int) + 240:=by decide
 exact this ⟨n,hn⟩
theorem or128 (a:Int):IOp.fn .or 128 (ia a 63)=ia a 63 + 128:=by
 have h:ia a 63≤63:=ia_le a 63
 have h0:0≤ia a 63:=Int.natCast_nonneg _
 generalize ia a 63=x at h h0
 obtain ⟨n,rfl⟩:=Int.eq_ofNat_of_zero_le h0
 have hn:n < 64:=by omega
 have:∀ n:Fin 64,IOp.fn .or 128 ((n.1:Nat):Int)=((n.1:Nat):Int) + 128:=by decide
 exact this ⟨n,hn⟩
theorem sr_lt {v:Int} {k m:Nat} (h0:0≤v) (h:v < m * 2 ^ k):0≤sr v k∧sr v k < m:=by
 show 0≤v.fdiv (2 ^ ((k:Int)).toNat)∧v.fdiv (2 ^ ((k:Int)).toNat) < m
 have e:((k:Int)).toNat=k:=by omega
 rw [e]
 obtain ⟨n,rfl⟩:=Int.eq_ofNat_of_zero_le h0
 have hp:(0:Int)≤2 ^ k:=by have:=Int.pow_pos (n:=2) (m:=k) (by omega); omega
 rw [Int.fdiv_eq_ediv_of_nonneg _ hp]
 have hpp:(0:Int) < 2 ^ k:=Int.pow_pos (by omega)
 exact ⟨Int.ediv_nonneg (by omega) hp,(Int.ediv_lt_iff_lt_mul hpp).2 h⟩
theorem eb1 {v:Int} (h:v < 128):[UInt8.ofNat (IntKind.u8.wrap v).toNat]=enc1 v:=by rw [enc1_1 (by omega)]
theorem eb2 {v:Int} (h0:0≤v) (h:¬ v < 128) (h2:v < 2048):[UInt8.ofNat (IntKind.u8.wrap (IOp.fn .or 192 (IOp.fn .shr v 6))).toNat]++[UInt8.ofNat (IOp.fn .or 128 (IOp.fn .and v 63)).toNat]=enc1 v:=by
 rw [enc1_2 (by omega) (by omega),or192 (show 0≤sr v 6∧sr v 6 < 32 from sr_lt (k:=6) (m:=32) h0 (by omega)),or128 v]; rfl
theorem eb3 {v:Int} (h0:0≤v) (h:¬ v < 2048) (h2:v < 65536):[UInt8.ofNat (IntKind.u8.wrap (IOp.fn .or 224 (IOp.fn .shr v 12))).toNat]++([UInt8.ofNat (IOp.fn .or 128 (IOp.fn .and (IOp.fn .shr v 6) 63)).toNat]++[UInt8.ofNat (IOp.fn .or 128 (IOp.fn .and v 63)).toNat])=enc1 v:=by
 rw [enc1_3 (by omega) (by omega) (by omega),or224 (show 0≤sr v 12∧sr v 12 < 16 from sr_lt (k:=12) (m:=16) h0 (by omega)),or128 v,or128 (sr v 6)]; rfl
theorem eb4 {v:Int} (h0:0≤v) (h:¬ v < 65536) (h2:v≤1114111):[UInt8.ofNat (IOp.fn .or 240 (IOp.fn .shr v 18)).toNat]++([UInt8.ofNat (IOp.fn .or 128 (IOp.fn .and (IOp.fn .shr v 12) 63)).toNat]++([UInt8.ofNat (IOp.fn .or 128 (IOp.fn .and (IOp.fn .shr v 6) 63)).toNat]++[UInt8.ofNat (IOp.fn .or 128 (IOp.fn .and v 63)).toNat]))=enc1 v:=by
 rw [enc1_4 (by omega) (by omega) (by omega),or240 (show 0≤sr v 18∧sr v 18 < 8 from sr_lt (k:=18) (m:=8) h0 (by omega)),or128 v,or128 (sr v 6),or128 (sr v 12)]; rfl
theorem fin11 {O X Z:List UInt8} {β γ:Ren} (s:SmE β γ) (h:gI γ 23=gI β 23 + 1) (hl:gI β 23 < gI β 31) (ee:X=enc1 (vE β)) (h82:gL γ 82=O++(X++Z)) (h80:gI γ 80=((O++X).length:Int)) (h81:gI γ 81≤(gL γ 82).length∧gI γ 80≤gI γ 81) :
    SmE β γ∧gI β 23 < gI β 31∧gI γ 23=gI β 23 + 1∧OE γ=O++enc1 (vE β)∧gI γ 80=((O++enc1 (vE β)).length:Int)∧gI γ 80≤gI γ 81∧gI γ 81≤(gL γ 82).length:=by
 subst ee
 refine ⟨s,hl,h,?_,h80,h81.2,h81.1⟩
 unfold OE
 rw [h82,h80,Int.toNat_natCast,← List.append_assoc,List.take_left]
set_option maxRecDepth 100000
theorem hold_b11n {β:Ren} (p:PE β):lit_b11n.Holds (GE (fun _=>[]) (fun _ _=>True) β) β:=by
 unfold lit_b11n
 have hβ:=p.n.1
 have p23:=p.i23; have p31:=p.i31; have pl:=p.len
 refine (fork_of (need_o hβ ?_ (fork_of (need_o hβ ?_ (leaf_gen [] hβ (by kernel_rfl) (by kernel_rfl) ?_)) (fork_of (need_o hβ ?_ (leaf_gen [] hβ (by kernel_rfl) (by kernel_rfl) ?_)) (fork_of (need_o hβ ?_ (leaf_gen [] hβ (by kernel_rfl) (by kernel_rfl) ?_)) (need_o hβ ?_ (leaf_gen [] hβ (by kernel_rfl) (by kernel_rfl) ?_)))))) (leaf_o [] hβ ?_))
 iterate 2 (focus (intro hA; simp only [DD] at hA ⊢; omega))
 ·intro δ0 γ0 hl0 hA hr0 hid0 hI
  simp only [DD,aL hβ,Nat.reduceLT,Nat.reduceLeDiff,Nat.reduceSub] at hA
  obtain ⟨a0,a1,a2,a3⟩:=hA
  simp only [DD,aL hβ,Nat.reduceLT,Nat.reduceLeDiff,Nat.reduceSub] at hI
  obtain ⟨i82,i74,i33,i81,i80,i23,i32,i31,i30,i73⟩:=hI
  have hv:=p.hv ‹_›
  have ee:=eb1 (v:=vE β) (by unfold vE; omega)
  exact fin11 (O:=[]) ⟨i73,i30,i33,i31⟩ (by omega) (by assumption) ee i82 (by rw [i80]; rfl) (by rw [i81,i82,i80]; constructor <;> (try simp) <;> (try omega))
 ·intro hA; simp only [DD] at hA ⊢; omega
 ·intro δ0 γ0 hl0 hA hr0 hid0 hI
  simp only [DD,aL hβ,Nat.reduceLT,Nat.reduceLeDiff,Nat.reduceSub] at hA
  obtain ⟨a0,a1,a2,a3,a4⟩:=hA
  simp only [DD,aL hβ,Nat.reduceLT,Nat.reduceLeDiff,Nat.reduceSub] at hI
  obtain ⟨i82,i74,i33,i81,i80,i23,i32,i31,i30,i73⟩:=hI
  have hv:=p.hv ‹_›
  have ee:=eb2 (v:=vE β) hv.1 (by unfold vE; omega) (by unfold vE; omega)
  exact fin11 (O:=[]) ⟨i73,i30,i33,i31⟩ (by omega) (by assumption) ee i82 (by rw [i80]; rfl) (by rw [i81,i82,i80]; constructor <;> (try simp) <;> (try omega))
 ·intro hA; simp only [DD] at hA ⊢; omega
 ·intro δ0 γ0 hl0 hA hr0 hid0 hI
  simp only [DD,aL hβ,Nat.reduceLT,Nat.reduceLeDiff,Nat.reduceSub] at hA
  obtain ⟨a0,a1,a2,a3,a4,a5⟩:=hA
  simp only [DD,aL hβ,Nat.reduceLT,Nat.reduceLeDiff,Nat.reduceSub] at hI
  obtain ⟨i82,i74,i33,i81,i80,i23,i32,i31,i30,i73⟩:=hI
  have hv:=p.hv ‹_›
  have ee:=eb3 (v:=vE β) hv.1 (by unfold vE; omega) (by unfold vE; omega)
  exact fin11 (O:=[]) ⟨i73,i30,i33,i31⟩ (by omega) (by assumption) ee i82 (by rw [i80]; rfl) (by rw [i81,i82,i80]; constructor <;> (try simp) <;> (try omega))
 ·intro hA; simp only [DD] at hA ⊢; omega
 ·intro δ0 γ0 hl0 hA hr0 hid0 hI
  simp only [DD,aL hβ,Nat.reduceLT,Nat.reduceLeDiff,Nat.reduceSub] at hA
  obtain ⟨a0,a1,a2,a3,a4,a5⟩:=hA
  simp only [DD,aL hβ,Nat.reduceLT,Nat.reduceLeDiff,Nat.reduceSub] at hI
  obtain ⟨i82,i74,i33,i81,i80,i23,i32,i31,i30,i73⟩:=hI
  have hv:=p.hv ‹_›
  have ee:=eb4 (v:=vE β) hv.1 (by unfold vE; omega) hv.2
  exact fin11 (O:=[]) ⟨i73,i30,i33,i31⟩ (by omega) (by assumption) ee i82 (by rw [i80]; rfl) (by rw [i81,i82,i80]; constructor <;> (try simp) <;> (try omega))
 ·intro γ0 hl0 hA hr0 hid0 hI
  simp only [DD] at hA
  have a0:=hA
  simp only [DD] at hI
  obtain ⟨i74,i33,i23,i32,i31,i30,i73⟩:=hI
  exact ⟨⟨i73,i30,i33,i31⟩,by omega,trivial⟩
theorem hold_b11s {β:Ren} (p:PE β) (q:KE β):lit_b11s.Holds (GE OE (fun a b=>OutEq a b) β) β:=by
 unfold lit_b11s
 have hβ:=p.n.1
 have p23:=p.i23; have p31:=p.i31; have pl:=p.len
 have qa:=q.a; have qb:=q.b; have qc:=q.c
 have ol:(OE β).length=(gI β 80).toNat:=by unfold OE; simp; omega
 have ol2:(List.drop (Int.toNat 0) (List.take (gI β 80).toNat (gL β 82))).length≤(gI β 80).toNat:=by simp; omega
 refine (fork_of (need_o hβ ?_ (fork_of (need_o hβ ?_ (need_o hβ ?_ (need_o hβ ?_ (leaf_gen [] hβ (by kernel_rfl) (by kernel_rfl) ?_)))) (fork_of (need_o hβ ?_ (need_o hβ ?_ (need_o hβ ?_ (leaf_gen [] hβ (by kernel_rfl) (by kernel_rfl) ?_)))) (fork_of (need_o hβ ?_ (need_o hβ ?_ (need_o hβ ?_ (leaf_gen [] hβ (by kernel_rfl) (by kernel_rfl) ?_)))) (need_o hβ ?_ (need_o hβ ?_ (need_o hβ ?_ (leaf_gen [] hβ (by kernel_rfl) (by kernel_rfl) ?_)))))))) (leaf_o [] hβ ?_))
 iterate 4 (focus (intro hA; simp only [DD] at hA ⊢; omega))
 ·intro δ0 γ0 hl0 hA hr0 hid0 hI
  simp only [DD,aL hβ,Nat.reduceLT,Nat.reduceLeDiff,Nat.reduceSub] at hA
  obtain ⟨a0,a1,a2,a3,a4,a5⟩:=hA
  simp only [DD,aL hβ,Nat.reduceLT,Nat.reduceLeDiff,Nat.reduceSub] at hI
  obtain ⟨i82,i74,i33,i81,i80,i23,i32,i31,i30,i73⟩:=hI
  have hv:=p.hv ‹_›
  have ee:=eb1 (v:=vE β) (by unfold vE; omega)
  exact fin11 (O:=OE β) ⟨i73,i30,i33,i31⟩ (by omega) (by assumption) ee (i82.trans (List.append_assoc _ _ _)) (by rw [i80]; unfold OE; simp; try omega) (by rw [i81,i82,i80]; constructor <;> (try simp) <;> (try omega))
 iterate 3 (focus (intro hA; simp only [DD] at hA ⊢; omega))
 ·intro δ0 γ0 hl0 hA hr0 hid0 hI
  simp only [DD,aL hβ,Nat.reduceLT,Nat.reduceLeDiff,Nat.reduceSub] at hA
  obtain ⟨a0,a1,a2,a3,a4,a5,a6⟩:=hA
  simp only [DD,aL hβ,Nat.reduceLT,Nat.reduceLeDiff,Nat.reduceSub] at hI
  obtain ⟨i82,i74,i33,i81,i80,i23,i32,i31,i30,i73⟩:=hI
  have hv:=p.hv ‹_›
  have ee:=eb2 (v:=vE β) hv.1 (by unfold vE; omega) (by unfold vE; omega)
  exact fin11 (O:=OE β) ⟨i73,i30,i33,i31⟩ (by omega) (by assumption) ee (i82.trans (List.append_assoc _ _ _)) (by rw [i80]; unfold OE; simp; try omega) (by rw [i81,i82,i80]; constructor <;> (try simp) <;> (try omega))
 iterate 3 (focus (intro hA; simp only [DD] at hA ⊢; omega))
 ·intro δ0 γ0 hl0 hA hr0 hid0 hI
  simp only [DD,aL hβ,Nat.reduceLT,Nat.reduceLeDiff,Nat.reduceSub] at hA
  obtain ⟨a0,a1,a2,a3,a4,a5,a6,a7⟩:=hA
  simp only [DD,aL hβ,Nat.reduceLT,Nat.reduceLeDiff,Nat.reduceSub] at hI
  obtain ⟨i82,i74,i33,i81,i80,i23,i32,i31,i30,i73⟩:=hI
  have hv:=p.hv ‹_›
  have ee:=eb3 (v:=vE β) hv.1 (by unfold vE; omega) (by unfold vE; omega)
  exact fin11 (O:=OE β) ⟨i73,i30,i33,i31⟩ (by omega) (by assumption) ee (i82.trans (List.append_assoc _ _ _)) (by rw [i80]; unfold OE; simp; try omega) (by rw [i81,i82,i80]; constructor <;> (try simp) <;> (try omega))
 iterate 3 (focus (intro hA; simp only [DD] at hA ⊢; omega))
 ·intro δ0 γ0 hl0 hA hr0 hid0 hI
  simp only [DD,aL hβ,Nat.reduceLT,Nat.reduceLeDiff,Nat.reduceSub] at hA
  obtain ⟨a0,a1,a2,a3,a4,a5,a6,a7⟩:=hA
  simp only [DD,aL hβ,Nat.reduceLT,Nat.reduceLeDiff,Nat.reduceSub] at hI
  obtain ⟨i82,i74,i33,i81,i80,i23,i32,i31,i30,i73⟩:=hI
  have hv:=p.hv ‹_›
  have ee:=eb4 (v:=vE β) hv.1 (by unfold vE; omega) hv.2
  exact fin11 (O:=OE β) ⟨i73,i30,i33,i31⟩ (by omega) (by assumption) ee (i82.trans (List.append_assoc _ _ _)) (by rw [i80]; unfold OE; simp; try omega) (by rw [i81,i82,i80]; constructor <;> (try simp) <;> (try omega))
 ·intro γ0 hl0 hA hr0 hid0 hI
  simp only [DD] at hA
  have a0:=hA
  simp only [DD] at hI
  obtain ⟨i82,i74,i33,i81,i80,i79,i23,i32,i31,i30,i73⟩:=hI
  exact ⟨⟨i73,i30,i33,i31⟩,by omega,i79,i82,i80,i81⟩
set_option maxRecDepth 100000
noncomputable def restN (β:Ren):List Int:=((gN β 33).take (gI β 31).toNat).drop (gI β 23).toNat
theorem restN_cons {β:Ren} (p:PE β) (h:gI β 23 < gI β 31):restN β=vE β::((gN β 33).take (gI β 31).toNat).drop (gI β 23 + 1).toNat:=by
 have:=p.i23; have:=p.len
 unfold restN vE
 have hl:(gI β 23).toNat < ((gN β 33).take (gI β 31).toNat).length:=by rw [List.length_take]; omega
 rw [List.drop_eq_getElem_cons hl,show (gI β 23 + 1).toNat=(gI β 23).toNat + 1 from by omega]
 congr 1
 rw [List.getElem_take,List.getD_eq_getElem?_getD,List.getElem?_eq_getElem (by omega)]; rfl
theorem restN_nil {β:Ren} (h:¬ gI β 23 < gI β 31) (p:PE β):restN β=[]:=by
 have:=p.i23
 unfold restN
 rw [List.drop_eq_nil_iff,List.length_take]; omega
structure OutE (O:List UInt8) (γ:Ren):Prop where
 b:OE γ=O
 l:gI γ 80=(O.length:Int)
 c:gI γ 80≤gI γ 81
 d:gI γ 81≤(gL γ 82).length
theorem pe_next {β γ:Ren} (p:PE β) (hn:γ.length=90) (s:SmE β γ) (h:gI β 23 < gI β 31) (h':gI γ 23=gI β 23 + 1):PE γ:=by
 obtain ⟨s1,s2,s3,s4⟩:=s
 have:=p.i23
 exact ⟨p.n.of s1 hn,by omega,by rw [s4]; exact p.i31,by rw [s3,s4]; exact p.len,by rw [s3,s4]; exact p.el⟩
theorem SmE.trans {a b c:Ren} (h:SmE a b) (g:SmE b c):SmE a c:=⟨g.1.trans h.1,g.2.1.trans h.2.1,g.2.2.1.trans h.2.2.1,g.2.2.2.trans h.2.2.2⟩
theorem loopES_law {w0:W0} {Q:Exit→Act→World→Prop}:∀ (m:Nat) (O:List UInt8) (β:Ren) (a:Act) (w:World),(gI β 31 - gI β 23).toNat≤m→PE β→OutE O β→gI β 80≤4 * gI β 23→HR w0 β t11S.heap w→FS β (ntmps 11) t11S.frame a →
    (∀ β1 a' w',Ln β1→SmE β β1→OutE (O++encs (restN β)) β1→HR w0 β1 t11S.heap w'→FS β1 (ntmps 11) t11S.frame a'→Q (.exit 0) a' w')→wpL Tryd.prog loop11 Q a w:=by
 intro m
 induction m with
 | zero =>
  intro O β a w hm p o h4 hH hF h1
  have hO:OE β=O:=o.b
  have h5:=o.l
  refine wpL_round (wp_of_tre (E:=E11 t11S) (G:=GE OE (fun a b=>OutEq a b) β) noNum callOkG follows (by show (tre11 t11S []).Holds _ _; rw [lit_b11s_eq]; exact hold_b11s p ⟨⟨by omega,o.c⟩,o.d,h4⟩) p.n.2 hH (Facts.nil _) hF ?_ (fun r s c h=>by rcases h with h | h <;> cases h) (fun j i β1 β2 h=>h.elim) (fun r s h=>by rcases h with h | h <;> cases h) (fun f s h=>by cases h))
  intro j e tp β1 a' w' hft q1 q2 q3
  have hl:β1.length=tp.m:=by rw [q1.len]; exact heapOf_size _ _
  cases e with
  | normal=>cases hft; obtain ⟨_,h,_⟩:=q3; omega
  | ret=>cases hft
  | exit id =>
   match id,hft with
   | 0,hft =>
    cases hft
    obtain ⟨s,h,e1,e2,e3,e4⟩:=q3
    exact h1 β1 a' w' (p.n.of s.1 hl) s (by rw [restN_nil h p]; simp [encs]; exact ⟨by unfold OE; rw [e2,e3]; exact o.b,by rw [e3]; exact o.l,by rw [e3,e4]; exact o.c,by rw [e4,e2]; exact o.d⟩) q1 q2
 | succ m ih =>
  intro O β a w hm p o h4 hH hF h1
  have h5:=o.l
  refine wpL_round (wp_of_tre (E:=E11 t11S) (G:=GE OE (fun a b=>OutEq a b) β) noNum callOkG follows (by show (tre11 t11S []).Holds _ _; rw [lit_b11s_eq]; exact hold_b11s p ⟨⟨by omega,o.c⟩,o.d,h4⟩) p.n.2 hH (Facts.nil _) hF ?_ (fun r s c h=>by rcases h with h | h <;> cases h) (fun j i β1 β2 h=>h.elim) (fun r s h=>by rcases h with h | h <;> cases h) (fun f s h=>by cases h))
  intro j e tp β1 a' w' hft q1 q2 q3
  have hl:β1.length=tp.m:=by rw [q1.len]; exact heapOf_size _ _
  cases e with
  | normal =>
   cases hft
   obtain ⟨s,h,h23,e1,e2,e3,e4⟩:=q3
   have s3:=s.2.2.1; have s4:=s.2.2.2
   rw [o.b] at e1 e2
   have hb:=enc1_b (vE β)
   rw [List.length_append] at e2
   refine ih (O++enc1 (vE β)) β1 a' w' (by rw [s4]; omega) (pe_next p hl s h h23) ⟨e1,by rw [e2,List.length_append],e3,e4⟩ (by omega) q1 q2 ?_
   intro β2 a2 w2 hn2 s2 o2 r1 r2
   refine h1 β2 a2 w2 hn2 (s.trans s2) ?_ r1 r2
   rw [restN_cons p h]
   have:restN β1=((gN β 33).take (gI β 31).toNat).drop (gI β 23 + 1).toNat:=by unfold restN; rw [s3,s4,h23]
   rw [this] at o2
   simpa [encs,List.append_assoc] using o2
  | ret=>cases hft
  | exit id =>
   match id,hft with
   | 0,hft =>
    cases hft
    obtain ⟨s,h,e1,e2,e3,e4⟩:=q3
    exact h1 β1 a' w' (p.n.of s.1 hl) s (by rw [restN_nil h p]; simp [encs]; exact ⟨by unfold OE; rw [e2,e3]; exact o.b,by rw [e3]; exact o.l,by rw [e3,e4]; exact o.c,by rw [e4,e2]; exact o.d⟩) q1 q2
theorem loopEN_law {w0:W0} {Q:Exit→Act→World→Prop} (β:Ren) (a:Act) (w:World) (p:PE β) (hH:HR w0 β t11N.heap w) (hF:FS β (ntmps 11) t11N.frame a)
    (h0:∀ β1 a' w',Ln β1→SmE β β1→restN β=[]→HR w0 β1 t11N.heap w'→FS β1 (ntmps 11) t11N.frame a'→Q (.exit 0) a' w')
    (h1:∀ β1 a' w',Ln β1→SmE β β1→OutE (encs (restN β)) β1→restN β≠[]→HR w0 β1 t11S.heap w'→FS β1 (ntmps 11) t11S.frame a'→Q (.exit 0) a' w'):wpL Tryd.prog loop11 Q a w:=by
 refine wpL_round (wp_of_tre (E:=E11 t11N) (G:=GE (fun _=>[]) (fun _ _=>True) β) noNum callOkG follows (by show (tre11 t11N []).Holds _ _; rw [lit_b11n_eq]; exact hold_b11n p) p.n.2 hH (Facts.nil _) hF ?_ (fun r s c h=>by rcases h with h | h <;> cases h) (fun j i β1 β2 h=>h.elim) (fun r s h=>by rcases h with h | h <;> cases h) (fun f s h=>by cases h))
 intro j e tp β1 a' w' hft q1 q2 q3
 have hl:β1.length=tp.m:=by rw [q1.len]; exact heapOf_size _ _
 cases e with
 | normal =>
  cases hft
  obtain ⟨s,h,h23,e1,e2,e3,e4⟩:=q3
  have s3:=s.2.2.1; have s4:=s.2.2.2
  have hb:=enc1_b (vE β)
  rw [List.nil_append] at e1 e2
  have:=p.i23
  refine loopES_law _ (enc1 (vE β)) β1 a' w' (Nat.le_refl _) (pe_next p hl s h h23) ⟨e1,e2,e3,e4⟩ (by omega) q1 q2 ?_
  intro β2 a2 w2 hn2 s2 o2 r1 r2
  refine h1 β2 a2 w2 hn2 (s.trans s2) ?_ (by rw [restN_cons p h]; simp) r1 r2
  rw [restN_cons p h]
  have:restN β1=((gN β 33).take (gI β 31).toNat).drop (gI β 23 + 1).toNat:=by unfold restN; rw [s3,s4,h23]
  rw [this] at o2
  simpa [encs,List.append_assoc] using o2
 | ret=>cases hft
 | exit id =>
  match id,hft with
  | 0,hft =>
   cases hft
   obtain ⟨s,h,_⟩:=q3
   exact h0 β1 a' w' (p.n.of s.1 hl) s (restN_nil h p) q1 q2
def t11:Tpl:={ m:=90,F:=[(0,sNum)],H:=[(30,numR),(73,eofB)],G:=[73] }
def t11a:Tpl:={ m:=90,F:=[(6,sNum),(2,.slice none 0 0)],H:=[(30,numR),(73,eofB)],G:=[73] }
def t11b:Tpl:={ m:=90,F:=[(6,sNum),(2,sOut)],H:=[(30,numR),(73,eofB),(79,outB)],G:=[73] }
def sm11:List (Nat × Nat):=[(30,0),(31,1),(33,5),(73,0)]
def sp11:CSpec:={ j:=11,n:=1,tin:=t11,outs:=[(.slice none 0 0,t11a,sm11),(sOut,t11b,sm11)] }
def sp11L:LSpec:={ j:=3,tin:=t11N,outs:=[(.exit 0,t11N,[]),(.exit 0,t11S,[])] }
def lt11:Nat→Option LSpec:=fun n=>if n=3 then some sp11L else none
def ft11a:AExit→Option (Nat × Tpl):=fun e=>match e with
 | .normal=>some (0,t11a)
 | .ret=>some (0,t11a)
 | _=>none
def ft11b:AExit→Option (Nat × Tpl):=fun e=>match e with
 | .normal=>some (1,t11b)
 | .ret=>some (1,t11b)
 | _=>none
noncomputable def EF11:Env:=EG 11 (fun _=>none) (fun _=>false) (fun _=>none) lt11 ft11a ft11b
noncomputable def tref11:Tre:=tre EF11 2000 (body 11) [] [] t11.frame t11.heap
noncomputable def NL (β:Ren):List Int:=(gN β 33).take (gI β 31).toNat
structure PL (β:Ren):Prop where
 n:Ln β
 i31:0≤gI β 31∧gI β 31≤1048576
 len:gI β 31≤(gN β 33).length
 el:∀ k:Int,0≤k→k < gI β 31→0≤(gN β 33).getD k.toNat 0∧(gN β 33).getD k.toNat 0≤1114111
def GF11 (β:Ren):Goal where
 J:=fun j γ=>Ln γ∧SmE β γ∧match j with
  | 0=>NL β=[]
  | 1=>OutE (encs (NL β)) γ∧NL β≠[]
  | _=>False
 L:=fun _ γ=>PE γ∧SmE β γ∧gI γ 23=0
 O:=fun _ i γ γ1=>Ln γ1∧SmE γ γ1∧match i with
  | 0=>restN γ=[]
  | 1=>OutE (encs (restN γ)) γ1∧restN γ≠[]
  | _=>False
 W:=fun _ c=>c=.loop loop11
theorem restN_0 {β γ:Ren} (s:SmE β γ) (h:gI γ 23=0):restN γ=NL β:=by
 obtain ⟨_,_,s3,s4⟩:=s
 unfold restN NL; rw [h,s3,s4]; rfl
noncomputable abbrev loopD11:Code:=.loop loop11
set_option maxRecDepth 100000
abbrev b8s0:SgT:=[(32,.itm (.var 32)),(31,.itm (.var 31)),(30,.blk 30),(73,.blk 73)]
noncomputable def lit_f11:Tre:=(.loop 3 90 90 (rgs EF11.n sp11L.tin) loopD11 (SgT.enc ((74,.blk 74)::(33,.ntm (.var 33))::(23,.itm (.lit 0))::b8s0)) (List.map TB.enc []) (.cons (rgs EF11.n t11N) (lf 0 90 90 (rgs EF11.n t11a) ((74,.blk 74)::(33,.ntm (.var 33))::b8s0) [])
 (.cons (rgs EF11.n t11S) (lf 1 90 90 (rgs EF11.n t11b) ((82,.ltm (.var 82))::(74,.blk 74)::(33,.ntm (.var 33))::(81,.itm (.var 81))::(80,.itm (.var 80))::(79,.blk 79)::b8s0) [])
 .nil)))
theorem lit_f11_eq:tref11=lit_f11:=by kernel_rfl
theorem hold_f11 {β:Ren} (p:PL β):lit_f11.Holds (GF11 β) β:=by
 unfold lit_f11
 have hβ:=p.n.1
 refine (loop_of [] hβ (by kernel_rfl) (by kernel_rfl) (by kernel_rfl) (by kernel_rfl) rfl ?_)
 ·intro γ0 hl0 hA hr0 hid0 hI
  clear hA
  simp only [DD] at hI
  obtain ⟨i74,i33,i23,i32,i31,i30,i73⟩:=hI
  have hn1:Ln γ0:=p.n.of i73 hl0
  have s0:SmE β γ0:=⟨i73,i30,i33,i31⟩
  have p31:=p.i31
  have hL0:(GF11 β).L 3 γ0:=⟨⟨hn1,by omega,by omega,by rw [i31,i33]; exact p.len,by rw [i31,i33]; exact p.el⟩,s0,i23⟩
  refine ⟨hL0,(outs_cons ?_ (outs_cons ?_ outs_nil))⟩
  ·intro β1 hq1 hO1
   obtain ⟨hn2,s1,hz⟩:=hO1
   have hb1:=hn2.1
   refine (leaf_o [] hb1 ?_)
   ·intro γ1 hl1 hA hr1 hid1 hI
    clear hA
    simp only [DD] at hI
    obtain ⟨j74,j33,j32,j31,j30,j73⟩:=hI
    have s2:SmE β1 γ1:=⟨j73,j30,j33,j31⟩
    exact ⟨hn2.of j73 hl1,(s0.trans s1).trans s2,by rw [← restN_0 s0 i23]; exact hz⟩
  ·intro β1 hq1 hO1
   obtain ⟨hn2,s1,hz⟩:=hO1
   have hb1:=hn2.1
   refine (leaf_o [] hb1 ?_)
   ·intro γ1 hl1 hA hr1 hid1 hI
    clear hA
    simp only [DD] at hI
    obtain ⟨j82,j74,j33,j81,j80,j79,j32,j31,j30,j73⟩:=hI
    have s2:SmE β1 γ1:=⟨j73,j30,j33,j31⟩
    refine ⟨hn2.of j73 hl1,(s0.trans s1).trans s2,?_⟩
    rw [← restN_0 s0 i23]
    obtain ⟨⟨o1,o2,o3,o4⟩,hne⟩:=hz
    exact ⟨⟨by unfold OE at *; rw [j80,j82]; exact o1,by rw [j80]; exact o2,by rw [j80,j81]; exact o3,by rw [j81,j82]; exact o4⟩,hne⟩
theorem law11 {G:Goal} (hCL:∀ β,G.CL 11 β→PL β) (h0:∀ β β1,G.CL 11 β→Ln β1→SmE β β1→NL β=[]→G.CO 11 0 β β1) (h1:∀ β β1,G.CL 11 β→Ln β1→SmE β β1→OutE (encs (NL β)) β1→NL β≠[]→G.CO 11 1 β β1):CLaw Tryd.prog G 11 sp11:=by
 refine claw_of (E:=EF11) (Gt:=GF11) (fn:=fnAt 11) (c:=body 11) (s:=sp11) noNum callOkG follows (by kernel_rfl) (by kernel_rfl) (by kernel_rfl) (by kernel_rfl) (by kernel_rfl) (by kernel_rfl) ?_ ?_ ?_ ?_ (fun β j i β1 β2 h=>h.1.2) ?_ (fun β f s h=>by cases h)
 ·intro e j tp h
  rcases h with h | h
  ·cases e with
   | normal=>cases h; exact ⟨(fun id h=>by cases h),.slice none 0 0,by kernel_rfl,_,rfl⟩
   | ret=>cases h; exact ⟨(fun id h=>by cases h),.slice none 0 0,by kernel_rfl,_,rfl⟩
   | exit id=>cases h
  ·cases e with
   | normal=>cases h; exact ⟨(fun id h=>by cases h),sOut,by kernel_rfl,_,rfl⟩
   | ret=>cases h; exact ⟨(fun id h=>by cases h),sOut,by kernel_rfl,_,rfl⟩
   | exit id=>cases h
 ·intro β hcl hlen hr
  have p:=hCL β hcl
  refine ⟨p.n.2,[],2000,Facts.nil _,?_⟩
  show (tref11).Holds _ β
  rw [lit_f11_eq]
  exact hold_f11 p
 ·intro β j v tp sm β1 hcl hout hlen _ hJ
  have p:=hCL β hcl
  have sms:SmE β β1→∀ p ∈ sm11,SmK β β1 p:=by
   intro q x hx
   have hx:x ∈ [(30,0),(31,1),(33,5),(73,0)]:=hx
   obtain ⟨q1,q2,q3,q4⟩:=q
   simp only [List.mem_cons,List.not_mem_nil,or_false] at hx
   rcases hx with rfl | rfl | rfl | rfl
   ·exact q2
   ·exact q4
   ·exact q3
   ·exact q1
  match j,hout with
  | 0,hout =>
   cases hout
   obtain ⟨hn,s,z⟩:=hJ
   exact ⟨h0 β β1 hcl hn s z,sms s⟩
  | 1,hout =>
   cases hout
   obtain ⟨hn,s,z,z2⟩:=hJ
   exact ⟨h1 β β1 hcl hn s z z2,sms s⟩
 ·intro β w0 r s c hs hw
  rcases hs with hs | hs
  ·have hs:lt11 r=some s:=hs
   unfold lt11 at hs
   split at hs
   ·cases hs
    have hc:c=loopD11:=hw
    subst hc
    intro Q b a w hH hF hl hQ
    refine wpL_loop (loopEN_law b a w hl.1 hH hF ?_ ?_)
    ·intro β1 a' w' hn1 s1 hr q1 q2
     exact hQ 0 (.exit 0) t11N [] rfl β1 a' w' q1 q2 ⟨hn1,s1,hr⟩
    ·intro β1 a' w' hn1 s1 ho hr q1 q2
     exact hQ 1 (.exit 0) t11S [] rfl β1 a' w' q1 q2 ⟨hn1,s1,ho,hr⟩
   ·cases hs
  ·cases hs
 ·intro β r s hs i e tp B hi β1 β2 _
  refine facts_nil_of ?_
  rcases hs with hs | hs
  ·have hs:lt11 r=some s:=hs
   unfold lt11 at hs
   split at hs
   ·cases hs
    match i,hi with
    | 0,hi=>cases hi; rfl
    | 1,hi=>cases hi; rfl
   ·cases hs
  ·cases hs
end U
