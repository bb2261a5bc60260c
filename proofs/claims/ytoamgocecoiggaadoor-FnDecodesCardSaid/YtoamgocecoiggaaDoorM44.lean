-- the statement of this claim: see YtoamgocecoiggaaDoorRw
import Derived.Test.YtoamgocecoiggaaDoorM40
import Derived.Test.YtoamgocecoiggaaDoorM43
set_option linter.unusedVariables false
set_option linter.unusedSimpArgs false
open Go Go.SM Go.Proofs
namespace U
structure P7 (β:Ren):Prop where
 p:P6 β
 e21:gI β 21 % 2=0
 e23:gI β 23 % 2=0
noncomputable def ub2 (β:Ren):Int:=u16 (gB β 85) (ub β 0) (ub β 1)
def SmF (β γ:Ren):Prop:=SmD β γ∧gB γ 85=gB β 85
theorem SmF.trans {a b c:Ren} (h:SmF a b) (g:SmF b c):SmF a c:=⟨h.1.trans g.1,g.2.trans h.2⟩
def Gd7 (O:Ren→List Int) (E:Ren→Ren→Prop) (β:Ren):Goal where
 J:=fun j γ=>match j with
  | 0=>SmF β γ∧gI β 23 < gI β 21∧gI γ 23=gI β 23 + 2∧O6 γ=O β++[ub2 β]∧gI γ 31=((O β++[ub2 β]).length:Int)∧gI γ 31≤gI γ 32∧gI γ 32≤(gN γ 33).length
  | 1=>SmF β γ∧¬ gI β 23 < gI β 21∧E β γ
  | _=>False
 L:=fun _ _=>False
 O:=fun _ _ _ _=>False
 W:=fun _ _=>False
theorem or8 {a c:Int} (h:0≤a) (h0:0≤c∧c≤255):IOp.fn .or (IOp.fn .shl a 8) c=c + a * 256:=by
 obtain ⟨n,rfl⟩:=Int.eq_ofNat_of_zero_le h
 obtain ⟨m,rfl⟩:=Int.eq_ofNat_of_zero_le h0.1
 show ((Nat.lor (((n:Int) * 2 ^ (8:Int).toNat)).toNat ((m:Int)).toNat:Nat):Int)=(m:Int) + (n:Int) * 256
 have e1:((n:Int) * 2 ^ (8:Int).toNat).toNat=n <<< 8:=by
  rw [Nat.shiftLeft_eq]; show ((n:Int) * 256).toNat=n * 256; omega
 rw [e1,Int.toNat_natCast]
 have:=Nat.shiftLeft_add_eq_or_of_lt (show m < 2 ^ 8 by omega) n
 show ((n <<< 8 ||| m:Nat):Int)=_
 rw [← this,Nat.shiftLeft_eq]
 show ((n * 256 + m:Nat):Int)=(m:Int) + (n:Int) * 256
 omega
theorem ub2_t {β:Ren} (h:gB β 85=true):IOp.fn .or (IOp.fn .shl (ub β 0) 8) (ub β 1)=ub2 β:=by
 rw [or8 (ub_byt β 0).1 (ub_byt β 1)]; unfold ub2 u16; rw [if_pos h]
theorem ub2_f {β:Ren} (h:¬ gB β 85=true):IOp.fn .or (IOp.fn .shl (ub β 1) 8) (ub β 0)=ub2 β:=by
 rw [or8 (ub_byt β 1).1 (ub_byt β 0)]; unfold ub2 u16; rw [if_neg h]
theorem finU {O Z:List Int} {v:Int} {β γ:Ren} (s:SmF β γ) (hl:gI β 23 < gI β 21) (hv:v=ub2 β) (h23:gI γ 23=gI β 23 + 2) (h33:gN γ 33=O++([v]++Z)) (h31:gI γ 31=((O++[v]).length:Int)) (h32:gI γ 32≤(gN γ 33).length∧gI γ 31≤gI γ 32) :
    SmF β γ∧gI β 23 < gI β 21∧gI γ 23=gI β 23 + 2∧O6 γ=O++[ub2 β]∧gI γ 31=((O++[ub2 β]).length:Int)∧gI γ 31≤gI γ 32∧gI γ 32≤(gN γ 33).length:=by
 subst hv
 refine ⟨s,hl,h23,?_,h31,h32.2,h32.1⟩
 unfold O6
 rw [h33,h31,Int.toNat_natCast,← List.append_assoc,List.take_left]
def low16 (v:Int):Prop:=56320≤v∧v < 57344
def hi16 (v:Int):Prop:=55296≤v∧v < 56320
instance (v:Int):Decidable (low16 v):=inferInstanceAs (Decidable (_∧_))
instance (v:Int):Decidable (hi16 v):=inferInstanceAs (Decidable (_∧_))
def du:List Int→Option (Int × Int)
 | []=>none
 | u::r=>if low16 u then none else if hi16 u then (match r with
  | v::_=>if low16 v then some (65536 + (u - 55296) * 1024 + v - 56320,2) else none
  | []=>none) else some (u,1)
structure P8 (β:Ren):Prop where
 p:PE β
noncomputable def vF (β:Ren):Int:=(gN β 33).getD (gI β 23 + 1).toNat 0
theorem rest2n {β:Ren} (p:PE β) (h:gI β 23 < gI β 31):restN β=vE β::(if gI β 23 + 1 < gI β 31 then vF β::((gN β 33).take (gI β 31).toNat).drop (gI β 23 + 2).toNat else []):=by
 have:=p.i23; have:=p.len
 rw [restN_cons p h]
 congr 1
 split
 ·unfold vF
  have hl:(gI β 23 + 1).toNat < ((gN β 33).take (gI β 31).toNat).length:=by rw [List.length_take]; omega
  rw [List.drop_eq_getElem_cons hl,show (gI β 23 + 2).toNat=(gI β 23 + 1).toNat + 1 from by omega]
  congr 1
  rw [List.getElem_take,List.getD_eq_getElem?_getD,List.getElem?_eq_getElem (by omega)]; rfl
 ·rw [List.drop_eq_nil_iff,List.length_take]; omega
def SmG (β γ:Ren):Prop:=SmD β γ∧SmE β γ
theorem SmE.trans' {a b c:Ren} (h:SmE a b) (g:SmE b c):SmE a c:=⟨g.1.trans h.1,g.2.1.trans h.2.1,g.2.2.1.trans h.2.2.1,g.2.2.2.trans h.2.2.2⟩
theorem SmG.trans {a b c:Ren} (h:SmG a b) (g:SmG b c):SmG a c:=⟨h.1.trans g.1,h.2.trans' g.2⟩
noncomputable def O8 (γ:Ren):List Int:=(gN γ 37).take (gI γ 35).toNat
def NumE2 (β γ:Ren):Prop:=γ[34]?=β[34]?∧gN γ 37=gN β 37∧gI γ 35=gI β 35∧gI γ 36=gI β 36
structure K8 (β:Ren):Prop where
 a:0≤gI β 35∧gI β 35≤gI β 36
 b:gI β 36≤(gN β 37).length
 c:gI β 35≤gI β 23
def Gd8 (O:Ren→List Int) (E:Ren→Ren→Prop) (β:Ren):Goal where
 J:=fun j γ=>match j with
  | 0=>SmG β γ∧gI β 23 < gI β 31∧∃ v k,du (restN β)=some (v,k)∧1≤k∧gI γ 23=gI β 23 + k∧gI γ 23≤gI β 31∧O8 γ=O β++[v]∧gI γ 35=((O β++[v]).length:Int)∧gI γ 35≤gI γ 36∧gI γ 36≤(gN γ 37).length
  | 1=>SmG β γ∧¬ gI β 23 < gI β 31∧E β γ
  | 2=>SmD β γ∧gI β 23 < gI β 31∧du (restN β)=none
  | _=>False
 L:=fun _ _=>False
 O:=fun _ _ _ _=>False
 W:=fun _ _=>False
theorem fin8 {O Z:List Int} {v k:Int} {β γ:Ren} (s:SmG β γ) (hl:gI β 23 < gI β 31) (hd:du (restN β)=some (v,k)) (hk:1≤k) (h23:gI γ 23=gI β 23 + k) (h23b:gI γ 23≤gI β 31) (h33:gN γ 37=O++([v]++Z)) (h31:gI γ 35=((O++[v]).length:Int)) (h32:gI γ 36≤(gN γ 37).length∧gI γ 35≤gI γ 36) :
    SmG β γ∧gI β 23 < gI β 31∧∃ v k,du (restN β)=some (v,k)∧1≤k∧gI γ 23=gI β 23 + k∧gI γ 23≤gI β 31∧O8 γ=O++[v]∧gI γ 35=((O++[v]).length:Int)∧gI γ 35≤gI γ 36∧gI γ 36≤(gN γ 37).length:=by
 refine ⟨s,hl,v,k,hd,hk,h23,h23b,?_,h31,h32.2,h32.1⟩
 unfold O8
 rw [h33,h31,Int.toNat_natCast,← List.append_assoc,List.take_left]
theorem du_cons (u:Int) (r:List Int):du (u::r)=(if low16 u then none else if hi16 u then (match r with
    | v::_=>if low16 v then some (65536 + (u - 55296) * 1024 + v - 56320,2) else none
    | []=>none) else some (u,1):Option (Int × Int)):=rfl
theorem pairv (a b:Int):IOp.fn .shl (a + -55296) 10 + 65536 + b + -56320=65536 + (a - 55296) * 1024 + b - 56320:=by
 show (a + -55296) * 2 ^ 10 + 65536 + b + -56320=_
 omega
theorem du_low {β:Ren} (p:PE β) (h:gI β 23 < gI β 31) (h1:vE β < 57344) (h2:¬ vE β < 56320):du (restN β)=none:=by
 have c:low16 (vE β):=⟨by omega,h1⟩
 rw [rest2n p h,du_cons,if_pos c]
theorem du_one {β:Ren} (p:PE β) (h:gI β 23 < gI β 31) (h1:¬ (¬ vE β < 56320∧vE β < 57344)) (h2:¬ (¬ vE β < 55296∧vE β < 56320)):du (restN β)=some (vE β,1):=by
 have c:¬ low16 (vE β):=fun c=>by unfold low16 at c; omega
 have c2:¬ hi16 (vE β):=fun c=>by unfold hi16 at c; omega
 rw [rest2n p h,du_cons,if_neg c,if_neg c2]
theorem du_pair {β:Ren} (p:PE β) (h:gI β 23 + 1 < gI β 31) (h1:vE β < 56320) (h2:¬ vE β < 55296) (h3:vF β < 57344) (h4:¬ vF β < 56320):du (restN β)=some (65536 + (vE β - 55296) * 1024 + vF β - 56320,2):=by
 have c:¬ low16 (vE β):=fun c=>by unfold low16 at c; omega
 have c2:hi16 (vE β):=⟨by omega,h1⟩
 have c3:low16 (vF β):=⟨by omega,h3⟩
 rw [rest2n p (by omega),if_pos h,du_cons,if_neg c,if_pos c2]
 simp only []
 rw [if_pos c3]
theorem du_nopair {β:Ren} (p:PE β) (h:gI β 23 < gI β 31) (h1:vE β < 56320) (h2:¬ vE β < 55296) (h3:(¬ gI β 23 + 1 < gI β 31∨vF β < 56320)∨¬ vF β < 57344):du (restN β)=none:=by
 have c:¬ low16 (vE β):=fun c=>by unfold low16 at c; omega
 have c2:hi16 (vE β):=⟨by omega,h1⟩
 rw [rest2n p h,du_cons,if_neg c,if_pos c2]
 by_cases h5:gI β 23 + 1 < gI β 31
 ·have c3:¬ low16 (vF β):=fun c=>by unfold low16 at c; omega
  rw [if_pos h5]
  simp only []
  rw [if_neg c3]
 ·rw [if_neg h5]
set_option maxRecDepth 100000
abbrev e4a0:List TB:=[(.lt (.var 23) (.var 21))]
abbrev e4a1:List TB:=(.lt (.op .add (.var 20) (.var 23)) (.len (.var 17)))::e4a0
abbrev e4a2:List TB:=(.lt (.op .add (.var 23) (.lit 1)) (.var 21))::e4a1
abbrev e4a3:List TB:=(.lt (.op .add (.var 20) (.op .add (.var 23) (.lit 1))) (.len (.var 17)))::e4a2
abbrev e4a4:List TB:=[(.not (.lt (.var 23) (.var 21)))]
abbrev e4s0:SgT:=[(22,.itm (.var 22)),(21,.itm (.var 21)),(20,.itm (.var 20)),(16,.blk 16),(73,.blk 73)]
abbrev e4s1:SgT:=(85,.btm (.var 85))::e4s0
abbrev e4s2:SgT:=(74,.blk 74)::(17,.ltm (.var 17))::(23,.itm (.op .add (.var 23) (.lit 2)))::(32,.itm (.op .add (.lenN (.var 91)) (.lit 1)))::(31,.itm (.lit 1))::(30,.new 92)::e4s1
noncomputable def lit_e7n:Tre:=(.fork (nd 90 e4a0 ((.lt (.op .add (.var 20) (.var 23)) (.len (.var 17))))
 (nd 90 e4a1 ((.lt (.op .add (.var 23) (.lit 1)) (.var 21)))
 (nd 90 e4a2 ((.lt (.op .add (.var 20) (.op .add (.var 23) (.lit 1))) (.len (.var 17))))
 (.fork (nd 93 ((.not (.var 85))::e4a3) ((.not (.lt (.lit 1125899906842624) (.op .add (.var 23) (.lit 2)))))
 (lf 0 90 93 (rgs (E7 t7N).n t7S) ((33,.ntm (.app (.one (.op .or (.op .shl (.sel (.var 17) (.op .add (.var 20) (.op .add (.var 23) (.lit 1)))) (.lit 8)) (.sel (.var 17) (.op .add (.var 20) (.var 23))))) (.var 91)))::e4s2) ((.not (.lt (.lit 1125899906842624) (.op .add (.var 23) (.lit 2))))::(.not (.var 85))::e4a3)))
 (nd 93 ((.var 85)::e4a3) ((.not (.lt (.lit 1125899906842624) (.op .add (.var 23) (.lit 2)))))
 (lf 0 90 93 (rgs (E7 t7N).n t7S) ((33,.ntm (.app (.one (.op .or (.op .shl (.sel (.var 17) (.op .add (.var 20) (.var 23))) (.lit 8)) (.sel (.var 17) (.op .add (.var 20) (.op .add (.var 23) (.lit 1)))))) (.var 91)))::e4s2) ((.not (.lt (.lit 1125899906842624) (.op .add (.var 23) (.lit 2))))::(.var 85)::e4a3)))))))
 (lf 1 90 90 (rgs (E7 t7N).n t7N) ((74,.blk 74)::(17,.ltm (.var 17))::(23,.itm (.var 23))::e4s1) e4a4))
theorem lit_e7n_eq:tre7 t7N []=lit_e7n:=by kernel_rfl
abbrev e4a5:List TB:=(.not (.lt (.lenN (.var 33)) (.var 32)))::(.not (.var 85))::e4a3
abbrev e4a6:List TB:=(.not (.lt (.lit 4398046511104) (.op .add (.lenN (.sub (.var 33) (.lit 0) (.var 31))) (.lit 1))))::e4a5
abbrev e4a7:List TB:=(.not (.lt (.lenN (.var 33)) (.var 32)))::(.var 85)::e4a3
abbrev e4a8:List TB:=(.not (.lt (.lit 4398046511104) (.op .add (.lenN (.sub (.var 33) (.lit 0) (.var 31))) (.lit 1))))::e4a7
abbrev e4s3:SgT:=(74,.blk 74)::(17,.ltm (.var 17))::(23,.itm (.op .add (.var 23) (.lit 2)))::(32,.itm (.op .add (.op .add (.lenN (.sub (.var 33) (.lit 0) (.var 31))) (.lit 1)) (.lenN (.var 91))))::(31,.itm (.op .add (.lenN (.sub (.var 33) (.lit 0) (.var 31))) (.lit 1)))::(30,.new 92)::e4s1
noncomputable def lit_e7s:Tre:=(.fork (nd 90 e4a0 ((.lt (.op .add (.var 20) (.var 23)) (.len (.var 17))))
 (nd 90 e4a1 ((.lt (.op .add (.var 23) (.lit 1)) (.var 21)))
 (nd 90 e4a2 ((.lt (.op .add (.var 20) (.op .add (.var 23) (.lit 1))) (.len (.var 17))))
 (.fork (nd 90 ((.not (.var 85))::e4a3) ((.not (.lt (.lenN (.var 33)) (.var 32))))
 (nd 90 e4a5 ((.not (.lt (.lit 4398046511104) (.op .add (.lenN (.sub (.var 33) (.lit 0) (.var 31))) (.lit 1)))))
 (nd 93 e4a6 ((.not (.lt (.lit 1125899906842624) (.op .add (.var 23) (.lit 2)))))
 (lf 0 90 93 (rgs (E7 t7S).n t7S) ((33,.ntm (.app (.app (.sub (.var 33) (.lit 0) (.var 31)) (.one (.op .or (.op .shl (.sel (.var 17) (.op .add (.var 20) (.op .add (.var 23) (.lit 1)))) (.lit 8)) (.sel (.var 17) (.op .add (.var 20) (.var 23)))))) (.var 91)))::e4s3) ((.not (.lt (.lit 1125899906842624) (.op .add (.var 23) (.lit 2))))::e4a6)))))
 (nd 90 ((.var 85)::e4a3) ((.not (.lt (.lenN (.var 33)) (.var 32))))
 (nd 90 e4a7 ((.not (.lt (.lit 4398046511104) (.op .add (.lenN (.sub (.var 33) (.lit 0) (.var 31))) (.lit 1)))))
 (nd 93 e4a8 ((.not (.lt (.lit 1125899906842624) (.op .add (.var 23) (.lit 2)))))
 (lf 0 90 93 (rgs (E7 t7S).n t7S) ((33,.ntm (.app (.app (.sub (.var 33) (.lit 0) (.var 31)) (.one (.op .or (.op .shl (.sel (.var 17) (.op .add (.var 20) (.var 23))) (.lit 8)) (.sel (.var 17) (.op .add (.var 20) (.op .add (.var 23) (.lit 1))))))) (.var 91)))::e4s3) ((.not (.lt (.lit 1125899906842624) (.op .add (.var 23) (.lit 2))))::e4a8)))))))))
 (lf 1 90 90 (rgs (E7 t7S).n t7S) ((33,.ntm (.var 33))::(74,.blk 74)::(17,.ltm (.var 17))::(23,.itm (.var 23))::(32,.itm (.var 32))::(31,.itm (.var 31))::(30,.blk 30)::e4s1) e4a4))
theorem lit_e7s_eq:tre7 t7S []=lit_e7s:=by kernel_rfl
abbrev e4a9:List TB:=[(.lt (.var 23) (.var 31))]
abbrev e4a10:List TB:=(.lt (.var 23) (.lenN (.var 33)))::e4a9
abbrev e4a11:List TB:=(.not (.lt (.selN (.var 33) (.var 23)) (.lit 56320)))::(.lt (.selN (.var 33) (.var 23)) (.lit 57344))::e4a10
abbrev e4a12:List TB:=(.not (.and (.not (.lt (.selN (.var 33) (.var 23)) (.lit 56320))) (.lt (.selN (.var 33) (.var 23)) (.lit 57344))))::e4a10
abbrev e4a13:List TB:=(.not (.lt (.selN (.var 33) (.var 23)) (.lit 55296)))::(.lt (.selN (.var 33) (.var 23)) (.lit 56320))::e4a12
abbrev e4a14:List TB:=(.or (.not (.lt (.op .add (.var 23) (.lit 1)) (.var 31))) (.lt (.op .add (.var 23) (.lit 1)) (.lenN (.var 33))))::e4a13
abbrev e4a15:List TB:=(.or (.or (.not (.lt (.op .add (.var 23) (.lit 1)) (.var 31))) (.lt (.selN (.var 33) (.op .add (.var 23) (.lit 1))) (.lit 56320))) (.not (.lt (.selN (.var 33) (.op .add (.var 23) (.lit 1))) (.lit 57344))))::e4a14
abbrev e4a16:List TB:=(.lt (.op .add (.var 23) (.lit 1)) (.var 31))::(.not (.lt (.selN (.var 33) (.op .add (.var 23) (.lit 1))) (.lit 56320)))::(.lt (.selN (.var 33) (.op .add (.var 23) (.lit 1))) (.lit 57344))::e4a14
abbrev e4a17:List TB:=(.lt (.op .add (.var 23) (.lit 1)) (.lenN (.var 33)))::e4a16
abbrev e4a18:List TB:=(.not (.and (.not (.lt (.selN (.var 33) (.var 23)) (.lit 55296))) (.lt (.selN (.var 33) (.var 23)) (.lit 56320))))::e4a12
abbrev e4a19:List TB:=[(.not (.lt (.var 23) (.var 31)))]
abbrev e4s4:SgT:=(74,.blk 74)::(17,.ltm (.var 17))::e4s0
abbrev e4s5:SgT:=(32,.itm (.var 32))::(31,.itm (.var 31))::(30,.blk 30)::e4s0
abbrev e4s6:SgT:=(36,.itm (.op .add (.lenN (.var 91)) (.lit 1)))::(35,.itm (.lit 1))::(34,.new 92)::e4s5
noncomputable def lit_e7cn:Tre:=(.fork (nd 90 e4a9 ((.lt (.var 23) (.lenN (.var 33))))
 (.fork (lf 2 90 90 (rgs (E7c t7cN).n t7f) e4s4 e4a11)
 (.fork (nd 90 e4a13 ((.or (.not (.lt (.op .add (.var 23) (.lit 1)) (.var 31))) (.lt (.op .add (.var 23) (.lit 1)) (.lenN (.var 33)))))
 (.fork (lf 2 90 90 (rgs (E7c t7cN).n t7f) e4s4 e4a15)
 (nd 90 e4a16 ((.lt (.op .add (.var 23) (.lit 1)) (.lenN (.var 33))))
 (nd 93 e4a17 ((.not (.lt (.lit 1125899906842624) (.op .add (.var 23) (.lit 2)))))
 (lf 0 90 93 (rgs (E7c t7cN).n t7cS) ((37,.ntm (.app (.one (.op .add (.op .add (.op .add (.op .shl (.op .add (.selN (.var 33) (.var 23)) (.lit (-55296))) (.lit 10)) (.lit 65536)) (.selN (.var 33) (.op .add (.var 23) (.lit 1)))) (.lit (-56320)))) (.var 91)))::(33,.ntm (.var 33))::(74,.blk 74)::(17,.ltm (.var 17))::(23,.itm (.op .add (.var 23) (.lit 2)))::e4s6) ((.not (.lt (.lit 1125899906842624) (.op .add (.var 23) (.lit 2))))::e4a17))))))
 (nd 93 e4a18 ((.not (.lt (.lit 1125899906842624) (.op .add (.var 23) (.lit 1)))))
 (lf 0 90 93 (rgs (E7c t7cN).n t7cS) ((37,.ntm (.app (.one (.selN (.var 33) (.var 23))) (.var 91)))::(33,.ntm (.var 33))::(74,.blk 74)::(17,.ltm (.var 17))::(23,.itm (.op .add (.var 23) (.lit 1)))::e4s6) ((.not (.lt (.lit 1125899906842624) (.op .add (.var 23) (.lit 1))))::e4a18))))))
 (lf 1 90 90 (rgs (E7c t7cN).n t7cN) ((33,.ntm (.var 33))::(74,.blk 74)::(17,.ltm (.var 17))::(23,.itm (.var 23))::e4s5) e4a19))
theorem lit_e7cn_eq:tre7c t7cN []=lit_e7cn:=by kernel_rfl
abbrev e4a20:List TB:=(.not (.lt (.lenN (.var 37)) (.var 36)))::e4a17
abbrev e4a21:List TB:=(.not (.lt (.lit 4398046511104) (.op .add (.lenN (.sub (.var 37) (.lit 0) (.var 35))) (.lit 1))))::e4a20
abbrev e4a22:List TB:=(.not (.lt (.lenN (.var 37)) (.var 36)))::e4a18
abbrev e4a23:List TB:=(.not (.lt (.lit 4398046511104) (.op .add (.lenN (.sub (.var 37) (.lit 0) (.var 35))) (.lit 1))))::e4a22
abbrev e4s7:SgT:=(36,.itm (.op .add (.op .add (.lenN (.sub (.var 37) (.lit 0) (.var 35))) (.lit 1)) (.lenN (.var 91))))::(35,.itm (.op .add (.lenN (.sub (.var 37) (.lit 0) (.var 35))) (.lit 1)))::(34,.new 92)::e4s5
noncomputable def lit_e7cs:Tre:=(.fork (nd 90 e4a9 ((.lt (.var 23) (.lenN (.var 33))))
 (.fork (lf 2 90 90 (rgs (E7c t7cS).n t7f) e4s4 e4a11)
 (.fork (nd 90 e4a13 ((.or (.not (.lt (.op .add (.var 23) (.lit 1)) (.var 31))) (.lt (.op .add (.var 23) (.lit 1)) (.lenN (.var 33)))))
 (.fork (lf 2 90 90 (rgs (E7c t7cS).n t7f) e4s4 e4a15)
 (nd 90 e4a16 ((.lt (.op .add (.var 23) (.lit 1)) (.lenN (.var 33))))
 (nd 90 e4a17 ((.not (.lt (.lenN (.var 37)) (.var 36))))
 (nd 90 e4a20 ((.not (.lt (.lit 4398046511104) (.op .add (.lenN (.sub (.var 37) (.lit 0) (.var 35))) (.lit 1)))))
 (nd 93 e4a21 ((.not (.lt (.lit 1125899906842624) (.op .add (.var 23) (.lit 2)))))
 (lf 0 90 93 (rgs (E7c t7cS).n t7cS) ((37,.ntm (.app (.app (.sub (.var 37) (.lit 0) (.var 35)) (.one (.op .add (.op .add (.op .add (.op .shl (.op .add (.selN (.var 33) (.var 23)) (.lit (-55296))) (.lit 10)) (.lit 65536)) (.selN (.var 33) (.op .add (.var 23) (.lit 1)))) (.lit (-56320))))) (.var 91)))::(33,.ntm (.var 33))::(74,.blk 74)::(17,.ltm (.var 17))::(23,.itm (.op .add (.var 23) (.lit 2)))::e4s7) ((.not (.lt (.lit 1125899906842624) (.op .add (.var 23) (.lit 2))))::e4a21))))))))
 (nd 90 e4a18 ((.not (.lt (.lenN (.var 37)) (.var 36))))
 (nd 90 e4a22 ((.not (.lt (.lit 4398046511104) (.op .add (.lenN (.sub (.var 37) (.lit 0) (.var 35))) (.lit 1)))))
 (nd 93 e4a23 ((.not (.lt (.lit 1125899906842624) (.op .add (.var 23) (.lit 1)))))
 (lf 0 90 93 (rgs (E7c t7cS).n t7cS) ((37,.ntm (.app (.app (.sub (.var 37) (.lit 0) (.var 35)) (.one (.selN (.var 33) (.var 23)))) (.var 91)))::(33,.ntm (.var 33))::(74,.blk 74)::(17,.ltm (.var 17))::(23,.itm (.op .add (.var 23) (.lit 1)))::e4s7) ((.not (.lt (.lit 1125899906842624) (.op .add (.var 23) (.lit 1))))::e4a23))))))))
 (lf 1 90 90 (rgs (E7c t7cS).n t7cS) ((37,.ntm (.var 37))::(33,.ntm (.var 33))::(74,.blk 74)::(17,.ltm (.var 17))::(23,.itm (.var 23))::(36,.itm (.var 36))::(35,.itm (.var 35))::(34,.blk 34)::e4s5) e4a19))
theorem lit_e7cs_eq:tre7c t7cS []=lit_e7cs:=by kernel_rfl
theorem hold_e7n {β:Ren} (pp:P7 β):lit_e7n.Holds (Gd7 (fun _=>[]) (fun _ _=>True) β) β:=by
 unfold lit_e7n
 have p:=pp.p; have e21:=pp.e21; have e23:=pp.e23
 have hβ:=p.n.1
 have p20:=p.i20; have p21:=p.i21; have pl:=p.le; have p23:=p.i23
 refine (fork_of (need_o hβ ?_ (need_o hβ ?_ (need_o hβ ?_ (fork_of (need_o hβ ?_ (leaf_gen [] hβ (by kernel_rfl) (by kernel_rfl) ?_)) (need_o hβ ?_ (leaf_gen [] hβ (by kernel_rfl) (by kernel_rfl) ?_)))))) (leaf_o [] hβ ?_))
 iterate 4 (focus (intro hA; simp only [DD] at hA ⊢; omega))
 ·intro δ0 γ0 hl0 hA hr0 hid0 hI
  simp only [DD,aL hβ,Nat.reduceLT,Nat.reduceLeDiff,Nat.reduceSub] at hA
  obtain ⟨a0,a1,a2,a3,a4,a5⟩:=hA
  simp only [DD,aL hβ,Nat.reduceLT,Nat.reduceLeDiff,Nat.reduceSub] at hI
  obtain ⟨i33,i74,i17,i23,i32,i31,i85,i22,i21,i20,i16,i73⟩:=hI
  simp only [ub0,ubk] at *
  exact finU (O:=[]) ⟨⟨i73,i16,i17,i20,i21,i22⟩,Bool.eq_iff_iff.2 i85⟩ (by omega) (ub2_f a1) i23 i33 (by rw [i31]; rfl) (by rw [i31,i32,i33]; constructor <;> (try simp) <;> (try omega))
 ·intro hA; simp only [DD] at hA ⊢; omega
 ·intro δ0 γ0 hl0 hA hr0 hid0 hI
  simp only [DD,aL hβ,Nat.reduceLT,Nat.reduceLeDiff,Nat.reduceSub] at hA
  obtain ⟨a0,a1,a2,a3,a4,a5⟩:=hA
  simp only [DD,aL hβ,Nat.reduceLT,Nat.reduceLeDiff,Nat.reduceSub] at hI
  obtain ⟨i33,i74,i17,i23,i32,i31,i85,i22,i21,i20,i16,i73⟩:=hI
  simp only [ub0,ubk] at *
  exact finU (O:=[]) ⟨⟨i73,i16,i17,i20,i21,i22⟩,Bool.eq_iff_iff.2 i85⟩ (by omega) (ub2_t a1) i23 i33 (by rw [i31]; rfl) (by rw [i31,i32,i33]; constructor <;> (try simp) <;> (try omega))
 ·intro γ0 hl0 hA hr0 hid0 hI
  simp only [DD] at hA
  have a0:=hA
  simp only [DD] at hI
  obtain ⟨i74,i17,i23,i85,i22,i21,i20,i16,i73⟩:=hI
  exact ⟨⟨⟨i73,i16,i17,i20,i21,i22⟩,Bool.eq_iff_iff.2 i85⟩,by omega,trivial⟩
theorem hold_e7s {β:Ren} (pp:P7 β) (q:K6 β):lit_e7s.Holds (Gd7 O6 (fun a b=>NumEq a b) β) β:=by
 unfold lit_e7s
 have p:=pp.p; have e21:=pp.e21; have e23:=pp.e23
 have hβ:=p.n.1
 have p20:=p.i20; have p21:=p.i21; have pl:=p.le; have p23:=p.i23
 have qa:=q.a; have qb:=q.b; have qc:=q.c
 have ol:(O6 β).length=(gI β 31).toNat:=by unfold O6; simp; omega
 have ol2:(List.drop (Int.toNat 0) (List.take (gI β 31).toNat (gN β 33))).length≤(gI β 31).toNat:=by simp; omega
 refine (fork_of (need_o hβ ?_ (need_o hβ ?_ (need_o hβ ?_ (fork_of (need_o hβ ?_ (need_o hβ ?_ (need_o hβ ?_ (leaf_gen [] hβ (by kernel_rfl) (by kernel_rfl) ?_)))) (need_o hβ ?_ (need_o hβ ?_ (need_o hβ ?_ (leaf_gen [] hβ (by kernel_rfl) (by kernel_rfl) ?_)))))))) (leaf_o [] hβ ?_))
 iterate 6 (focus (intro hA; simp only [DD] at hA ⊢; omega))
 ·intro δ0 γ0 hl0 hA hr0 hid0 hI
  simp only [DD,aL hβ,Nat.reduceLT,Nat.reduceLeDiff,Nat.reduceSub] at hA
  obtain ⟨a0,a1,a2,a3,a4,a5,a6,a7⟩:=hA
  simp only [DD,aL hβ,Nat.reduceLT,Nat.reduceLeDiff,Nat.reduceSub] at hI
  obtain ⟨i33,i74,i17,i23,i32,i31,i85,i22,i21,i20,i16,i73⟩:=hI
  simp only [ub0,ubk] at *
  exact finU (O:=O6 β) ⟨⟨i73,i16,i17,i20,i21,i22⟩,Bool.eq_iff_iff.2 i85⟩ (by omega) (ub2_f a3) i23 (i33.trans (List.append_assoc _ _ _)) (by rw [i31]; unfold O6; simp; try omega) (by rw [i31,i32,i33]; constructor <;> (try simp) <;> (try omega))
 iterate 3 (focus (intro hA; simp only [DD] at hA ⊢; omega))
 ·intro δ0 γ0 hl0 hA hr0 hid0 hI
  simp only [DD,aL hβ,Nat.reduceLT,Nat.reduceLeDiff,Nat.reduceSub] at hA
  obtain ⟨a0,a1,a2,a3,a4,a5,a6,a7⟩:=hA
  simp only [DD,aL hβ,Nat.reduceLT,Nat.reduceLeDiff,Nat.reduceSub] at hI
  obtain ⟨i33,i74,i17,i23,i32,i31,i85,i22,i21,i20,i16,i73⟩:=hI
  simp only [ub0,ubk] at *
  exact finU (O:=O6 β) ⟨⟨i73,i16,i17,i20,i21,i22⟩,Bool.eq_iff_iff.2 i85⟩ (by omega) (ub2_t a3) i23 (i33.trans (List.append_assoc _ _ _)) (by rw [i31]; unfold O6; simp; try omega) (by rw [i31,i32,i33]; constructor <;> (try simp) <;> (try omega))
 ·intro γ0 hl0 hA hr0 hid0 hI
  simp only [DD] at hA
  have a0:=hA
  simp only [DD] at hI
  obtain ⟨i33,i74,i17,i23,i32,i31,i30,i85,i22,i21,i20,i16,i73⟩:=hI
  exact ⟨⟨⟨i73,i16,i17,i20,i21,i22⟩,Bool.eq_iff_iff.2 i85⟩,by omega,i30,i33,i31,i32⟩
theorem hold_e7cn {β:Ren} (p:PE β):lit_e7cn.Holds (Gd8 (fun _=>[]) (fun _ _=>True) β) β:=by
 unfold lit_e7cn
 have hβ:=p.n.1
 have p23:=p.i23; have p31:=p.i31; have pl:=p.len
 refine (fork_of (need_o hβ ?_ (fork_of (leaf_o [] hβ ?_) (fork_of (need_o hβ ?_ (fork_of (leaf_o [] hβ ?_) (need_o hβ ?_ (need_o hβ ?_ (leaf_gen [] hβ (by kernel_rfl) (by kernel_rfl) ?_))))) (need_o hβ ?_ (leaf_gen [] hβ (by kernel_rfl) (by kernel_rfl) ?_))))) (leaf_o [] hβ ?_))
 ·intro hA; simp only [DD] at hA ⊢; omega
 ·intro γ0 hl0 hA hr0 hid0 hI
  simp only [DD] at hA
  obtain ⟨a0,a1,a2,a3⟩:=hA
  simp only [DD] at hI
  obtain ⟨i74,i17,i22,i21,i20,i16,i73⟩:=hI
  exact ⟨⟨i73,i16,i17,i20,i21,i22⟩,by omega,du_low p (by omega) a1 a0⟩
 ·intro hA; simp only [DD] at hA ⊢; omega
 ·intro γ0 hl0 hA hr0 hid0 hI
  simp only [DD] at hA
  obtain ⟨a0,a1,a2,a3,a4,a5,a6⟩:=hA
  simp only [DD] at hI
  obtain ⟨i74,i17,i22,i21,i20,i16,i73⟩:=hI
  exact ⟨⟨i73,i16,i17,i20,i21,i22⟩,by omega,du_nopair p (by omega) a3 a2 a0⟩
 iterate 2 (focus (intro hA; simp only [DD] at hA ⊢; omega))
 ·intro δ0 γ0 hl0 hA hr0 hid0 hI
  simp only [DD,aL hβ,Nat.reduceLT,Nat.reduceLeDiff,Nat.reduceSub] at hA
  obtain ⟨a0,a1,a2,a3,a4,a5,a6,a7,a8,a9,a10⟩:=hA
  simp only [DD,aL hβ,Nat.reduceLT,Nat.reduceLeDiff,Nat.reduceSub] at hI
  obtain ⟨i37,i33,i74,i17,i23,i36,i35,i32,i31,i30,i22,i21,i20,i16,i73⟩:=hI
  have hd:=du_pair p (by omega) a7 a6 a4 a3
  rw [← pairv] at hd
  exact fin8 (O:=[]) ⟨⟨i73,i16,i17,i20,i21,i22⟩,i73,i30,i33,i31⟩ (by omega) hd (by omega) i23 (by omega) i37 (by rw [i35]; rfl) (by rw [i35,i36,i37]; constructor <;> (try simp) <;> (try omega))
 ·intro hA; simp only [DD] at hA ⊢; omega
 ·intro δ0 γ0 hl0 hA hr0 hid0 hI
  simp only [DD,aL hβ,Nat.reduceLT,Nat.reduceLeDiff,Nat.reduceSub] at hA
  obtain ⟨a0,a1,a2,a3,a4⟩:=hA
  simp only [DD,aL hβ,Nat.reduceLT,Nat.reduceLeDiff,Nat.reduceSub] at hI
  obtain ⟨i37,i33,i74,i17,i23,i36,i35,i32,i31,i30,i22,i21,i20,i16,i73⟩:=hI
  have hd:=du_one p (by omega) a2 a1
  exact fin8 (O:=[]) ⟨⟨i73,i16,i17,i20,i21,i22⟩,i73,i30,i33,i31⟩ (by omega) hd (by omega) i23 (by omega) i37 (by rw [i35]; rfl) (by rw [i35,i36,i37]; constructor <;> (try simp) <;> (try omega))
 ·intro γ0 hl0 hA hr0 hid0 hI
  simp only [DD] at hA
  have a0:=hA
  simp only [DD] at hI
  obtain ⟨i33,i74,i17,i23,i32,i31,i30,i22,i21,i20,i16,i73⟩:=hI
  exact ⟨⟨⟨i73,i16,i17,i20,i21,i22⟩,i73,i30,i33,i31⟩,by omega,trivial⟩
theorem hold_e7cs {β:Ren} (p:PE β) (q:K8 β):lit_e7cs.Holds (Gd8 O8 (fun a b=>NumE2 a b) β) β:=by
 unfold lit_e7cs
 have hβ:=p.n.1
 have p23:=p.i23; have p31:=p.i31; have pl:=p.len
 have qa:=q.a; have qb:=q.b; have qc:=q.c
 have ol:(O8 β).length=(gI β 35).toNat:=by unfold O8; simp; omega
 have ol2:(List.drop (Int.toNat 0) (List.take (gI β 35).toNat (gN β 37))).length≤(gI β 35).toNat:=by simp; omega
 refine (fork_of (need_o hβ ?_ (fork_of (leaf_o [] hβ ?_) (fork_of (need_o hβ ?_ (fork_of (leaf_o [] hβ ?_) (need_o hβ ?_ (need_o hβ ?_ (need_o hβ ?_ (need_o hβ ?_ (leaf_gen [] hβ (by kernel_rfl) (by kernel_rfl) ?_))))))) (need_o hβ ?_ (need_o hβ ?_ (need_o hβ ?_ (leaf_gen [] hβ (by kernel_rfl) (by kernel_rfl) ?_))))))) (leaf_o [] hβ ?_))
 ·intro hA; simp only [DD] at hA ⊢; omega
 ·intro γ0 hl0 hA hr0 hid0 hI
  simp only [DD] at hA
  obtain ⟨a0,a1,a2,a3⟩:=hA
  simp only [DD] at hI
  obtain ⟨i74,i17,i22,i21,i20,i16,i73⟩:=hI
  exact ⟨⟨i73,i16,i17,i20,i21,i22⟩,by omega,du_low p (by omega) a1 a0⟩
 ·intro hA; simp only [DD] at hA ⊢; omega
 ·intro γ0 hl0 hA hr0 hid0 hI
  simp only [DD] at hA
  obtain ⟨a0,a1,a2,a3,a4,a5,a6⟩:=hA
  simp only [DD] at hI
  obtain ⟨i74,i17,i22,i21,i20,i16,i73⟩:=hI
  exact ⟨⟨i73,i16,i17,i20,i21,i22⟩,by omega,du_nopair p (by omega) a3 a2 a0⟩
 iterate 4 (focus (intro hA; simp only [DD] at hA ⊢; omega))
 ·intro δ0 γ0 hl0 hA hr0 hid0 hI
  simp only [DD,aL hβ,Nat.reduceLT,Nat.reduceLeDiff,Nat.reduceSub] at hA
  obtain ⟨a0,a1,a2,a3,a4,a5,a6,a7,a8,a9,a10,a11,a12⟩:=hA
  simp only [DD,aL hβ,Nat.reduceLT,Nat.reduceLeDiff,Nat.reduceSub] at hI
  obtain ⟨i37,i33,i74,i17,i23,i36,i35,i32,i31,i30,i22,i21,i20,i16,i73⟩:=hI
  have hd:=du_pair p (by omega) a9 a8 a6 a5
  rw [← pairv] at hd
  exact fin8 (O:=O8 β) ⟨⟨i73,i16,i17,i20,i21,i22⟩,i73,i30,i33,i31⟩ (by omega) hd (by omega) i23 (by omega) (i37.trans (List.append_assoc _ _ _)) (by rw [i35]; unfold O8; simp; try omega) (by rw [i35,i36,i37]; constructor <;> (try simp) <;> (try omega))
 iterate 3 (focus (intro hA; simp only [DD] at hA ⊢; omega))
 ·intro δ0 γ0 hl0 hA hr0 hid0 hI
  simp only [DD,aL hβ,Nat.reduceLT,Nat.reduceLeDiff,Nat.reduceSub] at hA
  obtain ⟨a0,a1,a2,a3,a4,a5,a6⟩:=hA
  simp only [DD,aL hβ,Nat.reduceLT,Nat.reduceLeDiff,Nat.reduceSub] at hI
  obtain ⟨i37,i33,i74,i17,i23,i36,i35,i32,i31,i30,i22,i21,i20,i16,i73⟩:=hI
  have hd:=du_one p (by omega) a4 a3
  exact fin8 (O:=O8 β) ⟨⟨i73,i16,i17,i20,i21,i22⟩,i73,i30,i33,i31⟩ (by omega) hd (by omega) i23 (by omega) (i37.trans (List.append_assoc _ _ _)) (by rw [i35]; unfold O8; simp; try omega) (by rw [i35,i36,i37]; constructor <;> (try simp) <;> (try omega))
 ·intro γ0 hl0 hA hr0 hid0 hI
  simp only [DD] at hA
  have a0:=hA
  simp only [DD] at hI
  obtain ⟨i37,i33,i74,i17,i23,i36,i35,i34,i32,i31,i30,i22,i21,i20,i16,i73⟩:=hI
  exact ⟨⟨⟨i73,i16,i17,i20,i21,i22⟩,i73,i30,i33,i31⟩,by omega,i34,i37,i35,i36⟩
end U
