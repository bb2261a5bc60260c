-- the statement of this claim: see YtoamgocecoiggaaDoorRw
import Derived.Test.YtoamgocecoiggaaDoorM29
set_option linter.unusedVariables false
set_option linter.unusedSimpArgs false
open Go Go.SM Go.Proofs
namespace U
set_option maxRecDepth 100000
theorem RA.rr {β:Ren} (r:RA β):RR β:=⟨r.i18,r.i19,r.i6,r.i7⟩
structure OB (β:Ren):Prop where
 p:PR β
 buf:(gL β 3).length=1536
 b5:gI β 5≤4 * gI β 8 + 20
 off:gI β 9 + (restB β).length≤4000000
structure Up (β γ:Ren):Prop where
 h0:γ[0]?=β[0]?
 h1:γ[1]?=β[1]?
 h2:γ[2]?=β[2]?
 h16:γ[16]?=β[16]?
 h73:γ[73]?=β[73]?
 h74:γ[74]?=β[74]?
 l17:gL γ 17=gL β 17
 i18:gI γ 18=gI β 18
 i72:gI γ 72=gI β 72
 i10:gI γ 10=gI β 10
 i12:gI γ 12=gI β 12
 op:∀ i ∈ opA,gV γ i=gV β i
 p:PR γ
 rest:restB γ=restB β
 b19:gI β 19≤gI γ 19
structure Up0 (β γ:Ren):Prop extends Up β γ where
 l3:gL γ 3=gL β 3
 i5:gI γ 5=gI β 5
 i8:gI γ 8=gI β 8
 i9:gI γ 9=gI β 9
theorem up_sm {β γ:Ren} (p:PR β) (hn:Ln γ) (s:Sm β γ):Up0 β γ :=
 ⟨⟨s.h0,s.h1,s.h2,s.h16,s.h73,s.h74,s.l17,s.i18,s.i72,s.i10,s.i12,s.op,pr_fx p hn s.toFx (by rw [s.i6,s.i7]; exact p.le),rest_of s.l4 s.i6 s.i7 s.l17 s.i18 s.i19,by rw [s.i19]; exact Int.le_refl _⟩,s.l3,s.i5,s.i8,s.i9⟩
theorem inv_up {β γ:Ren} (o:OB β) (r:RA β) (u:Up0 β γ) (rg:RR γ) (hlt:gI β 8 < gI β 12):Inv γ:=by
 have h12:=r.i12; have h8:=r.i8; have h5:=r.i5; have b:=o.b5
 have x6:=rg.i6; have x7:=rg.i7; have l:=u.p.le
 have hl:=rest_len u.p rg
 have y:=u.p.inp
 have off:=o.off
 have e:=congrArg List.length u.rest
 have e5:=u.i5; have e8:=u.i8; have e9:=u.i9
 exact ⟨u.p.n,u.p.raw,by rw [u.l3]; exact o.buf,l,by omega,by omega,by omega⟩
structure Os (β γ:Ren):Prop where
 h0:γ[0]?=β[0]?
 h1:γ[1]?=β[1]?
 h2:γ[2]?=β[2]?
 h16:γ[16]?=β[16]?
 h73:γ[73]?=β[73]?
 h74:γ[74]?=β[74]?
 l17:gL γ 17=gL β 17
 i18:gI γ 18=gI β 18
 i72:gI γ 72=gI β 72
 i10:gI γ 10=gI β 10
 i12:gI γ 12=gI β 12
 op:∀ i ∈ opA,gV γ i=gV β i
theorem Os.trans {a b c:Ren} (h:Os a b) (g:Os b c):Os a c:=⟨g.h0.trans h.h0,g.h1.trans h.h1,g.h2.trans h.h2,g.h16.trans h.h16,g.h73.trans h.h73,g.h74.trans h.h74,g.l17.trans h.l17,g.i18.trans h.i18,g.i72.trans h.i72,g.i10.trans h.i10,g.i12.trans h.i12,fun i hi=>(g.op i hi).trans (h.op i hi)⟩
theorem Os.refl (a:Ren):Os a a:=⟨rfl,rfl,rfl,rfl,rfl,rfl,rfl,rfl,rfl,rfl,rfl,fun _ _=>rfl⟩
theorem Fx.os {a b:Ren} (f:Fx a b):Os a b:=⟨f.h0,f.h1,f.h2,f.h16,f.h73,f.h74,f.l17,f.i18,f.i72,f.i10,f.i12,f.op⟩
theorem Up.os {a b:Ren} (f:Up a b):Os a b:=⟨f.h0,f.h1,f.h2,f.h16,f.h73,f.h74,f.l17,f.i18,f.i72,f.i10,f.i12,f.op⟩
structure RO (β γ:Ren) (cs:List Int) (z:List UInt8):Prop where
 s:Os β γ
 p:PR γ
 dr:DR (gI β 10) (restB β) cs (restB γ)
 buf:(gL γ 3).take (gI γ 5).toNat=(gL β 3).take (gI β 5).toNat++encs cs++z
 bl:gI γ 5=gI β 5 + (encs cs).length + z.length
 len:(gL γ 3).length=(gL β 3).length
 un:gI γ 8=gI β 8 + cs.length + z.length
 off:gI γ 9 + (restB γ).length=gI β 9 + (restB β).length
 b19:gI β 19≤gI γ 19
theorem encs_app (a b:List Int):encs (a++b)=encs a++encs b:=by unfold encs; exact List.flatMap_append
theorem RO.trans {a b c:Ren} {cs ds:List Int} {z:List UInt8} (h:RO a b cs []) (g:RO b c ds z):RO a c (cs++ds) z:=by
 refine ⟨h.s.trans g.s,g.p,h.dr.append (by rw [← h.s.i10]; exact g.dr),?_,?_,by rw [g.len,h.len],?_,by rw [g.off,h.off],Int.le_trans h.b19 g.b19⟩
 ·rw [g.buf,h.buf,encs_app]; simp
 ·have:=h.bl; have:=g.bl; rw [encs_app]; simp at *; omega
 ·have:=h.un; have:=g.un; simp at *; omega
theorem ro_of {β γ1 β2:Ren} {cs:List Int} (u:Up0 β γ1) (q:RndsL γ1 β2 cs):RO β β2 cs []:=by
 have h19:=q.fx.i19; have b:=u.b19
 refine ⟨u.os.trans q.fx.os,q.p,by rw [← u.rest,← u.i10]; exact q.dr,by rw [q.buf,u.l3,u.i5,List.append_nil],by rw [q.bl,u.i5]; simp,by rw [q.len,u.l3],by rw [q.un,u.i8]; simp,by rw [q.off,u.i9,u.rest],by omega⟩
theorem RO.sm {β b2 γ2:Ren} {cs:List Int} {z:List UInt8} (h:RO β b2 cs z) (hn:Ln γ2) (s:Sm b2 γ2):RO β γ2 cs z:=by
 have p:=h.p
 have e:=rest_of s.l4 s.i6 s.i7 s.l17 s.i18 s.i19
 exact ⟨h.s.trans s.os,pr_fx p hn s.toFx (by rw [s.i6,s.i7]; exact p.le),by rw [e]; exact h.dr,by rw [s.l3,s.i5]; exact h.buf,by rw [s.i5]; exact h.bl,by rw [s.l3]; exact h.len,by rw [s.i8]; exact h.un,by rw [s.i9,e]; exact h.off,by rw [s.i19]; exact h.b19⟩
theorem RO.nul {β b2 γ2:Ren} {cs:List Int} (h:RO β b2 cs []) (hn:Ln γ2) (f:Fx b2 γ2) (l3:gL γ2 3=(gL b2 3).set (gI b2 5).toNat 0) (i5:gI γ2 5=gI b2 5 + 1) (i7:gI γ2 7=gI b2 7) (i8:gI γ2 8=gI b2 8 + 1) (i9:gI γ2 9=gI b2 9)
    (h0:0≤gI b2 5) (hl:gI b2 5 + 1≤(gL b2 3).length):RO β γ2 cs [0]:=by
 have p:=h.p
 have e:=rest_of f.l4 f.i6 i7 f.l17 f.i18 f.i19
 refine ⟨h.s.trans f.os,pr_fx p hn f (by rw [f.i6,i7]; exact p.le),by rw [e]; exact h.dr,?_,by rw [i5,h.bl]; simp,by rw [l3]; simp [h.len],by rw [i8,h.un]; simp,by rw [i9,e]; exact h.off,by rw [f.i19]; exact h.b19⟩
 rw [l3,i5,bput1 h0 hl,h.buf]; simp
def XO (β γ:Ren):Prop:=∃ cs,(RO β γ cs []∧gI γ 12≤gI γ 8)∨(RO β γ cs [0]∧gB γ 11=true∧restB γ=[])
def EO2 (β γ:Ren):Prop:=Er β γ∧∃ cs R,DR (gI β 10) (restB β) cs R∧BadL (gI β 10) R
theorem bad_of {b:Ren} (p:PR b) (r:RR b) (hlt:gI b 7 < gI b 6) (h:Bad b):BadL (gI b 10) (restB b):=by
 have hl:=rest_len p r
 have:=p.inp
 refine ⟨fun e=>by rw [e] at hl; simp at hl; omega,?_⟩
 rcases h with h | ⟨h,he⟩ | ⟨v,w,h,hp⟩
 ·left; rw [dc_list p r hlt (by rw [h]; intro h; cases h)]; exact h
 ·right; left; rw [dc_eof p r hlt he]; exact h
 ·right; right; exact ⟨v,w,by rw [dc_list p r hlt (by rw [h]; intro h; cases h)]; exact h,hp⟩
theorem Rounds.mono {β β1:Ren} {cs:List Int} (h:Rounds β cs β1):gI β 7≤gI β1 7:=by
 induction h with
 | nil s=>rw [s.i7]; exact Int.le_refl _
 | cons hr hn1 hrs ih =>
  obtain ⟨w,hd,h7,h9,w1,w2,w3⟩:=hr.ok
  omega
theorem eo_of {β γ1 b2:Ren} (u:Up0 β γ1) (rg:RR γ1) (h:EndE γ1 b2):EO2 β b2:=by
 obtain ⟨he,cs,bm,hr,hn,hlt,hb⟩:=h
 have q:=hr.list u.p rg hn
 have h10:=q.fx.i10
 have hle:=q.p.le
 have x6:=rg.i6; have x7:=rg.i7; have f6:=q.fx.i6
 have rm:RR bm:=rr_fx rg q.fx (by have:=hr.mono; omega)
 refine ⟨⟨he.1.trans u.h0,he.2.trans u.h73⟩,cs,restB bm,by rw [← u.rest,← u.i10]; exact q.dr,?_⟩
 have:=bad_of q.p rm hlt hb
 rw [h10,u.i10] at this
 exact this
theorem upB {β γ0 β1 γ1:Ren} (p0:PR γ0) (e17:gL γ0 17=gL β 17) (e18:gI γ0 18=gI β 18) (er:restB γ0=restB β) (i19:gI γ0 19=gI β 19) (hn1:Ln β1) (q:QR γ0 β1) (hn:Ln γ1) (f4:gL γ1 4=gL β1 4) (f6:gI γ1 6=gI β1 6) (f7:gI γ1 7=gI β1 7) (f11:gB γ1 11=gB β1 11) (f19:gI γ1 19=gI β1 19)
    (os:Os β γ1) (l3:gL γ1 3=gL β 3) (i5:gI γ1 5=gI β 5) (i8:gI γ1 8=gI β 8) (i9:gI γ1 9=gI β 9):Up0 β γ1:=by
 have p1:=q.pp p0 hn1
 have b:=q.b19
 have h17:gL γ1 17=gL β1 17:=by rw [os.l17,q.l17,e17]
 have h18:gI γ1 18=gI β1 18:=by rw [os.i18,q.i18,e18]
 exact ⟨⟨os.h0,os.h1,os.h2,os.h16,os.h73,os.h74,os.l17,os.i18,os.i72,os.i10,os.i12,os.op,p1.of hn f4 f6 f7 f11 h17 h18 f19,by rw [rest_of f4 f6 f7 h17 h18 f19,q.rest,er],by omega⟩,l3,i5,i8,i9⟩
theorem progB {β γ0 β1 γ1 β2:Ren} {cs:List Int} (q:QR γ0 β1) (f6:gI γ1 6=gI β1 6) (f7:gI γ1 7=gI β1 7) (f11:gB γ1 11=gB β1 11) (f19:gI γ1 19=gI β1 19) (i19:gI γ0 19=gI β 19) (hr:Rounds γ1 cs β2)
    (he:gI β2 7=gI β2 6∨gI β2 7 < gI β2 6∧dc β2=.more∧gB β2 11=false) (fx:Fx γ1 β2) (hf:gB β2 11=false):cs≠[]∨gI β 19 < gI β2 19:=by
 by_cases hc:cs=[]
 ·right
  subst hc
  have h19:=fx.i19
  have h11:=fx.b11
  cases hr with
  | nil s =>
  have s6:=s.i6; have s7:=s.i7
  rcases q.pr with ⟨_,e7,e6,_,e11,h | h⟩ | ⟨_,_,_,⟨h,_⟩ | ⟨_,h,_⟩⟩
  ·rw [← e11,← f11,← h11,hf] at h; cases h
  ·rcases he with he | ⟨_,he,_⟩
   ·omega
   ·have:=dcd_more he; omega
  ·rw [← f11,← h11,hf] at h; cases h
  ·omega
 ·exact .inl hc
theorem eof_nil {b:Ren} (p:PR b) (r:RR b) (he:gB b 11=true) (h:gI b 7=gI b 6):restB b=[]:=by
 have hl:=rest_len p r
 have:=p.eo he
 exact List.eq_nil_of_length_eq_zero (by omega)
def GO (β:Ren):Goal where
 J:=fun j γ=>match j with
  | 0=>∃ cs,RO β γ cs []∧gB γ 11=false∧gB γ 13=false∧(gB β 13=true∨cs≠[]∨gI β 19 < gI γ 19)∧gI β 8 < gI β 12
  | 1=>XO β γ
  | 2=>EO2 β γ
  | _=>False
 L:=fun j β1=>Inv β1
 O:=fun j i β1 β2=>match i with
  | 0=>Ln β2∧End2 β1 β2
  | 1=>Ln β2∧EndE β1 β2
  | _=>False
 W:=fun j c=>c=.loop inner
 CL:=fun j β1=>PR β1
 CO:=fun j i β1 β2=>Ln β2∧QR β1 β2
set_option maxRecDepth 100000
noncomputable abbrev loopI:Code:=.loop inner
abbrev w2a0:List TB:=[(.lt (.var 8) (.var 12))]
abbrev w2a1:List TB:=(.or (.not (.var 13)) (.eq (.var 7) (.var 6)))::w2a0
abbrev w2a2:List TB:=[(.lt (.var 5) (.lit 1536)),(.var 11)]
abbrev w2a3:List TB:=(.lt (.var 5) (.len (.var 3)))::w2a2
abbrev w2a4:List TB:=(.not (.lt (.lit 1536) (.op .add (.var 5) (.lit 1))))::w2a3
abbrev w2a5:List TB:=(.not (.lt (.lit 2000) (.op .add (.var 8) (.lit 1))))::w2a4
abbrev w2s0:SgT:=[(0,.blk 0),(73,.blk 73)]
abbrev w2s1:SgT:=(12,.itm (.var 12))::w2s0
abbrev w2s2:SgT:=(5,.itm (.var 5))::w2s1
abbrev w2s3:SgT:=(72,.itm (.var 72))::(18,.itm (.var 18))::(16,.blk 16)::(ids ([32]++dn 30 11)++w2s2)
abbrev w2s4:SgT:=(74,.blk 74)::(17,.ltm (.var 17))::(4,.ltm (.var 4))::(3,.ltm (.set (.var 3) (.var 5) (.lit 0)))::(ids (dn 71 6++dn 64 21)++((9,.itm (.var 9))::(10,.itm (.var 10))::(7,.itm (.var 7))::(6,.itm (.var 6))::(2,.blk 2)::(39,.idn)::(8,.itm (.op .add (.var 8) (.lit 1)))::(37,.idn)::(1,.blk 1)::(11,.btm (.var 11))::(19,.itm (.var 19))::(72,.itm (.var 72))::(18,.itm (.var 18))::(16,.blk 16)::(ids ([32]++dn 30 11)++((5,.itm (.op .add (.var 5) (.lit 1)))::w2s1))))
abbrev w2s5:SgT:=(74,.blk 74)::(17,.ltm (.var 17))::(4,.ltm (.var 4))::(3,.ltm (.var 3))::(ids (dn 71 6++dn 64 21)++((9,.itm (.var 9))::(10,.itm (.var 10))::(7,.itm (.var 7))::(6,.itm (.var 6))::(2,.blk 2)::(39,.idn)::(8,.itm (.var 8))::(37,.idn)::(1,.blk 1)::(11,.btm (.var 11))::(19,.itm (.var 19))::(72,.itm (.var 72))::(18,.itm (.var 18))::(16,.blk 16)::(ids ([32]++dn 30 11)++((13,.btm (.lit false))::w2s2))))
abbrev w2s6:SgT:=(74,.blk 74)::(17,.ltm (.var 17))::(4,.ltm (.var 4))::(3,.ltm (.var 3))::(ids (dn 71 6++dn 64 21)++((9,.itm (.var 9))::(10,.itm (.var 10))::(7,.itm (.var 7))::(6,.itm (.var 6))::(2,.blk 2)::(39,.idn)::(8,.itm (.var 8))::(37,.idn)::(1,.blk 1)::(11,.btm (.var 11))::(19,.itm (.var 19))::(72,.itm (.var 72))::(18,.itm (.var 18))::(16,.blk 16)::(ids ([32]++dn 30 7)++w2s0)))
abbrev w2s7:SgT:=(74,.blk 74)::(17,.ltm (.var 17))::(4,.ltm (.var 4))::(3,.ltm (.var 3))::(ids (dn 71 6++dn 64 21)++((9,.itm (.var 9))::(10,.itm (.var 10))::(7,.itm (.var 7))::(6,.itm (.var 6))::(2,.blk 2)::(39,.idn)::(8,.itm (.var 8))::(37,.idn)::(1,.blk 1)::(11,.btm (.var 11))::(19,.itm (.var 19))::w2s3))
noncomputable def lit_tO:Tre:=(.fork (.fork (.call 49 90 90 (rgs spR.n spR.tin) (SgT.enc ((74,.blk 74)::(17,.ltm (.var 17))::(4,.ltm (.var 4))::(ids (dn 71 6++dn 64 21)++((43,.val (.func (.yield 0) #[(.int .i64 0),(.map (some 9)),(.int .i64 0),(.int .i64 10000000)] #[]))::(42,.val (.func (.yield 0) #[(.int .i64 0),(.map (some 10)),(.int .i64 1),(.int .i64 3)] #[]))::(7,.itm (.var 7))::(6,.itm (.var 6))::(2,.blk 2)::(39,.idn)::(38,.val (.func (.yield 0) #[(.int .i64 0),(.map (some 8)),(.int .i64 0),(.int .i64 2000)] #[]))::(37,.idn)::(36,.val (.func (.yield 4) #[(.int .i64 1),(.int .i64 0),(.int .i64 1536),(.int .i64 1536)] #[]))::(11,.btm (.var 11))::(19,.itm (.var 19))::(72,.itm (.var 72))::(18,.itm (.var 18))::(16,.blk 16)::(ids ([32]++dn 30 11)++w2s0))))) (List.map TB.enc w2a1) (.cons (rgs 0 tRo++rgV (.bool true)) (.loop 25 90 180 (rgs EO.n sp25.tin) loopI (SgT.enc ((74,.blk 74)::(17,.ltm (.var 17))::(4,.ltm (.var 94))::(3,.ltm (.var 3))::(ids (dn 71 6++dn 64 21)++((9,.itm (.var 9))::(10,.itm (.var 10))::(7,.itm (.var 97))::(6,.itm (.var 96))::(2,.blk 2)::(39,.idn)::(8,.itm (.var 8))::(37,.idn)::(1,.blk 1)::(11,.btm (.var 101))::(19,.itm (.var 109))::w2s3)))) (List.map TB.enc w2a1) (.cons (rgs EO.n tA) (.fork (nd 90 [(.var 11)] ((.lt (.var 5) (.lit 1536)))
 (nd 90 w2a2 ((.lt (.var 5) (.len (.var 3))))
 (nd 90 w2a3 ((.not (.lt (.lit 1536) (.op .add (.var 5) (.lit 1)))))
 (nd 90 w2a4 ((.not (.lt (.lit 2000) (.op .add (.var 8) (.lit 1)))))
 (lf 1 90 90 (rgs EO.n tX) w2s4 w2a5)))))
 (lf 0 90 90 (rgs EO.n tO) w2s5 [(.not (.var 11))]))
 (.cons (rgs EO.n tE) (lf 2 90 90 (rgs EO.n tE) w2s6 [])
 .nil)))
 .nil))
 (.loop 25 90 90 (rgs EO.n sp25.tin) loopI (SgT.enc w2s7) (List.map TB.enc ((.var 13)::(.not (.eq (.var 7) (.var 6)))::w2a0)) (.cons (rgs EO.n tA) (.fork (nd 90 [(.var 11)] ((.lt (.var 5) (.lit 1536)))
 (nd 90 w2a2 ((.lt (.var 5) (.len (.var 3))))
 (nd 90 w2a3 ((.not (.lt (.lit 1536) (.op .add (.var 5) (.lit 1)))))
 (nd 90 w2a4 ((.not (.lt (.lit 2000) (.op .add (.var 8) (.lit 1)))))
 (lf 1 90 90 (rgs EO.n tX) w2s4 w2a5)))))
 (lf 0 90 90 (rgs EO.n tO) w2s5 [(.not (.var 11))]))
 (.cons (rgs EO.n tE) (lf 2 90 90 (rgs EO.n tE) w2s6 [])
 .nil))))
 (lf 1 90 90 (rgs EO.n tX) w2s7 [(.not (.lt (.var 8) (.var 12)))]))
theorem lit_tO_eq:treO []=lit_tO:=by kernel_rfl
set_option maxRecDepth 100000
theorem Sm.refl (a:Ren):Sm a a:=⟨⟨rfl,rfl,rfl,rfl,rfl,rfl,rfl,rfl,rfl,rfl,rfl,rfl,rfl,rfl,rfl,fun _ _=>rfl⟩,rfl,rfl,rfl,rfl,rfl⟩
theorem hold_tO {β:Ren} (o:OB β) (r:RA β):lit_tO.Holds (GO β) β:=by
 unfold lit_tO
 have p:=o.p
 have rr:=r.rr
 have hβ:=p.n.1
 have r12:=r.i12; have r8:=r.i8; have r5:=r.i5; have yb:=o.buf
 refine (fork_of (fork_of (call_of opA hβ (by kernel_rfl) (by kernel_rfl) ?_) (loop_of opA hβ (by kernel_rfl) (by kernel_rfl) (by kernel_rfl) (by kernel_rfl) rfl ?_)) (leaf_o opA hβ ?_))
 ·intro γ0 hl0 hA hr0 hid0 hI
  simp only [DD] at hA
  obtain ⟨a0,a1⟩:=hA
  simp only [DD] at hI
  obtain ⟨i74,i17,i4,i43,i42,i7,i6,i2,i38,i36,i11,i19,i72,i18,i16,i0,i73⟩:=hI
  have hn0:Ln γ0:=p.n.of i73 hl0
  have p0:PR γ0:=p.of hn0 i4 i6 i7 (Bool.eq_iff_iff.2 i11) i17 i18 i19
  have er:restB γ0=restB β:=rest_of i4 i6 i7 i17 i18 i19
  have hL0:(GO β).CL 49 γ0:=p0
  refine ⟨hL0,(callo_cons ?_ callo_nil)⟩
  ·intro β1 hq1 hO1
   obtain ⟨hn1,q⟩:=hO1
   have hb1:=app_len hβ hn1.1
   simp only [Nat.reduceAdd] at hb1
   refine (loop_of opA hb1 (by kernel_rfl) (by kernel_rfl) (by kernel_rfl) (by kernel_rfl) rfl ?_)
   ·intro γ1 hl1 hA hr1 hid1 hI
    simp only [DD,aA hβ,Nat.reduceLT,Nat.reduceLeDiff,Nat.reduceSub] at hA
    obtain ⟨b0,b1⟩:=hA
    simp only [DD,aA hβ,Nat.reduceLT,Nat.reduceLeDiff,Nat.reduceSub] at hI
    obtain ⟨j74,j17,j4,j3,j9,j10,j7,j6,j2,j8,j1,j11,j19,j72,j18,j16,j5,j12,j0,j73⟩:=hI
    have os:Os β γ1:=⟨j0,j1,j2,j16,j73,j74,j17,j18,j72,j10,j12,hid_l hβ (by decide) hid1⟩
    have hm1:Ln γ1:=p.n.of j73 hl1
    have u:Up0 β γ1:=upB p0 i17 i18 er i19 hn1 q hm1 j4 j6 j7 (Bool.eq_iff_iff.2 j11) j19 os j3 j5 j8 j9
    have b6:=q.b6
    have b19:=q.b19
    have h18:=q.i18
    have x18:=rr.i18
    have x19:=rr.i19
    have hle:=p.inp
    have hib:=p.inb
    have rg:RR γ1:=⟨by rw [j18,j72]; exact rr.i18,by omega,by omega,by omega⟩
    have hlt:gI β 8 < gI β 12:=by omega
    have hL1:(GO β).L 25 γ1:=inv_up o r u rg hlt
    refine ⟨hL1,(outs_cons ?_ (outs_cons ?_ outs_nil))⟩
    ·intro β2 hq2 hO2
     obtain ⟨⟨hb2,hg2⟩,cs,hr,hI,hend⟩:=hO2
     have hne:Ln β2:=⟨hb2,hg2⟩
     have rl:=hr.list u.p rg hne
     have ro:=ro_of u rl
     have zz:=ra_of hq2
     have zz5:=zz.i5
     have zzr:=zz.rr
     have zl:=rl.len
     have zb:=hI.buf
     have zc:=hI.cap
     have zu:=hI.un
     have ze:=hI.le
     refine (fork_of (need_o hb2 ?_ (need_o hb2 ?_ (need_o hb2 ?_ (need_o hb2 ?_ (leaf_o opA hb2 ?_))))) (leaf_o opA hb2 ?_))
     iterate 4 (focus (intro hA; simp only [DD] at hA ⊢; omega))
     ·intro γ2 hl2 hA hr2 hid2 hI
      simp only [DD] at hA
      obtain ⟨c0,c1,c2,c3,c4⟩:=hA
      simp only [DD] at hI
      obtain ⟨k74,k17,k4,k3,k9,k10,k7,k6,k2,k8,k1,k11,k19,k72,k18,k16,k5,k12,k0,k73⟩:=hI
      have f2:Fx β2 γ2:=⟨k0,k1,k2,k4,k6,k10,k12,Bool.eq_iff_iff.2 k11,k16,k73,k74,k17,k18,k19,k72,hid2⟩
      have hn2:Ln γ2:=hne.of f2.h73 hl2
      have he:gB β2 11=true:=by first | exact c0 | assumption
      have h7:gI β2 7=gI β2 6:=by rcases hend with h | ⟨_,_,h⟩; exact h; rw [he] at h; cases h
      have rn:=ro.nul hn2 f2 k3 k5 k7 k8 k9 zz5.1 (by omega)
      refine ⟨cs,.inr ⟨rn,by rw [f2.b11]; exact he,?_⟩⟩
      rw [rest_of f2.l4 f2.i6 k7 f2.l17 f2.i18 f2.i19]
      exact eof_nil rl.p zzr he h7
     ·intro γ2 hl2 hA hr2 hid2 hI
      simp only [DD] at hA
      have c0:=hA
      simp only [DD] at hI
      obtain ⟨k74,k17,k4,k3,k9,k10,k7,k6,k2,k8,k1,k11,k19,k72,k18,k16,k13,k5,k12,k0,k73⟩:=hI
      have s2:Sm β2 γ2:=⟨⟨k0,k1,k2,k4,k6,k10,k12,Bool.eq_iff_iff.2 k11,k16,k73,k74,k17,k18,k19,k72,hid2⟩,k3,k5,k7,k8,k9⟩
      have hf:gB γ2 11=false:=by rw [s2.b11]; simpa using c0
      have hf1:gB β2 11=false:=by simpa using c0
      have h13:gB γ2 13=false:=by simpa using k13
      refine ⟨cs,ro.sm (hne.of s2.h73 hl2) s2,hf,h13,.inr ?_,hlt⟩
      rw [s2.i19]
      exact progB q j6 j7 (Bool.eq_iff_iff.2 j11) j19 i19 hr hend rl.fx hf1
    ·intro β2 hq2 hO2
     obtain ⟨⟨hb2,hg2⟩,he⟩:=hO2
     have hne:Ln β2:=⟨hb2,hg2⟩
     have eo:=eo_of u rg he
     refine (leaf_o [] hb2 ?_)
     ·intro γ2 hl2 hA hr2 hid2 hI
      clear hA
      simp only [DD] at hI
      obtain ⟨k74,k17,k4,k3,k9,k10,k7,k6,k2,k8,k1,k11,k19,k72,k18,k16,k0,k73⟩:=hI
      exact ⟨⟨k0.trans eo.1.1,k73.trans eo.1.2⟩,eo.2⟩
 ·intro γ0 hl0 hA hr0 hid0 hI
  simp only [DD] at hA
  obtain ⟨a0,a1,a2⟩:=hA
  simp only [DD] at hI
  obtain ⟨i74,i17,i4,i3,i9,i10,i7,i6,i2,i8,i1,i11,i19,i72,i18,i16,i5,i12,i0,i73⟩:=hI
  have s0:Sm β γ0:=⟨⟨i0,i1,i2,i4,i6,i10,i12,Bool.eq_iff_iff.2 i11,i16,i73,i74,i17,i18,i19,i72,hid0⟩,i3,i5,i7,i8,i9⟩
  have hn0:Ln γ0:=p.n.of i73 hl0
  have u:Up0 β γ0:=up_sm p hn0 s0
  have rg:RR γ0:=rr_fx rr s0.toFx (by rw [s0.i7]; exact rr.i7)
  have hlt:gI β 8 < gI β 12:=by omega
  have hL0:(GO β).L 25 γ0:=inv_up o r u rg hlt
  refine ⟨hL0,(outs_cons ?_ (outs_cons ?_ outs_nil))⟩
  ·intro β1 hq1 hO1
   obtain ⟨⟨hb1,hg1⟩,cs,hr,hI,hend⟩:=hO1
   have hne:Ln β1:=⟨hb1,hg1⟩
   have rl:=hr.list u.p rg hne
   have ro:=ro_of u rl
   have zz:=ra_of hq1
   have zz5:=zz.i5
   have zzr:=zz.rr
   have zl:=rl.len
   have zb:=hI.buf
   have zc:=hI.cap
   have zu:=hI.un
   have ze:=hI.le
   refine (fork_of (need_o hb1 ?_ (need_o hb1 ?_ (need_o hb1 ?_ (need_o hb1 ?_ (leaf_o opA hb1 ?_))))) (leaf_o opA hb1 ?_))
   iterate 4 (focus (intro hA; simp only [DD] at hA ⊢; omega))
   ·intro γ1 hl1 hA hr1 hid1 hI
    simp only [DD] at hA
    obtain ⟨b0,b1,b2,b3,b4⟩:=hA
    simp only [DD] at hI
    obtain ⟨j74,j17,j4,j3,j9,j10,j7,j6,j2,j8,j1,j11,j19,j72,j18,j16,j5,j12,j0,j73⟩:=hI
    have f2:Fx β1 γ1:=⟨j0,j1,j2,j4,j6,j10,j12,Bool.eq_iff_iff.2 j11,j16,j73,j74,j17,j18,j19,j72,hid1⟩
    have hn2:Ln γ1:=hne.of f2.h73 hl1
    have he:gB β1 11=true:=by first | exact b0 | assumption
    have h7:gI β1 7=gI β1 6:=by rcases hend with h | ⟨_,_,h⟩; exact h; rw [he] at h; cases h
    have rn:=ro.nul hn2 f2 j3 j5 j7 j8 j9 zz5.1 (by omega)
    refine ⟨cs,.inr ⟨rn,by rw [f2.b11]; exact he,?_⟩⟩
    rw [rest_of f2.l4 f2.i6 j7 f2.l17 f2.i18 f2.i19]
    exact eof_nil rl.p zzr he h7
   ·intro γ1 hl1 hA hr1 hid1 hI
    simp only [DD] at hA
    have b0:=hA
    simp only [DD] at hI
    obtain ⟨j74,j17,j4,j3,j9,j10,j7,j6,j2,j8,j1,j11,j19,j72,j18,j16,j13,j5,j12,j0,j73⟩:=hI
    have s2:Sm β1 γ1:=⟨⟨j0,j1,j2,j4,j6,j10,j12,Bool.eq_iff_iff.2 j11,j16,j73,j74,j17,j18,j19,j72,hid1⟩,j3,j5,j7,j8,j9⟩
    have hf:gB γ1 11=false:=by rw [s2.b11]; simpa using b0
    have hf1:gB β1 11=false:=by simpa using b0
    have h13:gB γ1 13=false:=by simpa using j13
    exact ⟨cs,ro.sm (hne.of s2.h73 hl1) s2,hf,h13,(.inl (by assumption)),hlt⟩
  ·intro β1 hq1 hO1
   obtain ⟨⟨hb1,hg1⟩,he⟩:=hO1
   have hne:Ln β1:=⟨hb1,hg1⟩
   have eo:=eo_of u rg he
   refine (leaf_o [] hb1 ?_)
   ·intro γ1 hl1 hA hr1 hid1 hI
    clear hA
    simp only [DD] at hI
    obtain ⟨j74,j17,j4,j3,j9,j10,j7,j6,j2,j8,j1,j11,j19,j72,j18,j16,j0,j73⟩:=hI
    exact ⟨⟨j0.trans eo.1.1,j73.trans eo.1.2⟩,eo.2⟩
 ·intro γ0 hl0 hA hr0 hid0 hI
  simp only [DD] at hA
  have a0:=hA
  simp only [DD] at hI
  obtain ⟨i74,i17,i4,i3,i9,i10,i7,i6,i2,i8,i1,i11,i19,i72,i18,i16,i5,i12,i0,i73⟩:=hI
  have s0:Sm β γ0:=⟨⟨i0,i1,i2,i4,i6,i10,i12,Bool.eq_iff_iff.2 i11,i16,i73,i74,i17,i18,i19,i72,hid0⟩,i3,i5,i7,i8,i9⟩
  refine ⟨[],.inl ⟨?_,by rw [i12,i8]; omega⟩⟩
  have:=ro_of (up_sm p p.n (Sm.refl β)) (Rounds.list (.nil (Sm.refl β)) p rr p.n)
  exact this.sm (p.n.of i73 hl0) s0
def updU (lo:Int):List (Nat × Value):=[(16,sL 1 (Z 0) (x 75) (Z 1536)),(17,I 76 0 1536),(22,I 10 lo 3)]
def tU:Tpl:={ m:=90,F:=[(0,.pointer (some ⟨0,0,none⟩)),(1,I 12 0 100)],H:=HP (updU 0),G:=[73] }
def tUo:Tpl:={ m:=90,F:=[(0,.pointer (some ⟨0,0,none⟩)),(1,I 12 0 100),(4,.bool true)],H:=HP (updU 0),G:=[73] }
abbrev opU:List Nat:=opX
def smU:List (Nat × Nat):=[(0,0),(1,0),(2,0),(16,0),(73,0),(74,0),(17,2),(18,1),(72,1)]++opU.map fun i=>(i,4)
def tEw:Tpl:={ m:=90,F:=[(0,.pointer (some ⟨0,0,none⟩)),(4,.bool false)],H:=[(0,{ cells:=Z 2::List.replicate 51 (.chan none),elem:=76,ro:=false,live:=true }),(73,{ cells:=[.iface 89 (.pointer (some ⟨74,0,none⟩))],elem:=86,ro:=true,live:=true })],G:=[73] }
def spU:CSpec:={ j:=42,n:=2,tin:=tU,outs:=[(.bool true,tUo,smU),(.bool false,tEw,[(0,0),(73,0)])] }
def ct48:FuncId→Option CSpec:=fun f=>if f=48 then some spD else none
def rc7:Nat→Bool:=fun n=>Nat.beq n 7
def sp19:LSpec:={ j:=19,tin:=tO,outs:=[(.exit 0,tX0,[]),(.ret,tE,[])] }
def sp123:LSpec:={ j:=123,tin:=tX0,outs:=[(.exit 11,tX0,[])] }
def ltU:Nat→Option LSpec:=fun n=>if n=19 then some sp19 else if n=123 then some sp123 else none
def ftU:AExit→Option (Nat × Tpl):=fun e=>match e with
 | .normal=>some (0,tUo)
 | .ret=>some (0,tUo)
 | _=>none
def ftU2:AExit→Option (Nat × Tpl):=fun e=>match e with
 | .ret=>some (1,tEw)
 | _=>none
noncomputable def EU:Env:={ EF 42 ct48 rc7 (fun _=>none) ltU ftU with ft2:=ftU2 }
noncomputable def treU (A:List TB):Tre:=tre EU 2000 (body 42) [] (A.map TB.enc) tU.frame tU.heap
def uE:List TB:=[.not (.lt (.var 8) (.var 12))]
def uL:List TB:=[.lt (.var 8) (.var 12)]
def uz:List TB:=[.eq (.var 10) (.lit 0)]
def un:List TB:=[.not (.eq (.var 10) (.lit 0))]
def u1:List TB:=[.lt (.lit 0) (.var 76),.lt (.var 76) (.var 75),.lt (.var 76) (.lit 1536),.not (.lt (.var 75) (.op .sub (.var 75) (.var 76)))]
def u2:List TB:=[.not (.lt (.var 76) (.var 75)),.eq (.var 76) (.var 75)]
def u3:List TB:=[.not (.lt (.lit 0) (.var 76)),.not (.eq (.var 76) (.var 75))]
set_option maxRecDepth 100000
structure Fp (β γ:Ren):Prop where
 h0:γ[0]?=β[0]?
 h1:γ[1]?=β[1]?
 h2:γ[2]?=β[2]?
 l4:gL γ 4=gL β 4
 i6:gI γ 6=gI β 6
 i7:gI γ 7=gI β 7
 i8:gI γ 8=gI β 8
 i9:gI γ 9=gI β 9
 i10:gI γ 10=gI β 10
 i12:gI γ 12=gI β 12
 b11:gB γ 11=gB β 11
 h16:γ[16]?=β[16]?
 h73:γ[73]?=β[73]?
 h74:γ[74]?=β[74]?
 l17:gL γ 17=gL β 17
 i18:gI γ 18=gI β 18
 i19:gI γ 19=gI β 19
 i72:gI γ 72=gI β 72
 op:∀ i ∈ opX,gV γ i=gV β i
theorem Fp.refl (a:Ren):Fp a a:=⟨rfl,rfl,rfl,rfl,rfl,rfl,rfl,rfl,rfl,rfl,rfl,rfl,rfl,rfl,rfl,rfl,rfl,rfl,fun _ _=>rfl⟩
theorem Fp.trans {a b c:Ren} (h:Fp a b) (g:Fp b c):Fp a c:=⟨g.h0.trans h.h0,g.h1.trans h.h1,g.h2.trans h.h2,g.l4.trans h.l4,g.i6.trans h.i6,g.i7.trans h.i7,g.i8.trans h.i8,g.i9.trans h.i9,g.i10.trans h.i10,g.i12.trans h.i12,g.b11.trans h.b11,g.h16.trans h.h16,g.h73.trans h.h73,g.h74.trans h.h74,g.l17.trans h.l17,g.i18.trans h.i18,g.i19.trans h.i19,g.i72.trans h.i72,fun i hi=>(g.op i hi).trans (h.op i hi)⟩
structure PP (β:Ren):Prop where
 n:Ln β
 buf:(gL β 3).length=1536
 i5:0≤gI β 5
 i12:gI β 12≤100
structure Pk (β γ:Ren) (k:Nat):Prop where
 f:Fp β γ
 buf:(gL γ 3).take (gI γ 5).toNat=(gL β 3).take (gI β 5).toNat++List.replicate k 0
 i5:gI γ 5=gI β 5 + k
 len:(gL γ 3).length=(gL β 3).length
theorem Pk.trans {a b c:Ren} {k m:Nat} (h:Pk a b k) (g:Pk b c m):Pk a c (k + m):=by
 refine ⟨h.f.trans g.f,?_,by have:=h.i5; have:=g.i5; omega,by rw [g.len,h.len]⟩
 rw [g.buf,h.buf,List.append_assoc,List.replicate_append_replicate]
def PdE (β γ:Ren):Prop:=∃ k,Pk β γ k∧gI β 12≤gI γ 5∧(k=0∨gI γ 5=gI β 12)
def GP (β:Ren):Goal where
 J:=fun j γ=>match j with
  | 0=>Pk β γ 1∧gI β 5 < gI β 12
  | 1=>Pk β γ 0∧gI β 12≤gI β 5
  | _=>False
 L:=fun _ _=>False
 O:=fun _ _ _ _=>False
 W:=fun _ _=>False
theorem pk0 {β γ:Ren} (f:Fp β γ) (h3:gL γ 3=gL β 3) (h5:gI γ 5=gI β 5):Pk β γ 0:=⟨f,by rw [h3,h5]; simp,by rw [h5]; simp,by rw [h3]⟩
theorem pk1 {β γ:Ren} (p:PP β) (f:Fp β γ) (h3:gL γ 3=(gL β 3).set (gI β 5).toNat 0) (h5:gI γ 5=gI β 5 + 1) (hl:gI β 5 + 1≤1536):Pk β γ 1 :=
 ⟨f,by rw [h3,h5,bput1 p.i5 (by rw [p.buf]; omega)]; rfl,by rw [h5]; rfl,by rw [h3]; simp⟩
set_option maxRecDepth 100000
abbrev w4a0:List TB:=[(.lt (.var 5) (.var 12))]
abbrev w4a1:List TB:=(.lt (.var 5) (.lit 1536))::w4a0
abbrev w4a2:List TB:=(.lt (.var 5) (.len (.var 3)))::w4a1
abbrev w4s0:SgT:=[(12,.itm (.var 12)),(0,.blk 0),(73,.blk 73)]
noncomputable def lit_tP:Tre:=(.fork (nd 90 w4a0 ((.lt (.var 5) (.lit 1536)))
 (nd 90 w4a1 ((.lt (.var 5) (.len (.var 3))))
 (nd 90 w4a2 ((.not (.lt (.lit 1536) (.op .add (.var 5) (.lit 1)))))
 (lf 0 90 90 (rgs EPd.n tX0) ((74,.blk 74)::(17,.ltm (.var 17))::(4,.ltm (.var 4))::(3,.ltm (.set (.var 3) (.var 5) (.lit 0)))::(ids (dn 71 6++dn 64 21)++((9,.itm (.var 9))::(10,.itm (.var 10))::(7,.itm (.var 7))::(6,.itm (.var 6))::(2,.blk 2)::(39,.idn)::(8,.itm (.var 8))::(1,.blk 1)::(11,.btm (.var 11))::(19,.itm (.var 19))::(72,.itm (.var 72))::(18,.itm (.var 18))::(16,.blk 16)::(ids ([32]++dn 30 11)++((5,.itm (.op .add (.var 5) (.lit 1)))::w4s0))))) ((.not (.lt (.lit 1536) (.op .add (.var 5) (.lit 1))))::w4a2)))))
 (lf 1 90 90 (rgs EPd.n tX0) ((74,.blk 74)::(17,.ltm (.var 17))::(4,.ltm (.var 4))::(3,.ltm (.var 3))::(ids (dn 71 6++dn 64 21)++((9,.itm (.var 9))::(10,.itm (.var 10))::(7,.itm (.var 7))::(6,.itm (.var 6))::(2,.blk 2)::(39,.idn)::(8,.itm (.var 8))::(1,.blk 1)::(11,.btm (.var 11))::(19,.itm (.var 19))::(72,.itm (.var 72))::(18,.itm (.var 18))::(16,.blk 16)::(ids ([32]++dn 30 11)++((5,.itm (.var 5))::w4s0))))) [(.not (.lt (.var 5) (.var 12)))]))
theorem lit_tP_eq:treP=lit_tP:=by kernel_rfl
set_option maxRecDepth 100000
theorem hold_tP {β:Ren} (p:PP β):lit_tP.Holds (GP β) β:=by
 unfold lit_tP
 have hβ:=p.n.1
 have r12:=p.i12; have r5:=p.i5; have yb:=p.buf
 refine (fork_of (need_o hβ ?_ (need_o hβ ?_ (need_o hβ ?_ (leaf_o opX hβ ?_)))) (leaf_o opX hβ ?_))
 iterate 3 (focus (intro hA; simp only [DD] at hA ⊢; omega))
 ·intro γ0 hl0 hA hr0 hid0 hI
  simp only [DD] at hA
  obtain ⟨a0,a1,a2,a3⟩:=hA
  simp only [DD] at hI
  obtain ⟨i74,i17,i4,i3,i9,i10,i7,i6,i2,i8,i1,i11,i19,i72,i18,i16,i5,i12,i0,i73⟩:=hI
  exact ⟨pk1 p ⟨i0,i1,i2,i4,i6,i7,i8,i9,i10,i12,Bool.eq_iff_iff.2 i11,i16,i73,i74,i17,i18,i19,i72,hid0⟩ i3 i5 (by omega),by omega⟩
 ·intro γ0 hl0 hA hr0 hid0 hI
  simp only [DD] at hA
  have a0:=hA
  simp only [DD] at hI
  obtain ⟨i74,i17,i4,i3,i9,i10,i7,i6,i2,i8,i1,i11,i19,i72,i18,i16,i5,i12,i0,i73⟩:=hI
  exact ⟨pk0 ⟨i0,i1,i2,i4,i6,i7,i8,i9,i10,i12,Bool.eq_iff_iff.2 i11,i16,i73,i74,i17,i18,i19,i72,hid0⟩ i3 i5,by omega⟩
theorem pad_law {w0:W0} {Q:Exit→Act→World→Prop}:∀ (m:Nat) (β:Ren) (a:Act) (w:World),(gI β 12 - gI β 5).toNat≤m→PP β→HR w0 β tX0.heap w→FS β (ntmps 42) tX0.frame a →
    (∀ β1 a' w',Ln β1→PdE β β1→HR w0 β1 tX0.heap w'→FS β1 (ntmps 42) tX0.frame a'→Q (.exit 11) a' w')→wpL Tryd.prog pad Q a w:=by
 intro m
 induction m with
 | zero =>
  intro β a w hm p hH hF hQ
  refine wpL_round (wp_of_tre (E:=EPd) (G:=GP β) noNum callOk follows (by show (treP).Holds _ _; rw [lit_tP_eq]; exact hold_tP p) p.n.2 hH (Facts.nil _) hF ?_ (fun r s c h=>by rcases h with h | h <;> cases h) (fun j i β1 β2 h=>h.elim) (fun r s h=>by rcases h with h | h <;> cases h) (fun _ _ h=>by cases h))
  intro j e tp β1 a' w' hft h1 h2 h3
  cases e with
  | normal=>cases hft; exfalso; have:=h3.2; omega
  | ret=>cases hft
  | exit id =>
   match id,hft with
   | 11,hft =>
    cases hft
    obtain ⟨h3,h4⟩:=h3
    have:=h3.i5
    exact hQ β1 a' w' (p.n.of h3.f.h73 h1.len) ⟨0,h3,by omega,.inl rfl⟩ h1 h2
 | succ m ih =>
  intro β a w hm p hH hF hQ
  refine wpL_round (wp_of_tre (E:=EPd) (G:=GP β) noNum callOk follows (by show (treP).Holds _ _; rw [lit_tP_eq]; exact hold_tP p) p.n.2 hH (Facts.nil _) hF ?_ (fun r s c h=>by rcases h with h | h <;> cases h) (fun j i β1 β2 h=>h.elim) (fun r s h=>by rcases h with h | h <;> cases h) (fun _ _ h=>by cases h))
  intro j e tp β1 a' w' hft h1 h2 h3
  cases e with
  | normal =>
   cases hft
   obtain ⟨h3,h4⟩:=h3
   have e5:=h3.i5; have e12:=h3.f.i12; have i5:=p.i5; have i12:=p.i12
   refine ih β1 a' w' (by omega) ⟨p.n.of h3.f.h73 h1.len,by rw [h3.len]; exact p.buf,by omega,by omega⟩ h1 h2 ?_
   intro β2 a2 w2 hn ⟨k,q1,q2,q3⟩ h5 h6
   have e5':=q1.i5
   exact hQ β2 a2 w2 hn ⟨1 + k,h3.trans q1,by omega,by rcases q3 with q3 | q3 <;> omega⟩ h5 h6
  | ret=>cases hft
  | exit id =>
   match id,hft with
   | 11,hft =>
    cases hft
    obtain ⟨h3,h4⟩:=h3
    have:=h3.i5
    exact hQ β1 a' w' (p.n.of h3.f.h73 h1.len) ⟨0,h3,by omega,.inl rfl⟩ h1 h2
end U
