-- the statement of this claim: see YtoamgocecoiggaaDoorRw
import Derived.Test.YtoamgocecoiggaaDoorM33
set_option linter.unusedVariables false
set_option linter.unusedSimpArgs false
open Go Go.SM Go.Proofs
namespace U
set_option maxRecDepth 100000
theorem loopsU {β:Ren} {w0:W0}:∀ (r:Nat) (s:LSpec) (c:Code),ltU r=some s→(GU β).W s.j c→LoopOk EU w0 (GU β) s c:=by
 intro r s c hs hw
 unfold ltU at hs
 split at hs
 ·cases hs
  cases (hw:c=.loop outer)
  intro Q b a w hH hF hl hQ
  have hl:OB b∧gV b 37=some (.int .i64 0):=hl
  refine wpL_loop (outer_law (muO b) b a w (Nat.le_refl _) hl.1 hH hF ?_ ?_)
  ·intro β1 a' w' hx h1 h2
   exact hQ 0 (.exit 0) tX0 [] rfl β1 a' w' (to_tX0 h1 (hx.v37 hl.2)) h2 ⟨hx.ln,hx⟩
  ·intro β1 a' w' hn hx h1 h2
   exact hQ 1 .ret tE [] rfl β1 a' w' h1 h2 ⟨hn,hx⟩
 ·split at hs
  ·cases hs
   cases (hw:c=.loop pad)
   intro Q b a w hH hF hl hQ
   have hl:PP b:=hl
   exact wpL_loop (pad_law _ b a w (Nat.le_refl _) hl hH hF (fun β1 a' w' hn hx h1 h2=>hQ 0 (.exit 11) tX0 [] rfl β1 a' w' h1 h2 ⟨hn,hx⟩))
  ·cases hs
theorem ue_ln {β γ:Ren} (pu:PU β) (hl:γ.length=90) (h:UE β γ):Ln γ:=pu.p.n.of h.1.2 hl
theorem law42 {G:Goal} (hCL:∀ β,G.CL 42 β→PU β) (hCO:∀ β β1,G.CL 42 β→PU β→Ln β1→UT β β1→G.CO 42 0 β β1) (hCE:∀ β β1,G.CL 42 β→PU β→Ln β1→UE β β1→G.CO 42 1 β β1):CLaw Tryd.prog G 42 spU:=by
 refine claw_of (E:=EU) (Gt:=GU) (fn:=fnAt 42) (c:=body 42) (s:=spU) noNum callOk follows (by kernel_rfl) (by kernel_rfl) (by kernel_rfl) (by kernel_rfl) (by kernel_rfl) (by kernel_rfl) ?_ ?_ ?_ ?_ ?_ ?_ ?_
 ·intro e j tp h
  rcases h with h | h
  ·cases e with
   | normal=>cases h; exact ⟨(fun id h=>by cases h),.bool true,by kernel_rfl,_,rfl⟩
   | ret=>cases h; exact ⟨(fun id h=>by cases h),.bool true,by kernel_rfl,_,rfl⟩
   | exit id=>cases h
  ·cases e with
   | normal=>cases h
   | ret=>cases h; exact ⟨(fun id h=>by cases h),.bool false,by kernel_rfl,_,rfl⟩
   | exit id=>cases h
 ·intro β hcl hlen hr
  have pu:=hCL β hcl
  have r:=ru_of hr
  refine ⟨pu.p.n.2,?_⟩
  have r12:=r.i12; have r8:=r.i8; have r75:=r.i75; have r76:=r.i76; have r10:=r.i10; have yle:=pu.le
  have fin:∀ {A:List TB} {t:Tre},treU A=t→t.Holds (GU β) β→(A.all fun t=>t.ok 90)=true→FactsP β A→∃ (A:List Value) (k:Nat),Facts β A∧(tre EU k (body 42) [] A spU.tin.frame spU.tin.heap).Holds (GU β) β:=by
   intro A t ht hh hok hA
   refine ⟨A.map TB.enc,2000,Facts.ofP hA fun t ht=>?_,?_⟩
   ·rw [pu.p.n.1]; exact List.all_eq_true.1 hok t ht
   ·unfold treU at ht
    show (tre EU 2000 (body 42) [] (A.map TB.enc) tU.frame tU.heap).Holds (GU β) β
    rw [ht]; exact hh
  by_cases hlt:gI β 8 < gI β 12
  rotate_left
  ·exact fin lit_uE_eq (hold_uE pu r) (by decide) ⟨hlt,trivial⟩
  by_cases h10:gI β 10=0
  ·by_cases h1:gI β 76 < gI β 75
   ·by_cases h0:0 < gI β 76
    ·refine fin lit_uz1_eq (hold_uz1 pu r hlt h10) (by decide) ?_
     simp only [DD,uL,uz,u1,List.cons_append,List.nil_append,fn_sub]
     exact ⟨hlt,h10,h0,h1,by omega,by omega⟩
    ·refine fin lit_uz3_eq (hold_uz3 pu r hlt h10) (by decide) ?_
     simp only [DD,uL,uz,u3,List.cons_append,List.nil_append,fn_sub]
     exact ⟨hlt,h10,h0,by omega⟩
   ·refine fin lit_uz2_eq (hold_uz2 pu r hlt h10) (by decide) ?_
    simp only [DD,uL,uz,u2,List.cons_append,List.nil_append,fn_sub]
    exact ⟨hlt,h10,h1,by omega⟩
  ·by_cases h1:gI β 76 < gI β 75
   ·by_cases h0:0 < gI β 76
    ·refine fin lit_un1_eq (hold_un1 pu r hlt h10) (by decide) ?_
     simp only [DD,uL,un,u1,List.cons_append,List.nil_append,fn_sub]
     exact ⟨hlt,h10,h0,h1,by omega,by omega⟩
    ·refine fin lit_un3_eq (hold_un3 pu r hlt h10) (by decide) ?_
     simp only [DD,uL,un,u3,List.cons_append,List.nil_append,fn_sub]
     exact ⟨hlt,h10,h0,by omega⟩
   ·refine fin lit_un2_eq (hold_un2 pu r hlt h10) (by decide) ?_
    simp only [DD,uL,un,u2,List.cons_append,List.nil_append,fn_sub]
    exact ⟨hlt,h10,h1,by omega⟩
 ·intro β j v tp sm β1 hcl hout hlen _ hJ
  have pu:=hCL β hcl
  match j,hout,hJ with
  | 0,hout,hJ =>
   cases hout
   have q:UT β β1:=hJ
   refine ⟨hCO β β1 hcl pu q.p.n q,fun x hx=>?_⟩
   have hx:x ∈ [(0,0),(1,0),(2,0),(16,0),(73,0),(74,0),(17,2),(18,1),(72,1)]++opX.map fun i=>(i,4):=hx
   have q:=q.s
   rw [List.mem_append] at hx
   rcases hx with hx | hx
   ·simp only [List.mem_cons,List.not_mem_nil,or_false] at hx
    rcases hx with rfl | rfl | rfl | rfl | rfl | rfl | rfl | rfl | rfl
    ·exact q.h0
    ·exact q.h1
    ·exact q.h2
    ·exact q.h16
    ·exact q.h73
    ·exact q.h74
    ·exact q.l17
    ·exact q.i18
    ·exact q.i72
   ·obtain ⟨i,hi,rfl⟩:=List.mem_map.1 hx
    exact q.op i hi
  | 1,hout,hJ =>
   cases hout
   have q:UE β β1:=hJ
   refine ⟨hCE β β1 hcl pu (ue_ln pu hlen q) q,fun x hx=>?_⟩
   have hx:x ∈ [(0,0),(73,0)]:=hx
   simp only [List.mem_cons,List.not_mem_nil,or_false] at hx
   rcases hx with rfl | rfl
   ·exact q.1.1
   ·exact q.1.2
 ·intro β w0 r s c hs hw
  rcases hs with hs | hs
  ·exact loopsU r s c hs hw
  ·cases hs
 ·intro β j i β1 β2 h
  unfold GU at h
  dsimp only at h
  split at h
  ·exact h.1.2
  ·exact h.1.2
  ·exact h.1.2
  ·exact h.elim
 ·intro β r s hs i e tp B hi β1 β2 _
  refine facts_nil_of ?_
  rcases hs with hs | hs
  ·have hs:ltU r=some s:=hs
   unfold ltU at hs
   split at hs
   ·cases hs
    match i,hi with
    | 0,hi=>cases hi; rfl
    | 1,hi=>cases hi; rfl
   ·split at hs
    ·cases hs
     match i,hi with
     | 0,hi=>cases hi; rfl
    ·cases hs
  ·cases hs
 ·intro β f s hs
  have hs:ct48 f=some s:=hs
  unfold ct48 at hs
  split at hs
  ·rename_i hf; subst hf; cases hs
   exact law48 (fun _ h=>h) (fun _ _ _ _ a b=>⟨a,b⟩)
  ·cases hs
def puG:FuncId→Bool:=fun f=>[16,26,33,34,39,43,44,45,46].contains f
def okG:FuncId→Bool:=fun f=>Nat.ble 3 f && (Nat.ble f 50 && !([3,4,6,7,9,11,12,13,17,21,22,31,42,48,49].contains f))
noncomputable def callG:ACall:=acall Tryd.prog g0 puG okG noprim 1000 8
noncomputable def EG (f:Nat) (ct:FuncId→Option CSpec) (rc:Nat→Bool) (bt lt:Nat→Option LSpec) (ft ft2:AExit→Option (Nat × Tpl)):Env:={ P:=Tryd.prog,pu:=puG,g:=g0,call:=callG,n:=ntmps f,lt:=lt,bt:=bt,ft:=ft,orc:=theOrc Tryd.prog puG g0 callG (ntmps f),ct:=ct,rc:=rc,ft2:=ft2 }
def spC (j:Nat):CSpec:={ spU with j:=j }
def ct42:FuncId→Option CSpec:=fun f=>if f=42 then some spU else none
def ct31:FuncId→Option CSpec:=fun f=>if f=31 then some (spC 31) else none
def rc1:Nat→Bool:=fun n=>Nat.beq n 1
noncomputable def EC31:Env:=EG 31 ct42 rc1 (fun _=>none) (fun _=>none) ftU ftU2
noncomputable def EC17:Env:=EG 17 ct31 rc1 (fun _=>none) (fun _=>none) ftU ftU2
noncomputable def tre31:Tre:=tre EC31 2000 (body 31) [] [] tU.frame tU.heap
noncomputable def tre17:Tre:=tre EC17 2000 (body 17) [] [] tU.frame tU.heap
set_option maxRecDepth 100000
structure Al (a b:Ren):Prop where
 s:Us a b
 l3:gL b 3=gL a 3
 l4:gL b 4=gL a 4
 i6:gI b 6=gI a 6
 i7:gI b 7=gI a 7
 i8:gI b 8=gI a 8
 i9:gI b 9=gI a 9
 i10:gI b 10=gI a 10
 b11:gB b 11=gB a 11
 i19:gI b 19=gI a 19
 i75:gI b 75=gI a 75
 i76:gI b 76=gI a 76
theorem Al.rest {a b:Ren} (h:Al a b):restB b=restB a:=rest_of h.l4 h.i6 h.i7 h.s.l17 h.s.i18 h.i19
theorem Al.win {a b:Ren} (h:Al a b):win b=win a:=by unfold U.win; rw [h.l3,h.i75,h.i76]
theorem Al.pr {a b:Ren} (h:Al a b) (p:PR a) (hn:Ln b):PR b:=p.of hn h.l4 h.i6 h.i7 h.b11 h.s.l17 h.s.i18 h.i19
theorem Al.pu {a b:Ren} (h:Al a b) (p:PU a) (hn:Ln b):PU b:=by
 have h8:=h.i8; have h75:=h.i75; have h76:=h.i76
 have:=p.le; have:=p.b5; have:=p.b6
 exact ⟨h.pr p.p hn,by rw [h.l3]; exact p.buf,by omega,by omega,by omega,by rw [h.i9,h.rest]; exact p.off⟩
theorem ut_same {a b:Ren} (p:PU a) (r:RU a) (hn:Ln b) (h:Al a b) (hl:gI a 12≤gI a 8):UT a b:=by
 have h75:=h.i75; have h76:=h.i76; have h19:=h.i19
 have:=p.le; have:=r.i75; have:=r.i76
 exact ⟨h.s,h.pr p.p hn,by rw [h.l3]; exact p.buf,by omega,by omega,.inl ⟨hl,h.win,h.i8,h.i9,h.i10,h.rest,h.b11⟩⟩
theorem ut_cong {a a' b b':Ren} (h:UT a' b) (ea:Al a a') (e12:gI a' 12=gI a 12) (eb:Al b b') (hn:Ln b'):UT a b':=by
 have h19:=h.b19; have e19:=ea.i19; have f19:=eb.i19; have e75:=eb.i75; have e76:=eb.i76; have e8:=ea.i8
 have l:=h.le
 refine ⟨(ea.s.trans h.s).trans eb.s,eb.pr h.p hn,by rw [eb.l3]; exact h.buf,by omega,by omega,?_⟩
 rcases h.cs with ⟨c1,c2,c3,c4,c5,c6,c7⟩ | ⟨c0,R1,cs,z,k,c1,c2,c3,c4,c5,c6,c7,c8⟩
 ·exact .inl ⟨by omega,by rw [eb.win,c2,ea.win],by rw [eb.i8,c3,ea.i8],by rw [eb.i9,c4,ea.i9],by rw [eb.i10,c5,ea.i10],by rw [eb.rest,c6,ea.rest],by rw [eb.b11,c7,ea.b11]⟩
 ·refine .inr ⟨by omega,R1,cs,z,k,?_,?_,?_,?_,?_,?_,?_,?_⟩
  ·rw [eb.i10,← ea.i10,← ea.rest]; exact c1
  ·rw [eb.i10]; exact c2
  ·rw [eb.i10,eb.rest]; exact c3
  ·rw [eb.win,c4,ea.win]
  ·rw [eb.i8,c5,ea.i8]
  ·rw [eb.i9,eb.rest,c6,ea.i9,ea.rest]
  ·omega
  ·rw [eb.i8,eb.b11,eb.rest,eb.win,← e12]; exact c8
theorem ue_cong {a a' b b':Ren} (h:UE a' b) (ea:Al a a') (h0:b'[0]?=b[0]?) (h73:b'[73]?=b[73]?):UE a b':=by
 obtain ⟨he,e,R1,cs,R,h1,h2,h3⟩:=h
 exact ⟨⟨h0.trans (he.1.trans ea.s.h0),h73.trans (he.2.trans ea.s.h73)⟩,e,R1,cs,R,by rw [← ea.i10,← ea.rest]; exact h1,h2,h3⟩
def GC (β:Ren):Goal where
 J:=fun j γ=>match j with
  | 0=>UT β γ
  | 1=>UE β γ
  | _=>False
 L:=fun _ _=>False
 O:=fun _ _ _ _=>False
 W:=fun _ _=>False
 CL:=fun _ γ=>PU γ
 CO:=fun _ i γ γ1=>match i with
  | 0=>Ln γ1∧UT γ γ1
  | 1=>Ln γ1∧UE γ γ1
  | _=>False
end U
namespace U
open Go Go.SM Go.Proofs
set_option maxRecDepth 100000
theorem fnsG:FnsOk Tryd.prog puG okG:=fnsOk_of (by kernel_rfl)
theorem callOkG:CallOk Tryd.prog { g:=g0,A:=[],pu:=puG } callG:=acall_sound noNum follows fnsG (noprim_ok _ _) 8
theorem out_smU {G:Goal} {j i:Nat} {β β1:Ren} {v:Value} {tp:Tpl} {sm:List (Nat × Nat)} (pu:PU β) (hout:(spC j).outs[i]?=some (v,tp,sm)) (hlen:β1.length=tp.m) (hJ:(GC β).J i β1)
    (h0:Ln β1→UT β β1→G.CO j 0 β β1) (h1:Ln β1→UE β β1→G.CO j 1 β β1):G.CO j i β β1∧∀ p ∈ sm,SmK β β1 p:=by
 match i,hout,hJ with
 | 0,hout,hJ =>
  cases hout
  have q:UT β β1:=hJ
  refine ⟨h0 q.p.n q,fun x hx=>?_⟩
  have hx:x ∈ [(0,0),(1,0),(2,0),(16,0),(73,0),(74,0),(17,2),(18,1),(72,1)]++opX.map fun i=>(i,4):=hx
  have q:=q.s
  rw [List.mem_append] at hx
  rcases hx with hx | hx
  ·simp only [List.mem_cons,List.not_mem_nil,or_false] at hx
   rcases hx with rfl | rfl | rfl | rfl | rfl | rfl | rfl | rfl | rfl
   ·exact q.h0
   ·exact q.h1
   ·exact q.h2
   ·exact q.h16
   ·exact q.h73
   ·exact q.h74
   ·exact q.l17
   ·exact q.i18
   ·exact q.i72
  ·obtain ⟨i,hi,rfl⟩:=List.mem_map.1 hx
   exact q.op i hi
 | 1,hout,hJ =>
  cases hout
  have q:UE β β1:=hJ
  refine ⟨h1 (ue_ln pu hlen q) q,fun x hx=>?_⟩
  have hx:x ∈ [(0,0),(73,0)]:=hx
  simp only [List.mem_cons,List.not_mem_nil,or_false] at hx
  rcases hx with rfl | rfl
  ·exact q.1.1
  ·exact q.1.2
def pt (n:Nat):Value:=.pointer (some ⟨n,0,none⟩)
def updK:List (Nat × Value):=[(16,sL 1 (Z 0) (x 75) (Z 1536)),(17,I 76 0 1536),(18,I 8 0 2000),(24,I 77 0 8000000),(26,I 78 0 8000000),(45,.chan none)]
def outB:Blk:={ cells:=[],elem:=5,ro:=false,live:=true,seq:=some (x 82) }
def sOut:Value:=sL 79 (Z 0) (x 80) (x 81)
def HK:List (Nat × Blk):=[(0,{ cells:=cellsP updK,elem:=76,ro:=false,live:=true }),(1,{ cells:=[],elem:=5,ro:=true,live:=true,seq:=some (x 3) }),(73,{ cells:=[.iface 89 (.pointer (some ⟨74,0,none⟩))],elem:=86,ro:=true,live:=true })]
def tKN:Tpl:={ m:=90,F:=[(0,pt 0),(1,.slice none 0 0)],H:=HK,G:=[73] }
def tKS:Tpl:={ m:=90,F:=[(0,pt 0),(1,sOut)],H:=HK++[(79,outB)],G:=[73] }
def tKo:Tpl:={ m:=90,F:=[(0,pt 0),(4,sOut)],H:=HK++[(79,outB)],G:=[73] }
def opK:List Nat:=(List.range 52).filterMap fun i=>if [16,17,18,19,24,26,45].contains i then none else some (20 + i)
def smK:List (Nat × Nat):=[(0,0),(1,0),(73,0),(74,0),(3,2),(75,1)]++opK.map fun i=>(i,4)
def spKN (j:Nat):CSpec:={ j:=j,n:=2,tin:=tKN,outs:=[(sOut,tKo,smK)] }
def spKS (j:Nat):CSpec:={ j:=j,n:=2,tin:=tKS,outs:=[(sOut,tKo,smK)] }
def ftK:AExit→Option (Nat × Tpl):=fun e=>match e with
 | .normal=>some (0,tKo)
 | .ret=>some (0,tKo)
 | _=>none
noncomputable def EK:Env:=EG 35 (fun _=>none) (fun _=>false) (fun _=>none) (fun _=>none) ftK (fun _=>none)
def bK:TI:=.sel (.var 3) (.var 76)
def aK (n:Int):TI:=.op .and bK (.lit n)
def k0:List TB:=[.lt (.var 76) (.lit 1536)]
def k1:List TB:=[.eq (aK 128) (.lit 0)]
def k2:List TB:=[.not (.eq (aK 128) (.lit 0)),.eq (aK 224) (.lit 192)]
def k3:List TB:=[.not (.eq (aK 128) (.lit 0)),.not (.eq (aK 224) (.lit 192)),.eq (aK 240) (.lit 224)]
def k4:List TB:=[.not (.eq (aK 128) (.lit 0)),.not (.eq (aK 224) (.lit 192)),.not (.eq (aK 240) (.lit 224)),.eq (aK 248) (.lit 240)]
def kz:List TB:=[.not (.eq (.var 80) (.lit 0))]
noncomputable def treKN (A:List TB):Tre:=tre EK 2000 (body 35) [] (A.map TB.enc) tKN.frame tKN.heap
noncomputable def treKS (A:List TB):Tre:=tre EK 2000 (body 35) [] (A.map TB.enc) tKS.frame tKS.heap
set_option maxRecDepth 100000
def wd (b:Int):Int:=if ia b 128=0 then 1 else if ia b 224=192 then 2 else if ia b 240=224 then 3 else if ia b 248=240 then 4 else 0
noncomputable def bb (β:Ren):Int:=(((gL β 3).getD (gI β 76).toNat 0).toNat:Int)
structure KP (β:Ren):Prop where
 n:Ln β
 buf:(gL β 3).length=1536
 w:1≤wd (bb β)
 le:gI β 76 + wd (bb β)≤gI β 75
 un:1≤gI β 8
 ix:gI β 77 < 8000000
 co:gI β 78 < 8000000
structure KO (β:Ren):Prop where
 n0:0 < gI β 80
 nb:gI β 80≤4000000
 cl:gI β 81≤(gL β 82).length
structure RK (β:Ren):Prop where
 i75:0≤gI β 75∧gI β 75≤1536
 i76:0≤gI β 76∧gI β 76≤1536
 i8:0≤gI β 8∧gI β 8≤2000
 i77:0≤gI β 77∧gI β 77≤8000000
 i78:0≤gI β 78∧gI β 78≤8000000
def le0Y3 (i:Nat) (a b:Int):List TB:=[.le (.lit a) (.var i),.le (.var i) (.lit b)]
def rgcY3:List TB:=[.le (.lit 0) (.lit 0),.le (.lit 0) (.var 75),.le (.var 75) (.lit 1536)]++(le0Y3 76 0 1536++(le0Y3 8 0 2000++(le0Y3 77 0 8000000++le0Y3 78 0 8000000)))
theorem rgs_KN:rgs 2 tKN=rgcY3:=by kernel_rfl
theorem rgs_KS:rgs 2 tKS=[.le (.lit 0) (.lit 0),.le (.lit 0) (.var 80),.le (.var 80) (.var 81)]++rgcY3:=by kernel_rfl
theorem rk_c {β:Ren} (h:FactsP β rgcY3):RK β:=by
 simp only [rgcY3,le0Y3,List.cons_append,List.nil_append,FactsP,TB.P,den_litI,den_varI] at h
 obtain ⟨_,a1,a2,a3,a4,a5,a6,a7,a8,a9,a10,_⟩:=h
 exact ⟨⟨a1,a2⟩,⟨a3,a4⟩,⟨a5,a6⟩,⟨a7,a8⟩,⟨a9,a10⟩⟩
theorem rk_n {β:Ren} (h:FactsP β (rgs 2 tKN)):RK β:=rk_c (by rw [← rgs_KN]; exact h)
theorem rk_s {β:Ren} (h:FactsP β (rgs 2 tKS)):RK β∧gI β 80≤gI β 81:=by
 rw [rgs_KS] at h
 have h2:=h
 simp only [List.cons_append,List.nil_append,FactsP,TB.P,den_litI,den_varI] at h2
 exact ⟨rk_c h2.2.2.2,h2.2.2.1⟩
structure KSm (β γ:Ren):Prop where
 h0:γ[0]?=β[0]?
 h1:γ[1]?=β[1]?
 h73:γ[73]?=β[73]?
 h74:γ[74]?=β[74]?
 l3:gL γ 3=gL β 3
 i75:gI γ 75=gI β 75
 op:∀ i ∈ opK,gV γ i=gV β i
structure KQ (β γ:Ren) (O:List UInt8):Prop where
 s:KSm β γ
 i76:gI γ 76=gI β 76 + wd (bb β)
 i8:gI γ 8=gI β 8 - 1
 i77:gI γ 77=gI β 77 + 1
 i78:gI γ 78=gI β 78 + 1
 out:(gL γ 82).take (gI γ 80).toNat=O++((gL β 3).take (gI β 76 + wd (bb β)).toNat).drop (gI β 76).toNat
 n:gI γ 80=O.length + wd (bb β)
 cl:gI γ 81≤(gL γ 82).length
theorem chunk_len {β:Ren} (p:KP β) (r:RK β):((((gL β 3).take (gI β 76 + wd (bb β)).toNat).drop (gI β 76).toNat).length:Int)=wd (bb β):=by
 have:=r.i76; have:=r.i75; have:=p.buf; have:=p.le; have:=p.w
 rw [List.length_drop,List.length_take]; omega
theorem wd1 {b:Int} (h:ia b 128=0):wd b=1:=by unfold wd; rw [if_pos h]
theorem wd2 {b:Int} (h0:¬ ia b 128=0) (h:ia b 224=192):wd b=2:=by unfold wd; rw [if_neg h0,if_pos h]
theorem wd3 {b:Int} (h0:¬ ia b 128=0) (h1:¬ ia b 224=192) (h:ia b 240=224):wd b=3:=by unfold wd; rw [if_neg h0,if_neg h1,if_pos h]
theorem wd4 {b:Int} (h0:¬ ia b 128=0) (h1:¬ ia b 224=192) (h2:¬ ia b 240=224) (h:ia b 248=240):wd b=4:=by unfold wd; rw [if_neg h0,if_neg h1,if_neg h2,if_pos h]
theorem chunk1 {β:Ren} (p:KP β) (r:RK β) (h:wd (bb β)=1):((gL β 3).take (gI β 76 + 1).toNat).drop (gI β 76).toNat=[UInt8.ofNat (bb β).toNat]:=by
 have:=r.i76; have:=r.i75; have:=p.buf; have:=p.le; have:=p.w
 have e:=drop_cons (L:=gL β 3) (a:=(gI β 76).toNat) (b:=(gI β 76 + 1).toNat) (by omega) (by omega)
 rw [e,List.drop_eq_nil_of_le (by rw [List.length_take]; omega)]
 unfold bb
 rw [Int.toNat_natCast]
 congr 1
 exact (UInt8.ofNat_toNat).symm
def GK (O:Ren→List UInt8) (β:Ren):Goal where
 J:=fun _ γ=>KQ β γ (O β)
 L:=fun _ _=>False
 O:=fun _ _ _ _=>False
 W:=fun _ _=>False
def ON (β:Ren):List UInt8:=[]
noncomputable def OS (β:Ren):List UInt8:=(gL β 82).take (gI β 80).toNat
end U
