-- the statement of this claim: see YtoamgocecoiggaaDoorRw
import Derived.Test.YtoamgocecoiggaaDoorM36
set_option linter.unusedVariables false
set_option linter.unusedSimpArgs false
open Go Go.SM Go.Proofs
namespace U
set_option maxRecDepth 100000
theorem kq_sm {β γ:Ren} {O:List UInt8} (q:KQ β γ O):∀ p ∈ smK,SmK β γ p:=by
 intro x hx
 have hx:x ∈ [(0,0),(1,0),(73,0),(74,0),(3,2),(75,1)]++opK.map fun i=>(i,4):=hx
 have q:=q.s
 rw [List.mem_append] at hx
 rcases hx with hx | hx
 ·simp only [List.mem_cons,List.not_mem_nil,or_false] at hx
  rcases hx with rfl | rfl | rfl | rfl | rfl | rfl
  ·exact q.h0
  ·exact q.h1
  ·exact q.h73
  ·exact q.h74
  ·exact q.l3
  ·exact q.i75
 ·obtain ⟨i,hi,rfl⟩:=List.mem_map.1 hx
  exact q.op i hi
theorem kfacts {β:Ren} {w:Int} (h1:1≤wd (bb β)):(wd (bb β)=1∧ia (bb β) 128=0)∨(wd (bb β)=2∧¬ ia (bb β) 128=0∧ia (bb β) 224=192)∨(wd (bb β)=3∧¬ ia (bb β) 128=0∧¬ ia (bb β) 224=192∧ia (bb β) 240=224) ∨
    (wd (bb β)=4∧¬ ia (bb β) 128=0∧¬ ia (bb β) 224=192∧¬ ia (bb β) 240=224∧ia (bb β) 248=240):=by
 by_cases a1:ia (bb β) 128=0
 ·exact .inl ⟨wd1 a1,a1⟩
 by_cases a2:ia (bb β) 224=192
 ·exact .inr (.inl ⟨wd2 a1 a2,a1,a2⟩)
 by_cases a3:ia (bb β) 240=224
 ·exact .inr (.inr (.inl ⟨wd3 a1 a2 a3,a1,a2,a3⟩))
 by_cases a4:ia (bb β) 248=240
 ·exact .inr (.inr (.inr ⟨wd4 a1 a2 a3 a4,a1,a2,a3,a4⟩))
 ·exfalso
  unfold wd at h1
  rw [if_neg a1,if_neg a2,if_neg a3,if_neg a4] at h1
  omega
theorem law35N {G:Goal} (hCL:∀ β,G.CL 35 β→KP β) (hCO:∀ β β1,G.CL 35 β→KP β→Ln β1→KQ β β1 []→G.CO 35 0 β β1):CLaw Tryd.prog G 35 (spKN 35):=by
 refine claw_of (E:=EK) (Gt:=GK ON) (fn:=fnAt 35) (c:=body 35) (s:=spKN 35) noNum callOkG follows (by kernel_rfl) (by kernel_rfl) (by kernel_rfl) (by kernel_rfl) (by kernel_rfl) (by kernel_rfl) ?_ ?_ ?_ (fun β w0 r s c h=>by rcases h with h | h <;> cases h) (fun β j i β1 β2 h=>h.elim) (fun β r s h=>by rcases h with h | h <;> cases h) (fun β=>noLaws)
 ·intro e j tp h
  have h:=h.resolve_right fun h=>by cases h
  cases e with
  | normal=>cases h; exact ⟨(fun id h=>by cases h),sOut,by kernel_rfl,_,rfl⟩
  | ret=>cases h; exact ⟨(fun id h=>by cases h),sOut,by kernel_rfl,_,rfl⟩
  | exit id=>cases h
 ·intro β hcl hlen hr
  have p:=hCL β hcl
  have r:=rk_n hr
  refine ⟨p.n.2,?_⟩
  have y2:=p.le; have y3:=p.w; have x75:=r.i75
  have fin:∀ {A:List TB} {t:Tre},treKN A=t→t.Holds (GK ON β) β→(A.all fun t=>t.ok 90)=true→FactsP β A→∃ (A:List Value) (k:Nat),Facts β A∧(tre EK k (body 35) [] A (spKN 35).tin.frame (spKN 35).tin.heap).Holds (GK ON β) β:=by
   intro A t ht hh hok hA
   refine ⟨A.map TB.enc,2000,Facts.ofP hA fun t ht=>?_,?_⟩
   ·rw [p.n.1]; exact List.all_eq_true.1 hok t ht
   ·unfold treKN at ht
    show (tre EK 2000 (body 35) [] (A.map TB.enc) tKN.frame tKN.heap).Holds (GK ON β) β
    rw [ht]; exact hh
  have hlt:gI β 76 < 1536:=by omega
  rcases kfacts (w:=0) y3 with ⟨hw,a1⟩ | ⟨hw,a1,a2⟩ | ⟨hw,a1,a2,a3⟩ | ⟨hw,a1,a2,a3,a4⟩
  ·exact fin lit_kn1_eq (hold_kn1 p r hw) (by decide) ⟨hlt,a1,trivial⟩
  ·exact fin lit_kn2_eq (hold_kn2 p r hw) (by decide) ⟨hlt,a1,a2,trivial⟩
  ·exact fin lit_kn3_eq (hold_kn3 p r hw) (by decide) ⟨hlt,a1,a2,a3,trivial⟩
  ·exact fin lit_kn4_eq (hold_kn4 p r hw) (by decide) ⟨hlt,a1,a2,a3,a4,trivial⟩
 ·intro β j v tp sm β1 hcl hout hlen _ hJ
  have p:=hCL β hcl
  have q:KQ β β1 []:=hJ
  match j,hout with
  | 0,hout =>
   cases hout
   exact ⟨hCO β β1 hcl p (p.n.of q.s.h73 hlen) q,kq_sm q⟩
theorem law35S {G:Goal} (hCL:∀ β,G.CL 35 β→KP β∧KO β) (hCO:∀ β β1,G.CL 35 β→KP β→KO β→Ln β1→KQ β β1 (OS β)→G.CO 35 0 β β1):CLaw Tryd.prog G 35 (spKS 35):=by
 refine claw_of (E:=EK) (Gt:=GK OS) (fn:=fnAt 35) (c:=body 35) (s:=spKS 35) noNum callOkG follows (by kernel_rfl) (by kernel_rfl) (by kernel_rfl) (by kernel_rfl) (by kernel_rfl) (by kernel_rfl) ?_ ?_ ?_ (fun β w0 r s c h=>by rcases h with h | h <;> cases h) (fun β j i β1 β2 h=>h.elim) (fun β r s h=>by rcases h with h | h <;> cases h) (fun β=>noLaws)
 ·intro e j tp h
  have h:=h.resolve_right fun h=>by cases h
  cases e with
  | normal=>cases h; exact ⟨(fun id h=>by cases h),sOut,by kernel_rfl,_,rfl⟩
  | ret=>cases h; exact ⟨(fun id h=>by cases h),sOut,by kernel_rfl,_,rfl⟩
  | exit id=>cases h
 ·intro β hcl hlen hr
  obtain ⟨p,o⟩:=hCL β hcl
  obtain ⟨r,o81⟩:=rk_s hr
  refine ⟨p.n.2,?_⟩
  have y2:=p.le; have y3:=p.w; have x75:=r.i75
  have fin:∀ {A:List TB} {t:Tre},treKS A=t→t.Holds (GK OS β) β→(A.all fun t=>t.ok 90)=true→FactsP β A→∃ (A:List Value) (k:Nat),Facts β A∧(tre EK k (body 35) [] A (spKS 35).tin.frame (spKS 35).tin.heap).Holds (GK OS β) β:=by
   intro A t ht hh hok hA
   refine ⟨A.map TB.enc,2000,Facts.ofP hA fun t ht=>?_,?_⟩
   ·rw [p.n.1]; exact List.all_eq_true.1 hok t ht
   ·unfold treKS at ht
    show (tre EK 2000 (body 35) [] (A.map TB.enc) tKS.frame tKS.heap).Holds (GK OS β) β
    rw [ht]; exact hh
  have hlt:gI β 76 < 1536:=by omega
  have h80:¬ gI β 80=0:=by have:=o.n0; omega
  rcases kfacts (w:=0) y3 with ⟨hw,a1⟩ | ⟨hw,a1,a2⟩ | ⟨hw,a1,a2,a3⟩ | ⟨hw,a1,a2,a3,a4⟩
  ·exact fin lit_ks1_eq (hold_ks1 p r o o81 hw) (by decide) ⟨h80,hlt,a1,trivial⟩
  ·exact fin lit_ks2_eq (hold_ks2 p r o o81 hw) (by decide) ⟨h80,hlt,a1,a2,trivial⟩
  ·exact fin lit_ks3_eq (hold_ks3 p r o o81 hw) (by decide) ⟨h80,hlt,a1,a2,a3,trivial⟩
  ·exact fin lit_ks4_eq (hold_ks4 p r o o81 hw) (by decide) ⟨h80,hlt,a1,a2,a3,a4,trivial⟩
 ·intro β j v tp sm β1 hcl hout hlen _ hJ
  obtain ⟨p,o⟩:=hCL β hcl
  have q:KQ β β1 (OS β):=hJ
  match j,hout with
  | 0,hout =>
   cases hout
   exact ⟨hCO β β1 hcl p o (p.n.of q.s.h73 hlen) q,kq_sm q⟩
def ct35 (s:CSpec):FuncId→Option CSpec:=fun f=>if f=35 then some s else none
noncomputable def E20 (s:CSpec):Env:=EG 20 (ct35 s) (fun n=>Nat.beq n 1) (fun _=>none) (fun _=>none) ftK (fun _=>none)
noncomputable def tre20N:Tre:=tre (E20 (spKN 35)) 2000 (body 20) [] [] tKN.frame tKN.heap
noncomputable def tre20S:Tre:=tre (E20 (spKS 35)) 2000 (body 20) [] [] tKS.frame tKS.heap
set_option maxRecDepth 100000
abbrev z2s0:SgT:=[(0,.blk 0),(73,.blk 73)]
abbrev z2s1:SgT:=(82,.ltm (.var 172))::(74,.blk 74)::(3,.ltm (.var 3))::(ids (dn 71 6++dn 64 18)++((78,.itm (.var 168))::(45,.idn)::(77,.itm (.var 167))::(ids (dn 43 4)++((39,.opq 129)::(8,.itm (.var 98))::(76,.itm (.var 166))::(75,.itm (.var 75))::(1,.blk 1)::(ids (dn 35 16)++((81,.itm (.var 171))::(80,.itm (.var 170))::(79,.blk 169)::z2s0))))))
noncomputable def lit_z20n:Tre:=(.call 35 90 90 (rgs (spKN 35).n (spKN 35).tin) (SgT.enc ((74,.blk 74)::(3,.ltm (.var 3))::(ids (dn 71 6++dn 64 18)++((78,.itm (.var 78))::(45,.idn)::(77,.itm (.var 77))::(ids (dn 43 5)++((8,.itm (.var 8))::(76,.itm (.var 76))::(75,.itm (.var 75))::(1,.blk 1)::(ids (dn 35 16)++z2s0))))))) (List.map TB.enc []) (.cons (rgs 0 tKo++rgV sOut) (.leaf 0 90 180 (rgs (E20 (spKN 35)).n tKo) (SgT.enc z2s1) (List.map TB.enc []))
 .nil))
theorem lit_z20n_eq:tre20N=lit_z20n:=by kernel_rfl
noncomputable def lit_z20s:Tre:=(.call 35 90 90 (rgs (spKS 35).n (spKS 35).tin) (SgT.enc ((82,.ltm (.var 82))::(74,.blk 74)::(3,.ltm (.var 3))::(ids (dn 71 6++dn 64 18)++((78,.itm (.var 78))::(45,.idn)::(77,.itm (.var 77))::(ids (dn 43 5)++((8,.itm (.var 8))::(76,.itm (.var 76))::(75,.itm (.var 75))::(1,.blk 1)::(ids (dn 35 16)++((81,.itm (.var 81))::(80,.itm (.var 80))::(79,.blk 79)::z2s0)))))))) (List.map TB.enc []) (.cons (rgs 0 tKo++rgV sOut) (.leaf 0 90 180 (rgs (E20 (spKS 35)).n tKo) (SgT.enc z2s1) (List.map TB.enc []))
 .nil))
theorem lit_z20s_eq:tre20S=lit_z20s:=by kernel_rfl
set_option maxRecDepth 100000
theorem KSm.trans {a b c:Ren} (h:KSm a b) (g:KSm b c):KSm a c:=⟨g.h0.trans h.h0,g.h1.trans h.h1,g.h73.trans h.h73,g.h74.trans h.h74,g.l3.trans h.l3,g.i75.trans h.i75,fun i hi=>(g.op i hi).trans (h.op i hi)⟩
structure KA (a b:Ren):Prop where
 s:KSm a b
 i76:gI b 76=gI a 76
 i8:gI b 8=gI a 8
 i77:gI b 77=gI a 77
 i78:gI b 78=gI a 78
theorem KA.bb {a b:Ren} (h:KA a b):bb b=bb a:=by unfold U.bb; rw [h.s.l3,h.i76]
theorem KA.kp {a b:Ren} (h:KA a b) (p:KP a) (hn:Ln b):KP b:=by
 have e:=h.bb
 exact ⟨hn,by rw [h.s.l3]; exact p.buf,by rw [e]; exact p.w,by rw [h.i76,e,h.s.i75]; exact p.le,by rw [h.i8]; exact p.un,by rw [h.i77]; exact p.ix,by rw [h.i78]; exact p.co⟩
theorem kq_cong {a a' b b':Ren} {O:List UInt8} (h:KQ a' b O) (ea:KA a a') (s:KSm a b') (e76:gI b' 76=gI b 76) (e8:gI b' 8=gI b 8) (e77:gI b' 77=gI b 77) (e78:gI b' 78=gI b 78) (e82:gL b' 82=gL b 82) (e80:gI b' 80=gI b 80) (e81:gI b' 81=gI b 81):KQ a b' O:=by
 have e:=ea.bb
 exact ⟨s,by rw [e76,h.i76,e,ea.i76],by rw [e8,h.i8,ea.i8],by rw [e77,h.i77,ea.i77],by rw [e78,h.i78,ea.i78],by rw [e82,e80,h.out,e,ea.i76,ea.s.l3],by rw [e80,h.n,e],by rw [e81,e82]; exact h.cl⟩
def GKf (O:Ren→List UInt8) (K:Ren→Prop) (β:Ren):Goal where
 J:=fun _ γ=>KQ β γ (O β)
 L:=fun _ _=>False
 O:=fun _ _ _ _=>False
 W:=fun _ _=>False
 CL:=fun _ γ=>KP γ∧K γ
 CO:=fun _ _ γ γ1=>Ln γ1∧KQ γ γ1 (O γ)
theorem hold_z20n {β:Ren} (p:KP β):lit_z20n.Holds (GKf ON (fun _=>True) β) β:=by
 unfold lit_z20n
 have hβ:=p.n.1
 refine (call_of opK hβ (by kernel_rfl) (by kernel_rfl) ?_)
 ·intro γ0 hl0 hA hr0 hid0 hI
  clear hA
  simp only [DD] at hI
  obtain ⟨i74,i3,i78,i77,i8,i76,i75,i1,i0,i73⟩:=hI
  have ea:KA β γ0:=⟨⟨i0,i1,i73,i74,i3,i75,hid0⟩,i76,i8,i77,i78⟩
  have hL0:(GKf ON (fun _=>True) β).CL 35 γ0:=⟨ea.kp p (p.n.of i73 hl0),trivial⟩
  refine ⟨hL0,(callo_cons ?_ callo_nil)⟩
  ·intro β1 hq1 hO1
   obtain ⟨hn1,q⟩:=hO1
   have q:KQ γ0 β1 (ON β):=q
   have hb1:=app_len hβ hn1.1
   simp only [Nat.reduceAdd] at hb1
   refine (leaf_o opK hb1 ?_)
   ·intro γ1 hl1 hA hr1 hid1 hI
    clear hA
    simp only [DD,aA hβ,Nat.reduceLT,Nat.reduceLeDiff,Nat.reduceSub] at hI
    obtain ⟨j82,j74,j3,j78,j77,j39,j8,j76,j75,j1,j81,j80,j79,j0,j73⟩:=hI
    exact kq_cong q ea ⟨j0,j1,j73,j74,j3,j75,hid_l hβ (by decide) hid1⟩ j76 j8 j77 j78 j82 j80 j81
theorem hold_z20s {β:Ren} (p:KP β) (o:KO β):lit_z20s.Holds (GKf OS KO β) β:=by
 unfold lit_z20s
 have hβ:=p.n.1
 refine (call_of opK hβ (by kernel_rfl) (by kernel_rfl) ?_)
 ·intro γ0 hl0 hA hr0 hid0 hI
  clear hA
  simp only [DD] at hI
  obtain ⟨i82,i74,i3,i78,i77,i8,i76,i75,i1,i81,i80,i79,i0,i73⟩:=hI
  have ea:KA β γ0:=⟨⟨i0,i1,i73,i74,i3,i75,hid0⟩,i76,i8,i77,i78⟩
  have hL0:(GKf OS KO β).CL 35 γ0:=⟨ea.kp p (p.n.of i73 hl0),⟨by rw [i80]; exact o.n0,by rw [i80]; exact o.nb,by rw [i81,i82]; exact o.cl⟩⟩
  refine ⟨hL0,(callo_cons ?_ callo_nil)⟩
  ·intro β1 hq1 hO1
   obtain ⟨hn1,q⟩:=hO1
   have eO:OS γ0=OS β:=by unfold OS; rw [i80,i82]
   rw [eO] at q
   have hb1:=app_len hβ hn1.1
   simp only [Nat.reduceAdd] at hb1
   refine (leaf_o opK hb1 ?_)
   ·intro γ1 hl1 hA hr1 hid1 hI
    clear hA
    simp only [DD,aA hβ,Nat.reduceLT,Nat.reduceLeDiff,Nat.reduceSub] at hI
    obtain ⟨j82,j74,j3,j78,j77,j39,j8,j76,j75,j1,j81,j80,j79,j0,j73⟩:=hI
    exact kq_cong q ea ⟨j0,j1,j73,j74,j3,j75,hid_l hβ (by decide) hid1⟩ j76 j8 j77 j78 j82 j80 j81
theorem law20N {G:Goal} (hCL:∀ β,G.CL 20 β→KP β) (hCO:∀ β β1,G.CL 20 β→Ln β1→KQ β β1 []→G.CO 20 0 β β1):CLaw Tryd.prog G 20 (spKN 20):=by
 refine claw_of (E:=E20 (spKN 35)) (Gt:=GKf ON (fun _=>True)) (fn:=fnAt 20) (c:=body 20) (s:=spKN 20) noNum callOkG follows (by kernel_rfl) (by kernel_rfl) (by kernel_rfl) (by kernel_rfl) (by kernel_rfl) (by kernel_rfl) ?_ ?_ ?_ (fun β w0 r s c h=>by rcases h with h | h <;> cases h) (fun β j i β1 β2 h=>h.elim) (fun β r s h=>by rcases h with h | h <;> cases h) ?_
 ·intro e j tp h
  have h:=h.resolve_right fun h=>by cases h
  cases e with
  | normal=>cases h; exact ⟨(fun id h=>by cases h),sOut,by kernel_rfl,_,rfl⟩
  | ret=>cases h; exact ⟨(fun id h=>by cases h),sOut,by kernel_rfl,_,rfl⟩
  | exit id=>cases h
 ·intro β hcl hlen hr
  have p:=hCL β hcl
  refine ⟨p.n.2,[],2000,Facts.nil _,?_⟩
  show (tre20N).Holds _ β
  rw [lit_z20n_eq]
  exact hold_z20n p
 ·intro β j v tp sm β1 hcl hout hlen _ hJ
  have p:=hCL β hcl
  have q:KQ β β1 []:=hJ
  match j,hout with
  | 0,hout =>
   cases hout
   exact ⟨hCO β β1 hcl (p.n.of q.s.h73 hlen) q,kq_sm q⟩
 ·intro β f s hs
  have hs:ct35 (spKN 35) f=some s:=hs
  unfold ct35 at hs
  split at hs
  ·rename_i hf; subst hf; cases hs
   exact law35N (fun _ h=>h.1) (fun _ _ _ _ a b=>⟨a,b⟩)
  ·cases hs
theorem law20S {G:Goal} (hCL:∀ β,G.CL 20 β→KP β∧KO β) (hCO:∀ β β1,G.CL 20 β→Ln β1→KQ β β1 (OS β)→G.CO 20 0 β β1):CLaw Tryd.prog G 20 (spKS 20):=by
 refine claw_of (E:=E20 (spKS 35)) (Gt:=GKf OS KO) (fn:=fnAt 20) (c:=body 20) (s:=spKS 20) noNum callOkG follows (by kernel_rfl) (by kernel_rfl) (by kernel_rfl) (by kernel_rfl) (by kernel_rfl) (by kernel_rfl) ?_ ?_ ?_ (fun β w0 r s c h=>by rcases h with h | h <;> cases h) (fun β j i β1 β2 h=>h.elim) (fun β r s h=>by rcases h with h | h <;> cases h) ?_
 ·intro e j tp h
  have h:=h.resolve_right fun h=>by cases h
  cases e with
  | normal=>cases h; exact ⟨(fun id h=>by cases h),sOut,by kernel_rfl,_,rfl⟩
  | ret=>cases h; exact ⟨(fun id h=>by cases h),sOut,by kernel_rfl,_,rfl⟩
  | exit id=>cases h
 ·intro β hcl hlen hr
  have p:=hCL β hcl
  refine ⟨p.1.n.2,[],2000,Facts.nil _,?_⟩
  show (tre20S).Holds _ β
  rw [lit_z20s_eq]
  exact hold_z20s p.1 p.2
 ·intro β j v tp sm β1 hcl hout hlen _ hJ
  have p:=hCL β hcl
  have q:KQ β β1 (OS β):=hJ
  match j,hout with
  | 0,hout =>
   cases hout
   exact ⟨hCO β β1 hcl (p.1.n.of q.s.h73 hlen) q,kq_sm q⟩
 ·intro β f s hs
  have hs:ct35 (spKS 35) f=some s:=hs
  unfold ct35 at hs
  split at hs
  ·rename_i hf; subst hf; cases hs
   exact law35S (fun _ h=>h) (fun _ _ _ _ _ a b=>⟨a,b⟩)
  ·cases hs
def updY:List (Nat × Value):=[(24,I 77 0 8000000),(26,I 78 0 8000000)]++updU 0
def flt0 (k:Value):Blk:={ cells:=k::List.replicate 8 (.chan none),elem:=33,ro:=false,live:=true }
def tYN:Tpl:={ m:=90,F:=[(5,pt 83),(6,pt 0),(7,.slice none 0 0)],H:=HP updY++[(83,flt0 (.chan none))],G:=[73] }
def tY:Tpl:={ m:=90,F:=[(5,pt 83),(6,pt 0),(7,sOut)],H:=HP updY++[(83,flt0 (.chan none)),(79,outB)],G:=[73] }
def tYe:Tpl:={ m:=90,F:=[(5,pt 83)],H:=[(83,flt0 (Z 1))],G:=[73] }
def tYsN:Tpl:={ m:=90,F:=[(5,pt 83),(4,.slice none 0 0)],H:=[(83,flt0 (Z 0))],G:=[73] }
def tYs:Tpl:={ m:=90,F:=[(5,pt 83),(4,sOut)],H:=[(83,flt0 (Z 0)),(79,outB)],G:=[73] }
def ct17 (s:CSpec):FuncId→Option CSpec:=fun f=>if f=17 then some (spC 17) else if f=20 then some s else none
def rc4:Nat→Bool:=fun n=>Nat.beq n 4 || Nat.beq n 8
def ftY:AExit→Option (Nat × Tpl):=fun e=>match e with
 | .normal=>some (0,tY)
 | .ret=>some (1,tYe)
 | _=>none
def ftY2 (t:Tpl):AExit→Option (Nat × Tpl):=fun e=>match e with
 | .ret=>some (2,t)
 | _=>none
noncomputable def loop9:Code:=(findLoop 4 100 (body 9)).getD .skip
noncomputable def EYN:Env:=EG 9 (ct17 (spKN 20)) rc4 (fun _=>none) (fun _=>none) ftY (ftY2 tYsN)
noncomputable def EYY:Env:=EG 9 (ct17 (spKS 20)) rc4 (fun _=>none) (fun _=>none) ftY (ftY2 tYs)
noncomputable def treYN (A:List TB):Tre:=tre EYN 2000 loop9 [] (A.map TB.enc) tYN.frame tYN.heap
noncomputable def treYY (A:List TB):Tre:=tre EYY 2000 loop9 [] (A.map TB.enc) tY.frame tY.heap
set_option maxRecDepth 100000
theorem wdT:((List.range 256).all fun b=>decide (wd (b:Int)=if b < 128 then 1 else if b < 192 then 0 else if b < 224 then 2 else if b < 240 then 3 else if b < 248 then 4 else 0))=true:=by decide
theorem wd_of {b:Nat} (h:b < 256):wd (b:Int)=if b < 128 then 1 else if b < 192 then 0 else if b < 224 then 2 else if b < 240 then 3 else if b < 248 then 4 else 0 :=
 of_decide_eq_true (List.all_eq_true.1 wdT b (List.mem_range.2 h))
theorem enc1_head {v:Int} (hp:Prn v):∃ b l,enc1 v=b::l∧wd ((b.toNat:Nat):Int)=((enc1 v).length:Int)∧b.toNat≠0:=by
 have hv:9≤v∧v≤1114111:=by unfold Prn at hp; omega
 unfold enc1
 split
 ·rename_i h
  refine ⟨_,[],rfl,?_,?_⟩
  ·have : (u8 (IntKind.u8.wrap v)).toNat = v.toNat := by
     have e:IntKind.u8.wrap v=v:=IntWalk.u8_in v (by omega)
     rw [e,u8,UInt8.toNat_ofNat',Nat.mod_eq_of_lt (by omega)]
   rw [this,wd_of (by omega),if_pos (by omega)]; rfl
  ·have : (u8 (IntKind.u8.wrap v)).toNat = v.toNat := by
     have e:IntKind.u8.wrap v=v:=IntWalk.u8_in v (by omega)
     rw [e,u8,UInt8.toNat_ofNat',Nat.mod_eq_of_lt (by omega)]
   omega
 ·split
  ·rename_i h1 h2
   have hs:sr v 6=v / 64:=by simp only [IOp.fn]; rw [Int.fdiv_eq_ediv_of_nonneg _ (by decide)]; rfl
   have e:(u8 (IntKind.u8.wrap (sr v 6 + 192))).toNat=(v / 64 + 192).toNat:=by
    rw [hs,show IntKind.u8.wrap (v / 64 + 192)=v / 64 + 192 from IntWalk.u8_in _ (by omega),u8,UInt8.toNat_ofNat',Nat.mod_eq_of_lt (by omega)]
   refine ⟨_,_,rfl,?_,by rw [e]; omega⟩
   rw [e,wd_of (by omega),if_neg (by omega),if_neg (by omega),if_pos (by omega)]; rfl
  ·split
   ·rename_i h1 h2 h3
    have hs:sr v 12=v / 4096:=by simp only [IOp.fn]; rw [Int.fdiv_eq_ediv_of_nonneg _ (by decide)]; rfl
    have e:(u8 (IntKind.u8.wrap (sr v 12 + 224))).toNat=(v / 4096 + 224).toNat:=by
     rw [hs,show IntKind.u8.wrap (v / 4096 + 224)=v / 4096 + 224 from IntWalk.u8_in _ (by omega),u8,UInt8.toNat_ofNat',Nat.mod_eq_of_lt (by omega)]
    refine ⟨_,_,rfl,?_,by rw [e]; omega⟩
    rw [e,wd_of (by omega),if_neg (by omega),if_neg (by omega),if_neg (by omega),if_pos (by omega)]; rfl
   ·rename_i h1 h2 h3
    have hs:sr v 18=v / 262144:=by simp only [IOp.fn]; rw [Int.fdiv_eq_ediv_of_nonneg _ (by decide)]; rfl
    have e:(u8 (sr v 18 + 240)).toNat=(v / 262144 + 240).toNat:=by
     rw [hs,u8,UInt8.toNat_ofNat',Nat.mod_eq_of_lt (by omega)]
    refine ⟨_,_,rfl,?_,by rw [e]; omega⟩
    rw [e,wd_of (by omega),if_neg (by omega),if_neg (by omega),if_neg (by omega),if_neg (by omega),if_pos (by omega)]; rfl
theorem DR.prn {e:Int} {R R':List UInt8} {cs:List Int} (h:DR e R cs R'):∀ v ∈ cs,Prn v:=by
 induction h with
 | nil R=>intro v hv; cases hv
 | cons h1 h2 h3 h4 _ ih =>
  intro v hv
  rcases List.mem_cons.1 hv with rfl | hv
  ·exact h4
  ·exact ih v hv
theorem DR.nil_inv {e:Int} {R':List UInt8} {cs:List Int} (h:DR e [] cs R'):cs=[]∧R'=[]:=by
 cases h with
 | nil R=>exact ⟨rfl,rfl⟩
 | cons h1 h2 h3 h4 _=>simp at h3; omega
structure AlW (a b:Ren):Prop where
 l17:gL b 17=gL a 17
 i18:gI b 18=gI a 18
 l3:gL b 3=gL a 3
 l4:gL b 4=gL a 4
 i6:gI b 6=gI a 6
 i7:gI b 7=gI a 7
 i8:gI b 8=gI a 8
 i9:gI b 9=gI a 9
 i10:gI b 10=gI a 10
 b11:gB b 11=gB a 11
 i19:gI b 19=gI a 19
 i75:gI b 75=gI a 75
 i76:gI b 76=gI a 76
theorem AlW.rest {a b:Ren} (h:AlW a b):restB b=restB a:=rest_of h.l4 h.i6 h.i7 h.l17 h.i18 h.i19
theorem AlW.win {a b:Ren} (h:AlW a b):win b=win a:=by unfold U.win; rw [h.l3,h.i75,h.i76]
theorem AlW.pu {a b:Ren} (h:AlW a b) (p:PU a) (hn:Ln b):PU b:=by
 have h8:=h.i8; have h75:=h.i75; have h76:=h.i76
 have:=p.le; have:=p.b5; have:=p.b6
 exact ⟨p.p.of hn h.l4 h.i6 h.i7 h.b11 h.l17 h.i18 h.i19,by rw [h.l3]; exact p.buf,by omega,by omega,by omega,by rw [h.i9,h.rest]; exact p.off⟩
structure DY (R0:List UInt8) (done:List Int) (β:Ren):Prop where
 pu:PU β
 sm:(restB β).length≤2000000
 ix:0≤gI β 77∧gI β 77=(done.length:Int)
 co:gI β 78=gI β 77
 st:(gI β 10=0∧done=[]∧restB β=R0∧win β=[]∧gI β 8=0) ∨
  (1≤gI β 10∧∃ (R1:List UInt8) (us:List Int) (z:List UInt8),Mk 0 R0 (gI β 10) R1∧R1.length≤2000000∧DR (gI β 10) R1 (done++us) (restB β)∧win β=encs us++z∧gI β 8=us.length + z.length∧(z=[]∨(z=[0]∧restB β=[])))
structure DZ (R0:List UInt8) (done:List Int) (β:Ren):Prop where
 pu:PU β
 e:1≤gI β 10
 st:∃ (R1:List UInt8) (us:List Int) (z:List UInt8),Mk 0 R0 (gI β 10) R1∧R1.length≤2000000∧DR (gI β 10) R1 (done++us) (restB β)∧win β=encs us++z∧gI β 8=us.length + z.length∧1≤gI β 8∧(z=[]∨(z=[0]∧restB β=[]))
def FE (R0:List UInt8):Prop:=∃ (e:Int) (R1:List UInt8) (cs:List Int) (R:List UInt8),Mk 0 R0 e R1∧DR e R1 cs R∧BadL e R
def FSu (R0:List UInt8) (done:List Int):Prop:=∃ (e:Int) (R1:List UInt8),Mk 0 R0 e R1∧DR e R1 done []
theorem mk_len {e0 e:Int} {R R1:List UInt8} (h:Mk e0 R e R1):R1.length≤R.length:=by
 rcases h with ⟨_,_,h⟩ | ⟨_,bom,h,_⟩
 ·rw [h]; exact Nat.le_refl _
 ·rw [h]; simp
theorem win_len' {γ:Ren} (hb:(gL γ 3).length=1536) (hl:0≤gI γ 76∧gI γ 76≤gI γ 75∧gI γ 75≤1536):((win γ).length:Int)=gI γ 75 - gI γ 76:=by
 unfold win; rw [List.length_drop,List.length_take]; omega
theorem dy_cache {R0:List UInt8} {done:List Int} {β γ0 β1:Ren} (d:DY R0 done β) (hR:R0.length≤2000000) (ea:AlW β γ0) (h12:gI γ0 12=1) (h:UT γ0 β1):DZ R0 done β1:=by
 have hw:=win_len' h.buf h.le
 have er:=ea.rest; have ew:=ea.win; have e8:=ea.i8; have e10:=ea.i10; have e9:=ea.i9
 have off:=d.pu.off
 have key:1≤gI β1 10∧gI β1 9 + (restB β1).length≤4000000∧∃ (R1:List UInt8) (us:List Int) (z:List UInt8),Mk 0 R0 (gI β1 10) R1∧R1.length≤2000000∧DR (gI β1 10) R1 (done++us) (restB β1)∧win β1=encs us++z∧gI β1 8=us.length + z.length∧1≤gI β1 8∧(z=[]∨(z=[0]∧restB β1=[])):=by
  rcases h.cs with ⟨c1,c2,c3,c4,c5,c6,c7⟩ | ⟨c0,R1',cs,z,k,m1,m2,m3,m4,m5,m6,m7,m8⟩
  ·rcases d.st with ⟨_,_,_,_,q⟩ | ⟨q1,R1,us,z,q2,q3,q4,q5,q6,q7⟩
   ·omega
   ·exact ⟨by omega,by rw [c4,c6,e9,er]; exact off,R1,us,z,by rw [c5,e10]; exact q2,q3,by rw [c5,e10,c6,er]; exact q4,by rw [c2,ew]; exact q5,by omega,by omega,by rw [c6,er]; exact q7⟩
  ·have fin : ∀ (R1 : List UInt8), R1.length ≤ 2000000 → Mk 0 R0 (gI β1 10) R1 → DR (gI β1 10) R1 (done ++ cs) (restB β1) → win γ0 = [] → gI γ0 8 = 0 → 1 ≤ gI β1 10 ∧ gI β1 9 + (restB β1).length ≤ 4000000 ∧ ∃ (R1 : List UInt8) (us : List Int) (z : List UInt8), Mk 0 R0 (gI β1 10) R1 ∧ R1.length ≤ 2000000 ∧ DR (gI β1 10) R1 (done ++ us) (restB β1) ∧ win β1 = encs us ++ z ∧ gI β1 8 = us.length + z.length ∧ 1 ≤ gI β1 8 ∧ (z = [] ∨ (z = [0] ∧ restB β1 = [])) := by
     intro R1 a1 a2 a3 a4 a5
     have hl:=congrArg List.length m4
     rw [a4] at hl
     simp only [List.length_append,List.length_nil,List.length_replicate] at hl
     have hk:k=0:=by
      rcases m8 with ⟨_,hk,_⟩ | ⟨rfl,_,_,hk⟩
      ·exact hk
      ·rcases hk with hk | hk
       ·exact hk
       ·simp only [List.length_cons,List.length_nil] at hl; omega
     subst hk
     refine ⟨m2,by rw [m6,e9,er]; exact off,R1,cs,z,a2,a1,a3,?_,by omega,?_,?_⟩
     ·rw [m4,a4]; simp
     ·rcases m8 with ⟨_,_,hk⟩ | ⟨rfl,_⟩
      ·omega
      ·simp only [List.length_cons,List.length_nil] at m5; omega
     ·rcases m8 with ⟨hz,_⟩ | ⟨hz,_,hr,_⟩
      ·exact .inl hz
      ·exact .inr ⟨hz,hr⟩
   rcases d.st with ⟨q1,q2,q3,q4,q5⟩ | ⟨q1,R1,us,z0,q2,q3,q4,q5,q6,q7⟩
   ·rw [e10,q1,er,q3] at m1
    exact fin R1' (Nat.le_trans (mk_len m1) hR) m1 (by rw [q2]; exact m3) (by rw [ew,q4]) (by omega)
   ·have hu:us=[]:=List.eq_nil_of_length_eq_zero (by omega)
    have hz:z0=[]:=List.eq_nil_of_length_eq_zero (by omega)
    subst hu; subst hz
    rcases m1 with ⟨_,e1,e2⟩ | ⟨e1,_⟩
    ·have eq10:gI β1 10=gI β 10:=by omega
     subst e2
     rw [List.append_nil] at q4
     refine fin R1 q3 (by rw [eq10]; exact q2) ?_ (by rw [ew,q5]; rfl) (by simp at q6; omega)
     rw [eq10] at m3 ⊢
     rw [er] at m3
     exact q4.append m3
    ·omega
 obtain ⟨k1,k2,R1,us,z,k3,k4,k5,k6,k7,k8,k9⟩:=key
 have el:=encs_len us
 have hl:=congrArg List.length k6
 rw [List.length_append] at hl
 refine ⟨⟨h.p,h.buf,h.le.2.1,by omega,by omega,k2⟩,k1,R1,us,z,k3,k4,k5,k6,k7,k8,k9⟩
theorem fe_of {R0:List UInt8} {done:List Int} {β γ0 β1:Ren} (d:DY R0 done β) (ea:AlW β γ0) (h:UE γ0 β1):FE R0:=by
 obtain ⟨_,e,R1,cs,R,h1,h2,h3⟩:=h
 rw [ea.i10,ea.rest] at h1
 rcases d.st with ⟨q1,q2,q3,q4,q5⟩ | ⟨q1,R1',us,z0,q2,q3,q4,q5,q6,q7⟩
 ·rw [q1,q3] at h1; exact ⟨e,R1,cs,R,h1,h2,h3⟩
 ·rcases h1 with ⟨_,rfl,rfl⟩ | ⟨h1,_⟩
  ·exact ⟨_,R1',(done++us)++cs,R,q2,q4.append h2,h3⟩
  ·omega
theorem bb_win {γ:Ren} (pu:PU γ) (h76:0≤gI γ 76) (h75:gI γ 75≤1536) {b:UInt8} {l:List UInt8} (h:win γ=b::l):bb γ=((b.toNat:Nat):Int)∧1≤gI γ 75 - gI γ 76:=by
 have hb:=pu.buf; have hle:=pu.le
 have hl:=win_len' hb ⟨h76,hle,h75⟩
 rw [h] at hl
 simp only [List.length_cons] at hl
 have e:=drop_cons (L:=gL γ 3) (a:=(gI γ 76).toNat) (b:=(gI γ 75).toNat) (by omega) (by omega)
 unfold win at h
 rw [e] at h
 unfold bb
 rw [(List.cons.inj h).1]
 exact ⟨rfl,by omega⟩
theorem dz_end {R0:List UInt8} {done:List Int} {γ:Ren} (d:DZ R0 done γ) (h76:0≤gI γ 76) (h75:gI γ 75≤1536) (h0:bb γ=0):FSu R0 done:=by
 obtain ⟨R1,us,z,k3,k4,k5,k6,k7,k8,k9⟩:=d.st
 cases us with
 | nil =>
  rcases k9 with rfl | ⟨rfl,hr⟩
  ·simp at k7; omega
  ·rw [hr,List.append_nil] at k5
   exact ⟨_,R1,k3,k5⟩
 | cons v us =>
  exfalso
  have hp:=k5.prn v (by simp)
  obtain ⟨b,l,e1,e2,e3⟩:=enc1_head hp
  have:win γ=b::(l++encs us++z):=by
   rw [k6]; simp only [encs,List.flatMap_cons,e1]; simp
  have:=(bb_win d.pu h76 h75 this).1
  omega
theorem dz_read {R0:List UInt8} {done:List Int} {γ:Ren} (d:DZ R0 done γ) (h76:0≤gI γ 76) (h75:gI γ 75≤1536) (h0:bb γ≠0) :
    ∃ v,Prn v∧wd (bb γ)=((enc1 v).length:Int)∧gI γ 76 + wd (bb γ)≤gI γ 75∧((gL γ 3).take (gI γ 76 + wd (bb γ)).toNat).drop (gI γ 76).toNat=enc1 v ∧
     ∃ (R1:List UInt8) (us:List Int) (z:List UInt8),Mk 0 R0 (gI γ 10) R1∧R1.length≤2000000∧DR (gI γ 10) R1 (done++[v]++us) (restB γ)∧win γ=enc1 v++(encs us++z)∧gI γ 8=1 + us.length + z.length∧(z=[]∨(z=[0]∧restB γ=[])):=by
 obtain ⟨R1,us,z,k3,k4,k5,k6,k7,k8,k9⟩:=d.st
 have hb:=d.pu.buf; have hle:=d.pu.le
 have hl:=win_len' hb ⟨h76,hle,h75⟩
 cases us with
 | nil =>
  exfalso
  rcases k9 with rfl | ⟨rfl,hr⟩
  ·simp at k7; omega
  ·exact h0 ((bb_win d.pu h76 h75 (b:=0) (l:=[]) (by rw [k6]; rfl)).1.trans rfl)
 | cons v us =>
  have hp:=k5.prn v (by simp)
  obtain ⟨b,l,e1,e2,e3⟩:=enc1_head hp
  have hwin:win γ=enc1 v++(encs us++z):=by
   rw [k6]; simp only [encs,List.flatMap_cons]; simp
  have:=(bb_win d.pu h76 h75 (b:=b) (l:=l++(encs us++z)) (by rw [hwin,e1]; rfl)).1
  rw [hwin,List.length_append] at hl
  refine ⟨v,hp,by rw [this]; exact e2,by rw [this,e2]; omega,?_,R1,us,z,k3,k4,by simpa using k5,hwin,by simp only [List.length_cons] at k7; omega,k9⟩
  have e4:((gL γ 3).take (gI γ 76 + wd (bb γ)).toNat).drop (gI γ 76).toNat=(win γ).take (enc1 v).length:=by
   rw [this,e2]
   unfold win
   rw [List.take_drop,List.take_take]
   congr 2
   omega
  rw [e4,hwin,List.take_append_of_le_length (Nat.le_refl _),List.take_length]
set_option maxRecDepth 100000
theorem DR.encs {e:Int} {R R':List UInt8} {cs:List Int} (h:DR e R cs R'):(U.encs cs).length + 2 * R'.length≤2 * R.length:=by
 induction h with
 | nil R=>simp [U.encs]
 | cons h1 h2 h3 h4 _ ih =>
  obtain ⟨w1,w2,w3⟩:=dcd_w h1
  simp only [U.encs,List.flatMap_cons,List.length_append] at ih ⊢
  rw [List.length_drop] at ih
  omega
structure DO (done:List Int) (β:Ren):Prop where
 ne:done≠[]
 out:(gL β 82).take (gI β 80).toNat=encs done
 n:gI β 80=(encs done).length
 cl:gI β 81≤(gL β 82).length
def OutIs (done:List Int) (γ:Ren):Prop:=(gL γ 82).take (gI γ 80).toNat=encs done∧gI γ 80≤(gL γ 82).length
theorem DO.is {done:List Int} {β:Ren} (o:DO done β):OutIs done β:=by
 refine ⟨o.out,?_⟩
 have h:=congrArg List.length o.out
 have:=o.n
 rw [List.length_take] at h
 omega
theorem dz_kp {R0:List UInt8} {done:List Int} {β1 γ1:Ren} (d:DZ R0 done β1) (hn:Ln γ1) (h76:0≤gI β1 76) (h75:gI β1 75≤1536) (h0:bb β1≠0) (e3:gL γ1 3=gL β1 3) (e75:gI γ1 75=gI β1 75) (e76:gI γ1 76=gI β1 76) (e8:gI γ1 8=gI β1 8) (i77:gI γ1 77=done.length) (i78:gI γ1 78=gI γ1 77):KP γ1:=by
 have eb:bb γ1=bb β1:=by unfold bb; rw [e3,e76]
 obtain ⟨v,hp,hw,hle,hc,R1,us,z,k3,k4,k5,k6,k7,k8⟩:=dz_read d h76 h75 h0
 have:=(enc1_b v).1
 have hl:=k5.len
 simp only [List.length_append,List.length_cons,List.length_nil] at hl
 exact ⟨hn,by rw [e3]; exact d.pu.buf,by rw [eb]; omega,by rw [e76,eb,e75]; exact hle,by omega,by omega,by omega⟩
theorem dz_next {R0:List UInt8} {done:List Int} {β1 γ1 β2 γ2:Ren} {O:List UInt8} (d:DZ R0 done β1) (h76:0≤gI β1 76) (h75:gI β1 75≤1536) (h0:bb β1≠0) (e3:gL γ1 3=gL β1 3) (e76:gI γ1 76=gI β1 76) (e8:gI γ1 8=gI β1 8) (i77:gI γ1 77=done.length) (i78:gI γ1 78=gI γ1 77)
    (q:KQ γ1 β2 O) (hO:O=encs done) (hn:Ln γ2) (f3:gL γ2 3=gL β1 3) (f4:gL γ2 4=gL β1 4) (f6:gI γ2 6=gI β1 6) (f7:gI γ2 7=gI β1 7) (f11:gB γ2 11=gB β1 11) (f17:gL γ2 17=gL β1 17) (f18:gI γ2 18=gI β1 18) (f19:gI γ2 19=gI β1 19) (f9:gI γ2 9=gI β1 9) (f10:gI γ2 10=gI β1 10) (f75:gI γ2 75=gI β1 75)
    (f76:gI γ2 76=gI β2 76) (f8:gI γ2 8=gI β2 8) (f77:gI γ2 77=gI β2 77) (f78:gI γ2 78=gI β2 78) (f80:gI γ2 80=gI β2 80) (f81:gI γ2 81=gI β2 81) (f82:gL γ2 82=gL β2 82):∃ v,DY R0 (done++[v]) γ2∧DO (done++[v]) γ2:=by
 have eb:bb γ1=bb β1:=by unfold bb; rw [e3,e76]
 obtain ⟨v,hp,hw,hle,hc,R1,us,z,k3,k4,k5,k6,k7,k8⟩:=dz_read d h76 h75 h0
 have er:restB γ2=restB β1:=rest_of f4 f6 f7 f17 f18 f19
 have q76:=q.i76; have q8:=q.i8; have q77:=q.i77; have q78:=q.i78
 rw [eb] at q76
 have hb:=d.pu.buf
 have hlw:=win_len' hb ⟨h76,d.pu.le,h75⟩
 have hwin:win γ2=encs us++z:=by
  have:win γ2=(win β1).drop (enc1 v).length:=by
   unfold win
   rw [f3,f75,f76,List.drop_drop,q76,e76,hw,show (gI β1 76 + ((enc1 v).length:Int)).toNat=(gI β1 76).toNat + (enc1 v).length from by omega]
  rw [this,k6,List.drop_left]
 have hl2:((win γ2).length:Int)=gI γ2 75 - gI γ2 76:=by
  refine win_len' (by rw [f3]; exact hb) ⟨?_,?_,by omega⟩
  ·have:=(enc1_b v).1; omega
  ·omega
 rw [hwin,List.length_append] at hl2
 have el:=encs_len us
 have hr:=k5.len
 refine ⟨v,⟨⟨d.pu.p.of hn f4 f6 f7 f11 f17 f18 f19,by rw [f3]; exact hb,by omega,by omega,by omega,by rw [f9,er]; exact d.pu.off⟩,by rw [er]; omega,⟨by omega,?_⟩,by omega,.inr ⟨by rw [f10]; exact d.e,R1,us,z,by rw [f10]; exact k3,k4,by rw [f10,er]; exact k5,hwin,by omega,by rw [er]; exact k8⟩⟩,⟨by simp,?_,?_,by rw [f81,f82]; exact q.cl⟩⟩
 ·rw [f77,q77,i77]; simp
 ·rw [f82,f80,q.out,eb,e3,e76,hc,hO,encs_app]; simp [encs]
 ·rw [f80,q.n,eb,hw,hO,encs_app]; simp [encs]
theorem dz_lt {R0:List UInt8} {done:List Int} {β:Ren} (d:DZ R0 done β):gI β 76 < gI β 75:=by
 obtain ⟨R1,us,z,k3,k4,k5,k6,k7,k8,k9⟩:=d.st
 have:=d.pu.b6; omega
theorem do_ko {R0:List UInt8} {done:List Int} {β β1 γ1:Ren} (dz:DZ R0 done β1) (o:DO done β) (e80:gI γ1 80=gI β 80) (e81:gI γ1 81=gI β 81) (e82:gL γ1 82=gL β 82):KO γ1:=by
 obtain ⟨R1,us,z,k3,k4,k5,k6,k7,k8,k9⟩:=dz.st
 have h:=k5.encs
 rw [encs_app,List.length_append] at h
 have hn:=o.n
 have hl:=encs_len done
 have:0 < done.length:=by
  cases done with
  | nil=>exact (o.ne rfl).elim
  | cons _ _=>simp
 exact ⟨by omega,by omega,by rw [e81,e82]; exact o.cl⟩
def GY (R0:List UInt8) (done:List Int) (K:Ren→Prop) (O:Ren→List UInt8) (E:Ren→Prop) (β:Ren):Goal where
 J:=fun j γ=>γ[73]?=β[73]?∧match j with
  | 0=>∃ v,DY R0 (done++[v]) γ∧DO (done++[v]) γ
  | 1=>FE R0
  | 2=>FSu R0 done∧E γ
  | _=>False
 L:=fun _ _=>False
 O:=fun _ _ _ _=>False
 W:=fun _ _=>False
 CL:=fun j γ=>match j with
  | 17=>PU γ
  | 20=>KP γ∧K γ
  | _=>False
 CO:=fun j i γ γ1=>match j,i with
  | 17,0=>Ln γ1∧UT γ γ1
  | 17,1=>Ln γ1∧UE γ γ1
  | 20,0=>Ln γ1∧KQ γ γ1 (O γ)
  | _,_=>False
end U
