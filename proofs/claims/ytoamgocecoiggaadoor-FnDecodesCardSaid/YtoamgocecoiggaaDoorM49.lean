-- the statement of this claim: see YtoamgocecoiggaaDoorRw
import Derived.Below
import Derived.Test.YtoamgocecoiggaaDoorM48
set_option linter.unusedVariables false
set_option linter.unusedSimpArgs false
open Go Go.SM Go.Proofs
namespace U
set_option maxRecDepth 100000
abbrev c7s0:SgT:=[(22,.itm (.var 22)),(21,.itm (.var 21)),(20,.itm (.var 20)),(16,.blk 16),(73,.blk 73)]
noncomputable def lit_f6:Tre:=(.loop 3 90 90 (rgs EF6.n sp6L.tin) loopD6 (SgT.enc ((74,.blk 74)::(17,.ltm (.var 17))::(23,.itm (.lit 0))::c7s0)) (List.map TB.enc []) (.cons (rgs EF6.n t6N) (lf 0 90 90 (rgs EF6.n t6a) ((74,.blk 74)::(17,.ltm (.var 17))::(84,.btm (.lit true))::c7s0) [])
 (.cons (rgs EF6.n t6S) (lf 1 90 90 (rgs EF6.n t6b) ((33,.ntm (.var 33))::(74,.blk 74)::(17,.ltm (.var 17))::(32,.itm (.var 32))::(31,.itm (.var 31))::(30,.blk 30)::c7s0) [])
 (.cons (rgs EF6.n t6f) (lf 0 90 90 (rgs EF6.n t6a) ((74,.blk 74)::(17,.ltm (.var 17))::(84,.btm (.lit false))::c7s0) [])
 .nil))))
theorem lit_f6_eq:tref6=lit_f6:=by kernel_rfl
theorem hold_f6 {β:Ren} (p:PA β):lit_f6.Holds (GF6 β) β:=by
 unfold lit_f6
 have hβ:=p.n.1
 refine (loop_of [] hβ (by kernel_rfl) (by kernel_rfl) (by kernel_rfl) (by kernel_rfl) rfl ?_)
 ·intro γ0 hl0 hA hr0 hid0 hI
  clear hA
  simp only [DD] at hI
  obtain ⟨i74,i17,i23,i22,i21,i20,i16,i73⟩:=hI
  have hn1:Ln γ0:=p.n.of i73 hl0
  have s0:SmD β γ0:=⟨i73,i16,i17,i20,i21,i22⟩
  have p20:=p.i20
  have p21:=p.i21
  have hL0:(GF6 β).L 3 γ0:=⟨⟨hn1,by omega,by omega,by rw [i17,i20,i21]; exact p.le,by omega⟩,s0,i23⟩
  refine ⟨hL0,(outs_cons ?_ (outs_cons ?_ (outs_cons ?_ outs_nil)))⟩
  ·intro β1 hq1 hO1
   obtain ⟨hn2,s1,hz⟩:=hO1
   have hb1:=hn2.1
   refine (leaf_o [] hb1 ?_)
   ·intro γ1 hl1 hA hr1 hid1 hI
    clear hA
    simp only [DD] at hI
    obtain ⟨j74,j17,j84,j22,j21,j20,j16,j73⟩:=hI
    have s2:SmD β1 γ1:=⟨j73,j16,j17,j20,j21,j22⟩
    have ts:=(s0.trans s1).trans s2
    have hnf:=hn2.of j73 hl1
    exact ⟨hnf,ts,.inl ⟨j84.2 trivial,by rw [← r6_0 s0 i23]; exact hz⟩⟩
  ·intro β1 hq1 hO1
   obtain ⟨hn2,s1,hz⟩:=hO1
   have hb1:=hn2.1
   refine (leaf_o [] hb1 ?_)
   ·intro γ1 hl1 hA hr1 hid1 hI
    clear hA
    simp only [DD] at hI
    obtain ⟨j33,j74,j17,j32,j31,j30,j22,j21,j20,j16,j73⟩:=hI
    have s2:SmD β1 γ1:=⟨j73,j16,j17,j20,j21,j22⟩
    have ts:=(s0.trans s1).trans s2
    have hnf:=hn2.of j73 hl1
    obtain ⟨cs,z1,z2,z3,z4,z5,z6⟩:=hz
    exact ⟨hnf,ts,cs,by rw [← r6_0 s0 i23]; exact z1,z2,by unfold O6 at *; rw [j31,j33]; exact z3,by rw [j31]; exact z4,by rw [j31,j32]; exact z5,by rw [j32,j33]; exact z6⟩
  ·intro β1 hq1 hO1
   obtain ⟨hn2,s1,hz⟩:=hO1
   have hb1:=hn2.1
   refine (leaf_o [] hb1 ?_)
   ·intro γ1 hl1 hA hr1 hid1 hI
    clear hA
    simp only [DD] at hI
    obtain ⟨j74,j17,j84,j22,j21,j20,j16,j73⟩:=hI
    have s2:SmD β1 γ1:=⟨j73,j16,j17,j20,j21,j22⟩
    have ts:=(s0.trans s1).trans s2
    have hnf:=hn2.of j73 hl1
    exact ⟨hnf,ts,.inr ⟨Bool.eq_false_iff.2 fun h=>Bool.noConfusion (j84.1 h),by rw [← r6_0 s0 i23]; exact hz⟩⟩
theorem law6 {G:Goal} (hCL:∀ β,G.CL 6 β→PA β) (h0:∀ β β1 i,G.CL 6 β→Ln β1→SmD β β1→Z6 1 β β1 i→G.CO 6 i β β1):CLaw Tryd.prog G 6 sp6:=by
 refine claw_of (E:=EF6) (Gt:=GF6) (fn:=fnAt 6) (c:=body 6) (s:=sp6) noNum callOkG follows (by kernel_rfl) (by kernel_rfl) (by kernel_rfl) (by kernel_rfl) (by kernel_rfl) (by kernel_rfl) ?_ ?_ ?_ ?_ (fun β j i β1 β2 h=>h.1.2) ?_ (fun β f s h=>by cases h)
 ·intro e j tp h
  rcases h with h | h
  ·cases e with
   | normal=>cases h; exact ⟨(fun id h=>by cases h),.tuple #[.slice none 0 0,sB (x 84)],by kernel_rfl,_,rfl⟩
   | ret=>cases h; exact ⟨(fun id h=>by cases h),.tuple #[.slice none 0 0,sB (x 84)],by kernel_rfl,_,rfl⟩
   | exit id=>cases h
  ·cases e with
   | normal=>cases h; exact ⟨(fun id h=>by cases h),.tuple #[sNum,.bool true],by kernel_rfl,_,rfl⟩
   | ret=>cases h; exact ⟨(fun id h=>by cases h),.tuple #[sNum,.bool true],by kernel_rfl,_,rfl⟩
   | exit id=>cases h
 ·intro β hcl hlen hr
  have p:=hCL β hcl
  refine ⟨p.n.2,[],2000,Facts.nil _,?_⟩
  show (tref6).Holds _ β
  rw [lit_f6_eq]
  exact hold_f6 p
 ·intro β j v tp sm β1 hcl hout hlen _ hJ
  obtain ⟨hn,s,z⟩:=hJ
  match j,hout with
  | 0,hout =>
   cases hout
   exact ⟨h0 β β1 0 hcl hn s z,sm6_of s⟩
  | 1,hout =>
   cases hout
   exact ⟨h0 β β1 1 hcl hn s z,sm6_of s⟩
 ·intro β w0 r s c hs hw
  rcases hs with hs | hs
  ·have hs:lt6 r=some s:=hs
   unfold lt6 at hs
   split at hs
   ·cases hs
    have hc:c=loopD6:=hw
    subst hc
    intro Q b a w hH hF hl hQ
    refine wpL_loop (loop6N_law b a w hl.1 hH hF ?_ ?_ ?_)
    ·intro β1 a' w' hn1 s1 hr q1 q2
     exact hQ 0 (.exit 0) t6N [] rfl β1 a' w' q1 q2 ⟨hn1,s1,hr⟩
    ·intro β1 a' w' cs hn1 s1 dc hne ho q1 q2
     exact hQ 1 (.exit 0) t6S [] rfl β1 a' w' q1 q2 ⟨hn1,s1,cs,dc,hne,ho⟩
    ·intro β1 a' w' hn1 s1 hr q1 q2
     exact hQ 2 .ret t6f [] rfl β1 a' w' q1 q2 ⟨hn1,s1,hr⟩
   ·cases hs
  ·cases hs
 ·intro β r s hs i e tp B hi β1 β2 _
  refine facts_nil_of ?_
  rcases hs with hs | hs
  ·have hs:lt6 r=some s:=hs
   unfold lt6 at hs
   split at hs
   ·cases hs
    match i,hi with
    | 0,hi=>cases hi; rfl
    | 1,hi=>cases hi; rfl
    | 2,hi=>cases hi; rfl
   ·cases hs
  ·cases hs
set_option maxRecDepth 100000
theorem law5 {G:Goal} (hCL:∀ β,G.CL 5 β→PT β) (hCO:∀ β β1,G.CL 5 β→Ln β1→MkW (T0 β) (gI β1 87) (gI β1 88)→G.CO 5 0 β β1):CLaw Tryd.prog G 5 sp5:=by
 refine claw_of (E:=EF5) (Gt:=GF5) (fn:=fnAt 5) (c:=body 5) (s:=sp5) noNum callOkF3 follows (by kernel_rfl) (by kernel_rfl) (by kernel_rfl) (by kernel_rfl) (by kernel_rfl) (by kernel_rfl) ?_ ?_ ?_ (fun β w0 r s c h=>by rcases h with h | h <;> cases h) (fun β j i β1 β2 h=>h.elim) (fun β r s h=>by rcases h with h | h <;> cases h) (fun β=>noLaws)
 ·intro e j tp h
  have h:=h.resolve_right fun h=>by cases h
  cases e with
  | normal=>cases h; exact ⟨(fun id h=>by cases h),.tuple #[I 87 1 3,I 88 0 3],by kernel_rfl,_,rfl⟩
  | ret=>cases h; exact ⟨(fun id h=>by cases h),.tuple #[I 87 1 3,I 88 0 3],by kernel_rfl,_,rfl⟩
  | exit id=>cases h
 ·intro β hcl hlen hr
  have p:=hCL β hcl
  refine ⟨p.n.2,[],2000,Facts.nil _,?_⟩
  show (tref5).Holds _ β
  rw [lit_f5_eq]
  exact hold_f5 p
 ·intro β j v tp sm β1 hcl hout hlen _ hJ
  obtain ⟨hn,s,z⟩:=hJ
  match j,hout with
  | 0,hout =>
   cases hout
   refine ⟨hCO β β1 hcl hn z,fun x hx=>?_⟩
   have hx:x ∈ [(16,0),(17,2),(18,1),(72,1),(73,0)]:=hx
   obtain ⟨q1,q2,q3,q4,q5⟩:=s
   simp only [List.mem_cons,List.not_mem_nil,or_false] at hx
   rcases hx with rfl | rfl | rfl | rfl | rfl
   ·exact q2
   ·exact q3
   ·exact q4
   ·exact q5
   ·exact q1
def sp3:CSpec:={ j:=3,n:=1,tin:=t3,outs:=[(sB (x 86),t3o,[])] }
theorem law3 {G:Goal} (hCL:∀ β,G.CL 3 β→P3 β) (hCO:∀ β β1,G.CL 3 β→gB β1 86=true→G.CO 3 0 β β1):CLaw Tryd.prog G 3 sp3:=by
 refine claw_of (E:=EF3 sp9C) (Gt:=GF3) (fn:=fnAt 3) (c:=body 3) (s:=sp3) noNum callOkF3 follows (by kernel_rfl) (by kernel_rfl) (by kernel_rfl) (by kernel_rfl) (by kernel_rfl) (by kernel_rfl) ?_ ?_ ?_ ?_ (fun β j i β1 β2 h=>h.1.2) ?_ ?_
 ·intro e j tp h
  have h:=h.resolve_right fun h=>by cases h
  cases e with
  | normal=>cases h; exact ⟨(fun id h=>by cases h),sB (x 86),by kernel_rfl,_,rfl⟩
  | ret=>cases h; exact ⟨(fun id h=>by cases h),sB (x 86),by kernel_rfl,_,rfl⟩
  | exit id=>cases h
 ·intro β hcl hlen hr
  have p:=hCL β hcl
  refine ⟨p.n.2,[],4000,Facts.nil _,?_⟩
  show (tref3C).Holds _ β
  rw [lit_f3c_eq]
  exact hold_f3c p
 ·intro β j v tp sm β1 hcl hout hlen _ hJ
  match j,hout with
  | 0,hout =>
   cases hout
   exact ⟨hCO β β1 hcl hJ,fun x hx=>by cases hx⟩
 ·intro β w0 r s c hs hw
  rcases hs with hs | hs
  ·have hs:lt3 r=some s:=hs
   unfold lt3 at hs
   split at hs
   ·cases hs
    have hc:c=loopD3:=hw
    subst hc
    intro Q b a w hH hF hl hQ
    refine wpL_loop (loop3_law _ b a w (Nat.le_refl _) hl.1 hH hF ?_ ?_)
    ·intro β1 a' w' hn1 s1 s2 nf h84 q1 q2
     exact hQ 0 (.exit 0) t3X [] rfl β1 a' w' q1 q2 ⟨hn1,s1,s2,nf,h84⟩
    ·intro β1 a' w' hn1 q1 q2
     exact hQ 1 .ret t3r [] rfl β1 a' w' q1 q2 ⟨hn1,trivial⟩
   ·cases hs
  ·cases hs
 ·intro β r s hs i e tp B hi β1 β2 _
  refine facts_nil_of ?_
  rcases hs with hs | hs
  ·have hs:lt3 r=some s:=hs
   unfold lt3 at hs
   split at hs
   ·cases hs
    match i,hi with
    | 0,hi=>cases hi; rfl
    | 1,hi=>cases hi; rfl
   ·cases hs
  ·cases hs
 ·intro β f s hs
  have hs:ct3 sp9C f=some s:=hs
  unfold ct3 at hs
  split at hs
  ·rename_i hf; subst hf; cases hs; exact law5 (fun _ h=>h) (fun _ _ _ a b=>⟨a,b⟩)
  split at hs
  ·rename_i hf; subst hf; cases hs; exact law6 (fun _ h=>h) (fun _ _ _ _ a _ b=>⟨a,b⟩)
  split at hs
  ·rename_i hf; subst hf; cases hs; exact law7 (fun _ h=>h) (fun _ _ _ _ a _ b=>⟨a,b⟩)
  split at hs
  ·rename_i hf; subst hf; cases hs; exact law9C (fun _ h=>h) (fun _ _ _ a b=>⟨a,b⟩) (fun _ _ _ a b=>⟨a,b⟩) (fun _ _ _ a b=>⟨a,b⟩)
  split at hs
  ·rename_i hf; subst hf; cases hs; exact law11 (fun _ h=>h) (fun _ _ _ a _ b=>⟨a,b⟩) (fun _ _ _ a _ b c=>⟨a,b,c⟩)
  ·cases hs
end U
open Go Go.SM Go.Proofs Go.RowKit
namespace U
set_option maxRecDepth 100000
def EofOk (w:World):Prop:=∃ be oe C fr e,C[0]?=some (.iface 89 (.pointer (some ⟨be,oe,none⟩)))∧w.heap[0]?=some (.cells C e fr)
def hmF (b off top n cap c0 be oe:Nat) (bs:List UInt8):Nat→Hm:=fun i =>
 if i=16 then { b:=b,s:=off,top:=top } else if i=17 then { b:=0,s:=0,top:=0,v:=.string ⟨bs.toArray⟩ } else if i=18 then { b:=0,s:=0,top:=0,v:=.int .i64 n }
 else if i=72 then { b:=0,s:=0,top:=0,v:=.int .i64 cap } else if i=73 then { b:=0,s:=0,top:=c0 } else if i=74 then { b:=be,s:=oe,top:=0 } else { b:=0,s:=0,top:=0 }
def renF (f:Nat→Hm):Ren:=(List.range 90).map f
theorem renF_get (f:Nat→Hm) {i:Nat} (h:i < 90):(renF f)[i]?=some (f i):=by
 unfold renF
 rw [List.getElem?_map,List.getElem?_range h]; rfl
theorem renF_len (f:Nat→Hm):(renF f).length=90:=by simp [renF]
theorem law_text {w:World} (he:EofOk w) {b off n cap:Nat} {C:Array Value} {fr:Nat × Nat} {e:TypeId} (hw:w.heap[b]?=some (.cells C e fr)) {bs:List UInt8} (hbs:bs.length=n)
    (hcells:∀ i,i < n→C[off + i]?=some (.int .u8 (((bs.getD i 0).toNat:Nat):Int))) (hoff:off≤C.size) (hnc:n≤cap) (hcap:cap≤1125899906842624) :
    Calls Tryd.prog 3 #[.slice (some ⟨b,off,none⟩) n cap] w fun e w'=>e=.returned (.bool true)∧Below w.heap.size w w':=by
 obtain ⟨be,oe,C0,fr0,e0,hc0,hw0⟩:=he
 generalize hf:hmF b off C.size n cap C0.size be oe bs=f
 have f16:(renF f)[16]?=some { b:=b,s:=off,top:=C.size }:=by rw [renF_get f (by decide),← hf]; rfl
 have f17:(renF f)[17]?=some { b:=0,s:=0,top:=0,v:=.string ⟨bs.toArray⟩ }:=by rw [renF_get f (by decide),← hf]; rfl
 have f18:(renF f)[18]?=some { b:=0,s:=0,top:=0,v:=.int .i64 n }:=by rw [renF_get f (by decide),← hf]; rfl
 have f72:(renF f)[72]?=some { b:=0,s:=0,top:=0,v:=.int .i64 cap }:=by rw [renF_get f (by decide),← hf]; rfl
 have f73:(renF f)[73]?=some { b:=0,s:=0,top:=C0.size }:=by rw [renF_get f (by decide),← hf]; rfl
 have f74:(renF f)[74]?=some { b:=be,s:=oe,top:=0 }:=by rw [renF_get f (by decide),← hf]; rfl
 have g17:gL (renF f) 17=bs:=by simp [gL,TL.den,f17,vBytes]
 have g18:gI (renF f) 18=n:=by simp [gI,TI.den,f18,vInt]
 have g72:gI (renF f) 72=cap:=by simp [gI,TI.den,f72,vInt]
 have hC:C.toList=C.toList.take off++bs.map (fun x=>Value.int .u8 x.toNat)++(C.toList.drop off).drop n:=by
  have hm:bs.map (fun x=>Value.int .u8 ((x.toNat:Nat):Int))=(C.toList.drop off).take n:=by
   apply List.ext_getElem?
   intro i
   rcases Nat.lt_or_ge i n with hi | hi
   ·have h1:=hcells i hi
    rw [List.getElem?_map,List.getElem?_take_of_lt hi,List.getElem?_drop,Array.getElem?_toList (xs:=C),h1]
    rw [List.getElem?_eq_getElem (show i < bs.length by omega)]
    simp [List.getD_eq_getElem?_getD,List.getElem?_eq_getElem (show i < bs.length by omega)]
   ·rw [List.getElem?_eq_none (by simp; omega),List.getElem?_eq_none (by simp; omega)]
  rw [hm,List.append_assoc,List.take_append_drop,List.take_append_drop]
 have hHR:HR (W0.of w) (renF f) t3.heap w:=by
  refine ⟨by rw [renF_len]; exact (heapOf_size _ _).symm,by show (heapOf 90 t3.H).size≤_; rw [heapOf_size]; decide,?_,?_,Kept.refl _⟩
  ·intro B bl hg hl
   have hmem:=heapOf_get (m:=90) (by decide) t3.H B bl (by decide) hg
   have hmem:(B,bl) ∈ [(16,txtB),(73,eofB)]:=hmem
   simp only [List.mem_cons,List.not_mem_nil,or_false,Prod.mk.injEq] at hmem
   rcases hmem with ⟨rfl,rfl⟩ | ⟨rfl,rfl⟩
   ·refine ⟨b,off,C,fr,hm_of f16,⟨e,hw,fun h=>by cases h⟩,(fun h hh=>by rw [f16] at hh; cases hh; rfl),by show 0 + off≤_; omega,(fun h=>by cases h),(fun i v hv=>by cases hv),(fun h=>by cases h),?_⟩
    intro x hx
    cases hx
    refine .inl ⟨.var 17,C.toList.take off,(C.toList.drop off).drop n,rfl,by simp [TL.ok,renF_len],by rw [List.length_take,Array.length_toList]; omega,?_⟩
    show C.toList=C.toList.take off++((gL (renF f) 17).map fun x=>Value.int .u8 x.toNat)++_
    rw [g17]; exact hC
   ·have hs0 : 0 < C0.size := by
      rcases Nat.lt_or_ge 0 C0.size with h | h
      ·exact h
      ·rw [Array.getElem?_eq_none h] at hc0; cases hc0
    refine ⟨0,0,C0,fr0,hm_of f73,⟨e0,hw0,fun h=>by cases h⟩,(fun h hh=>by rw [f73] at hh; cases hh; rfl),by show 1 + 0≤_; omega,(fun h=>by cases h),fun i v hv=>?_,(fun h=>by cases h),SeqOk.none rfl⟩
    match i,hv with
    | 0,hv=>cases hv; exact ⟨_,hc0,.iface _ _ _ (by have:=VR.ptr (β:=renF f) 74 0 be oe (hm_of f74); rw [Nat.zero_add] at this; exact this)⟩
  ·intro B B' bl bl' hg hg' hl hl' hro hne
   have hmem:=heapOf_get (m:=90) (by decide) t3.H B bl (by decide) hg
   have hmem:(B,bl) ∈ [(16,txtB),(73,eofB)]:=hmem
   simp only [List.mem_cons,List.not_mem_nil,or_false,Prod.mk.injEq] at hmem
   rcases hmem with ⟨rfl,rfl⟩ | ⟨rfl,rfl⟩ <;> cases hro
 have hFS:FS (renF f) sp3.n t3.frame { tmps:=#[.slice (some ⟨b,off,none⟩) n cap],defers:=[] }:=by
  refine ⟨rfl,by decide,fun t u hu=>.inl ?_,rfl⟩
  match t,hu with
  | 0,hu =>
   cases hu
   have:=VR.symL (β:=renF f) 16 (.lit 0) (.var 18) (.var 72) b off (hm_of f16) rfl (by simp [TI.ok,renF_len]) (by simp [TI.ok,renF_len]) (by simp [TI.den]) (by show 0≤gI _ 18; rw [g18]; omega) (by show gI _ 18≤gI _ 72; rw [g18,g72]; omega) ⟨by show gI _ 18≤1125899906842624; rw [g18]; omega,by show gI _ 72 < 9223372036854775808; rw [g72]; omega⟩
   have e1:(TI.den (renF f) (.var 18)).toNat=n:=by show (gI _ 18).toNat=n; rw [g18]; rfl
   have e2:(TI.den (renF f) (.var 72)).toNat=cap:=by show (gI _ 72).toNat=cap; rw [g72]; rfl
   have e0:(TI.den (renF f) (.lit 0)).toNat + off=off:=by simp [TI.den]
   rw [e0,e1,e2] at this
   exact this
 have p:P3 (renF f):=by
  refine ⟨⟨renF_len f,fun x B hx=>?_⟩,by rw [g18]; omega,by rw [g18,g72]; omega,by rw [g18,g17]; omega⟩
  unfold g0 at hx
  split at hx
  ·rename_i hx0
   cases hx
   rw [hx0]; exact hm_of f73
  ·cases hx
 refine ((law3 (G:={ J:=fun _ _=>False,L:=fun _ _=>False,O:=fun _ _ _ _=>False,W:=fun _ _=>False,CL:=fun _ b=>P3 b,CO:=fun _ _ _ b1=>gB b1 86=true }) (fun _ h=>h) (fun _ _ _ h=>h)) (W0.of w) (renF f) _ w hHR hFS p).mono ?_
 rintro e' w' ⟨i,v,tp,sm,β2,u,g1,g2,g3,g4,g5,g6⟩
 match i,g1 with
 | 0,g1 =>
  cases g1
  obtain ⟨t,ht,_,rfl⟩:=asB_sound (e:=x 86) g4 rfl
  have:t=.var 86:=TB.inj t (.var 86) ht.symm
  subst this
  have g5:(TB.var 86).den β2=true:=g5
  rw [g5] at g2
  exact ⟨g2,g3.below.below⟩
set_option maxRecDepth 100000
def nilS:Value:=.slice none 0 0
def zB (n:Nat):Blk:={ cells:=List.replicate n (.int .u8 0),elem:=5,ro:=false,live:=true }
def HZc (upd:List (Nat × Value)):List (Nat × Blk):=[(0,{ cells:=cellsZ (upd++[(16,.slice (some ⟨1,0,none⟩) 0 1536),(20,.slice (some ⟨2,0,none⟩) 0 512)]),elem:=76,ro:=false,live:=true }),(1,zB 1536),(2,zB 512),(73,eofB)]
def t40c:Tpl:={ m:=90,F:=[(0,pt 0),(2,.bool true)],H:=HZc [],G:=[73] }
def t28c:Tpl:={ m:=90,F:=[(2,pt 0)],H:=HZc [],G:=[73] }
def sp40c:CSpec:={ j:=40,n:=1,tin:=t40,outs:=[(.bool true,t40c,sm40)] }
def sp28c:CSpec:={ j:=28,n:=1,tin:=t40,outs:=[(.tuple #[],t28c,sm40)] }
noncomputable def E40c:Env:={ EG 40 (fun _=>none) (fun _=>false) (fun _=>none) (fun _=>none) (ftab t40c 0) (fun _=>none) with al:=fun n=>if n=1 then some [0,2,1,3,4,5] else none }
noncomputable def E28c:Env:=EG 28 (ctI 40 sp40c) (fun n=>Nat.beq n 0) (fun _=>none) (fun _=>none) (ftab t28c 0) (fun _=>none)
noncomputable def tre40c:Tre:=tre E40c 2000 (body 40) [] [] t40.frame t40.heap
noncomputable def tre28c:Tre:=tre E28c 2000 (body 28) [] [] t40.frame t40.heap
def t14z:Tpl:={ m:=90,F:=[(0,nilS)],H:=[(73,eofB)],G:=[73] }
def t14zo:Tpl:={ m:=90,F:=[(2,pt 0)],H:=HZc [(11,.func (.func 47) #[] #[]),(13,nilS)],G:=[73] }
def sp14z:CSpec:={ j:=14,n:=1,tin:=t14z,outs:=[(pt 0,t14zo,[(73,0),(74,0)])] }
noncomputable def E14z:Env:=EG 14 (ctI 28 sp28c) (fun n=>Nat.beq n 2) (fun _=>none) (fun _=>none) (ftab t14zo 0) (fun _=>none)
noncomputable def tre14z:Tre:=tre E14z 2000 (body 14) [] [] t14z.frame t14z.heap
def okZ:FuncId→Bool:=fun f=>Nat.ble 3 f && (Nat.ble f 50 && !([14,28,40].contains f))
noncomputable def callZ:ACall:=acall Tryd.prog g0 puG okZ noprim 20000 30
noncomputable def EGZ (f:Nat) (ct:FuncId→Option CSpec) (rc:Nat→Bool) (ft:AExit→Option (Nat × Tpl)):Env:={ EG f ct rc (fun _=>none) (fun _=>none) ft (fun _=>none) with call:=callZ,orc:=theOrc Tryd.prog puG g0 callZ (ntmps f) }
def t9z:Tpl:={ m:=90,F:=[(0,nilS),(1,Z 0)],H:=[(73,eofB)],G:=[73] }
def sp9z:CSpec:={ j:=9,n:=2,tin:=t9z,outs:=[(.tuple #[nilS,fv (Z 0)],tYsN,[])] }
noncomputable def E9z:Env:=EGZ 9 (ctI 14 sp14z) (fun n=>Nat.beq n 1) (ftab tYsN 0)
noncomputable def tre9z:Tre:=tre E9z 4000 (body 9) [] [] t9z.frame t9z.heap
def t3z:Tpl:={ m:=90,F:=[(0,nilS)],H:=[(73,eofB)],G:=[73] }
def t3zo:Tpl:={ m:=90,F:=[(2,.bool true)],H:=[(73,eofB)],G:=[73] }
def sp3z:CSpec:={ j:=3,n:=1,tin:=t3z,outs:=[(.bool true,t3zo,[])] }
noncomputable def E3z:Env:=EGZ 3 (ctI 9 sp9z) (fun n=>Nat.beq n 16) (ftab t3zo 0)
noncomputable def tre3z:Tre:=tre E3z 4000 (body 3) [] [] t3z.frame t3z.heap
end U
open Go Go.SM Go.Proofs Go.RowKit
namespace U
set_option maxRecDepth 100000
abbrev f10s0:SgT:=[(0,.blk 0),(73,.blk 73)]
noncomputable def lit_z40:Tre:=(.fork (lf 0 90 92 (rgs E40c.n t40c) ((74,.blk 74)::(2,.new 90)::(1,.new 91)::f10s0) [])
 (lf 0 90 92 (rgs E40c.n t40c) ((74,.blk 74)::(2,.new 91)::(1,.new 90)::f10s0) []))
theorem lit_z40_eq:tre40c=lit_z40:=by kernel_rfl
noncomputable def lit_z28:Tre:=(.call 40 90 90 (rgs sp40c.n sp40c.tin) (SgT.enc ((74,.blk 74)::f10s0)) (List.map TB.enc []) (.cons (rgs 0 t40c++rgV (.bool true)) (lf 0 90 180 (rgs E28c.n t28c) ((74,.blk 74)::(2,.blk 92)::(1,.blk 91)::f10s0) [])
 .nil))
theorem lit_z28_eq:tre28c=lit_z28:=by kernel_rfl
abbrev f10s1:SgT:=[(0,.blk 90),(73,.blk 73)]
noncomputable def lit_z14:Tre:=(.call 28 90 91 (rgs sp28c.n sp28c.tin) (SgT.enc ((74,.blk 74)::f10s1)) (List.map TB.enc []) (.cons (rgs 0 t28c++rgV (.tuple #[])) (lf 0 90 181 (rgs E14z.n t14zo) ((74,.blk 74)::(2,.blk 93)::(1,.blk 92)::f10s1) [])
 .nil))
theorem lit_z14_eq:tre14z=lit_z14:=by kernel_rfl
abbrev f10s2:SgT:=[(74,.blk 74),(73,.blk 73)]
noncomputable def lit_z9:Tre:=(.call 14 90 91 (rgs sp14z.n sp14z.tin) (SgT.enc f10s2) (List.map TB.enc []) (.cons (rgs 0 t14zo++rgV (pt 0)) (lf 0 90 181 (rgs E9z.n tYsN) [(83,.blk 90),(73,.blk 73)] [])
 .nil))
theorem lit_z9_eq:tre9z=lit_z9:=by kernel_rfl
noncomputable def lit_z3:Tre:=(.call 9 90 90 (rgs sp9z.n sp9z.tin) (SgT.enc f10s2) (List.map TB.enc []) (.cons (rgs 0 tYsN++rgV (.tuple #[nilS,fv (Z 0)])) (lf 0 90 181 (rgs E3z.n t3zo) f10s2 [])
 .nil))
theorem lit_z3_eq:tre3z=lit_z3:=by kernel_rfl
def SmZ (β γ:Ren):Prop:=γ[0]?=β[0]?∧γ[73]?=β[73]?∧γ[74]?=β[74]?
def GZc (J:Ren→Ren→Prop) (K:Ren→Ren→Prop) (β:Ren):Goal where
 J:=fun _ γ=>Ln γ∧J β γ
 L:=fun _ _=>False
 O:=fun _ _ _ _=>False
 W:=fun _ _=>False
 CL:=fun _ γ=>Ln γ
 CO:=fun _ _ γ γ1=>Ln γ1∧K γ γ1
def Sm2 (β γ:Ren):Prop:=γ[73]?=β[73]?∧γ[74]?=β[74]?
theorem fnsZ:FnsOk Tryd.prog puG okZ:=fnsOk_of (by kernel_rfl)
theorem callOkZ:CallOk Tryd.prog { g:=g0,A:=[],pu:=puG } callZ:=acall_sound noNum follows fnsZ (noprim_ok _ _) 30
theorem hold_z40 {β:Ren} (hn:Ln β):lit_z40.Holds (GZc SmZ (fun _ _=>True) β) β:=by
 unfold lit_z40
 have hβ:=hn.1
 refine (fork_of (leaf_gen [] hβ (by kernel_rfl) (by kernel_rfl) ?_) (leaf_gen [] hβ (by kernel_rfl) (by kernel_rfl) ?_))
 ·intro δ0 γ0 hl0 hA hr0 hid0 hI
  clear hA
  simp only [DD,aL hβ,Nat.reduceLT,Nat.reduceLeDiff,Nat.reduceSub] at hI
  obtain ⟨i74,i0,i73⟩:=hI
  exact ⟨hn.of i73 hl0,i0,i73,i74⟩
 ·intro δ0 γ0 hl0 hA hr0 hid0 hI
  clear hA
  simp only [DD,aL hβ,Nat.reduceLT,Nat.reduceLeDiff,Nat.reduceSub] at hI
  obtain ⟨i74,i0,i73⟩:=hI
  exact ⟨hn.of i73 hl0,i0,i73,i74⟩
theorem hold_z28 {β:Ren} (hn:Ln β):lit_z28.Holds (GZc SmZ SmZ β) β:=by
 unfold lit_z28
 have hβ:=hn.1
 refine (call_of [] hβ (by kernel_rfl) (by kernel_rfl) ?_)
 ·intro γ0 hl0 hA hr0 hid0 hI
  clear hA
  simp only [DD] at hI
  obtain ⟨i74,i0,i73⟩:=hI
  have hL0:(GZc SmZ SmZ β).CL 40 γ0:=hn.of i73 hl0
  refine ⟨hL0,(callo_cons ?_ callo_nil)⟩
  ·intro β1 hq1 hO1
   obtain ⟨hn1,z⟩:=hO1
   have hb1:=app_len hβ hn1.1
   simp only [Nat.reduceAdd] at hb1
   refine (leaf_o [] hb1 ?_)
   ·intro γ1 hl1 hA hr1 hid1 hI
    clear hA
    simp only [DD,aA hβ,Nat.reduceLT,Nat.reduceLeDiff,Nat.reduceSub] at hI
    obtain ⟨j74,j2,j1,j0,j73⟩:=hI
    exact ⟨hn.of j73 hl1,j0,j73,j74⟩
theorem hold_z14 {β:Ren} (hn:Ln β):lit_z14.Holds (GZc Sm2 SmZ β) β:=by
 unfold lit_z14
 have hβ:=hn.1
 refine (call_gen [] hβ (by kernel_rfl) (by kernel_rfl) ?_)
 ·intro δ0 hδ0 γ0 hl0 hA hr0 hid0 hI
  clear hA
  simp only [DD,aL hβ,Nat.reduceLT,Nat.reduceLeDiff,Nat.reduceSub] at hI
  obtain ⟨i74,i0,i73⟩:=hI
  have hL0:(GZc Sm2 SmZ β).CL 28 γ0:=hn.of i73 hl0
  refine ⟨hL0,(callo_cons ?_ callo_nil)⟩
  ·intro β1 hq1 hO1
   obtain ⟨hn1,z⟩:=hO1
   have hb1:=app_len hδ0 hn1.1
   simp only [Nat.reduceAdd] at hb1
   refine (leaf_o [] hb1 ?_)
   ·intro γ1 hl1 hA hr1 hid1 hI
    clear hA
    simp only [DD,aL hβ,aA hδ0,Nat.reduceLT,Nat.reduceLeDiff,Nat.reduceSub] at hI
    obtain ⟨j74,j2,j1,j0,j73⟩:=hI
    exact ⟨hn.of j73 hl1,j73,j74⟩
theorem hold_z9 {β:Ren} (hn:Ln β):lit_z9.Holds (GZc (fun _ _=>True) Sm2 β) β:=by
 unfold lit_z9
 have hβ:=hn.1
 refine (call_gen [] hβ (by kernel_rfl) (by kernel_rfl) ?_)
 ·intro δ0 hδ0 γ0 hl0 hA hr0 hid0 hI
  clear hA
  simp only [DD,aL hβ,Nat.reduceLT,Nat.reduceLeDiff,Nat.reduceSub] at hI
  obtain ⟨i74,i73⟩:=hI
  have hL0:(GZc (fun _ _=>True) Sm2 β).CL 14 γ0:=hn.of i73 hl0
  refine ⟨hL0,(callo_cons ?_ callo_nil)⟩
  ·intro β1 hq1 hO1
   obtain ⟨hn1,z⟩:=hO1
   have hb1:=app_len hδ0 hn1.1
   simp only [Nat.reduceAdd] at hb1
   refine (leaf_o [] hb1 ?_)
   ·intro γ1 hl1 hA hr1 hid1 hI
    clear hA
    simp only [DD,aL hβ,aA hδ0,Nat.reduceLT,Nat.reduceLeDiff,Nat.reduceSub] at hI
    obtain ⟨j83,j73⟩:=hI
    exact ⟨hn.of j73 hl1,trivial⟩
theorem hold_z3 {β:Ren} (hn:Ln β):lit_z3.Holds (GZc (fun _ _=>True) (fun _ _=>True) β) β:=by
 unfold lit_z3
 have hβ:=hn.1
 refine (call_of [] hβ (by kernel_rfl) (by kernel_rfl) ?_)
 ·intro γ0 hl0 hA hr0 hid0 hI
  clear hA
  simp only [DD] at hI
  obtain ⟨i74,i73⟩:=hI
  have hL0:(GZc (fun _ _=>True) (fun _ _=>True) β).CL 9 γ0:=hn.of i73 hl0
  refine ⟨hL0,(callo_cons ?_ callo_nil)⟩
  ·intro β1 hq1 hO1
   obtain ⟨hn1,z⟩:=hO1
   have hb1:=app_len hβ hn1.1
   simp only [Nat.reduceAdd] at hb1
   refine (leaf_gen [] hb1 (by kernel_rfl) (by kernel_rfl) ?_)
   ·intro δ1 γ1 hl1 hA hr1 hid1 hI
    clear hA
    simp only [DD,aA hβ,aL hb1,Nat.reduceLT,Nat.reduceLeDiff,Nat.reduceSub] at hI
    obtain ⟨j74,j73⟩:=hI
    exact ⟨hn.of j73 hl1,trivial⟩
theorem law_z40 {G:Goal} (hCL:∀ β,G.CL 40 β→Ln β) (hCO:∀ β β1,G.CL 40 β→Ln β1→SmZ β β1→G.CO 40 0 β β1):CLaw Tryd.prog G 40 sp40c:=by
 refine claw_of (E:=E40c) (Gt:=GZc SmZ (fun _ _=>True)) (fn:=fnAt 40) (c:=body 40) (s:=sp40c) noNum callOkG follows (by kernel_rfl) (by kernel_rfl) (by kernel_rfl) (by kernel_rfl) (by kernel_rfl) (by kernel_rfl) ?_ ?_ ?_ (fun β w0 r s c h=>by rcases h with h | h <;> cases h) (fun β j i β1 β2 h=>h.elim) (fun β r s h=>by rcases h with h | h <;> cases h) (fun β=>noLaws)
 ·intro e j tp h
  have h:=h.resolve_right fun h=>by cases h
  cases e with
  | normal=>cases h; exact ⟨(fun id h=>by cases h),.bool true,by kernel_rfl,_,rfl⟩
  | ret=>cases h; exact ⟨(fun id h=>by cases h),.bool true,by kernel_rfl,_,rfl⟩
  | exit id=>cases h
 ·intro β hcl hlen hr
  have p:=hCL β hcl
  refine ⟨p.2,[],2000,Facts.nil _,?_⟩
  show (tre40c).Holds _ β
  rw [lit_z40_eq]
  exact hold_z40 p
 ·intro β j v tp sm β1 hcl hout hlen _ hJ
  match j,hout with
  | 0,hout =>
   cases hout
   refine ⟨hCO β β1 hcl hJ.1 hJ.2,fun x hx=>?_⟩
   have hx:x ∈ [(0,0),(73,0),(74,0)]:=hx
   obtain ⟨q0,q1,q2⟩:=hJ.2
   simp only [List.mem_cons,List.not_mem_nil,or_false] at hx
   rcases hx with rfl | rfl | rfl
   ·exact q0
   ·exact q1
   ·exact q2
theorem law_z28 {G:Goal} (hCL:∀ β,G.CL 28 β→Ln β) (hCO:∀ β β1,G.CL 28 β→Ln β1→SmZ β β1→G.CO 28 0 β β1):CLaw Tryd.prog G 28 sp28c:=by
 refine claw_of (E:=E28c) (Gt:=GZc SmZ SmZ) (fn:=fnAt 28) (c:=body 28) (s:=sp28c) noNum callOkG follows (by kernel_rfl) (by kernel_rfl) (by kernel_rfl) (by kernel_rfl) (by kernel_rfl) (by kernel_rfl) ?_ ?_ ?_ (fun β w0 r s c h=>by rcases h with h | h <;> cases h) (fun β j i β1 β2 h=>h.elim) (fun β r s h=>by rcases h with h | h <;> cases h) (fun β=>ctI_laws (law_z40 (fun _ h=>h) (fun _ _ _ a b=>⟨a,b⟩)))
 ·intro e j tp h
  have h:=h.resolve_right fun h=>by cases h
  cases e with
  | normal=>cases h; exact ⟨(fun id h=>by cases h),.tuple #[],by kernel_rfl,_,rfl⟩
  | ret=>cases h; exact ⟨(fun id h=>by cases h),.tuple #[],by kernel_rfl,_,rfl⟩
  | exit id=>cases h
 ·intro β hcl hlen hr
  have p:=hCL β hcl
  refine ⟨p.2,[],2000,Facts.nil _,?_⟩
  show (tre28c).Holds _ β
  rw [lit_z28_eq]
  exact hold_z28 p
 ·intro β j v tp sm β1 hcl hout hlen _ hJ
  match j,hout with
  | 0,hout =>
   cases hout
   refine ⟨hCO β β1 hcl hJ.1 hJ.2,fun x hx=>?_⟩
   have hx:x ∈ [(0,0),(73,0),(74,0)]:=hx
   obtain ⟨q0,q1,q2⟩:=hJ.2
   simp only [List.mem_cons,List.not_mem_nil,or_false] at hx
   rcases hx with rfl | rfl | rfl
   ·exact q0
   ·exact q1
   ·exact q2
theorem law_z14 {G:Goal} (hCL:∀ β,G.CL 14 β→Ln β) (hCO:∀ β β1,G.CL 14 β→Ln β1→Sm2 β β1→G.CO 14 0 β β1):CLaw Tryd.prog G 14 sp14z:=by
 refine claw_of (E:=E14z) (Gt:=GZc Sm2 SmZ) (fn:=fnAt 14) (c:=body 14) (s:=sp14z) noNum callOkG follows (by kernel_rfl) (by kernel_rfl) (by kernel_rfl) (by kernel_rfl) (by kernel_rfl) (by kernel_rfl) ?_ ?_ ?_ (fun β w0 r s c h=>by rcases h with h | h <;> cases h) (fun β j i β1 β2 h=>h.elim) (fun β r s h=>by rcases h with h | h <;> cases h) (fun β=>ctI_laws (law_z28 (fun _ h=>h) (fun _ _ _ a b=>⟨a,b⟩)))
 ·intro e j tp h
  have h:=h.resolve_right fun h=>by cases h
  cases e with
  | normal=>cases h; exact ⟨(fun id h=>by cases h),pt 0,by kernel_rfl,_,rfl⟩
  | ret=>cases h; exact ⟨(fun id h=>by cases h),pt 0,by kernel_rfl,_,rfl⟩
  | exit id=>cases h
 ·intro β hcl hlen hr
  have p:=hCL β hcl
  refine ⟨p.2,[],2000,Facts.nil _,?_⟩
  show (tre14z).Holds _ β
  rw [lit_z14_eq]
  exact hold_z14 p
 ·intro β j v tp sm β1 hcl hout hlen _ hJ
  match j,hout with
  | 0,hout =>
   cases hout
   refine ⟨hCO β β1 hcl hJ.1 hJ.2,fun x hx=>?_⟩
   have hx:x ∈ [(73,0),(74,0)]:=hx
   obtain ⟨q1,q2⟩:=hJ.2
   simp only [List.mem_cons,List.not_mem_nil,or_false] at hx
   rcases hx with rfl | rfl
   ·exact q1
   ·exact q2
theorem law_z9 {G:Goal} (hCL:∀ β,G.CL 9 β→Ln β) (hCO:∀ β β1,G.CL 9 β→Ln β1→(fun _ _=>True) β β1→G.CO 9 0 β β1):CLaw Tryd.prog G 9 sp9z:=by
 refine claw_of (E:=E9z) (Gt:=GZc (fun _ _=>True) Sm2) (fn:=fnAt 9) (c:=body 9) (s:=sp9z) noNum callOkZ follows (by kernel_rfl) (by kernel_rfl) (by kernel_rfl) (by kernel_rfl) (by kernel_rfl) (by kernel_rfl) ?_ ?_ ?_ (fun β w0 r s c h=>by rcases h with h | h <;> cases h) (fun β j i β1 β2 h=>h.elim) (fun β r s h=>by rcases h with h | h <;> cases h) (fun β=>ctI_laws (law_z14 (fun _ h=>h) (fun _ _ _ a b=>⟨a,b⟩)))
 ·intro e j tp h
  have h:=h.resolve_right fun h=>by cases h
  cases e with
  | normal=>cases h; exact ⟨(fun id h=>by cases h),.tuple #[nilS,fv (Z 0)],by kernel_rfl,_,rfl⟩
  | ret=>cases h; exact ⟨(fun id h=>by cases h),.tuple #[nilS,fv (Z 0)],by kernel_rfl,_,rfl⟩
  | exit id=>cases h
 ·intro β hcl hlen hr
  have p:=hCL β hcl
  refine ⟨p.2,[],4000,Facts.nil _,?_⟩
  show (tre9z).Holds _ β
  rw [lit_z9_eq]
  exact hold_z9 p
 ·intro β j v tp sm β1 hcl hout hlen _ hJ
  match j,hout with
  | 0,hout =>
   cases hout
   refine ⟨hCO β β1 hcl hJ.1 hJ.2,fun x hx=>?_⟩
   cases hx
theorem law_z3 {G:Goal} (hCL:∀ β,G.CL 3 β→Ln β) (hCO:∀ β β1,G.CL 3 β→Ln β1→(fun _ _=>True) β β1→G.CO 3 0 β β1):CLaw Tryd.prog G 3 sp3z:=by
 refine claw_of (E:=E3z) (Gt:=GZc (fun _ _=>True) (fun _ _=>True)) (fn:=fnAt 3) (c:=body 3) (s:=sp3z) noNum callOkZ follows (by kernel_rfl) (by kernel_rfl) (by kernel_rfl) (by kernel_rfl) (by kernel_rfl) (by kernel_rfl) ?_ ?_ ?_ (fun β w0 r s c h=>by rcases h with h | h <;> cases h) (fun β j i β1 β2 h=>h.elim) (fun β r s h=>by rcases h with h | h <;> cases h) (fun β=>ctI_laws (law_z9 (fun _ h=>h) (fun _ _ _ a b=>⟨a,b⟩)))
 ·intro e j tp h
  have h:=h.resolve_right fun h=>by cases h
  cases e with
  | normal=>cases h; exact ⟨(fun id h=>by cases h),.bool true,by kernel_rfl,_,rfl⟩
  | ret=>cases h; exact ⟨(fun id h=>by cases h),.bool true,by kernel_rfl,_,rfl⟩
  | exit id=>cases h
 ·intro β hcl hlen hr
  have p:=hCL β hcl
  refine ⟨p.2,[],4000,Facts.nil _,?_⟩
  show (tre3z).Holds _ β
  rw [lit_z3_eq]
  exact hold_z3 p
 ·intro β j v tp sm β1 hcl hout hlen _ hJ
  match j,hout with
  | 0,hout =>
   cases hout
   refine ⟨hCO β β1 hcl hJ.1 hJ.2,fun x hx=>?_⟩
   cases hx
theorem law_nil {w:World} (he:EofOk w):Calls Tryd.prog 3 #[.slice none 0 0] w fun e w'=>e=.returned (.bool true)∧Below w.heap.size w w':=by
 obtain ⟨be,oe,C0,fr0,e0,hc0,hw0⟩:=he
 generalize hf:hmF 0 0 0 0 0 C0.size be oe []=f
 have f73:(renF f)[73]?=some { b:=0,s:=0,top:=C0.size }:=by rw [renF_get f (by decide),← hf]; rfl
 have f74:(renF f)[74]?=some { b:=be,s:=oe,top:=0 }:=by rw [renF_get f (by decide),← hf]; rfl
 have hHR:HR (W0.of w) (renF f) t3z.heap w:=by
  refine ⟨by rw [renF_len]; exact (heapOf_size _ _).symm,by show (heapOf 90 t3z.H).size≤_; rw [heapOf_size]; decide,?_,?_,Kept.refl _⟩
  ·intro B bl hg hl
   have hmem:=heapOf_get (m:=90) (by decide) t3z.H B bl (by decide) hg
   have hmem:(B,bl) ∈ [(73,eofB)]:=hmem
   simp only [List.mem_cons,List.not_mem_nil,or_false,Prod.mk.injEq] at hmem
   obtain ⟨rfl,rfl⟩:=hmem
   have hs0:0 < C0.size:=by
    rcases Nat.lt_or_ge 0 C0.size with h | h
    ·exact h
    ·rw [Array.getElem?_eq_none h] at hc0; cases hc0
   refine ⟨0,0,C0,fr0,hm_of f73,⟨e0,hw0,fun h=>by cases h⟩,(fun h hh=>by rw [f73] at hh; cases hh; rfl),by show 1 + 0≤_; omega,(fun h=>by cases h),fun i v hv=>?_,(fun h=>by cases h),SeqOk.none rfl⟩
   match i,hv with
   | 0,hv=>cases hv; exact ⟨_,hc0,.iface _ _ _ (by have:=VR.ptr (β:=renF f) 74 0 be oe (hm_of f74); rw [Nat.zero_add] at this; exact this)⟩
  ·intro B B' bl bl' hg hg' hl hl' hro hne
   have hmem:=heapOf_get (m:=90) (by decide) t3z.H B bl (by decide) hg
   have hmem:(B,bl) ∈ [(73,eofB)]:=hmem
   simp only [List.mem_cons,List.not_mem_nil,or_false,Prod.mk.injEq] at hmem
   obtain ⟨rfl,rfl⟩:=hmem
   cases hro
 have hFS:FS (renF f) sp3z.n t3z.frame { tmps:=#[.slice none 0 0],defers:=[] }:=by
  refine ⟨rfl,by decide,fun t u hu=>.inl ?_,rfl⟩
  match t,hu with
  | 0,hu=>cases hu; exact .sl0 0 0
 have p:Ln (renF f):=by
  refine ⟨renF_len f,fun x B hx=>?_⟩
  unfold g0 at hx
  split at hx
  ·rename_i hx0
   cases hx
   rw [hx0]; exact hm_of f73
  ·cases hx
 refine ((law_z3 (G:={ J:=fun _ _=>False,L:=fun _ _=>False,O:=fun _ _ _ _=>False,W:=fun _ _=>False,CL:=fun _ b=>Ln b,CO:=fun _ _ _ _=>True }) (fun _ h=>h) (fun _ _ _ _ _=>trivial)) (W0.of w) (renF f) _ w hHR hFS p).mono ?_
 rintro e' w' ⟨i,v,tp,sm,β2,u,g1,g2,g3,g4,g5,g6⟩
 match i,g1 with
 | 0,g1 =>
  cases g1
  have:u=.bool true:=g4.eq_of_ground rfl
  subst this
  exact ⟨g2,g3.below.below⟩
end U
