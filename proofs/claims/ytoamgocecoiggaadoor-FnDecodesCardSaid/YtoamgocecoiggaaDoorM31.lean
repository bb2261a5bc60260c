-- the statement of this claim: see YtoamgocecoiggaaDoorRw
import Derived.Test.YtoamgocecoiggaaDoorM30
set_option linter.unusedVariables false
set_option linter.unusedSimpArgs false
open Go Go.SM Go.Proofs
namespace Go.SM
theorem HR.recast {w0:W0} {β:Ren} {w:World} {m:Nat} {l l':List (Nat × Blk)} (hm:m≤2 ^ 20) (hk:keysNd m l=true) (hk':∀ p ∈ l',p.1 < m)
    (hc:∀ i b',(i,b') ∈ l'→∃ b,(i,b) ∈ l∧b'.elem=b.elem∧b'.ro=b.ro∧b'.live=b.live∧b'.seq=b.seq∧b'.cells.length=b.cells.length∧∀ (k:Nat) (v':Value),b'.cells[k]?=some v'→∃ v,b.cells[k]?=some v∧∀ u,VR β v u→VR β v' u)
    (h:HR w0 β (heapOf m l) w):HR w0 β (heapOf m l') w:=by
 refine ⟨by rw [h.len,heapOf_size,heapOf_size],by rw [heapOf_size]; exact hm,?_,?_,h.below⟩
 ·intro B b' hg hl
  obtain ⟨b,hb,e1,e2,e3,e4,e5,e6⟩:=hc B b' (heapOf_get hm l' B b' hk' hg)
  obtain ⟨c,s,C,fr,q1,⟨el,q2,q3⟩,q4,q5,q6,q7,q8,q9⟩:=h.blk B b (heapOf_mem hm hk hb) (by rw [← e3]; exact hl)
  refine ⟨c,s,C,fr,q1,⟨el,q2,fun hro=>by rw [e1]; exact q3 (by rw [← e2]; exact hro)⟩,q4,by rw [e5]; exact q5,fun hro=>q6 (by rw [← e2]; exact hro),fun i v' hi=>?_,fun hro=>q8 (by rw [← e2]; exact hro),fun e he=>q9 e (by rw [← e4]; exact he)⟩
  obtain ⟨v,hv,hvv⟩:=e6 i v' hi
  obtain ⟨u,hu,hvu⟩:=q7 i v hv
  exact ⟨u,hu,hvv u hvu⟩
 ·intro B C b' c' hg hg' hl hl' hro hne
  obtain ⟨b,hb,e1,e2,e3,_⟩:=hc B b' (heapOf_get hm l' B b' hk' hg)
  obtain ⟨c,hcc,f1,f2,f3,_⟩:=hc C c' (heapOf_get hm l' C c' hk' hg')
  exact h.inj B C b c (heapOf_mem hm hk hb) (heapOf_mem hm hk hcc) (by rw [← e3]; exact hl) (by rw [← f3]; exact hl') (by rw [← e2]; exact hro) hne
end Go.SM
namespace U
set_option maxRecDepth 100000
theorem cells17:cellsP ([(17,Z 0)]++updP)=(cellsP ([]++updP)).set 17 (Z 0):=by rfl
theorem cell17:(cellsP ([]++updP))[17]?=some (.map (some (3 * 37 + 1))):=by rfl
theorem to_tX0 {w0:W0} {β:Ren} {w:World} (h:HR w0 β tX.heap w) (h37:gV β 37=some (.int .i64 0)):HR w0 β tX0.heap w:=by
 refine HR.recast (m:=90) (l:=HP []) (l':=HP [(17,Z 0)]) (by decide) (by rfl) (fun p hp=>?_) ?_ h
 ·have:(HP [(17,Z 0)]).all (fun p=>Nat.blt p.1 90)=true:=by rfl
  exact Nat.le_of_ble_eq_true (List.all_eq_true.1 this p hp)
 ·intro i b' hb
  simp only [HP,List.mem_cons,List.not_mem_nil,or_false,Prod.mk.injEq] at hb
  have same:(i,b') ∈ HP []→∃ b,(i,b) ∈ HP []∧b'.elem=b.elem∧b'.ro=b.ro∧b'.live=b.live∧b'.seq=b.seq∧b'.cells.length=b.cells.length∧∀ (k:Nat) (v':Value),b'.cells[k]?=some v'→∃ v,b.cells[k]?=some v∧∀ u,VR β v u→VR β v' u :=
   fun hm=>⟨b',hm,rfl,rfl,rfl,rfl,rfl,fun k v' hv=>⟨v',hv,fun _ h=>h⟩⟩
  rcases hb with ⟨rfl,rfl⟩ | ⟨rfl,rfl⟩ | ⟨rfl,rfl⟩ | ⟨rfl,rfl⟩ | ⟨rfl,rfl⟩
  ·refine ⟨_,List.mem_cons_self ..,rfl,rfl,rfl,rfl,by rw [cells17]; simp,fun k v' hv=>?_⟩
   rw [show (({ cells:=cellsP ([(17,Z 0)]++updP),elem:=76,ro:=false,live:=true }:Blk).cells)=(cellsP ([]++updP)).set 17 (Z 0) from cells17,List.getElem?_set] at hv
   split at hv
   ·rename_i e
    subst e
    refine ⟨_,cell17,fun u hu=>?_⟩
    have:v'=Z 0:=by
     split at hv
     ·cases hv; rfl
     ·cases hv
    subst this
    have:=hu.opq_inv
    rw [h37] at this
    cases this
    exact .int .i64 0
   ·exact ⟨v',hv,fun _ h=>h⟩
  ·exact same (by simp [HP])
  ·exact same (by simp [HP])
  ·exact same (by simp [HP])
  ·exact same (by simp [HP])
noncomputable def muO (β:Ren):Nat:=(gI β 18 - gI β 19).toNat + (gI β 12 - gI β 8).toNat + (if gB β 13=true then 1 else 0)
theorem rgs_O:rgs (ntmps 42) tO=rgs (ntmps 42) tA:=by kernel_rfl
theorem sp25_ok {w0:W0} {β0:Ren}:LoopOk EO w0 (GO β0) sp25 (.loop inner):=by
 intro Q β a w hH hF hl hQ
 refine wpL_loop (inner_law _ β a w (Nat.le_refl _) hl hH hF ?_ ?_)
 ·intro β1 a' w' h1 h2 h3
  obtain ⟨cs,q1,q2,q3⟩:=h1
  exact hQ 0 (.exit 2) tA [] rfl β1 a' w' h2 h3 ⟨q2.n,⟨cs,q1,q2,q3⟩⟩
 ·intro β1 a' w' h1 h2 h3
  have:Inv β:=hl
  exact hQ 1 .ret tE [] rfl β1 a' w' h2 h3 ⟨this.n.of h1.1.2 h2.len,h1⟩
theorem ob_ro {β β1:Ren} {cs:List Int} (o:OB β) (h:RO β β1 cs []):OB β1:=by
 have e:=encs_len cs
 have:=h.bl; have:=h.un; have:=o.b5; have:=o.off; have:=h.off
 simp only [List.length_nil] at *
 exact ⟨h.p,by rw [h.len]; exact o.buf,by omega,by omega⟩
theorem outer_law {w0:W0} {Q:Exit→Act→World→Prop}:∀ (m:Nat) (β:Ren) (a:Act) (w:World),muO β≤m→OB β→HR w0 β tO.heap w→FS β (ntmps 42) tO.frame a →
    (∀ β1 a' w',XO β β1→HR w0 β1 tX.heap w'→FS β1 (ntmps 42) tX.frame a'→Q (.exit 0) a' w') →
    (∀ β1 a' w',Ln β1→EO2 β β1→HR w0 β1 tE.heap w'→FS β1 (ntmps 42) tE.frame a'→Q .ret a' w')→wpL Tryd.prog outer Q a w:=by
 intro m
 induction m using Nat.strongRecOn with
 | ind m ih =>
  intro β a w hm o hH hF h1 h2
  have r:RA β:=ra_of (by rw [← rgs_O]; exact rgs_sound hH hF)
  refine wpL_round (wp_of_tre (E:=EO) (G:=GO β) noNum callOk follows (by show (treO []).Holds _ _; rw [lit_tO_eq]; exact hold_tO o r) o.p.n.2 hH (Facts.nil _) hF ?_ ?_ ?_ ?_ (ct49_laws (fun _ h=>h) (fun _ _ _ _ a b=>⟨a,b⟩)))
  ·intro j e tp β1 a' w' hft q1 q2 q3
   cases e with
   | normal =>
    cases hft
    obtain ⟨cs,ro,hf,h13,hp,hlt⟩:=q3
    have e18:=ro.s.i18; have e12:=ro.s.i12; have un:=ro.un; have b19:=ro.b19; have p1:=ro.p.inp
    have hlt2:muO β1 < m:=by
     refine Nat.lt_of_lt_of_le ?_ hm
     unfold muO
     rw [h13,if_neg (by decide)]
     simp only [List.length_nil] at un
     rcases hp with hp | hp | hp
     ·rw [if_pos hp]; omega
     ·have : 0 < cs.length := by cases cs with
        | nil=>exact (hp rfl).elim
        | cons _ _=>simp
      split <;> omega
     ·split <;> omega
    refine ih (muO β1) hlt2 β1 a' w' (Nat.le_refl _) (ob_ro o ro) q1 q2 ?_ ?_
    ·intro β2 a2 w2 ⟨ds,hx⟩
     refine h1 β2 a2 w2 ⟨cs++ds,?_⟩
     rcases hx with ⟨x1,x2⟩ | ⟨x1,x2,x3⟩
     ·exact .inl ⟨ro.trans x1,x2⟩
     ·exact .inr ⟨ro.trans x1,x2,x3⟩
    ·intro β2 a2 w2 hn ⟨x1,ds,R,x2,x3⟩
     refine h2 β2 a2 w2 hn ⟨⟨x1.1.trans ro.s.h0,x1.2.trans ro.s.h73⟩,cs++ds,R,?_,by rw [← ro.s.i10]; exact x3⟩
     exact ro.dr.append (by rw [← ro.s.i10]; exact x2)
   | ret=>cases hft; exact h2 β1 a' w' (o.p.n.of q3.1.2 q1.len) q3 q1 q2
   | exit id =>
    match id,hft with
    | 0,hft=>cases hft; exact h1 β1 a' w' q3 q1 q2
  ·intro r s c hs hw
   rcases hs with hs | hs
   ·have hs:lt25 r=some s:=hs
    unfold lt25 at hs
    split at hs
    ·cases hs
     cases (hw:c=.loop inner)
     exact sp25_ok
    ·cases hs
   ·cases hs
  ·intro j i β1 β2 h
   match i,h with
   | 0,h=>exact h.1.2
   | 1,h=>exact h.1.2
  ·intro r s hs i e tp B hi β1 β2 _
   refine facts_nil_of ?_
   rcases hs with hs | hs
   ·have hs:lt25 r=some s:=hs
    unfold lt25 at hs
    split at hs
    ·cases hs
     match i,hi with
     | 0,hi=>cases hi; rfl
     | 1,hi=>cases hi; rfl
    ·cases hs
   ·cases hs
set_option maxRecDepth 100000
def Mk (e0:Int) (R:List UInt8) (e:Int) (R1:List UInt8):Prop:=(e0≠0∧e=e0∧R1=R)∨(e0=0∧∃ bom:List UInt8,R=bom++R1∧((bom=[255,254]∧e=2)∨(bom=[254,255]∧e=3)∨(bom=[239,187,191]∧e=1) ∨
    (bom=[]∧e=1∧¬ [255,254] <+: R∧¬ [254,255] <+: R∧¬ [239,187,191] <+: R)))
noncomputable def win (β:Ren):List UInt8:=((gL β 3).take (gI β 75).toNat).drop (gI β 76).toNat
structure PU (β:Ren):Prop where
 p:PR β
 buf:(gL β 3).length=1536
 le:gI β 76≤gI β 75
 b5:gI β 75 - gI β 76≤4 * gI β 8 + 20
 b6:gI β 8≤gI β 75 - gI β 76
 off:gI β 9 + (restB β).length≤4000000
structure RU (β:Ren):Prop extends RR β where
 i12:0≤gI β 12∧gI β 12≤100
 i75:0≤gI β 75∧gI β 75≤1536
 i76:0≤gI β 76∧gI β 76≤1536
 i8:0≤gI β 8∧gI β 8≤2000
 i10:0≤gI β 10∧gI β 10≤3
 i9:0≤gI β 9∧gI β 9≤10000000
structure Us (β γ:Ren):Prop where
 h0:γ[0]?=β[0]?
 h1:γ[1]?=β[1]?
 h2:γ[2]?=β[2]?
 h16:γ[16]?=β[16]?
 h73:γ[73]?=β[73]?
 h74:γ[74]?=β[74]?
 l17:gL γ 17=gL β 17
 i18:gI γ 18=gI β 18
 i72:gI γ 72=gI β 72
 op:∀ i ∈ opX,gV γ i=gV β i
theorem Us.trans {a b c:Ren} (h:Us a b) (g:Us b c):Us a c:=⟨g.h0.trans h.h0,g.h1.trans h.h1,g.h2.trans h.h2,g.h16.trans h.h16,g.h73.trans h.h73,g.h74.trans h.h74,g.l17.trans h.l17,g.i18.trans h.i18,g.i72.trans h.i72,fun i hi=>(g.op i hi).trans (h.op i hi)⟩
theorem opX_A:∀ i ∈ opX,i ∈ opA:=by decide
theorem Os.us {a b:Ren} (h:Os a b):Us a b:=⟨h.h0,h.h1,h.h2,h.h16,h.h73,h.h74,h.l17,h.i18,h.i72,fun i hi=>h.op i (opX_A i hi)⟩
theorem Fp.us {a b:Ren} (h:Fp a b):Us a b:=⟨h.h0,h.h1,h.h2,h.h16,h.h73,h.h74,h.l17,h.i18,h.i72,h.op⟩
structure UT (β γ:Ren):Prop where
 s:Us β γ
 p:PR γ
 buf:(gL γ 3).length=1536
 le:0≤gI γ 76∧gI γ 76≤gI γ 75∧gI γ 75≤1536
 b19:gI β 19≤gI γ 19
 cs:(gI β 12≤gI β 8∧win γ=win β∧gI γ 8=gI β 8∧gI γ 9=gI β 9∧gI γ 10=gI β 10∧restB γ=restB β∧gB γ 11=gB β 11) ∨
  (gI β 8 < gI β 12∧∃ (R1:List UInt8) (cs:List Int) (z:List UInt8) (k:Nat),Mk (gI β 10) (restB β) (gI γ 10) R1∧1≤gI γ 10∧DR (gI γ 10) R1 cs (restB γ)∧win γ=win β++encs cs++z++List.replicate k 0∧gI γ 8=gI β 8 + cs.length + z.length ∧
   gI γ 9 + (restB γ).length=gI β 9 + (restB β).length∧gI β 12≤gI γ 75 - gI γ 76∧((z=[]∧k=0∧gI β 12≤gI γ 8)∨(z=[0]∧gB γ 11=true∧restB γ=[]∧(k=0∨((win γ).length:Int)=gI β 12))))
def UE (β γ:Ren):Prop:=Er β γ∧∃ (e:Int) (R1:List UInt8) (cs:List Int) (R:List UInt8),Mk (gI β 10) (restB β) e R1∧DR e R1 cs R∧BadL e R
structure St (β γ:Ren):Prop where
 s:Us β γ
 i12:gI γ 12=gI β 12
 ob:OB γ
 v37:gV γ 37=some (.int .i64 0)
 w:(gL γ 3).take (gI γ 5).toNat=win β
 i5:gI γ 5=gI β 75 - gI β 76
 i8:gI γ 8=gI β 8
 mrk:Mk (gI β 10) (restB β) (gI γ 10) (restB γ)
 e10:1≤gI γ 10
 off:gI γ 9 + (restB γ).length=gI β 9 + (restB β).length
 b19:gI β 19≤gI γ 19
theorem op37:37 ∈ opA:=by decide
theorem XO.v37 {β γ:Ren} (h:XO β γ) (hv:gV β 37=some (.int .i64 0)):gV γ 37=some (.int .i64 0):=by
 obtain ⟨cs,⟨h,_⟩ | ⟨h,_⟩⟩:=h
 ·rw [h.s.op 37 op37,hv]
 ·rw [h.s.op 37 op37,hv]
theorem XO.ln {β γ:Ren} (h:XO β γ):Ln γ:=by
 obtain ⟨cs,⟨h,_⟩ | ⟨h,_⟩⟩:=h
 ·exact h.p.n
 ·exact h.p.n
theorem XO.buf {β γ:Ren} (h:XO β γ) (hb:(gL β 3).length=1536):(gL γ 3).length=1536:=by
 obtain ⟨cs,⟨h,_⟩ | ⟨h,_⟩⟩:=h
 ·rw [h.len]; exact hb
 ·rw [h.len]; exact hb
theorem Fp.pr {a b:Ren} (f:Fp a b) (p:PR a) (hn:Ln b):PR b:=p.of hn f.l4 f.i6 f.i7 f.b11 f.l17 f.i18 f.i19
theorem Fp.rest {a b:Ren} (f:Fp a b):restB b=restB a:=rest_of f.l4 f.i6 f.i7 f.l17 f.i18 f.i19
theorem ut_end {β γ x m n γ2:Ren} (pu:PU β) (hlt:gI β 8 < gI β 12) (st:St β γ) (hx:XO γ x) (fm:Fp x m) (m3:gL m 3=gL x 3) (m5:gI m 5=gI x 5) (hmn:Ln m) (hp:PdE m n) (hnn:Ln n) (hg:Ln γ2)
    (f2:Fp n γ2) (g3:gL γ2 3=gL n 3) (g75:gI γ2 75=gI n 5) (g76:gI γ2 76=0) (h5:0≤gI γ 5) (h12:gI β 12≤100) (hn5:gI n 5≤1536):UT β γ2:=by
 obtain ⟨k,pk,hk1,hk2⟩:=hp
 have fa:Fp x γ2:=(fm.trans pk.f).trans f2
 have b6:=pu.b6
 have si5:=st.i5; have si8:=st.i8
 have e5:=pk.i5
 have e12:=fm.i12; have e12':=st.i12
 have e12'':=pk.f.i12
 have bufx:=hx.buf st.ob.buf
 have hwin:win γ2=(gL x 3).take (gI x 5).toNat++List.replicate k 0:=by
  unfold win
  rw [g3,g75,g76,pk.buf,m3,m5]; simp
 obtain ⟨cs,hx⟩:=hx
 have key:∀ z:List UInt8,RO γ x cs z→(z=[]∧gI x 12≤gI x 8)∨(z=[0]∧gB x 11=true∧restB x=[])→UT β γ2:=by
  intro z ro hz
  have el:=encs_len cs
  have bl:=ro.bl; have un:=ro.un; have x12:=ro.s.i12
  have f8:=fa.i8; have f10:=fa.i10; have f9:=fa.i9
  have lx:0≤gI x 5:=by omega
  have hw2:((win γ2).length:Int)=gI n 5:=by
   rw [hwin,List.length_append,List.length_take,List.length_replicate]
   have:(gI x 5).toNat≤(gL x 3).length:=by omega
   omega
  refine ⟨((st.s.trans ro.s.us).trans fa.us),fa.pr ro.p hg,by rw [g3,pk.len,m3]; exact bufx,by omega,by have:=ro.b19; have:=st.b19; have:=fa.i19; omega,.inr ⟨hlt,restB γ,cs,z,k,?_,?_,?_,?_,?_,?_,?_,?_⟩⟩
  ·rw [f10,ro.s.i10]; exact st.mrk
  ·rw [f10,ro.s.i10]; exact st.e10
  ·rw [f10,ro.s.i10,fa.rest]; exact ro.dr
  ·rw [hwin,ro.buf,st.w]
  ·omega
  ·rw [fa.rest,f9]; have:=ro.off; have:=st.off; omega
  ·omega
  ·rcases hz with ⟨rfl,hz⟩ | ⟨rfl,hz1,hz2⟩
   ·left
    simp only [List.length_nil] at bl un
    exact ⟨rfl,by omega,by omega⟩
   ·right
    refine ⟨rfl,by rw [fa.b11]; exact hz1,by rw [fa.rest]; exact hz2,?_⟩
    rw [hw2]
    rcases hk2 with h | h
    ·exact .inl h
    ·right; omega
 rcases hx with ⟨h,h1⟩ | ⟨h,h1⟩
 ·exact key [] h (.inl ⟨rfl,h1⟩)
 ·exact key [0] h (.inr ⟨rfl,h1⟩)
theorem ue_end {β γ x γ2:Ren} (st:St β γ) (h:EO2 γ x) (h0:γ2[0]?=x[0]?) (h73:γ2[73]?=x[73]?):UE β γ2:=by
 obtain ⟨he,cs,R,h1,h2⟩:=h
 exact ⟨⟨h0.trans (he.1.trans st.s.h0),h73.trans (he.2.trans st.s.h73)⟩,gI γ 10,restB γ,cs,R,st.mrk,h1,h2⟩
theorem win_len {β:Ren} (pu:PU β) (r:RU β):((win β).length:Int)=gI β 75 - gI β 76:=by
 have:=r.i75; have:=r.i76; have:=pu.le; have:=pu.buf
 unfold win; rw [List.length_drop,List.length_take]; omega
theorem w1 {β:Ren} (pu:PU β) (r:RU β):(putAt (gL β 3) 0 (win β)).take (gI β 75 - gI β 76).toNat=win β∧(putAt (gL β 3) 0 (win β)).length=1536:=by
 have h:=win_len pu r
 have:=r.i75; have:=r.i76; have:=pu.buf
 have hle:0 + (win β).length≤(gL β 3).length:=by omega
 refine ⟨?_,by rw [putAt_len hle]; exact pu.buf⟩
 have:=putAt_take hle
 rw [Nat.zero_add,List.take_zero,List.nil_append] at this
 rw [show (gI β 75 - gI β 76).toNat=(win β).length from by omega]
 exact this
theorem w2 {β:Ren} (pu:PU β) (r:RU β) (h:gI β 76=gI β 75):win β=[]:=by
 have:=win_len pu r
 exact List.eq_nil_of_length_eq_zero (by omega)
theorem w3 {β:Ren} (h:gI β 76=0):win β=(gL β 3).take (gI β 75).toNat:=by unfold win; rw [h]; simp
def GU (β:Ren):Goal where
 J:=fun j γ=>match j with
  | 0=>UT β γ
  | 1=>UE β γ
  | _=>False
 L:=fun j γ=>match j with
  | 19=>OB γ∧gV γ 37=some (.int .i64 0)
  | 123=>PP γ
  | _=>False
 O:=fun j i γ γ1=>match j,i with
  | 19,0=>Ln γ1∧XO γ γ1
  | 19,1=>Ln γ1∧EO2 γ γ1
  | 123,0=>Ln γ1∧PdE γ γ1
  | _,_=>False
 W:=fun j c=>match j with
  | 19=>c=.loop outer
  | 123=>c=.loop pad
  | _=>False
 CL:=fun j γ=>PD γ
 CO:=fun j i γ γ1=>Ln γ1∧DE γ γ1
theorem st_n {β γ:Ren} (pu:PU β) (r:RU β) (hn:Ln γ) (h10:gI β 10≠0) (us:Us β γ) (i4:gL γ 4=gL β 4) (i6:gI γ 6=gI β 6) (i7:gI γ 7=gI β 7) (i11:gB γ 11=gB β 11) (i19:gI γ 19=gI β 19) (i8:gI γ 8=gI β 8) (i9:gI γ 9=gI β 9) (i10:gI γ 10=gI β 10) (i12:gI γ 12=gI β 12)
    (v37:gV γ 37=some (.int .i64 0)) (w:(gL γ 3).take (gI γ 5).toNat=win β) (i5:gI γ 5=gI β 75 - gI β 76) (len:(gL γ 3).length=1536):St β γ:=by
 have e:=rest_of i4 i6 i7 us.l17 us.i18 i19
 have b5:=pu.b5; have x10:=r.i10
 exact ⟨us,i12,⟨pu.p.of hn i4 i6 i7 i11 us.l17 us.i18 i19,len,by omega,by rw [i9,e]; exact pu.off⟩,v37,w,i5,i8,.inl ⟨h10,i10,e⟩,by omega,by rw [i9,e],by omega⟩
theorem st_z {β γ0 β1 γ:Ren} (pu:PU β) (r:RU β) (h10:gI β 10=0) (de:DE γ0 β1) (e0:restB γ0=restB β) (e9:gI γ0 9=gI β 9) (e19:gI γ0 19=gI β 19) (e17:gL γ0 17=gL β 17) (e18:gI γ0 18=gI β 18) (hn:Ln γ) (us:Us β γ) (j4:gL γ 4=gL β1 4) (j6:gI γ 6=gI β1 6) (j7:gI γ 7=gI β1 7) (j11:gB γ 11=gB β1 11) (j19:gI γ 19=gI β1 19)
    (j9:gI γ 9=gI β1 9) (j10:gI γ 10=gI β1 10) (i8:gI γ 8=gI β 8) (i12:gI γ 12=gI β 12)
    (v37:gV γ 37=some (.int .i64 0)) (w:(gL γ 3).take (gI γ 5).toNat=win β) (i5:gI γ 5=gI β 75 - gI β 76) (len:(gL γ 3).length=1536):St β γ:=by
 have h17:gL γ 17=gL β1 17:=by rw [us.l17,de.s.l17,e17]
 have h18:gI γ 18=gI β1 18:=by rw [us.i18,de.s.i18,e18]
 have e:=rest_of j4 j6 j7 h17 h18 j19
 have b5:=pu.b5
 obtain ⟨bom,q1,q2,q3⟩:=de.e
 have b19:=de.b19
 have hl:=congrArg List.length q1
 rw [e0,List.length_append] at hl
 have off:=pu.off
 refine ⟨us,i12,⟨de.p.of hn j4 j6 j7 j11 h17 h18 j19,len,by omega,by rw [j9,e]; omega⟩,v37,w,i5,i8,.inr ⟨h10,bom,by rw [← e0,q1,e],?_⟩,?_,by rw [j9,e]; omega,by omega⟩
 ·rw [j10,← e0]; exact q3
 ·rw [j10]; rcases q3 with ⟨_,h⟩ | ⟨_,h⟩ | ⟨_,h⟩ | ⟨_,h,_⟩ <;> omega
theorem v37_c {β γ:Ren} (h:∃ u,VR β (.int .i64 0) u∧gV γ 37=some u):gV γ 37=some (.int .i64 0):=by
 obtain ⟨u,hu,hv⟩:=h
 have:=hu.eq_of_ground rfl
 subst this; exact hv
theorem v37_v {β γ:Ren} (h:∃ u,VR β (.func (.yield 0) #[.int .i64 0,.map (some 76),.int .i64 0,.int .i64 1536] #[]) u∧gV γ 37=some u) (h0:gI β 76=0):gV γ 37=some (.int .i64 0):=by
 obtain ⟨u,hu,hv⟩:=h
 obtain ⟨t,h1,h2,rfl,_⟩:=asI_sound (k:=.i64) (e:=.map (some 76)) (lo:=0) (hi:=1536) hu (by simp [asI])
 have:t=.var 76:=TI.inj t (.var 76) h1.symm
 subst this
 rw [hv,show (TI.var 76).den β=gI β 76 from rfl,h0]
theorem v37_l {β δ γ:Ren} (hb:β.length=90) (h:∃ u,VR (β++δ) (.func (.yield 0) #[.int .i64 0,.map (some 76),.int .i64 0,.int .i64 1536] #[]) u∧gV γ 37=some u) (h0:gI β 76=0):gV γ 37=some (.int .i64 0) :=
 v37_v h (by rw [gI_l hb (by decide)]; exact h0)
def le0V6 (i:Nat) (a b:Int):List TB:=[.le (.lit a) (.var i),.le (.var i) (.lit b)]
theorem rgs_U:rgs 2 tU=le0V6 12 0 100++([.le (.lit 0) (.lit 0),.le (.lit 0) (.var 18),.le (.var 18) (.var 72)]++(le0V6 19 0 2000000++([.le (.lit 0) (.lit 0),.le (.lit 0) (.var 75),.le (.var 75) (.lit 1536)]++(le0V6 76 0 1536++(le0V6 8 0 2000++([.le (.lit 0) (.lit 0),.le (.lit 0) (.var 6),.le (.var 6) (.lit 512)]++(le0V6 7 0 512++(le0V6 10 0 3++le0V6 9 0 10000000)))))))):=by kernel_rfl
theorem ru_of {β:Ren} (h:FactsP β (rgs 2 tU)):RU β:=by
 rw [rgs_U] at h
 simp only [le0V6,List.cons_append,List.nil_append,FactsP,TB.P,den_litI,den_varI] at h
 obtain ⟨a1,a2,_,b1,b2,b3,b4,_,c1,c2,c3,c4,c5,c6,_,d1,d2,d3,d4,e1,e2,e3,e4,_⟩:=h
 exact ⟨⟨⟨b1,b2⟩,⟨b3,b4⟩,⟨d1,d2⟩,⟨d3,d4⟩⟩,⟨a1,a2⟩,⟨c1,c2⟩,⟨c3,c4⟩,⟨c5,c6⟩,⟨e1,e2⟩,⟨e3,e4⟩⟩
theorem rgs_X0:rgs (ntmps 42) tX0=rgs (ntmps 42) tA:=by kernel_rfl
end U
