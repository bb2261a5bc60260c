-- the statement of this claim: see YtoamgocecoiggaaDoorRw
import Derived.Test.YtoamgocecoiggaaDoorM18
set_option linter.unusedVariables false
set_option linter.unusedSimpArgs false
namespace Go.SM
noncomputable section
abbrev Ks:=Nat→Option Bd
def BdSm (γ β:Ren) (i:Nat):Bd→Prop
 | .blk B=>∃ q,γ[B]?=some q∧β[i]?=some q
 | .itm e=>∃ t:TI,e=t.enc∧t.ok γ.length=true∧gI β i=t.den γ
 | .ltm e=>∃ t:TL,e=t.enc∧t.ok γ.length=true∧gL β i=t.den γ
 | .btm e=>∃ t:TB,e=t.enc∧t.ok γ.length=true∧gB β i=t.den γ
 | .val v=>∃ u,VR γ v u∧gV β i=some u
 | .ntm e=>∃ t:TN,e=t.enc∧t.ok γ.length=true∧gN β i=t.den γ
def KsOk (γ β:Ren) (κ:Ks):Prop:=∀ i b,κ i=some b→BdSm γ β i b
def SmK (β β2:Ren) (p:Nat × Nat):Prop:=match p.2 with
 | 0=>β2[p.1]?=β[p.1]?
 | 1=>gI β2 p.1=gI β p.1
 | 2=>gL β2 p.1=gL β p.1
 | 3=>gB β2 p.1=gB β p.1
 | 5=>gN β2 p.1=gN β p.1
 | _=>gV β2 p.1=gV β p.1
def Bd.kind:Bd→Nat
 | .blk _=>0
 | .itm _=>1
 | .ltm _=>2
 | .btm _=>3
 | .val _=>4
 | .ntm _=>5
theorem BdSm.of {γ β β2:Ren} {i k:Nat} {b:Bd} (h:BdOk γ b β[i]?) (hk:b.kind=k) (hs:SmK β β2 (i,k)):BdSm γ β2 i b:=by
 subst hk
 cases b with
 | blk B=>obtain ⟨q,h1,h2⟩:=h; exact ⟨q,h1,hs.trans h2⟩
 | itm e=>obtain ⟨t,h1,h2,h3⟩:=h; exact ⟨t,h1,h2,(show gI β2 i=gI β i from hs).trans (by simp [gI,TI.den,h3,vInt])⟩
 | ltm e=>obtain ⟨t,h1,h2,h3⟩:=h; exact ⟨t,h1,h2,(show gL β2 i=gL β i from hs).trans (by simp [gL,TL.den,h3,vBytes])⟩
 | btm e=>obtain ⟨t,h1,h2,h3⟩:=h; exact ⟨t,h1,h2,(show gB β2 i=gB β i from hs).trans (by simp [gB,TB.den,h3,vBool])⟩
 | ntm e=>obtain ⟨t,h1,h2,h3⟩:=h; exact ⟨t,h1,h2,(show gN β2 i=gN β i from hs).trans (by simp [gN,TN.den,h3,vNums_tup])⟩
 | val v=>obtain ⟨_,u,h1,h2,h3⟩:=h; exact ⟨u,h1,(show gV β2 i=gV β i from hs).trans (by simp [gV,h3])⟩
def muK (κ:Ks) (h B:Nat):Nat:=match κ B with
 | some (.blk B')=>B'
 | _=>h + B
def renI (κ:Ks) (h i:Nat):Option Value:=match κ i with
 | some (.itm e)=>some e
 | some _=>none
 | none=>some (.map (some (h + i)))
def renS (κ:Ks) (h i:Nat):Option Value:=match κ i with
 | some (.ltm e)=>some e
 | some _=>none
 | none=>some (.map (some (h + i)))
def renN (κ:Ks) (h i:Nat):Option Value:=match κ i with
 | some (.ntm e)=>some e
 | some _=>none
 | none=>some (.map (some (h + i)))
def renO (κ:Ks) (h i:Nat):Option Value:=match κ i with
 | some (.btm e)=>some e
 | some _=>none
 | none=>some (.map (some (h + i)))
def renT (κ:Ks) (h:Nat):Value→Option Value
 | .map (some i)=>renI κ h i
 | .int .i64 z=>some (.int .i64 z)
 | _=>none
def mkI (kp:IntKind) (e lo hi:Value):Value:=match e with
 | .int .i64 z=>.int kp z
 | e=>.func (.yield 0) ⟨[.int kp 0,e,lo,hi]⟩ ⟨[]⟩
def renL (f:Value→Option Value):List Value→Option (List Value)
 | []=>some []
 | v::vs=>match f v,renL f vs with
  | some v,some vs=>some (v::vs)
  | _,_=>none
theorem renL_get {f:Value→Option Value}:∀ {l l':List Value},renL f l=some l'→l'.length=l.length∧∀ (i:Nat) (v v':Value),l[i]?=some v→l'[i]?=some v'→f v=some v'
 | [],l',hr=>by cases hr; exact ⟨rfl,fun i v v' hi=>by simp at hi⟩
 | v::vs,l',hr=>by
  unfold renL at hr
  split at hr
  ·rename_i v1 vs1 h1 h2
   cases hr
   obtain ⟨e1,e2⟩:=renL_get h2
   refine ⟨by simp [e1],fun i x y hx hy=>?_⟩
   cases i with
   | zero=>simp at hx hy; subst hx; subst hy; exact h1
   | succ i=>exact e2 i x y (by simpa using hx) (by simpa using hy)
  ·cases hr
def renP (κ:Ks) (h:Nat):Nat→Value→Option Value
 | 0,_=>none
 | k + 1,p=>match p with
  | .tuple ⟨[]⟩=>some (.tuple ⟨[]⟩)
  | .chan none=>some (.chan none)
  | .map (some c)=>if Nat.beq (c % 3) 1 then (match κ (c / 3) with
   | some (.val v)=>some v
   | some _=>none
   | none=>some (.map (some (3 * (h + c / 3) + 1)))) else none
  | .func (.yield 0) ⟨[.int kp z,.map (some i),.int .i64 lo,.int .i64 hi]⟩ ⟨[]⟩=>(match renI κ h i with
   | some e=>some (mkI kp e (.int .i64 lo) (.int .i64 hi))
   | none=>none)
  | .func (.yield 1) ⟨[.map (some i)]⟩ ⟨[]⟩=>(match renO κ h i with
   | some e=>some (bV e)
   | none=>none)
  | .func (.yield 2) ⟨[.map (some i),.int .i64 hi]⟩ ⟨[]⟩=>(match renS κ h i with
   | some e=>some (.func (.yield 2) ⟨[e,.int .i64 hi]⟩ ⟨[]⟩)
   | none=>none)
  | .func (.yield 4) ⟨[.int .i64 (.ofNat B),o,n,c]⟩ ⟨[]⟩ =>
   (match renT κ h o,renT κ h n,renT κ h c with
   | some o,some n,some c=>some (.func (.yield 4) ⟨[.int .i64 (.ofNat (muK κ h B)),o,n,c]⟩ ⟨[]⟩)
   | _,_,_=>none)
  | .pointer (some ⟨B,o,none⟩)=>some (.pointer (some ⟨muK κ h B,o,none⟩))
  | .slice (some ⟨B,o,none⟩) n c=>some (.slice (some ⟨muK κ h B,o,none⟩) n c)
  | .iface t p=>(match renP κ h k p with
   | some p=>some (.iface t p)
   | none=>none)
  | .tuple ⟨v::vs⟩=>(match renL (renP κ h k) (v::vs) with
   | some l=>some (.tuple ⟨l⟩)
   | none=>none)
  | .agg ⟨vs⟩=>(match renL (renP κ h k) vs with
   | some l=>some (.agg ⟨l⟩)
   | none=>none)
  | p=>if ground p then some p else none
theorem get_shift {α:Type} (γ β:List α) (i:Nat):(γ++β)[γ.length + i]?=β[i]?:=by
 rw [List.getElem?_append_right (by omega)]; congr 1; omega
theorem muK_get {β γ:Ren} {κ:Ks} (hκ:KsOk γ β κ) (B:Nat):(γ++β)[muK κ γ.length B]?=β[B]?:=by
 unfold muK
 split
 ·rename_i B' hB
  obtain ⟨q,h1,h2⟩:=hκ _ _ hB
  rw [List.getElem?_append_left (by rcases Nat.lt_or_ge B' γ.length with hl | hl
                                    ·exact hl
                                    ·rw [List.getElem?_eq_none hl] at h1; cases h1),h1,h2]
 ·exact get_shift γ β B
theorem muK_ok {β γ:Ren} {κ:Ks} (hκ:KsOk γ β κ) {B:Nat} {p:Nat × Nat} (h:Go.SM.hm β B=some p):Go.SM.hm (γ++β) (muK κ γ.length B)=some p:=by
 unfold Go.SM.hm at h ⊢
 rw [muK_get hκ]; exact h
section
variable {β γ:Ren} {κ:Ks}
theorem dvar_lt {i:Nat} (h:decide (i < β.length)=true):decide (γ.length + i < (γ++β).length)=true:=by
 simp only [decide_eq_true_eq,List.length_append] at *; omega
theorem renI_sound (hκ:KsOk γ β κ) {i:Nat} {e:Value} (h:renI κ γ.length i=some e) (hok:(TI.var i).ok β.length=true) :
    ∃ t':TI,e=t'.enc∧t'.ok (γ++β).length=true∧t'.den (γ++β)=(TI.var i).den β:=by
 unfold renI at h
 split at h
 ·rename_i e' he
  cases h
  obtain ⟨t,rfl,t1,t2⟩:=hκ _ _ he
  exact ⟨t,rfl,TI.ok_app _ _ (by simp) t t1,by rw [TI.den_app γ β t t1]; exact t2.symm⟩
 ·cases h
 ·cases h
  exact ⟨.var (γ.length + i),rfl,dvar_lt hok,by simp only [TI.den,get_shift]⟩
theorem renS_sound (hκ:KsOk γ β κ) {i:Nat} {e:Value} (h:renS κ γ.length i=some e) (hok:(TL.var i).ok β.length=true) :
    ∃ t':TL,e=t'.enc∧t'.ok (γ++β).length=true∧t'.den (γ++β)=(TL.var i).den β:=by
 unfold renS at h
 split at h
 ·rename_i e' he
  cases h
  obtain ⟨t,rfl,t1,t2⟩:=hκ _ _ he
  exact ⟨t,rfl,TL.ok_app _ _ (by simp) t t1,by rw [TL.den_app γ β t t1]; exact t2.symm⟩
 ·cases h
 ·cases h
  exact ⟨.var (γ.length + i),rfl,dvar_lt hok,by simp only [TL.den,get_shift]⟩
theorem renN_sound (hκ:KsOk γ β κ) {i:Nat} {e:Value} (h:renN κ γ.length i=some e) (hok:(TN.var i).ok β.length=true) :
    ∃ t':TN,e=t'.enc∧t'.ok (γ++β).length=true∧t'.den (γ++β)=(TN.var i).den β:=by
 unfold renN at h
 split at h
 ·rename_i e' he
  cases h
  obtain ⟨t,rfl,t1,t2⟩:=hκ _ _ he
  exact ⟨t,rfl,TN.ok_app _ _ (by simp) t t1,by rw [TN.den_app γ β t t1]; exact t2.symm⟩
 ·cases h
 ·cases h
  exact ⟨.var (γ.length + i),rfl,dvar_lt hok,by simp only [TN.den,get_shift]⟩
theorem renO_sound (hκ:KsOk γ β κ) {i:Nat} {e:Value} (h:renO κ γ.length i=some e) (hok:(TB.var i).ok β.length=true) :
    ∃ t':TB,e=t'.enc∧t'.ok (γ++β).length=true∧t'.den (γ++β)=(TB.var i).den β:=by
 unfold renO at h
 split at h
 ·rename_i e' he
  cases h
  obtain ⟨t,rfl,t1,t2⟩:=hκ _ _ he
  exact ⟨t,rfl,TB.ok_app _ _ (by simp) t t1,by rw [TB.den_app γ β t t1]; exact t2.symm⟩
 ·cases h
 ·cases h
  exact ⟨.var (γ.length + i),rfl,dvar_lt hok,by simp only [TB.den,get_shift]⟩
theorem renT_sound (hκ:KsOk γ β κ) {v v':Value} {t:TI} (h:renT κ γ.length v=some v') (ht:v=t.enc) (hok:t.ok β.length=true) :
    ∃ t':TI,v'=t'.enc∧t'.ok (γ++β).length=true∧t'.den (γ++β)=t.den β:=by
 unfold renT at h
 split at h
 ·rename_i i
  have:t=.var i:=TI.inj t (.var i) ht.symm
  subst this
  exact renI_sound hκ h hok
 ·rename_i z
  cases h
  have:t=.lit z:=TI.inj t (.lit z) ht.symm
  subst this
  exact ⟨.lit z,rfl,rfl,by simp [TI.den]⟩
 ·cases h
theorem mkI_vr {δ:Ren} {kp:IntKind} {t:TI} {lo hi:Int} (ok:t.ok δ.length=true) (h1:lo≤t.den δ) (h2:t.den δ≤hi):VR δ (mkI kp t.enc (.int .i64 lo) (.int .i64 hi)) (.int kp (t.den δ)):=by
 unfold mkI
 split
 ·rename_i z hz
  have:t=.lit z:=TI.inj t (.lit z) hz
  subst this
  simp only [TI.den]
  exact .int kp z
 ·exact .symI kp t lo hi ok h1 h2
theorem renP_sound (hκ:KsOk γ β κ):∀ (k:Nat) {p p' u:Value},renP κ γ.length k p=some p'→VR β p u→VR (γ++β) p' u:=by
 intro k
 induction k with
 | zero=>intro p p' u h; cases h
 | succ k ih =>
  intro p p' u h hv
  unfold renP at h
  split at h
  ·cases h; exact .any _
  ·cases h
   cases hv with
   | any1 u h=>exact .any1 u h
  ·rename_i c
   split at h
   rotate_left
   ·cases h
   rename_i hc
   have hc:=Nat.eq_of_beq_eq_true hc
   obtain ⟨j,rfl⟩:∃ j,c=3 * j + 1:=⟨c / 3,by omega⟩
   rw [show (3 * j + 1) / 3=j from by omega] at h
   generalize hz:(Value.map (some (3 * j + 1)))=z at hv
   cases hv <;> try cases hz
   ·exfalso; have e:=Option.some.inj (Value.map.inj hz); omega
   ·rename_i j' h' e1 e2
    have e:=Option.some.inj (Value.map.inj hz)
    have:j=j':=by omega
    subst this
    split at h
    ·rename_i v hv
     cases h
     obtain ⟨u,g1,g3⟩:=hκ _ _ hv
     simp only [gV,e1,Option.map_some,Option.some.injEq] at g3
     subst g3
     exact g1.mono
    ·cases h
    ·cases h
     exact .opq1 _ h' (by rw [get_shift]; exact e1) e2
   ·exfalso; have e:=Option.some.inj (Value.map.inj hz); omega
   ·exfalso; have e:=Option.some.inj (Value.map.inj hz); omega
   ·exfalso; have e:=Option.some.inj (Value.map.inj hz); omega
  ·rename_i kp z i lo hi
   split at h
   rotate_left
   ·cases h
   rename_i e he
   cases h
   by_cases hz:z=0
   ·subst hz
    obtain ⟨t,h1,h2,rfl,h4,h5⟩:=asI_sound (k:=kp) (e:=.map (some i)) (lo:=lo) (hi:=hi) hv (by simp [asI])
    have:t=.var i:=TI.inj t (.var i) h1.symm
    subst this
    obtain ⟨t',rfl,t1,t2⟩:=renI_sound hκ he h2
    rw [← t2] at h4 h5 ⊢
    exact mkI_vr t1 h4 h5
   ·exfalso
    generalize hv':(Value.func (.yield 0) ⟨[.int kp z,.map (some i),.int .i64 lo,.int .i64 hi]⟩ ⟨[]⟩)=v at hv
    cases hv <;> simp at hv'
    ·exact hz hv'.1.2
    ·rename_i h0 _ _ _ _
     rw [← hv'.1] at h0; cases h0
  ·rename_i i
   split at h
   rotate_left
   ·cases h
   rename_i e he
   cases h
   obtain ⟨t,h1,h2,rfl⟩:=asB_sound (e:=.map (some i)) hv (by simp [asB])
   have:t=.var i:=TB.inj t (.var i) h1.symm
   subst this
   obtain ⟨t',rfl,t1,t2⟩:=renO_sound hκ he h2
   rw [← t2]
   exact bV_sound t' t1
  ·rename_i i hi
   split at h
   rotate_left
   ·cases h
   rename_i e he
   cases h
   obtain ⟨t,h1,h2,rfl,h4⟩:=asS_sound (e:=.map (some i)) (hi:=hi) hv (by simp [asS])
   have:t=.var i:=TL.inj t (.var i) h1.symm
   subst this
   obtain ⟨t',rfl,t1,t2⟩:=renS_sound hκ he h2
   rw [← t2] at h4 ⊢
   exact .symS t' hi t1 h4
  ·rename_i B o n c
   split at h
   rotate_left
   ·cases h
   rename_i o' n' c' e1 e2 e3
   cases h
   obtain ⟨to,tn,tc,b,s,rfl,rfl,rfl,hk,rfl⟩:=asL_sound (B:=B) (o:=o) (n:=n) (c:=c) hv (by simp [asL])
   obtain ⟨o2,rfl,o3,o4⟩:=renT_sound hκ e1 rfl hk.oko
   obtain ⟨n2,rfl,n3,n4⟩:=renT_sound hκ e2 rfl hk.okn
   obtain ⟨c2,rfl,c3,c4⟩:=renT_sound hκ e3 rfl hk.okc
   have:=VR.symL (β:=γ++β) (muK κ γ.length B) o2 n2 c2 b s (muK_ok hκ hk.home) o3 n3 c3 (by rw [o4]; exact hk.o0) (by rw [n4]; exact hk.n0) (by rw [n4,c4]; exact hk.nc) (by rw [n4,c4]; exact ⟨hk.nb,hk.cb⟩)
   rw [o4,n4,c4] at this
   exact this
  ·rename_i B o
   cases h
   cases hv with
   | ptr _ _ b s hb=>exact .ptr _ _ b s (muK_ok hκ hb)
  ·rename_i B o n c
   cases h
   cases hv with
   | sl _ _ b s _ _ hb=>exact .sl _ _ b s _ _ (muK_ok hκ hb)
  ·rename_i t p
   split at h
   rotate_left
   ·cases h
   rename_i p2 hp2
   cases h
   cases hv with
   | iface _ _ u h=>exact .iface _ _ _ (ih hp2 h)
  ·rename_i v vs
   split at h
   rotate_left
   ·cases h
   rename_i l hl
   cases h
   obtain ⟨l1,l2⟩:=renL_get hl
   cases hv with
   | tuple _ a' h1 h2 =>
    refine .tuple _ a' (by show l.length=a'.size; rw [l1]; exact h1) fun i x y hx hy=>?_
    have hx':l[i]?=some x:=by simpa using hx
    have hlt:i < (v::vs).length:=by
     rw [← l1]
     rcases Nat.lt_or_ge i l.length with hl | hl
     ·exact hl
     ·rw [List.getElem?_eq_none hl] at hx'; cases hx'
    exact ih (l2 i _ x (List.getElem?_eq_getElem hlt) hx') (h2 i _ y (by rw [← Array.getElem?_toList]; exact List.getElem?_eq_getElem hlt) hy)
  ·rename_i vs
   split at h
   rotate_left
   ·cases h
   rename_i l hl
   cases h
   obtain ⟨l1,l2⟩:=renL_get hl
   cases hv with
   | agg _ a' h1 h2 =>
    refine .agg _ a' (by show l.length=a'.size; rw [l1]; exact h1) fun i x y hx hy=>?_
    have hx':l[i]?=some x:=by simpa using hx
    have hlt:i < vs.length:=by
     rw [← l1]
     rcases Nat.lt_or_ge i l.length with hl | hl
     ·exact hl
     ·rw [List.getElem?_eq_none hl] at hx'; cases hx'
    exact ih (l2 i _ x (List.getElem?_eq_getElem hlt) hx') (h2 i _ y (by rw [← Array.getElem?_toList]; exact List.getElem?_eq_getElem hlt) hy)
  ·split at h
   ·rename_i hg
    cases h
    have:=hv.eq_of_ground hg
    subst this
    exact VR.of_ground hg
   ·cases h
end
end
end Go.SM
namespace Go.SM
noncomputable section
theorem AS.get_put' {H:AS} {B B':Nat} {b:Blk} (hb:H.size≤2 ^ 20) (hB:B < H.size):(H.put B b).get B'=if B=B' then some b else H.get B':=by
 unfold AS.get AS.put
 split
 ·rename_i h2
  have h2:B' < H.size:=h2
  split
  ·rename_i e; subst e; exact Tr.get_set b B D H.heap
  ·rename_i e
   exact Tr.get_set_ne b B B' D H.heap (bits_ne 20 B B' (by omega) (by omega) e)
 ·rename_i h2
  have h2:¬ B' < H.size:=h2
  rw [if_neg (by omega)]
def wBlk (σ:Sg) (i:Nat):Option Nat:=match σ.get i with
 | some (.blk B)=>some B
 | _=>none
def killAll (σ:Sg):List (Nat × Blk)→AS→AS
 | [],H=>H
 | (i,p)::l,H=>match p.ro,wBlk σ i with
  | false,some B=>killAll σ l (if B < H.size then H.put B deadB else H)
  | _,_=>killAll σ l H
theorem killAll_size (σ:Sg):∀ (l:List (Nat × Blk)) (H:AS),(killAll σ l H).size=H.size
 | [],H=>rfl
 | (i,p)::l,H=>by
  unfold killAll
  split
  ·rw [killAll_size σ l]; split <;> rfl
  ·rw [killAll_size σ l]
theorem killAll_get {σ:Sg}:∀ {l:List (Nat × Blk)} {H:AS},H.size≤2 ^ 20→∀ {B:Nat} {b:Blk},(killAll σ l H).get B=some b→b.live=true →
    H.get B=some b∧∀ i p,(i,p) ∈ l→p.ro=false→wBlk σ i≠some B
 | [],H,_,B,b,h,_=>⟨h,fun i p hp=>by cases hp⟩
 | (j,q)::l,H,hs,B,b,h,hl=>by
  unfold killAll at h
  split at h
  ·rename_i C hro hC
   obtain ⟨h1,h2⟩:=killAll_get (by split <;> exact hs) h hl
   have hne:C≠B:=by
    intro e; subst e
    split at h1
    ·rename_i hC2
     rw [AS.get_put' hs hC2,if_pos rfl] at h1
     cases h1; cases hl
    ·rename_i hC2
     exact hC2 (AS.get_lt h1)
   refine ⟨?_,fun i p hp hr=>?_⟩
   ·split at h1
    ·rename_i hC2
     rw [AS.get_put' hs hC2,if_neg hne] at h1
     exact h1
    ·exact h1
   ·rcases List.mem_cons.1 hp with e | hp
    ·cases e; rw [hC]; intro e; exact hne (Option.some.inj e)
    ·exact h2 i p hp hr
  ·rename_i hn
   obtain ⟨h1,h2⟩:=killAll_get hs h hl
   refine ⟨h1,fun i p hp hr=>?_⟩
   rcases List.mem_cons.1 hp with e | hp
   ·cases e
    intro e
    exact hn B hr e
   ·exact h2 i p hp hr
def renC (κ:Ks) (h:Nat):List Value→Option (List Value)
 | []=>some []
 | v::vs=>match renP κ h 6 v,renC κ h vs with
  | some v,some vs=>some (v::vs)
  | _,_=>none
def renB (κ:Ks) (h:Nat) (b:Blk):Option Blk :=
 match renC κ h b.cells with
 | none=>none
 | some cs=>match b.seq with
  | none=>some { b with cells:=cs }
  | some (.map (some j))=>(match renS κ h j with
   | some e=>some { b with cells:=cs,seq:=some e }
   | none=>none)
  | some (.func (.yield 28) ⟨[.map (some j)]⟩ ⟨[]⟩)=>(match renN κ h j with
   | some e=>some { b with cells:=cs,seq:=some (nd1 28 e) }
   | none=>none)
  | some _=>none
def putAll (κ:Ks) (h:Nat):List (Nat × Blk)→AS→Option AS
 | [],H=>some H
 | (k,b)::l,H =>
  if b.ro then putAll κ h l H
  else match renB κ h b with
   | none=>none
   | some b=>if muK κ h k < H.size then putAll κ h l (H.put (muK κ h k) b) else none
theorem putAll_size {κ:Ks} {h:Nat}:∀ {l:List (Nat × Blk)} {H H':AS},putAll κ h l H=some H'→H'.size=H.size
 | [],H,H',hp=>by cases hp; rfl
 | (k,b)::l,H,H',hp=>by
  unfold putAll at hp
  split at hp
  ·exact putAll_size hp
  ·split at hp
   ·cases hp
   ·split at hp
    ·rw [putAll_size hp]; rfl
    ·cases hp
theorem putAll_get {κ:Ks} {h:Nat}:∀ {l:List (Nat × Blk)} {H H':AS},H.size≤2 ^ 20→putAll κ h l H=some H'→∀ {B:Nat} {b:Blk},H'.get B=some b →
    (∃ k b0,(k,b0) ∈ l∧b0.ro=false∧muK κ h k=B∧renB κ h b0=some b)∨H.get B=some b
 | [],H,H',_,hp,B,b,hg=>by cases hp; exact .inr hg
 | (k,b0)::l,H,H',hs,hp,B,b,hg=>by
  unfold putAll at hp
  split at hp
  ·rcases putAll_get hs hp hg with ⟨k',b',h1,h2⟩ | h1
   ·exact .inl ⟨k',b',by simp [h1],h2⟩
   ·exact .inr h1
  ·rename_i hro
   split at hp
   ·cases hp
   ·rename_i b1 hb1
    split at hp
    ·rename_i hk
     rcases putAll_get (H:=H.put (muK κ h k) b1) hs hp hg with ⟨k',b',h1,h2⟩ | h1
     ·exact .inl ⟨k',b',by simp [h1],h2⟩
     ·rw [AS.get_put' hs hk] at h1
      split at h1
      ·rename_i e
       cases h1
       exact .inl ⟨k,b0,by simp,by simpa using hro,e,hb1⟩
      ·exact .inr h1
    ·cases hp
end
end Go.SM
namespace Go.SM
noncomputable section
def keysNd (m:Nat):List (Nat × Blk)→Bool
 | []=>true
 | p::l=>Nat.blt p.1 m && (!(l.any fun q=>Nat.beq q.1 p.1) && keysNd m l)
theorem heapOf_mem {m:Nat} (hm:m≤2 ^ 20):∀ {l:List (Nat × Blk)},keysNd m l=true→∀ {k:Nat} {b:Blk},(k,b) ∈ l→(heapOf m l).get k=some b
 | (i,c)::l,hk,k,b,hp=>by
  simp only [keysNd,Bool.and_eq_true,Bool.not_eq_true'] at hk
  obtain ⟨h1,h2,h3⟩:=hk
  have h1:i < m:=Nat.le_of_ble_eq_true h1
  have e:heapOf m ((i,c)::l)=(heapOf m l).put i c:=by unfold AS.put; simp only [heapOf,heapOf_size]
  rw [e,AS.get_put' (by rw [heapOf_size]; exact hm) (by rw [heapOf_size]; exact h1)]
  rcases List.mem_cons.1 hp with e | hp
  ·cases e; rw [if_pos rfl]
  ·have hne : i ≠ k := by
     intro e; subst e
     have:(l.any fun q=>Nat.beq q.1 i)=true:=List.any_eq_true.2 ⟨(i,b),hp,Nat.beq_refl i⟩
     rw [h2] at this; cases this
   rw [if_neg hne]
   exact heapOf_mem hm h3 hp
theorem renC_get {κ:Ks} {h:Nat}:∀ {l l':List Value},renC κ h l=some l'→l'.length=l.length∧∀ (i:Nat) (v':Value),l'[i]?=some v'→∃ v,l[i]?=some v∧renP κ h 6 v=some v'
 | [],l',hr=>by cases hr; exact ⟨rfl,fun i v' hi=>by simp at hi⟩
 | v::vs,l',hr=>by
  unfold renC at hr
  split at hr
  ·rename_i v1 vs1 h1 h2
   cases hr
   obtain ⟨e1,e2⟩:=renC_get h2
   refine ⟨by simp [e1],fun i v' hi=>?_⟩
   cases i with
   | zero=>simp at hi; subst hi; exact ⟨v,rfl,h1⟩
   | succ i=>simpa using e2 i v' (by simpa using hi)
  ·cases hr
theorem renB_of {κ:Ks} {h:Nat} {b b':Blk} (hr:renB κ h b=some b'):b'.ro=b.ro∧b'.live=b.live∧b'.elem=b.elem∧renC κ h b.cells=some b'.cells ∧
    (∀ e',b'.seq=some e'→(∃ j,b.seq=some (.map (some j))∧renS κ h j=some e')∨∃ j e2,b.seq=some (nd1 28 (.map (some j)))∧renN κ h j=some e2∧e'=nd1 28 e2):=by
 unfold renB at hr
 split at hr
 ·cases hr
 rename_i cs hcs
 split at hr
 ·rename_i hs
  cases hr
  exact ⟨rfl,rfl,rfl,hcs,fun e' he=>by simp only at he; rw [hs] at he; cases he⟩
 ·rename_i j hs
  split at hr
  rotate_left
  ·cases hr
  rename_i e hren
  cases hr
  exact ⟨rfl,rfl,rfl,hcs,fun e' he=>by cases he; exact .inl ⟨j,hs,hren⟩⟩
 ·rename_i j hs
  split at hr
  rotate_left
  ·cases hr
  rename_i e hren
  cases hr
  exact ⟨rfl,rfl,rfl,hcs,fun e' he=>by cases he; exact .inr ⟨j,e,hs,hren,rfl⟩⟩
 ·cases hr
def W0.call (w0:W0) (w:World) (β:Ren) (σ:Sg) (l:List (Nat × Blk)):W0 where
 w:=w
 keep:=fun c=>c < w.heap.size∧∀ i p B,(i,p) ∈ l→p.ro=false→wBlk σ i=some B→(Go.SM.hm β B).map (·.1)≠some c
 lt:=fun k h=>h.1
def MatchOk (H:AS) (σ:Sg) (l:List (Nat × Blk)):Prop:=∀ i p,(i,p) ∈ l→∃ B b,wBlk σ i=some B∧H.get B=some b∧b.live=true∧(p.ro=false→b.ro=false)
theorem HR.enter {w0:W0} {β β1:Ren} {H:AS} {w:World} {σ:Sg} {tin:Tpl} (hI:Inst β σ tin.m β1) (hk:∀ p ∈ tin.H,p.1 < tin.m) (hm:tin.m≤2 ^ 20) (h:HR w0 β1 tin.heap w) (hM:MatchOk H σ tin.H):HR (w0.call w β σ tin.H) β1 tin.heap w:=by
 refine ⟨h.len,h.big,fun B b hg hl=>?_,h.inj,Kept.refl _⟩
 obtain ⟨c,s,C,fr,h1,h2,h3,h4,h5,h6,h7,h8⟩:=h.blk B b hg hl
 refine ⟨c,s,C,fr,h1,h2,h3,h4,h5,h6,fun hro hkeep=>?_,h8⟩
 have hmem:=heapOf_get hm tin.H B b hk hg
 obtain ⟨B',b',e1,e2,_⟩:=hM B b hmem
 refine hkeep.2 B b B' hmem hro e1 ?_
 have e1':σ.get B=some (.blk B'):=by
  unfold wBlk at e1
  split at e1
  ·rename_i x hx; cases e1; exact hx
  ·cases e1
 have:=hI.blk e1' (hk _ hmem)
 unfold Go.SM.hm at h1 ⊢
 rw [← this]
 cases hb:β1[B]? with
 | none=>rw [hb] at h1; cases h1
 | some q=>rw [hb] at h1; cases h1; rfl
def callK (σ:Sg) (same:List (Nat × Nat)):Ks:=fun k=>match same.find? fun p=>Nat.beq p.1 k with
 | some (_,d)=>(match σ.get k with
  | some b=>if Nat.beq b.kind d then some b else none
  | none=>none)
 | none=>none
def callH (σ:Sg) (same:List (Nat × Nat)) (tin tp:Tpl) (H:AS):Option AS :=
 if Nat.ble (H.size + tp.m) 1048576 && (keysNd tp.m tp.H && ((tp.H.all fun p=>p.2.live) && ((same.all fun k=>Nat.blt k.1 tin.m) && (List.range tp.m).all fun i=>(H.heap.get D (H.size + i)).isNone))) then
  putAll (callK σ same) H.size tp.H { killAll σ tin.H H with size:=H.size + tp.m }
 else none
theorem killAll_beyond {σ:Sg}:∀ {l:List (Nat × Blk)} {H:AS} {B:Nat},H.size≤B→B < 2 ^ 20→(killAll σ l H).heap.get D B=H.heap.get D B
 | [],H,B,_,_=>rfl
 | (i,p)::l,H,B,h,hB=>by
  unfold killAll
  split
  ·rename_i C _ _
   rw [killAll_beyond (by split <;> exact h) hB]
   split
   ·rename_i hC
    exact Tr.get_set_ne deadB C B D H.heap (bits_ne 20 C B (by omega) hB (by omega))
   ·rfl
  ·exact killAll_beyond h hB
theorem HR.leave {w0:W0} {β β1 β2:Ren} {H H3:AS} {w w':World} {σ:Sg} {same:List (Nat × Nat)} {tin tp:Tpl} (h:HR w0 β H w) (hI:Inst β σ tin.m β1) (hM:MatchOk H σ tin.H)
    (hsame:∀ p ∈ same,SmK β1 β2 p) (h2:HR (w0.call w β σ tin.H) β2 tp.heap w') (hc:callH σ same tin tp H=some H3) :
    HR w0 (β++β2) H3 w'∧∀ {v u v':Value},renP (callK σ same) H.size 6 v=some v'→VR β2 v u→VR (β++β2) v' u:=by
 unfold callH at hc
 split at hc
 rotate_left
 ·cases hc
 rename_i hchk
 simp only [Bool.and_eq_true] at hchk
 obtain ⟨c1,c2,c3,c4,c5⟩:=hchk
 have c1:H.size + tp.m≤2 ^ 20:=Nat.le_of_ble_eq_true c1
 have hlen:=h.len
 have hm2:β2.length=tp.m:=by rw [h2.len]; exact heapOf_size _ _
 have hκ:KsOk β β2 (callK σ same):=by
  intro i b hi
  unfold callK at hi
  split at hi
  ·rename_i d hf
   split at hi
   ·rename_i b' hb'
    split at hi
    ·rename_i hd
     cases hi
     have h1:=List.find?_some hf
     have h2:=List.mem_of_find?_eq_some hf
     have h3:_=i:=Nat.eq_of_beq_eq_true h1
     simp only at h3
     subst h3
     exact BdSm.of (hI.get _ _ hb' (Nat.le_of_ble_eq_true (List.all_eq_true.1 c4 _ h2))) (Nat.eq_of_beq_eq_true hd) (hsame _ h2)
    ·cases hi
   ·cases hi
  ·cases hi
 have hget:∀ k,(β++β2)[muK (callK σ same) H.size k]?=β2[k]?:=fun k=>by rw [← hlen]; exact muK_get hκ k
 have hren:∀ {v u v':Value},renP (callK σ same) H.size 6 v=some v'→VR β2 v u→VR (β++β2) v' u:=by
  intro v u v' hv hr
  rw [← hlen] at hv
  exact renP_sound hκ 6 hv hr
 refine ⟨?_,hren⟩
 have hs3:H3.size=H.size + tp.m:=putAll_size hc
 have src:∀ {B:Nat} {b:Blk},H3.get B=some b→b.live=true →
     (∃ k b0,(k,b0) ∈ tp.H∧b0.ro=false∧b0.live=true∧muK (callK σ same) H.size k=B∧renB (callK σ same) H.size b0=some b) ∨
     (H.get B=some b∧∀ i p,(i,p) ∈ tin.H→p.ro=false→wBlk σ i≠some B):=by
  intro B b hg hl
  rcases putAll_get (by show H.size + tp.m≤_; exact c1) hc hg with ⟨k,b0,e1,e2,e3,e4⟩ | hg
  ·exact .inl ⟨k,b0,e1,e2,List.all_eq_true.1 c3 _ e1,e3,e4⟩
  ·right
   have hlt:=AS.get_lt hg
   have hlt:B < H.size + tp.m:=hlt
   rcases Nat.lt_or_ge B H.size with hB | hB
   ·refine killAll_get h.big ?_ hl
    unfold AS.get at hg ⊢
    rw [killAll_size,if_pos hB]
    rw [if_pos (by exact hlt)] at hg
    exact hg
   ·exfalso
    unfold AS.get at hg
    rw [if_pos (by exact hlt)] at hg
    have hg:(killAll σ tin.H H).heap.get D B=some b:=hg
    rw [killAll_beyond hB (by omega)] at hg
    have:=List.all_eq_true.1 c5 (B - H.size) (List.mem_range.2 (by omega))
    rw [show H.size + (B - H.size)=B from by omega,hg] at this
    cases this
 have kept:∀ {B:Nat} {b:Blk} {c s:Nat} {C:Array Value} {fr:Nat × Nat},H.get B=some b→b.live=true→(∀ i p,(i,p) ∈ tin.H→p.ro=false→wBlk σ i≠some B)→Go.SM.hm β B=some (c,s)→HC w c C b fr →
     (w0.call w β σ tin.H).keep c:=by
  intro B b c s C fr hg hl hn hb hC
  obtain ⟨e,he,_⟩:=hC
  refine ⟨?_,fun i p B' hp hro hw hh=>?_⟩
  ·rcases Nat.lt_or_ge c w.heap.size with hlt | hlt
   ·exact hlt
   ·rw [Array.getElem?_eq_none hlt] at he; cases he
  ·obtain ⟨B2,b2,m1,m2,m3,m4⟩:=hM i p hp
   rw [hw] at m1
   cases m1
   have hne:B'≠B:=fun e=>hn i p hp hro (by rw [hw,e])
   have:=h.inj B' B b2 b m2 hg m3 hl (m4 hro) hne
   rw [hh,hb] at this
   exact this rfl
 have sub:∀ c,w0.keep c→(w0.call w β σ tin.H).keep c:=by
  intro c hk
  refine ⟨Nat.lt_of_lt_of_le (w0.lt c hk) h.below.size,fun i p B hp hro hw hh=>?_⟩
  obtain ⟨B2,b2,m1,m2,m3,m4⟩:=hM i p hp
  rw [hw] at m1
  cases m1
  obtain ⟨c',s,C,fr,q1,_,_,_,_,_,q2,_⟩:=h.blk B b2 m2 m3
  rw [q1] at hh
  cases hh
  exact q2 (m4 hro) hk
 refine ⟨by rw [List.length_append,hs3,hm2,hlen],by rw [hs3]; exact c1,?_,?_,?_⟩
 ·intro B b hg hl
  rcases src hg hl with ⟨k,b0,e1,e2,e3,rfl,e4⟩ | ⟨hg',hn⟩
  ·obtain ⟨r1,r2,r3,r4,r5⟩:=renB_of e4
   obtain ⟨c,s,C,fr,q1,⟨el,q2,q3⟩,q4,q5,q6,q7,q8,q9⟩:=h2.blk k b0 (heapOf_mem (by omega) c2 e1) e3
   obtain ⟨l1,l2⟩:=renC_get r4
   refine ⟨c,s,C,fr,by rw [← hlen]; exact muK_ok hκ q1,⟨el,q2,fun hro=>by rw [q3 (by rw [← r1]; exact hro),r3]⟩,fun x hx=>q4 x (by rw [← hget]; exact hx),by rw [l1]; exact q5,fun hro=>q6 (by rw [← r1]; exact hro),fun i v hi=>?_,fun hro hk=>q8 (by rw [← r1]; exact hro) (sub c hk),?_⟩
   ·obtain ⟨v0,hv0,hv1⟩:=l2 i v hi
    obtain ⟨u,hu,hvu⟩:=q7 i v0 hv0
    exact ⟨u,hu,hren hv1 hvu⟩
   ·intro e' he'
    rcases r5 e' he' with ⟨j,hj,hj2⟩ | ⟨j,e2,hj,hj2,rfl⟩
    ·rcases q9 _ hj with ⟨t,pr,po,t1,t2,t3,t4⟩ | ⟨t,pr,po,t1,_⟩
     ·have:t=.var j:=TL.inj t (.var j) t1.symm
      subst this
      rw [← hlen] at hj2
      obtain ⟨t',rfl,t5,t6⟩:=renS_sound hκ hj2 t2
      exact .inl ⟨t',pr,po,rfl,t5,t3,by rw [t6]; exact t4⟩
     ·cases t1
    ·rcases q9 _ hj with ⟨t,pr,po,t1,_⟩ | ⟨t,pr,po,t1,t2,t3,t4,t4'⟩
     ·have:=TL.notN t
      rw [← t1] at this
      cases this
     ·have:t=.var j:=TN.inj t (.var j) (nd1_inj t1).2.symm
      subst this
      rw [← hlen] at hj2
      obtain ⟨t',rfl,t5,t6⟩:=renN_sound hκ hj2 t2
      exact .inr ⟨t',pr,po,rfl,t5,t3,by rw [t6]; exact t4,by rw [t6]; exact t4'⟩
  ·obtain ⟨c,s,C,fr,q1,q2,q4,q5,q6,q7,q8,q9⟩:=h.blk B b hg' hl
   have hk:=kept hg' hl hn q1 q2
   obtain ⟨el,q2,q3⟩:=q2
   have hBl:B < β.length:=by rw [hlen]; exact AS.get_lt hg'
   refine ⟨c,s,C,fr,hm_append q1,⟨el,by rw [h2.below.block c hk]; exact q2,q3⟩,fun x hx=>q4 x (by rw [List.getElem?_append_left hBl] at hx; exact hx),q5,q6,fun i v hi=>?_,q8,q9.mono⟩
   obtain ⟨u,hu,hvu⟩:=q7 i v hi
   exact ⟨u,hu,hvu.mono⟩
 ·intro B B' b b' hg hg' hl hl' hro hne
  have hmB:∀ {B:Nat} {b:Blk},H.get B=some b→Go.SM.hm (β++β2) B=Go.SM.hm β B:=by
   intro B b hg
   unfold Go.SM.hm
   rw [List.getElem?_append_left (by rw [hlen]; exact AS.get_lt hg)]
  have hmk:∀ k,Go.SM.hm (β++β2) (muK (callK σ same) H.size k)=Go.SM.hm β2 k:=by
   intro k; unfold Go.SM.hm; rw [hget]
  have mix:∀ {k:Nat} {b0:Blk} {B:Nat} {b:Blk},(k,b0) ∈ tp.H→b0.ro=false→b0.live=true→H.get B=some b→b.live=true→(∀ i p,(i,p) ∈ tin.H→p.ro=false→wBlk σ i≠some B) →
      (Go.SM.hm β2 k).map (·.1)≠(Go.SM.hm β B).map (·.1):=by
   intro k b0 B b e1 e2 e3 hg hl hn he
   obtain ⟨c,s,C,fr,q1,_,_,_,_,_,q8,_⟩:=h2.blk k b0 (heapOf_mem (by omega) c2 e1) e3
   obtain ⟨c',s',C',fr',p1,p2,_⟩:=h.blk B b hg hl
   rw [q1,p1] at he
   have:c=c':=by simpa using he
   subst this
   exact q8 e2 (kept hg hl hn p1 p2)
  rcases src hg hl with ⟨k,b0,e1,e2,e3,rfl,e4⟩ | ⟨hg1,hn⟩ <;> rcases src hg' hl' with ⟨k',b0',f1,f2,f3,rfl,f4⟩ | ⟨hg1',hn'⟩
  ·rw [hmk,hmk]
   exact h2.inj k k' b0 b0' (heapOf_mem (by omega) c2 e1) (heapOf_mem (by omega) c2 f1) e3 f3 e2 (fun e=>hne (by rw [e]))
  ·rw [hmk,hmB hg1']
   exact mix e1 e2 e3 hg1' hl' hn'
  ·rw [hmk,hmB hg1]
   exact fun e=>mix f1 f2 f3 hg1 hl hn e.symm
  ·rw [hmB hg1,hmB hg1']
   exact h.inj B B' b b' hg1 hg1' hl hl' hro hne
 ·refine ⟨h2.below.os.trans h.below.os,h2.below.tape.trans h.below.tape,h2.below.output.trans h.below.output,Nat.le_trans h.below.size h2.below.size,fun k hk=>?_⟩
  exact (h2.below.block k (sub k hk)).trans (h.below.block k hk)
end
end Go.SM
