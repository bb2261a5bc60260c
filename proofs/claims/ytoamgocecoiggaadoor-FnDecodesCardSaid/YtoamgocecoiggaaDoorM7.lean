-- the statement of this claim: see YtoamgocecoiggaaDoorRw
import Derived.Test.YtoamgocecoiggaaDoorM6
set_option linter.unusedVariables false
set_option linter.unusedSimpArgs false
namespace Go.SM
noncomputable section
def deadB:Blk:={ cells:=[],elem:=0,ro:=true,live:=false }
theorem HR.var {w0:W0} {β:Ren} {H H':AS} {w:World} (h:HR w0 β H w) {K:Nat} (hn:H.new deadB=some (K,H')) (q:Hm):HR w0 (β++[q]) H' w∧(β++[q])[K]?=some q∧K=β.length:=by
 obtain ⟨rfl,hs',hlt,hgB,hgX⟩:=AS.new_get hn
 have hold:∀ (X:Nat) (p:Nat × Nat),hm β X=some p→hm (β++[q]) X=some p:=fun X p hp=>hm_append hp
 have dead:∀ X b,H'.get X=some b→b.live=true→H.get X=some b:=by
  intro X b hg hl
  by_cases hX:X=H.size
  ·subst hX; rw [hgB] at hg; cases hg; cases hl
  ·rw [hgX X hX] at hg; exact hg
 refine ⟨⟨by simp [h.len,hs'],by omega,?_,?_,h.below⟩,(hm_last h.len).2,h.len.symm⟩
 ·intro X b hg hl
  have hg0:=dead X b hg hl
  obtain ⟨c,s,C,fr,hβ,hw,h0,h1,h2,h3,h4⟩:=h.blk X b hg0 hl
  refine ⟨c,s,C,fr,hold _ _ hβ,hw,?_,h1,h2,?_,h4.1,h4.2.mono⟩
  ·intro p hp
   rw [List.getElem?_append_left (h.lt_len hg0)] at hp
   exact h0 p hp
  ·intro i v hiv
   obtain ⟨u,hu,huv⟩:=h3 i v hiv
   exact ⟨u,hu,huv.mono⟩
 ·intro X Y b b' hg hg' hl hl' hro hne
  have g1:=dead X b hg hl
  have g2:=dead Y b' hg' hl'
  obtain ⟨c,s,C,fr,hβ,_⟩:=h.blk X b g1 hl
  obtain ⟨c',s',C',fr',hβ',_⟩:=h.blk Y b' g2 hl'
  rw [hold _ _ hβ,hold _ _ hβ',← hβ,← hβ']
  exact h.inj X Y b b' g1 g2 hl hl' hro hne
theorem HR.newS {w0:W0} {β:Ren} {H H':AS} {w w':World} (h:HR w0 β H w) {C:Array Value} {fr:Nat × Nat} {blk:Blk} {B:Nat}
    (hn:H.new blk=some (B,H')) (hcl:blk.cells=[]) (hw:w'.heap=w.heap.push (.cells C blk.elem fr)) (hbel:Kept w0 w') (hfr:∀ i,i < C.size→¬ (fr.1≤i∧i < fr.2))
    (hseq:SeqOk β blk C 0) :
    HR w0 (β++[⟨w.heap.size,0,C.size,undef,noPr⟩]) H' w'∧hm (β++[⟨w.heap.size,0,C.size,undef,noPr⟩]) B=some (w.heap.size,0):=by
 obtain ⟨rfl,hs',hlt,hgB,hgX⟩:=AS.new_get hn
 obtain ⟨hB,hB'⟩:=hm_last (h:=⟨w.heap.size,0,C.size,undef,noPr⟩) h.len
 have hold:∀ (X:Nat) (p:Nat × Nat),hm β X=some p→hm (β++[⟨w.heap.size,0,C.size,undef,noPr⟩]) X=some p:=fun X p hp=>hm_append hp
 have hheap:∀ k,k < w.heap.size→w'.heap[k]?=w.heap[k]?:=fun k hk=>by rw [hw,Array.getElem?_push,if_neg (by omega)]
 refine ⟨⟨by simp [h.len,hs'],by omega,?_,?_,hbel⟩,hB⟩
 ·intro X b hg hl
  by_cases hX:X=H.size
  ·subst hX
   rw [hgB] at hg; cases hg
   exact ⟨w.heap.size,0,C,fr,hB,⟨_,by rw [hw]; simp,fun _=>rfl⟩,fun q hq=>by rw [hB'] at hq; cases hq; rfl,by simp [hcl],fun _=>hfr,fun i v hv=>by simp [hcl] at hv,fun _=>h.below.fresh,hseq.mono⟩
  ·rw [hgX X hX] at hg
   obtain ⟨c,s,C2,fr2,hβ,⟨el2,hw2,hel2⟩,h0,h1,h2,h3,h4⟩:=h.blk X b hg hl
   have hc:=h.home_lt hg hl hβ
   refine ⟨c,s,C2,fr2,hold _ _ hβ,⟨_,by rw [hheap _ hc]; exact hw2,hel2⟩,?_,h1,h2,?_,h4.1,h4.2.mono⟩
   ·intro q hq
    have hlt':=h.lt_len hg
    rw [List.getElem?_append_left hlt'] at hq
    exact h0 q hq
   ·intro i v hiv
    obtain ⟨u,hu,huv⟩:=h3 i v hiv
    exact ⟨u,hu,huv.mono⟩
 ·intro X Y b b' hg hg' hl hl' hro hne
  by_cases hX:X=H.size
  ·subst hX
   have hY:Y≠H.size:=fun e=>hne e.symm
   rw [hgX Y hY] at hg'
   obtain ⟨c,s,C2,fr2,hβ,_⟩:=h.blk Y b' hg' hl'
   have hc:=h.home_lt hg' hl' hβ
   rw [hB,hold _ _ hβ]
   simp only [Option.map_some,ne_eq,Option.some.injEq]
   omega
  ·rw [hgX X hX] at hg
   obtain ⟨c,s,C2,fr2,hβ,_⟩:=h.blk X b hg hl
   have hc:=h.home_lt hg hl hβ
   by_cases hY:Y=H.size
   ·subst hY
    rw [hB,hold _ _ hβ]
    simp only [Option.map_some,ne_eq,Option.some.injEq]
    omega
   ·rw [hgX Y hY] at hg'
    obtain ⟨c',s',C',fr',hβ',_⟩:=h.blk Y b' hg' hl'
    rw [hold _ _ hβ,hold _ _ hβ',← hβ,← hβ']
    exact h.inj X Y b b' hg hg' hl hl' hro hne
theorem HR.rehomeS {w0:W0} {β:Ren} {H H1 H':AS} {w w':World} (h:HR w0 β H w) {B B' c s s':Nat} {b blk:Blk} {C C':Array Value} {fr:Nat × Nat}
    (hg:H.get B=some b) (hl:b.live=true) (hro:b.ro=false) (hb:hm β B=some (c,s)) (hk:akill H B=some H1) (hn:H1.new blk=some (B',H')) (hcl:blk.cells=[]) (hel:blk.elem=b.elem)
    (hw:w.heap[c]?=some (.cells C b.elem fr)) (hC:C'.size=C.size) (hw':w'.heap[c]?=some (.cells C' b.elem fr)) (hoth:∀ k,k≠c→w'.heap[k]?=w.heap[k]?) (hkept:Kept w0 w') (hs':s'≤C'.size) (hseq:SeqOk β blk C' s') :
    HR w0 (β++[⟨c,s',C'.size,undef,noPr⟩]) H' w'∧hm (β++[⟨c,s',C'.size,undef,noPr⟩]) B'=some (c,s'):=by
 obtain ⟨hk1,hk2,hk3⟩:=h.kill hk
 obtain ⟨rfl,hs1,hlt,hgB,hgX⟩:=AS.new_get hn
 obtain ⟨c0,s0,C0,fr0,hβ,⟨el1,hw0,hel1⟩,htop,hsz',hfr,hcells,hbase⟩:=h.blk B b hg hl
 rw [hb] at hβ; cases hβ
 rw [hw] at hw0
 simp only [Option.some.injEq,Obj.cells.injEq] at hw0
 obtain ⟨rfl,rfl,rfl⟩:=hw0
 have hlen:β.length=H1.size:=hk1.len
 obtain ⟨hB,hB'⟩:=hm_last (h:=⟨c,s',C'.size,undef,noPr⟩) hlen
 refine ⟨⟨by simp [hlen,hs1],by omega,?_,?_,hkept⟩,hB⟩
 ·intro X b' hgX' hl'
  by_cases hX:X=H1.size
  ·subst hX
   rw [hgB] at hgX'; cases hgX'
   exact ⟨c,s',C',fr,hB,⟨_,hw',fun _=>hel.symm⟩,fun p hp=>by rw [hB'] at hp; cases hp; rfl,by simp [hcl]; exact hs',fun _=>by rw [hC]; exact hfr hro,fun i v hv=>by simp [hcl] at hv,fun _=>hbase.1 hro,hseq.mono⟩
  ·rw [hgX X hX] at hgX'
   obtain ⟨hXB,hgH⟩:=hk3 X b' hgX' hl'
   obtain ⟨c2,s2,C2,fr2,hβ2,⟨el2,hw2,hel2⟩,r0,r1,r2,r3,r4⟩:=h.blk X b' hgH hl'
   have hne:=h.inj B X b b' hg hgH hl hl' hro (fun e=>hXB e.symm)
   rw [hb,hβ2] at hne
   simp only [Option.map_some,ne_eq,Option.some.injEq] at hne
   refine ⟨c2,s2,C2,fr2,hm_append hβ2,⟨_,by rw [hoth c2 (fun e=>hne e.symm)]; exact hw2,hel2⟩,?_,r1,r2,?_,r4.1,r4.2.mono⟩
   ·intro p hp
    rw [List.getElem?_append_left (h.lt_len hgH)] at hp
    exact r0 p hp
   ·intro k x hx
    obtain ⟨u,hu,hxu⟩:=r3 k x hx
    exact ⟨u,hu,hxu.mono⟩
 ·intro X Y b1 b2 g1 g2 l1 l2 r1 hne
  have key:∀ Z bz,H'.get Z=some bz→bz.live=true→Z≠H1.size→Z≠B∧H.get Z=some bz∧∃ p,hm β Z=some p:=by
   intro Z bz hz hlz hZ
   rw [hgX Z hZ] at hz
   obtain ⟨a1,a2⟩:=hk3 Z bz hz hlz
   obtain ⟨c,s,_,_,hβz,_⟩:=h.blk Z bz a2 hlz
   exact ⟨a1,a2,_,hβz⟩
  by_cases hX:X=H1.size
  ·subst hX
   obtain ⟨y1,y2,p,y3⟩:=key Y b2 g2 l2 (fun e=>hne e.symm)
   have:=h.inj B Y b b2 hg y2 hl l2 hro (fun e=>y1 e.symm)
   rw [hB,hm_append y3,← y3]
   rw [hb] at this
   exact this
  ·obtain ⟨x1,x2,p,x3⟩:=key X b1 g1 l1 hX
   by_cases hY:Y=H1.size
   ·subst hY
    have:=h.inj X B b1 b x2 hg l1 hl r1 x1
    rw [hB,hm_append x3,← x3]
    rw [hb] at this
    exact this
   ·obtain ⟨y1,y2,p',y3⟩:=key Y b2 g2 l2 hY
    rw [hm_append x3,hm_append y3,← x3,← y3]
    exact h.inj X Y b1 b2 x2 y2 l1 l2 r1 hne
theorem raw_loads {P:Program} {w:World} {c:Nat} {C:Array Value} {e:TypeId} {fr:Nat × Nat} (hw:w.heap[c]?=some (.cells C e fr)) (p:Nat):∀ (n j:Nat) (acc:Array Value),p + j + n≤C.size →
    (loadCellsFrom ⟨c,p,none⟩ j n acc).run P w=.ok (acc++((C.toList.drop (p + j)).take n).toArray) w
 | 0,j,acc,_=>by simp [loadCellsFrom,pure]
 | n + 1,j,acc,h=>by
  have hi:p + j < C.size:=by omega
  have hwc:w.cell? ⟨c,p + j,none⟩=some C[p + j]:=by rw [cell_at hw]; exact Array.getElem?_eq_getElem hi
  simp only [loadCellsFrom,load,add_at]
  show Sem.run P (Sem.load .plain _ _) w=_
  simp only [Sem.run,hwc]
  refine (raw_loads hw p n (j + 1) (acc.push C[p + j]) (by omega)).trans ?_
  congr 1
  apply Array.ext'
  have:C.toList.drop (p + j)=C[p + j]::C.toList.drop (p + (j + 1)):=by
   rw [List.drop_eq_getElem_cons (by simpa using hi)]; rfl
  rw [this]; simp
theorem seq_loads {P:Program} {w:World} {c s o n:Nat} {C:Array Value} {e:TypeId} {fr:Nat × Nat} {l:List UInt8} {pre post:List Value} (hw:w.heap[c]?=some (.cells C e fr)) (hC:C.toList=pre++bv l++post) (hs:pre.length=s) (hn:o + n≤l.length) :
    (loadCells ⟨c,o + s,none⟩ n).run P w=.ok (bv ((l.take (o + n)).drop o)).toArray w:=by
 have hCs:C.size=pre.length + l.length + post.length:=by
  have:=congrArg List.length hC
  simp only [Array.length_toList,List.length_append,bv_len] at this
  exact this
 unfold loadCells
 rw [raw_loads hw (o + s) n 0 #[] (by omega)]
 congr 1
 simp only [Nat.add_zero,Array.empty_append]
 congr 1
 have e1:C.toList.drop (o + s)=(bv l).drop o++post:=by
  rw [hC,List.append_assoc,List.drop_append,List.drop_of_length_le (by omega),List.nil_append,show o + s - pre.length=o from by omega,List.drop_append_of_le_length (by rw [bv_len]; omega)]
 rw [e1,List.take_append_of_le_length (by rw [List.length_drop,bv_len]; omega)]
 simp only [bv,List.map_drop,List.map_take]
 rw [List.drop_take,show o + n - o=n from by omega]
def onesT:List Value→Option Value
 | []=>some (.string .empty)
 | v::vs =>
  match asI v,onesT vs with
  | some (.u8,e,lo,hi),some r=>if 0≤lo∧hi≤255 then some (match vs with
   | []=>nd1 22 e
   | _=>nd2 21 (nd1 22 e) r) else none
  | _,_=>none
theorem onesT_sound {β:Ren}:∀ {vs us:List Value} {e:Value},VRs β vs us→onesT vs=some e→∃ t:TL,e=t.enc∧t.ok β.length=true∧us=bv (t.den β)∧(t.den β).length=vs.length
 | [],us,e,h,ho=>by
  have:us=[]:=List.eq_nil_of_length_eq_zero h.1
  subst this
  cases ho
  exact ⟨.lit [],rfl,rfl,rfl,rfl⟩
 | v::vs,us,e,h,ho=>by
  obtain ⟨u,us',rfl,h1,h2⟩:=h.cons_inv
  simp only [onesT] at ho
  split at ho
  rotate_left
  ·cases ho
  rename_i e' lo hi r hq hr
  split at ho
  rotate_left
  ·cases ho
  rename_i hc
  obtain ⟨t,rfl,t1,rfl,t2,t3⟩:=asI_sound h1 hq
  obtain ⟨tr,rfl,r1,rfl,r2⟩:=onesT_sound h2 hr
  have hu8:((UInt8.ofNat (t.den β).toNat).toNat:Int)=t.den β:=by
   rw [UInt8.toNat_ofNat']
   have:(t.den β).toNat < 2 ^ 8:=by omega
   rw [Nat.mod_eq_of_lt this]; omega
  cases ho
  split
  ·have:tr.den β=[]:=List.eq_nil_of_length_eq_zero (by rw [r2]; rfl)
   exact ⟨.one t,rfl,by simpa [TL.ok] using t1,by simp [TL.den,bv,this]; omega,by simp [TL.den]⟩
  ·exact ⟨.app (.one t) tr,rfl,by simp [TL.ok,t1,r1],by simp [TL.den,bv]; omega,by simp [TL.den,r2]⟩
def asrcS (A:List Value) (H:AS) (x:Value):Option Value :=
 match x with
 | .slice none n _=>if n=0 then some (.string .empty) else none
 | .slice (some ⟨B,o,_⟩) n _ =>
  match aloads H B o n with
  | some l=>onesT l
  | none=>none
 | x =>
  match asS x with
  | some (e,_)=>some e
  | none =>
   match asL x with
   | some (B,o,n,c) =>
    match H.get B with
    | some b =>
     match b.live,b.sq with
     | true,some q=>if leOk A (mkAdd o n) (mkLen 20 q)=true then some (mkSubL A q o (mkAdd o n)) else none
     | _,_=>none
    | none=>none
   | none=>none
theorem asrcS_sound {P:Program} {w0:W0} {β:Ren} {H:AS} {w:World} {A:List Value} (hA:Facts β A) (h:HR w0 β H w) {x x' e:Value} (hx:VR β x x') (hs:asrcS A H x=some e) :
    ∃ t:TL,e=t.enc∧t.ok β.length=true∧(Builtin.lenOf x').run P w=.ok (t.den β).length w∧∀ k,k≤(t.den β).length→(Builtin.firstCells 1 k x').run P w=.ok (bv ((t.den β).take k)).toArray w:=by
 unfold asrcS at hs
 split at hs
 ·rename_i n c
  split at hs
  ·rename_i hn
   cases hs
   subst hn
   cases hx
   exact ⟨.lit [],rfl,rfl,rfl,fun k _=>by simp [TL.den,bv]; rfl⟩
  ·cases hs
 ·rename_i B o sp n c
  split at hs
  rotate_left
  ·cases hs
  rename_i l hl
  have hlen:=(aloads_at hl).1
  have go:∀ (b s:Nat),hm β B=some (b,s)→∀ c',x'=.slice (some ⟨b,o + s,none⟩) n c'→∃ t:TL,e=t.enc∧t.ok β.length=true∧(Builtin.lenOf x').run P w=.ok (t.den β).length w∧∀ k,k≤(t.den β).length→(Builtin.firstCells 1 k x').run P w=.ok (bv ((t.den β).take k)).toArray w:=by
   rintro b s hb c' rfl
   obtain ⟨us,hrun,hv⟩:=h.loads (P:=P) hl hb
   obtain ⟨t,h1,h2,h3,h4⟩:=onesT_sound hv hs
   refine ⟨t,h1,h2,by rw [h4,hlen]; rfl,fun k hk=>?_⟩
   have hk':k≤n:=by rw [← hlen,← h4]; exact hk
   obtain ⟨C,el,fr,hw,hsz⟩:∃ (C:Array Value) (el:TypeId) (fr:Nat × Nat),w.heap[b]?=some (.cells C el fr)∧o + s + n≤C.size:=by
    unfold aloads at hl
    split at hl
    ·rename_i bl hg
     split at hl
     ·rename_i hc
      simp only [Bool.and_eq_true,decide_eq_true_eq] at hc
      obtain ⟨c2,s2,C,fr,hβ,⟨el,hw,_⟩,_,hsz,_⟩:=h.blk B bl hg hc.1
      rw [hb] at hβ; cases hβ
      exact ⟨C,el,fr,hw,by omega⟩
     ·cases hl
    ·cases hl
   have r1:=raw_loads (P:=P) hw (o + s) n 0 #[] (by omega)
   have r2:=raw_loads (P:=P) hw (o + s) k 0 #[] (by omega)
   have hus:us=(C.toList.drop (o + s)).take n:=by
    have hrun':(loadCells ⟨b,o + s,none⟩ n).run P w=.ok us.toArray w:=hrun
    unfold loadCells at hrun'
    rw [r1] at hrun'
    simp only [Nat.add_zero,Array.empty_append,Result.ok.injEq,and_true] at hrun'
    have:=congrArg Array.toList hrun'
    simpa using this.symm
   have e1:(C.toList.drop (o + s)).take k=bv ((t.den β).take k):=by
    have:us.take k=bv ((t.den β).take k):=by rw [h3]; simp [bv,List.map_take]
    rw [← this,hus,List.take_take,Nat.min_eq_left hk']
   simp only [Builtin.firstCells,Nat.mul_one]
   unfold loadCells
   rw [r2]
   simp only [Nat.add_zero,Array.empty_append,e1]
  cases hx with
  | sl _ _ b s _ _ hb=>exact go b s hb _ rfl
  | slL _ _ _ _ c' z q hb _ _=>exact go _ _ (hm_of hb) _ rfl
 ·split at hs
  ·rename_i e' hi he
   cases hs
   obtain ⟨t,rfl,h1,rfl,h2⟩:=asS_sound hx he
   refine ⟨t,rfl,h1,?_,fun k hk=>?_⟩
   ·simp only [Builtin.lenOf]
    show Result.ok (t.den β).toArray.size w=_
    simp
   ·simp only [Builtin.firstCells]
    show Result.ok _ w=_
    congr 1
    apply Array.ext'
    simp only [Array.toList_map,Lib.extract_data]
    simp [bv]
  ·split at hs
   rotate_left
   ·cases hs
   rename_i B o n c he
   obtain ⟨to,tn,tc,b,s,rfl,rfl,rfl,hk,rfl⟩:=asL_sound hx he
   split at hs
   rotate_left
   ·cases hs
   rename_i bl hg
   split at hs
   rotate_left
   ·cases hs
   rename_i q hlive hseq
   split at hs
   rotate_left
   ·cases hs
   rename_i hle
   cases hs
   obtain ⟨c',s',C,fr,hβ,⟨el,hw,hel⟩,htop,hsz,hfr,hcl,hbase,hsq⟩:=h.blk B bl hg hlive
   rw [hk.home] at hβ; cases hβ
   obtain ⟨tl,pre,post,rfl,hok,hpre,hC⟩:=hsq.get hseq
   obtain ⟨ra,a1,a2,a3⟩:=mkAdd_sound to tn
   obtain ⟨r,e1,e2,e3⟩:=mkLen_sound 20 tl
   rw [a1,e1] at hle
   have hle:=leOk_sound hA hle
   rw [a3,e3] at hle
   obtain ⟨rs,s1,s2,s3⟩:=mkSubL_sound A tl to ra
   have o0:=hk.o0
   have n0:=hk.n0
   have hto:(ra.den β).toNat=(to.den β).toNat + (tn.den β).toNat:=by rw [a3]; omega
   have hlen:(rs.den β).length=(tn.den β).toNat:=by
    rw [s3,List.length_drop,List.length_take,hto]; omega
   refine ⟨rs,by rw [a1,s1],s2 _ hok hk.oko (a2 _ hk.oko hk.okn),by rw [hlen]; rfl,fun k hk'=>?_⟩
   simp only [Builtin.firstCells,Nat.mul_one]
   rw [seq_loads hw hC hpre (by omega)]
   congr 2
   rw [s3,hto,List.take_drop]
   congr 1
   rw [List.take_take,Nat.min_eq_left (by omega)]
end
end Go.SM
