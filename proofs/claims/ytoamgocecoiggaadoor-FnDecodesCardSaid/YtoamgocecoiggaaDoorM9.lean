-- the statement of this claim: see YtoamgocecoiggaaDoorRw
import Derived.Test.YtoamgocecoiggaaDoorM8
set_option linter.unusedVariables false
set_option linter.unusedSimpArgs false
namespace Go.SM
noncomputable section
theorem nv_one (a:List Int):(nv a).all one=true:=by
 rw [List.all_eq_true]; intro v hv
 simp only [nv,List.mem_map] at hv
 obtain ⟨x,_,rfl⟩:=hv; rfl
theorem vNums_tup (l:List Int):vNums (.tuple (nv l).toArray)=l:=by
 unfold vNums nv
 simp only [List.map_map]
 exact (List.map_congr_left fun x _=>rfl).trans (List.map_id l)
def mkSubN (A:List Value) (l a b:Value):Value :=
 match l,a with
 | .func (.yield 26) ⟨[x,y]⟩ ⟨[]⟩,.int k z=>if z=0∧teq 60 (mkLenN 20 x) b=true then x else if z=0∧teq 60 (mkLenN 20 l) b=true then l else nd3 27 l a b
 | l,.int k z=>if z=0∧teq 60 (mkLenN 20 l) b=true then l else nd3 27 l a b
 | l,a=>nd3 27 l a b
theorem mkSubN_sound (A:List Value) (l:TN) (a b:TI):∃ r:TN,mkSubN A l.enc a.enc b.enc=r.enc∧(∀ n,l.ok n=true→a.ok n=true→b.ok n=true→r.ok n=true) ∧
    ∀ β,r.den β=((l.den β).take (b.den β).toNat).drop (a.den β).toNat:=by
 have whole:∀ {z:Int},a=.lit z→z=0→teq 60 (mkLenN 20 l.enc) b.enc=true→∀ β,l.den β=((l.den β).take (b.den β).toNat).drop (a.den β).toNat:=by
  rintro z rfl rfl hb β
  obtain ⟨r,h1,h2,h3⟩:=mkLenN_sound 20 l
  have:=teq_eq _ _ _ hb
  rw [h1] at this
  have:=TI.inj _ _ this
  subst this
  rw [h3]; simp [TI.den]
 have base:∃ r:TN,nd3 27 l.enc a.enc b.enc=r.enc∧(∀ n,l.ok n=true→a.ok n=true→b.ok n=true→r.ok n=true)∧∀ β,r.den β=((l.den β).take (b.den β).toNat).drop (a.den β).toNat :=
  ⟨.sub l a b,rfl,fun n h1 h2 h3=>by simp [TN.ok,h1,h2,h3],fun β=>rfl⟩
 generalize hl:l.enc=e at base whole ⊢
 generalize ha:a.enc=f at base ⊢
 unfold mkSubN
 split
 ·rename_i x y k z
  obtain ⟨p,q,rfl,rfl,rfl⟩:=encN_app hl
  obtain ⟨rfl,rfl⟩:=enc_int ha
  split
  ·rename_i hc
   obtain ⟨rfl,hc⟩:=hc
   refine ⟨p,rfl,fun n h _ _=>by simp [TN.ok] at h; exact h.1,fun β=>?_⟩
   obtain ⟨r,h1,h2,h3⟩:=mkLenN_sound 20 p
   have:=teq_eq _ _ _ hc
   rw [h1] at this
   have:=TI.inj _ _ this
   subst this
   rw [h3]; simp [TI.den,TN.den]
  ·split
   ·rename_i hc
    exact ⟨.app p q,hl.symm,fun n h _ _=>h,whole rfl hc.1 hc.2⟩
   ·exact base
 ·obtain ⟨rfl,rfl⟩:=enc_int ha
  split
  ·rename_i hc
   exact ⟨l,hl.symm,fun n h _ _=>h,whole rfl hc.1 hc.2⟩
  ·exact base
 ·exact base
theorem nseq_loads {P:Program} {w:World} {c s o n:Nat} {C:Array Value} {e:TypeId} {fr:Nat × Nat} {l:List Int} {pre post:List Value} (hw:w.heap[c]?=some (.cells C e fr)) (hC:C.toList=pre++nv l++post) (hs:pre.length=s) (hn:o + n≤l.length) :
    (loadCells ⟨c,o + s,none⟩ n).run P w=.ok (nv ((l.take (o + n)).drop o)).toArray w:=by
 have hCs:C.size=pre.length + l.length + post.length:=by
  have:=congrArg List.length hC
  simp only [Array.length_toList,List.length_append,nv_len] at this
  exact this
 unfold loadCells
 rw [raw_loads hw (o + s) n 0 #[] (by omega)]
 congr 1
 simp only [Nat.add_zero,Array.empty_append]
 congr 1
 have e1:C.toList.drop (o + s)=(nv l).drop o++post:=by
  rw [hC,List.append_assoc,List.drop_append,List.drop_of_length_le (by omega),List.nil_append,show o + s - pre.length=o from by omega,List.drop_append_of_le_length (by rw [nv_len]; omega)]
 rw [e1,List.take_append_of_le_length (by rw [List.length_drop,nv_len]; omega)]
 simp only [nv,List.map_drop,List.map_take]
 rw [List.drop_take,show o + n - o=n from by omega]
def onesN:List Value→Option Value
 | []=>some (.bool false)
 | v::vs =>
  match asI v,onesN vs with
  | some (.i64,e,lo,hi),some r=>if 0≤lo∧hi≤4194303 then some (match vs with
   | []=>nd1 25 e
   | _=>nd2 26 (nd1 25 e) r) else none
  | _,_=>none
theorem onesN_sound {β:Ren}:∀ {vs us:List Value} {e:Value},VRs β vs us→onesN vs=some e→∃ t:TN,e=t.enc∧t.ok β.length=true∧us=nv (t.den β)∧(t.den β).length=vs.length∧∀ x ∈ t.den β,0≤x∧x≤4194303
 | [],us,e,h,ho=>by
  have:us=[]:=List.eq_nil_of_length_eq_zero h.1
  subst this
  cases ho
  exact ⟨.nil,rfl,rfl,rfl,rfl,fun x hx=>by simp [TN.den] at hx⟩
 | v::vs,us,e,h,ho=>by
  obtain ⟨u,us',rfl,h1,h2⟩:=h.cons_inv
  simp only [onesN] at ho
  split at ho
  rotate_left
  ·cases ho
  rename_i e' lo hi r hq hr
  split at ho
  rotate_left
  ·cases ho
  rename_i hc
  obtain ⟨t,rfl,t1,rfl,t2,t3⟩:=asI_sound h1 hq
  obtain ⟨tr,rfl,r1,rfl,r2,r3⟩:=onesN_sound h2 hr
  cases ho
  split
  ·have:tr.den β=[]:=List.eq_nil_of_length_eq_zero (by rw [r2]; rfl)
   exact ⟨.one t,rfl,by simpa [TN.ok] using t1,by simp [TN.den,nv,this],by simp [TN.den],fun x hx=>by simp [TN.den] at hx; omega⟩
  ·exact ⟨.app (.one t) tr, rfl, by simp [TN.ok, t1, r1], by simp [TN.den, nv], by simp [TN.den, r2], fun x hx => by
     simp only [TN.den,List.mem_append,List.mem_singleton] at hx
     rcases hx with rfl | hx
     ·omega
     ·exact r3 x hx⟩
def asrcN (A:List Value) (H:AS) (x:Value):Option Value :=
 match x with
 | .slice none n _=>if n=0 then some (.bool false) else none
 | .slice (some ⟨B,o,_⟩) n _ =>
  match aloads H B o n with
  | some l=>onesN l
  | none=>none
 | x =>
  match asL x with
  | some (B,o,n,c) =>
   match H.get B with
   | some b =>
    match b.live,b.seq with
    | true,some (.func (.yield 28) ⟨[q]⟩ ⟨[]⟩)=>if leOk A (mkAdd o n) (mkLenN 20 q)=true then some (mkSubN A q o (mkAdd o n)) else none
    | _,_=>none
   | none=>none
  | none=>none
theorem asrcN_sound {P:Program} {w0:W0} {β:Ren} {H:AS} {w:World} {A:List Value} (hA:Facts β A) (h:HR w0 β H w) {x x' e:Value} (hx:VR β x x') (hs:asrcN A H x=some e) :
    ∃ t:TN,e=t.enc∧t.ok β.length=true∧(Builtin.lenOf x').run P w=.ok (t.den β).length w∧(∀ k,k≤(t.den β).length→(Builtin.firstCells 1 k x').run P w=.ok (nv ((t.den β).take k)).toArray w)∧∀ x ∈ t.den β,0≤x∧x≤4194303:=by
 unfold asrcN at hs
 split at hs
 ·rename_i n c
  split at hs
  ·rename_i hn
   cases hs
   subst hn
   cases hx
   exact ⟨.nil,rfl,rfl,rfl,fun k _=>by simp [TN.den,nv]; rfl,fun x hx=>by simp [TN.den] at hx⟩
  ·cases hs
 ·rename_i B o sp n c
  split at hs
  rotate_left
  ·cases hs
  rename_i l hl
  have hlen:=(aloads_at hl).1
  have go:∀ (b s:Nat),hm β B=some (b,s)→∀ c',x'=.slice (some ⟨b,o + s,none⟩) n c'→∃ t:TN,e=t.enc∧t.ok β.length=true∧(Builtin.lenOf x').run P w=.ok (t.den β).length w∧(∀ k,k≤(t.den β).length→(Builtin.firstCells 1 k x').run P w=.ok (nv ((t.den β).take k)).toArray w)∧∀ x ∈ t.den β,0≤x∧x≤4194303:=by
   rintro b s hb c' rfl
   obtain ⟨us,hrun,hv⟩:=h.loads (P:=P) hl hb
   obtain ⟨t,h1,h2,h3,h4,h5⟩:=onesN_sound hv hs
   refine ⟨t,h1,h2,by rw [h4,hlen]; rfl,fun k hk=>?_,h5⟩
   have hk':k≤n:=by rw [← hlen,← h4]; exact hk
   obtain ⟨C,el,fr,hw,hsz⟩:∃ (C:Array Value) (el:TypeId) (fr:Nat × Nat),w.heap[b]?=some (.cells C el fr)∧o + s + n≤C.size:=by
    unfold aloads at hl
    split at hl
    ·rename_i bl hg
     split at hl
     ·rename_i hc
      simp only [Bool.and_eq_true,decide_eq_true_eq] at hc
      obtain ⟨c2,s2,C,fr,hβ,⟨el,hw,_⟩,_,hsz,_⟩:=h.blk B bl hg hc.1
      rw [hb] at hβ; cases hβ
      exact ⟨C,el,fr,hw,by omega⟩
     ·cases hl
    ·cases hl
   have r1:=raw_loads (P:=P) hw (o + s) n 0 #[] (by omega)
   have r2:=raw_loads (P:=P) hw (o + s) k 0 #[] (by omega)
   have hus:us=(C.toList.drop (o + s)).take n:=by
    have hrun':(loadCells ⟨b,o + s,none⟩ n).run P w=.ok us.toArray w:=hrun
    unfold loadCells at hrun'
    rw [r1] at hrun'
    simp only [Nat.add_zero,Array.empty_append,Result.ok.injEq,and_true] at hrun'
    have:=congrArg Array.toList hrun'
    simpa using this.symm
   have e1:(C.toList.drop (o + s)).take k=nv ((t.den β).take k):=by
    have:us.take k=nv ((t.den β).take k):=by rw [h3]; simp [nv,List.map_take]
    rw [← this,hus,List.take_take,Nat.min_eq_left hk']
   simp only [Builtin.firstCells,Nat.mul_one]
   unfold loadCells
   rw [r2]
   simp only [Nat.add_zero,Array.empty_append,e1]
  cases hx with
  | sl _ _ b s _ _ hb=>exact go b s hb _ rfl
  | slL _ _ _ _ c' z q hb _ _=>exact go _ _ (hm_of hb) _ rfl
 ·split at hs
  rotate_left
  ·cases hs
  rename_i B o n c he
  obtain ⟨to,tn,tc,b,s,rfl,rfl,rfl,hk,rfl⟩:=asL_sound hx he
  split at hs
  rotate_left
  ·cases hs
  rename_i bl hg
  split at hs
  rotate_left
  ·cases hs
  rename_i q hlive hseq
  split at hs
  rotate_left
  ·cases hs
  rename_i hle
  cases hs
  obtain ⟨c',s',C,fr,hβ,⟨el,hw,hel⟩,htop,hsz,hfr,hcl,hbase,hsq⟩:=h.blk B bl hg hlive
  rw [hk.home] at hβ; cases hβ
  obtain ⟨tl,pre,post,rfl,hok,hpre,hC,hrg⟩:=hsq.getN hseq
  obtain ⟨ra,a1,a2,a3⟩:=mkAdd_sound to tn
  obtain ⟨r,e1,e2,e3⟩:=mkLenN_sound 20 tl
  rw [a1,e1] at hle
  have hle:=leOk_sound hA hle
  rw [a3,e3] at hle
  obtain ⟨rs,s1,s2,s3⟩:=mkSubN_sound A tl to ra
  have o0:=hk.o0
  have n0:=hk.n0
  have hto:(ra.den β).toNat=(to.den β).toNat + (tn.den β).toNat:=by rw [a3]; omega
  have hlen:(rs.den β).length=(tn.den β).toNat:=by
   rw [s3,List.length_drop,List.length_take,hto]; omega
  refine ⟨rs,by rw [a1,s1],s2 _ hok hk.oko (a2 _ hk.oko hk.okn),by rw [hlen]; rfl,fun k hk'=>?_,fun x hx=>hrg x (by rw [s3] at hx; exact List.mem_of_mem_take (List.mem_of_mem_drop hx))⟩
  simp only [Builtin.firstCells,Nat.mul_one]
  rw [nseq_loads hw hC hpre (by omega)]
  congr 2
  rw [s3,hto,List.take_drop]
  congr 1
  rw [List.take_take,Nat.min_eq_left (by omega)]
def mkAppN (a b:Value):Value :=
 match a,b with
 | .bool false,b=>b
 | a,.bool false=>a
 | a,b=>nd2 26 a b
theorem mkAppN_sound (s t:TN):∃ r:TN,mkAppN s.enc t.enc=r.enc∧(∀ n,s.ok n=true→t.ok n=true→r.ok n=true)∧∀ β,r.den β=s.den β++t.den β:=by
 generalize hs:s.enc=a
 generalize ht:t.enc=b
 have base:nd2 26 a b=(TN.app s t).enc:=by simp only [TN.enc,hs,ht]
 unfold mkAppN
 split
 ·have:=encN_nil hs
  subst this
  exact ⟨t,ht.symm,fun _ _ h=>h,fun β=>by simp [TN.den]⟩
 ·have:=encN_nil ht
  subst this
  exact ⟨s,hs.symm,fun _ h _=>h,fun β=>by simp [TN.den]⟩
 ·exact ⟨.app s t,base,fun n h h'=>by simp [TN.ok,h,h'],fun _=>rfl⟩
def newSqN (A:List Value) (H:AS) (e:TypeId) (kill:Option Nat) (T:Value):Option (Value × AS) :=
 match H.new deadB with
 | none=>none
 | some (K,H1) =>
  match (match kill with
   | none=>some H1
   | some B=>akill H1 B) with
  | none=>none
  | some H2 =>
   match H2.new { cells:=[],elem:=e,ro:=false,live:=true,seq:=some (nd1 28 (nd2 26 T (.map (some K)))) } with
   | none=>none
   | some (B',H3)=>if leOk A (mkLenN 20 T) (.int .i64 4398046511104)=true then some (sL B' (.int .i64 0) (mkLenN 20 T) (mkAdd (mkLenN 20 T) (nd1 14 (.map (some K)))),H3) else none
def aappendN (P:Program) (A:List Value) (H:AS) (ts:Array TypeId) (s x:Value):Option (Value × AS) :=
 match ts[0]?,ts[1]? with
 | some t,some t2 =>
  match P.underlying t,P.underlying t2 with
  | some (.slice e),some d2 =>
   match P.info? e,azero P e,asrcN A H x with
   | some i,some [.int .i64 z],some src =>
    if isIntD d2=false∧i.size=1∧i.bytes=8∧z=0 then
     match s with
     | .slice none n c=>if n=0∧c=0∧ltOk A (.int .i64 0) (mkLenN 20 src)=true then newSqN A H e none src else none
     | s =>
      match asL s with
      | some (B,o,n,c) =>
       match H.get B with
       | some b =>
        match b.live,b.ro,b.seq with
        | true,false,some (.func (.yield 28) ⟨[q]⟩ ⟨[]⟩)=>if b.elem=e∧leOk A (mkAdd o c) (mkLenN 20 q)=true then newSqN A H e (some B) (mkAppN (mkSubN A q o (mkAdd o n)) src) else none
        | _,_,_=>none
       | none=>none
      | none=>none
    else none
   | _,_,_=>none
  | _,_=>none
 | _,_=>none
theorem zerosN {z:Value} (hz:z.cells.toList=[.int .i64 0]) (n:Nat):(Builtin.zeroCells z.cells n).toList=nv (List.replicate n 0):=by
 have:z.cells=#[.int .i64 0]:=by apply Array.ext'; simpa using hz
 rw [this]
 simp only [Builtin.zeroCells,nv]
 simp only [Array.toList_map,Array.toList_range,List.map_replicate]
 rw [List.eq_replicate_iff]
 refine ⟨by simp,fun b hb=>?_⟩
 simp only [List.mem_map] at hb
 obtain ⟨i,_,rfl⟩:=hb
 have:i % 1=0:=Nat.mod_one i
 simp [this]
theorem newSqN_vr {β:Ren} {A:List Value} {T:TN} {K B' b s':Nat} {tail:List Int} {q:Hm} (hA:Facts β A) (hT:T.ok β.length=true) (hK:K=β.length) (hle:leOk A (mkLenN 20 T.enc) (.int .i64 4398046511104)=true) (hcap:(T.den β).length + tail.length < 2 ^ 63)
    (hb:hm (β++[⟨0,0,0,.tuple (nv tail).toArray,noPr⟩]++[q]) B'=some (b,s')) :
    VR (β++[⟨0,0,0,.tuple (nv tail).toArray,noPr⟩]++[q]) (sL B' (.int .i64 0) (mkLenN 20 T.enc) (mkAdd (mkLenN 20 T.enc) (nd1 14 (.map (some K))))) (.slice (some ⟨b,s',none⟩) (T.den β).length ((T.den β).length + tail.length)):=by
 subst hK
 obtain ⟨r,e1,e2,e3⟩:=mkLenN_sound 20 T
 obtain ⟨ra,a1,a2,a3⟩:=mkAdd_sound r (.lenN (.var β.length))
 rw [e1] at hle ⊢
 have hle:=leOk_sound (t:=.lit 4398046511104) hA hle
 rw [e3] at hle
 simp only [TI.den] at hle
 have a1':mkAdd r.enc (nd1 14 (.map (some β.length)))=ra.enc:=a1
 rw [a1']
 have g1:(T.den (β++[⟨0,0,0,.tuple (nv tail).toArray,noPr⟩]++[q]))=T.den β:=by rw [List.append_assoc]; exact TN.den_app β _ T hT
 have hr:r.den (β++[⟨0,0,0,.tuple (nv tail).toArray,noPr⟩]++[q])=(T.den β).length:=by rw [e3,g1]
 have hv:(TI.lenN (.var β.length)).den (β++[⟨0,0,0,.tuple (nv tail).toArray,noPr⟩]++[q])=tail.length:=by
  simp only [TI.den,TN.den]
  rw [List.append_assoc,List.getElem?_append_right (Nat.le_refl _)]
  simp [vNums_tup]
 have hlen:(β++[(⟨0,0,0,.tuple (nv tail).toArray,noPr⟩:Hm)]++[q]).length=β.length + 2:=by simp
 have:=SlOk.vr (β:=β++[⟨0,0,0,.tuple (nv tail).toArray,noPr⟩]++[q]) (B:=B') (o:=.lit 0) (n:=r) (c:=ra) (b:=b) (s:=s')
  ⟨hb,rfl,e2 _ (TN.ok_app _ _ (by simp) T hT),a2 _ (e2 _ (TN.ok_app _ _ (by simp) T hT)) (by rw [hlen]; simp only [TI.ok,TN.ok]; exact decide_eq_true (by omega)),by simp [TI.den],by rw [hr]; omega,by rw [a3,hr,hv]; omega,by rw [hr]; omega,by rw [a3,hr,hv]; omega⟩
 rw [a3,hr,hv] at this
 simp only [TI.den,Int.toNat_zero,Nat.zero_add,Int.toNat_natCast] at this
 have e4:(((T.den β).length:Int) + (tail.length:Int)).toNat=(T.den β).length + tail.length:=by omega
 rw [e4] at this
 exact this
theorem newSqN_seq {β:Ren} {T:TN} {K:Nat} {tail:List Int} {e:TypeId} {C:Array Value} {s':Nat} {pre post:List Value} (hT:T.ok β.length=true) (hK:K=β.length) (hpre:pre.length=s') (hC:C.toList=pre++nv (T.den β++tail)++post) (hrg:∀ x ∈ T.den β++tail,0≤x∧x≤4194303) :
    SeqOk (β++[⟨0,0,0,.tuple (nv tail).toArray,noPr⟩]) { cells:=[],elem:=e,ro:=false,live:=true,seq:=some (nd1 28 (nd2 26 T.enc (.map (some K)))) } C s':=by
 subst hK
 intro x hx
 simp only [Option.some.injEq] at hx
 subst hx
 refine .inr ⟨.app T (.var β.length),pre,post,rfl,?_,hpre,?_,?_⟩
 ·simp only [TN.ok,Bool.and_eq_true]
  exact ⟨TN.ok_app _ _ (by simp) T hT,by simp⟩
 ·have e1 : (TN.app T (.var β.length)).den (β ++ [⟨0, 0, 0, .tuple (nv tail).toArray, noPr⟩]) = T.den β ++ tail := by
    simp only [TN.den,TN.den_app β _ T hT]
    rw [List.getElem?_append_right (Nat.le_refl _)]
    simp [vNums_tup]
  rw [e1]; exact hC
 ·have e1 : (TN.app T (.var β.length)).den (β ++ [⟨0, 0, 0, .tuple (nv tail).toArray, noPr⟩]) = T.den β ++ tail := by
    simp only [TN.den,TN.den_app β _ T hT]
    rw [List.getElem?_append_right (Nat.le_refl _)]
    simp [vNums_tup]
  rw [e1]; exact hrg
theorem HR.appendN {P:Program} {w0:W0} {β:Ren} {H H':AS} {w:World} {A:List Value} (hA:Facts β A) (h:HR w0 β H w) {ts:Array TypeId} {ty:TypeId} {s s' x x' v:Value} (hs:VR β s s') (hx:VR β x x') (ha:aappendN P A H ts s x=some (v,H')) :
    Made P w0 β H' w (Builtin.append_ ts ty #[s',x']) v:=by
 unfold aappendN at ha
 split at ha
 rotate_left
 ·cases ha
 rename_i t t2 h0 h1
 split at ha
 rotate_left
 ·cases ha
 rename_i e d2 hu hu2
 split at ha
 rotate_left
 ·cases ha
 rename_i i z src hi hz hsrc
 split at ha
 rotate_left
 ·cases ha
 rename_i hc
 obtain ⟨hd,hsz,hby,hz0⟩:=hc
 subst hz0
 obtain ⟨ts',rfl,hok,hN,hus,hrgs⟩:=asrcN_sound (P:=P) hA h hx hsrc
 obtain ⟨_,_,_,hN',hus',_⟩:=asrcN_sound (P:=P) hA h.drew hx hsrc
 have hus1:=hus _ (Nat.le_refl _)
 rw [List.take_length] at hus1
 have hus2:(Builtin.firstCells i.size (ts'.den β).length x').run P w.drew=.ok (nv (ts'.den β)).toArray w.drew:=by
  obtain ⟨t3,e3,_,hN3,hus3,_⟩:=asrcN_sound (P:=P) hA h.drew hx hsrc
  have:=TN.inj _ _ e3
  subst this
  have:=hus3 _ (Nat.le_refl _)
  rw [List.take_length] at this
  rw [hsz]; exact this
 have hus1':(Builtin.firstCells i.size (ts'.den β).length x').run P w=.ok (nv (ts'.den β)).toArray w:=by rw [hsz]; exact hus1
 obtain ⟨z',hz',hzl,_⟩:=run_zero (w:=w.drew) hz
 have grow:∀ {T:TN} {base:Option Addr} {n c:Nat} {X:List Int} {H0:AS} {kill:Option Nat},T.ok β.length=true→T.den β=X++ts'.den β→(∀ x ∈ X,0≤x∧x≤4194303)→X.length=n→(∀ B,kill=some B→True) →
     (Builtin.firstCells i.size n (.slice base n c)).run P w.drew=.ok (nv X).toArray w.drew→¬ n + (ts'.den β).length≤c→newSqN A H e kill T.enc=some (v,H')→(n + (ts'.den β).length≤2 ^ 42→Made P w0 β H' w (Builtin.append_ ts ty #[.slice base n c,x']) v):=by
  intro T base n c X H0 kill hT hTd hXr hX _ hos hfit hnew h46
  unfold newSqN at hnew
  split at hnew
  ·cases hnew
  rename_i K H1 hn1
  split at hnew
  ·cases hnew
  rename_i H2 hk2
  split at hnew
  ·cases hnew
  rename_i B' H3 hn3
  split at hnew
  rotate_left
  ·cases hnew
  rename_i hle
  cases hnew
  have hcap:¬ Builtin.nextslicecap (n + (ts'.den β).length) c * i.bytes > 2 ^ 48:=by
   have:=nextslicecap_le (need:=n + (ts'.den β).length) (old:=c) (by omega)
   rw [hby]; omega
  obtain ⟨newCap,hnc,hnc63,hrun⟩:=run_append_grows2 (ty:=ty) h0 h1 hu hu2 hd hi hN hus2 hos hz' hfit (by rw [hby]; decide) hcap (by omega)
  obtain ⟨g1,g2,g3⟩:=h.drew.var hn1 ⟨0,0,0,.tuple (nv (List.replicate (newCap - (n + (ts'.den β).length)) (0:Int))).toArray,noPr⟩
  have g4:HR w0 (β++[⟨0,0,0,.tuple (nv (List.replicate (newCap - (n + (ts'.den β).length)) (0:Int))).toArray,noPr⟩]) H2 w.drew:=by
   split at hk2
   ·cases hk2; exact g1
   ·exact (g1.kill hk2).1
  have hCl:((nv X).toArray++(nv (ts'.den β)).toArray++Builtin.zeroCells z'.cells (newCap - (n + (ts'.den β).length))).toList=[]++nv (T.den β++List.replicate (newCap - (n + (ts'.den β).length)) (0:Int))++[]:=by
   simp only [Array.toList_append,zerosN hzl,hTd,nv_app]; simp
  obtain ⟨q1,q2⟩:=g4.newS (w':=w.drew.alloc (.cells ((nv X).toArray++(nv (ts'.den β)).toArray++Builtin.zeroCells z'.cells (newCap - (n + (ts'.den β).length))) e)) (fr:=(0,0)) hn3 rfl rfl (h.drew.below.alloc _) (fun k _ hk=>by omega) (newSqN_seq hT g3 rfl hCl (fun x hx=>by
   rw [hTd] at hx
   simp only [List.mem_append] at hx
   rcases hx with (hx | hx) | hx
   ·exact hXr x hx
   ·exact hrgs x hx
   ·have:=List.eq_of_mem_replicate hx; omega))
  refine ⟨_,_,_,hrun,by rw [← List.append_assoc]; exact q1,?_⟩
  rw [← List.append_assoc]
  have:=newSqN_vr (A:=A) hA hT g3 hle (by rw [hTd,List.length_append,List.length_replicate,hX]; omega) q2
  rw [hTd,List.length_append,List.length_replicate,hX] at this
  have e5:n + (ts'.den β).length + (newCap - (n + (ts'.den β).length))=newCap:=by omega
  rw [e5] at this
  exact this
 split at ha
 ·rename_i n c
  split at ha
  rotate_left
  ·cases ha
  rename_i hc
  obtain ⟨rfl,rfl,hlt⟩:=hc
  cases hs
  obtain ⟨r,e1,e2,e3⟩:=mkLenN_sound 20 ts'
  rw [e1] at hlt
  have hlt:=ltOk_sound (s:=.lit 0) hA hlt
  rw [e3] at hlt
  simp only [TI.den] at hlt
  have ha':=ha
  have h46:(ts'.den β).length≤2 ^ 42:=by
   unfold newSqN at ha'
   split at ha'
   ·cases ha'
   split at ha'
   ·cases ha'
   split at ha'
   ·cases ha'
   split at ha'
   ·rename_i hle
    rw [e1] at hle
    have:=leOk_sound (t:=.lit 4398046511104) hA hle
    rw [e3] at this
    simp only [TI.den] at this
    omega
   ·cases ha'
  exact grow (T:=ts') (X:=[]) (n:=0) (c:=0) (kill:=none) (H0:=H) hok rfl (fun x hx=>by simp at hx) rfl (fun _ _=>trivial) rfl (by omega) ha (by omega)
 ·split at ha
  rotate_left
  ·cases ha
  rename_i B o n c hq
  obtain ⟨to,tn,tc,b,sh,rfl,rfl,rfl,hk,rfl⟩:=asL_sound hs hq
  split at ha
  rotate_left
  ·cases ha
  rename_i bl hg
  split at ha
  rotate_left
  ·cases ha
  rename_i q hlive hro hseq
  split at ha
  rotate_left
  ·cases ha
  rename_i hc
  obtain ⟨hel0,hle0⟩:=hc
  obtain ⟨c',s0,C,fr,hβ,⟨el,hw,hel⟩,htop,hsz',hfr,hcl,hbase,hsq⟩:=h.blk B bl hg hlive
  rw [hk.home] at hβ; cases hβ
  obtain rfl:=hel hro
  obtain ⟨tl,pre,post,rfl,hokl,hpre,hC,hrgl⟩:=hsq.getN hseq
  obtain ⟨rc,c1,c2,c3⟩:=mkAdd_sound to tc
  obtain ⟨rl,l1,l2,l3⟩:=mkLenN_sound 20 tl
  rw [c1,l1] at hle0
  have hle0:=leOk_sound hA hle0
  rw [c3,l3] at hle0
  obtain ⟨ra,a1,a2,a3⟩:=mkAdd_sound to tn
  rw [a1] at ha
  obtain ⟨rx,x1,x2,x3⟩:=mkSubN_sound A tl to ra
  rw [x1] at ha
  obtain ⟨T,t1,t2',t3⟩:=mkAppN_sound rx ts'
  rw [t1] at ha
  have o0:=hk.o0
  have n0:=hk.n0
  have nc:=hk.nc
  have hra:(ra.den β).toNat=(to.den β).toNat + (tn.den β).toNat:=by rw [a3]; omega
  have hTok:T.ok β.length=true:=t2' _ (x2 _ hokl hk.oko (a2 _ hk.oko hk.okn)) hok
  have hX:(rx.den β).length=(tn.den β).toNat:=by rw [x3,List.length_drop,List.length_take,hra]; omega
  have hTl:(T.den β).length=(tn.den β).toNat + (ts'.den β).length:=by rw [t3,List.length_append,hX]
  have ha':=ha
  have h46:(tn.den β).toNat + (ts'.den β).length≤2 ^ 42:=by
   unfold newSqN at ha'
   split at ha'
   ·cases ha'
   split at ha'
   ·cases ha'
   split at ha'
   ·cases ha'
   split at ha'
   ·rename_i hle
    obtain ⟨rT,u1,u2,u3⟩:=mkLenN_sound 20 T
    rw [u1] at hle
    have:=leOk_sound (t:=.lit 4398046511104) hA hle
    rw [u3] at this
    simp only [TI.den] at this
    omega
   ·cases ha'
  have hloads:(Builtin.firstCells i.size (tn.den β).toNat (.slice (some ⟨b,(to.den β).toNat + sh,none⟩) (tn.den β).toNat (tc.den β).toNat)).run P w.drew=.ok (nv (rx.den β)).toArray w.drew:=by
   simp only [Builtin.firstCells,hsz,Nat.mul_one]
   have hw2:w.drew.heap[b]?=some (.cells C bl.elem fr):=hw
   rw [nseq_loads hw2 hC hpre (by omega),x3,hra]
  by_cases hfit:(tn.den β).toNat + (ts'.den β).length≤(tc.den β).toNat
  ·unfold newSqN at ha
   split at ha
   ·cases ha
   rename_i K H1 hn1
   split at ha
   ·cases ha
   rename_i H2 hk2
   split at ha
   ·cases ha
   rename_i B' H3 hn3
   split at ha
   rotate_left
   ·cases ha
   rename_i hle
   cases ha
   have hCs:C.size=pre.length + (tl.den β).length + post.length:=by
    have:=congrArg List.length hC
    simp only [Array.length_toList,List.length_append,nv_len] at this
    exact this
   obtain ⟨w',C',g1,g2,g3,g4,g5,g6⟩:=raw_storeL (P:=P) (w0:=w0) b (hbase hro) (nv (ts'.den β)) 0 ((to.den β).toNat + sh + (tn.den β).toNat) w C bl.elem fr hw (by rw [nv_len]; omega) (hfr hro) (nv_one _) h.below
   obtain ⟨v1,v2,v3⟩:=h.var hn1 ⟨0,0,0,.tuple (nv (((tl.den β).drop ((to.den β).toNat + (tn.den β).toNat + (ts'.den β).length)).take ((tc.den β).toNat - ((tn.den β).toNat + (ts'.den β).length)))).toArray,noPr⟩
   have hg1:H1.get B=some bl:=by
    obtain ⟨rfl,_,_,_,hX1⟩:=AS.new_get hn1
    rw [hX1 B (by have:=AS.get_lt hg; omega)]; exact hg
   have hCl:C'.toList=(pre++nv ((tl.den β).take (to.den β).toNat))++nv (T.den β++((tl.den β).drop ((to.den β).toNat + (tn.den β).toNat + (ts'.den β).length)).take ((tc.den β).toNat - ((tn.den β).toNat + (ts'.den β).length))) ++
       (nv ((tl.den β).drop ((to.den β).toNat + (tc.den β).toNat))++post):=by
    rw [g4,hC]
    have p1:(to.den β).toNat + sh + (tn.den β).toNat + 0=pre.length + ((to.den β).toNat + (tn.den β).toNat):=by omega
    rw [p1,List.append_assoc pre,List.take_append,List.take_of_length_le (by omega:pre.length≤_),Nat.add_sub_cancel_left,List.take_append_of_le_length (by rw [nv_len]; omega)]
    rw [nv_len,Nat.add_assoc,List.drop_append,List.drop_of_length_le (by omega:pre.length≤_),Nat.add_sub_cancel_left,List.drop_append_of_le_length (by rw [nv_len]; omega)]
    have q1:(nv (tl.den β)).take ((to.den β).toNat + (tn.den β).toNat)=nv ((tl.den β).take (to.den β).toNat)++nv (rx.den β):=by
     rw [x3,hra,← nv_app]
     have:(tl.den β).take (to.den β).toNat++((tl.den β).take ((to.den β).toNat + (tn.den β).toNat)).drop (to.den β).toNat=(tl.den β).take ((to.den β).toNat + (tn.den β).toNat):=by
      have e:=List.take_append_drop (to.den β).toNat ((tl.den β).take ((to.den β).toNat + (tn.den β).toNat))
      rw [List.take_take,Nat.min_eq_left (by omega)] at e
      exact e
     rw [this]; simp [nv,List.map_take]
    have q2:(nv (tl.den β)).drop ((to.den β).toNat + (tn.den β).toNat + (ts'.den β).length)=nv (((tl.den β).drop ((to.den β).toNat + (tn.den β).toNat + (ts'.den β).length)).take ((tc.den β).toNat - ((tn.den β).toNat + (ts'.den β).length)))++nv ((tl.den β).drop ((to.den β).toNat + (tc.den β).toNat)):=by
     rw [← nv_app]
     have:((tl.den β).drop ((to.den β).toNat + (tn.den β).toNat + (ts'.den β).length)).take ((tc.den β).toNat - ((tn.den β).toNat + (ts'.den β).length))++(tl.den β).drop ((to.den β).toNat + (tc.den β).toNat)=(tl.den β).drop ((to.den β).toNat + (tn.den β).toNat + (ts'.den β).length):=by
      have e:=List.take_append_drop ((tc.den β).toNat - ((tn.den β).toNat + (ts'.den β).length)) ((tl.den β).drop ((to.den β).toNat + (tn.den β).toNat + (ts'.den β).length))
      rw [List.drop_drop,show (to.den β).toNat + (tn.den β).toNat + (ts'.den β).length + ((tc.den β).toNat - ((tn.den β).toNat + (ts'.den β).length))=(to.den β).toNat + (tc.den β).toNat from by omega] at e
      exact e
     rw [this]; simp [nv,List.map_drop]
    rw [q1,q2,t3]
    simp only [nv_app,List.append_assoc,List.nil_append]
   obtain ⟨q1,q2⟩:=v1.rehomeS (w':=w') hg1 hlive hro (hm_append hk.home) hk2 hn3 rfl hel0.symm hw g3 g2 g5 g6 (s':=(to.den β).toNat + sh) (by omega) (newSqN_seq hTok v3 (by rw [List.length_append,nv_len,List.length_take]; omega) hCl (fun x hx=>by
    rw [List.mem_append] at hx
    rcases hx with hx | hx
    ·rw [t3,List.mem_append] at hx
     rcases hx with hx | hx
     ·exact hrgl x (by rw [x3] at hx; exact List.mem_of_mem_take (List.mem_of_mem_drop hx))
     ·exact hrgs x hx
    ·exact hrgl x (List.mem_of_mem_drop (List.mem_of_mem_take hx))))
   refine ⟨_,.slice (some ⟨b,(to.den β).toNat + sh,none⟩) ((tn.den β).toNat + (ts'.den β).length) (tc.den β).toNat,w',?_,by rw [← List.append_assoc]; exact q1,?_⟩
   ·rw [run_append_fits h0 h1 hu hu2 hd hi hN hus1' hfit]
    have e5:(⟨b,(to.den β).toNat + sh,none⟩:Addr).add ((tn.den β).toNat * i.size)=⟨b,(to.den β).toNat + sh + (tn.den β).toNat,none⟩:=by rw [add_at,hsz,Nat.mul_one]
    simp only [e5,Sem.run_bind,g1,Result.andThen_ok]
    rfl
   ·rw [← List.append_assoc]
    have htl:(((tl.den β).drop ((to.den β).toNat + (tn.den β).toNat + (ts'.den β).length)).take ((tc.den β).toNat - ((tn.den β).toNat + (ts'.den β).length))).length=(tc.den β).toNat - ((tn.den β).toNat + (ts'.den β).length):=by
     rw [List.length_take,List.length_drop]; omega
    have hcb:=hk.cb
    have:=newSqN_vr (A:=A) hA hTok v3 hle (by rw [hTl,htl]; omega) q2
    rw [hTl,htl] at this
    have e5:(tn.den β).toNat + (ts'.den β).length + ((tc.den β).toNat - ((tn.den β).toNat + (ts'.den β).length))=(tc.den β).toNat:=by omega
    rw [e5] at this
    exact this
  ·exact grow (T:=T) (X:=rx.den β) (kill:=some B) (H0:=H) hTok (t3 β) (fun x hx=>hrgl x (by rw [x3] at hx; exact List.mem_of_mem_take (List.mem_of_mem_drop hx))) hX (fun _ _=>trivial) hloads hfit ha h46
end
end Go.SM
