-- the statement of this claim: see YtoamgocecoiggaaDoorRs
import Derived.Scope
import Derived.LoopN
import Derived.Test.YtoamgocecoiggaaDoorM11
set_option linter.unusedVariables false
set_option linter.unusedSimpArgs false
set_option maxRecDepth 100000
noncomputable section
namespace Go.SM
noncomputable section
def aXP(P:Program)(pu:FuncId->Bool)(ops:Array Oper)(q:Nat):Bool:=(List.range ops.size).all fun j=>match ops[j]? with
 |none=>true
 |some oj=>!(Nat.beq (v7 P pu ops oj) 2) || ((v5 ops.toList []).getD q 0).testBit j || ((v5 ops.toList []).getD j 0).testBit q
def X8(P:Program)(pu:FuncId->Bool)(ops:Array Oper)(q:Nat):Bool :=
 match ops[q]? with
 |none=>false
 |some o=>(Nat.beq (v7 P pu ops o) 0 || (Nat.beq (v7 P pu ops o) 1&&aXP P pu ops q))&&match o.dst with
  |none=>true
  |some t=>((List.range (q+1)).all fun j=>match ops[j]? with
      |none=>true
      |some oj=>!(oj.looksAt ops).contains t)&&(List.range ops.size).all fun j=>Nat.beq j q || match ops[j]? with
      |none=>true
      |some oj=>!(oj.dst == some t)
theorem rM{P:Program}{pu:FuncId->Bool}{ops:Array Oper}{q:Nat}(h:X8 P pu ops q=true):∃ o,ops[q]?=some o/\(v7 P pu ops o=0\/(v7 P pu ops o=1/\∀(j:Nat)(oj:Oper),ops[j]?=some oj->v7 P pu ops oj=2->((v5 ops.toList []).getD q 0).testBit j=true\/((v5 ops.toList []).getD j 0).testBit q=true)) /\
    ∀ t,o.dst=some t->(∀ j oj,j<=q->ops[j]?=some oj->t ∉ oj.looksAt ops)/\(∀ j oj,j≠q->ops[j]?=some oj->oj.dst≠some t):=by
 unfold X8 at h
 split at h
 .cases h
 rename_i o ho
 rw[Bool.and_eq_true]at h
 have hcl:v7 P pu ops o=0\/(v7 P pu ops o=1/\∀ (j:Nat) (oj:Oper),ops[j]?=some oj->v7 P pu ops oj=2->((v5 ops.toList []).getD q 0).testBit j=true\/((v5 ops.toList []).getD j 0).testBit q=true):=by
  have h1:=h.1;rw[Bool.or_eq_true,Bool.and_eq_true]at h1;rcases h1 with h1|⟨h1,h2⟩
  .exact .inl (Nat.eq_of_beq_eq_true h1)
  .refine .inr ⟨Nat.eq_of_beq_eq_true h1,fun j oj hj hc=>?_⟩;unfold aXP at h2;rw[List.all_eq_true]at h2;have:=h2 j (List.mem_range.2 (y8 hj));simp only[hj,hc]at this;rw[Bool.or_eq_true,Bool.or_eq_true]at this;rcases this with (this|this)|this
   .exact absurd this (by decide)
   .exact .inl this
   .exact .inr this
 refine⟨o,ho,hcl,fun t ht=>?_⟩
 have h2:=h.2
 rw[ht]at h2
 simp only[Bool.and_eq_true,List.all_eq_true,List.mem_range]at h2
 refine⟨fun j oj hj hoj hm=>?_,fun j oj hj hoj hd=>?_⟩
 .have:=h2.1 j (by omega)
  simp only[hoj]at this
  simp[hm]at this
 .have hjs:j<ops.size:=y8 hoj
  have:=h2.2 j hjs
  simp only[hoj,hd]at this
  simp at this
  exact hj this
def sOk(ops:Array Oper):Bool :=
 (List.range ops.size).all fun j =>
  match ops[j]? with
  |none=>true
  |some oj=>(vD oj).all (fun e=>decide (e<j))&&(List.range j).all fun i =>
      match ops[i]? with
      |none=>true
      |some oi=>oi.apart ops oj || ((v5 ops.toList []).getD j 0).testBit i
theorem aaP{ops:Array Oper}(h:sOk ops=true) :
    (∀ (j:Nat) (oj:Oper),ops[j]?=some oj->∀ e∈vD oj,e<j) /\
    (∀ (i j:Nat) (oi oj:Oper),i<j->ops[i]?=some oi->ops[j]?=some oj->oi.apart ops oj=false->((v5 ops.toList []).getD j 0).testBit i=true):=by
 unfold sOk at h
 rw[List.all_eq_true]at h
 refine⟨fun j oj hj e he=>?_,fun i j oi oj hij hi hj hc=>?_⟩
 .have:=h j (List.mem_range.2 (y8 hj))
  simp only[hj,Bool.and_eq_true,List.all_eq_true]at this
  exact of_decide_eq_true (this.1 e he)
 .have:=h j (List.mem_range.2 (y8 hj))
  simp only[hj,Bool.and_eq_true,List.all_eq_true]at this
  have:=this.2 i (List.mem_range.2 hij)
  simp only[hi,hc,Bool.false_or]at this
  exact this
theorem qX{P:Program}{G:Gl}{call:yN}{ops:Array Oper}{n:Nat}{o:Oper}{F F':Tr Value}{H:AS}(h:∀ t∈o.looksAt ops,yW n F t=yW n F' t) :
    wT P G call ops n o F H=wT P G call ops n o F' H:=by
 have hopG:∀ G:Gl,∀ x∈o.op.operands,aev G n F x=aev G n F' x:=by
  intro G x hx;cases x with
  |tmp t =>
   simp only[aev];rw[h t (List.mem_append_left _ (List.mem_filterMap.2 ⟨.tmp t,by simpa using hx,rfl⟩))]
  |const v=>rfl
  |global g=>rfl
  |func f=>rfl
 have hop:=hopG G
 have hpick:∀ (G:Gl) (c a b:Operand),o.op=.pick c a b->iT G n F c a b=iT G n F' c a b:=by
  intro G c a b ho;have m:∀ G:Gl,aev G n F c=aev G n F' c/\aev G n F a=aev G n F' a/\aev G n F b=aev G n F' b:=fun G =>
   ⟨hopG G c (by rw[ho];simp[Op.operands]),hopG G a (by rw[ho];simp[Op.operands]),hopG G b (by rw[ho];simp[Op.operands])⟩
  unfold iT;have m3:∀ r:Bool,aev G n F (if r then a else b)=aev G n F' (if r then a else b):=by intro r;cases r<;>simp[m]
  simp only[(m _).1,(m _).2.1,(m _).2.2,m3]
 have hw:uM G.A ops n F o=uM G.A ops n F' o:=by
  unfold uM;cases hg:o.guard with
  |none=>rfl
  |some p =>
   obtain⟨g,want⟩:=p;simp only;cases hd:(ops[g]?).bind (·.dst) with
   |none=>rfl
   |some t =>
    have e:=h t (by simp[Oper.looksAt,hg,hd]);simp only[e]
 have hall:(o.op.operands.toList.all fun x=>zL (aev G n F x))=(o.op.operands.toList.all fun x=>zL (aev G n F' x)):=by
  rw[Bool.eq_iff_iff,List.all_eq_true,List.all_eq_true];constructor<;>intro hh x hx
  .rw[<-hop x (by simpa using hx)];exact hh x hx
  .rw[hop x (by simpa using hx)];exact hh x hx
 have h1:Q4 P G call ops n o F H=Q4 P G call ops n o F' H:=by
  unfold Q4;split
  .rename_i ho;rw[hpick _ _ _ _ ho]
  .rw[hall,pN (H:=H) o hop,pN (H:=abN) o hop]
 have h2:∀ G:Gl,kD P G call n o F H=kD P G call n o F' H:=by
  intro G;unfold kD;split
  .rename_i ho;rw[hpick _ _ _ _ ho]
  .rw[pN (H:=H) o (hopG G)]
 have h3:∀ c,adY P G call n o F H c=adY P G call n o F' H c:=by
  intro c;unfold adY;rw[h2]
 unfold wT
 simp only[hw,h1,h3]
structure Rel(P:Program)(pu:FuncId->Bool)(w0:W0)(G:Gl)(call:yN)(ops:Array Oper)(n:Nat)(listed:Array Bool)(D:Nat->Bool)(F:Tr Value)(H:AS)(V:Ren)(a:Act)(w:World):Prop where
 sub:∀ k,listed.getD k false=true->D k=true
 lt:∀ k,D k=true->k<ops.size
 clD:Closed ops D
 clL:Closed ops (fun k=>listed.getD k false)
 pend:∀ k,D k=true->listed.getD k false=false->X8 P pu ops k=true
 hr:HR w0 V H w
 gok:Gok G V
 size:a.tmps.size=n
 nodef:a.defers=[]
 slot:∀ t u,a.tmps[t]?=some u->(∀ q oq,ops[q]?=some oq->D q=true->listed.getD q false=false->oq.dst≠some t)->SR V (yW n F t) u
 again:∀ q oq,ops[q]?=some oq->D q=true->listed.getD q false=false->∃ v,wT P G call ops n oq F H=some (v,H)/\∀ t,oq.dst=some t->yW n F t=v
 sz:listed.size=ops.size
def kS(D:Nat->Bool)(i:Nat):Nat->Bool:=fun k=>Nat.beq k i || D k
theorem dS(D:Nat->Bool)(i:Nat):kS D i i=true:=by simp[kS]
theorem sD{D:Nat->Bool}{i k:Nat}(h:D k=true):kS D i k=true:=by simp[kS,h]
theorem uW{D:Nat->Bool}{i k:Nat}(h:kS D i k=true):k=i\/D k=true:=by
 unfold kS at h;rw[Bool.or_eq_true]at h;exact h.imp Nat.eq_of_beq_eq_true id
section
variable {P:Program} {pu:FuncId->Bool} {w0:W0} {G:Gl} {call:yN} {ops:Array Oper} {n:Nat} {listed:Array Bool} {D:Nat->Bool} {F F':Tr Value} {H:AS} {V:Ren} {a:Act} {w:World}
theorem Rel.ahead(hp0:∀ A f args H v H',pu f=true->call A f args H=some (v,H')->H'=H)(hn:n<=2 ^ 12)(hok:sOk ops=true)(h:Rel P pu w0 G call ops n listed D F H V a w){q:Nat}{o:Oper}{v:Value}{H':AS}(ho:ops[q]?=some o)(he:X8 P pu ops q=true)(hD:D q=false)
    (hp:∀ e∈vD o,D e=true) (hst:wT P G call ops n o F H=some (v,H')) (hput:sU n F o.dst v=some F'):H'=H/\Rel P pu w0 G call ops n listed (kS D q) F' H V a w:=by
 obtain⟨hlt,hap⟩:=aaP hok
 obtain⟨o',ho',hc,hdst⟩:=rM he
 rw[ho]at ho';cases ho'
 have hHH:H'=H:=pE hp0 (by omega) hst
 have hH:wT P G call ops n o F H=some (v,H):=by rw[hst,hHH]
 refine⟨hHH,?_⟩
 have hnl:listed.getD q false=false:=by
  cases hx:listed.getD q false with
  |false=>rfl
  |true=>have:=h.sub q hx;rw[hD]at this;cases this
 have same:∀ oj j,j<=q->ops[j]?=some oj->∀ t∈oj.looksAt ops,yW n F' t=yW n F t:=by
  intro oj j hj hoj t ht;rw[w9 hn hput];split
  .rename_i hd;exact absurd ht ((hdst t hd).1 j oj hj hoj)
  .rfl
 have cl:Closed ops (kS D q):=by
  intro j oj hj hdj e hee;rcases uW hdj with rfl|hdj
  .rw[ho]at hj;cases hj;exact sD (hp e hee)
  .exact sD (h.clD j oj hj hdj e hee)
 refine⟨fun k hk=>sD (h.sub k hk),?_,cl,h.clL,?_,h.hr,h.gok,h.size,h.nodef,?_,?_,h.sz⟩
 .intro k hk
  rcases uW hk with rfl|hk
  .exact y8 ho
  .exact h.lt k hk
 .intro k hk hl
  rcases uW hk with rfl|hk
  .exact he
  .exact h.pend k hk hl
 .intro t u hu hno
  have h1:=h.slot t u hu (fun k ok hk hdk hlk=>hno k ok hk (sD hdk) hlk)
  rw[w9 hn hput]
  split
  .rename_i hd
   exact absurd hd (hno q o ho (dS D q) hnl)
  .exact h1
 .intro k ok hk hdk hlk
  rcases uW hdk with rfl|hdk
  .rw[ho]at hk;cases hk
   refine⟨v,?_,fun t ht=>?_⟩
   .rw[qX (F':=F) (same o k (Nat.le_refl _) ho)];exact hH
   .rw[w9 hn hput,if_pos ht]
  .obtain⟨v',h1,h2⟩:=h.again k ok hk hdk hlk
   have hkq:k≠q:=fun e=>by rw[e,hD]at hdk;cases hdk
   refine⟨v',?_,fun t ht=>?_⟩
   .rw[qX (F':=F) ?_]
    .exact h1
    .intro t ht
     rw[w9 hn hput]
     split
     .rename_i hd
      exfalso
      rcases Nat.lt_or_ge k q with hlt'|hge
      .exact (hdst t hd).1 k ok (by omega) hk ht
      .have hqk:q<k:=by omega
       have hna:o.apart ops ok=false:=by
        cases hx:o.apart ops ok with
        |false=>rfl
        |true=>exact absurd ht ((Oper.apart_spec hx).1 t hd)
       have:=oR (S:=D) hlt h.clD q k ok hk (h.clD k ok hk hdk) (hap q k o ok hqk ho hk hna)
       rw[hD]at this;cases this
     .rfl
   .rw[w9 hn hput,if_neg ?_]
    .exact h2 t ht
    .intro hd
     exact (hdst t hd).2 k ok hkq hk ht
end
def jD(D:Nat->Bool)(o:Oper):Bool:=(vD o).all D
def sat(P:Program)(pu:FuncId->Bool)(G:Gl)(call:yN)(ops:Array Oper)(n:Nat)(H:AS):List Nat->(Nat->Bool)->Tr Value->Option ((Nat->Bool) × Tr Value)
 |[],D,F=>some (D,F)
 |q::l,D,F =>
  match ops[q]? with
  |none=>none
  |some o =>
   if !(D q)&&jD D o&&X8 P pu ops q then
    match wT P G call ops n o F H with
    |none=>none
    |some (v,_) =>
     match sU n F o.dst v with
     |none=>none
     |some F'=>sat P pu G call ops n H l (kS D q) F'
   else sat P pu G call ops n H l D F
def aaR(P:Program)(pu:FuncId->Bool)(G:Gl)(call:yN)(ops:Array Oper)(n:Nat)(chk:Tr Value->AS->Bool):Nat->(Nat->Bool)->Tr Value->AS->Bool
 |0,_,_,_=>false
 |fu+1,D,F,H =>
  match sat P pu G call ops n H (List.range ops.size) D F with
  |none=>false
  |some (D1,F1)=>(!((List.range ops.size).all D1) || chk F1 H)&&(List.range ops.size).all fun i =>
      match ops[i]? with
      |none=>true
      |some o=>D1 i || !(jD D1 o) ||
       match wT P G call ops n o F1 H with
       |none=>false
       |some (v,H') =>
        match sU n F1 o.dst v with
        |none=>false
        |some F'=>aaR P pu G call ops n chk fu (kS D1 i) F' H'
section
variable {P:Program} {pu:FuncId->Bool} {w0:W0} {G:Gl} {call:yN} {ops:Array Oper} {n:Nat} {listed:Array Bool} {D D1:Nat->Bool} {F F1:Tr Value} {H:AS} {V:Ren} {a:Act} {w:World}
theorem Rel.sat(hp0:∀ A f args H v H',pu f=true->call A f args H=some (v,H')->H'=H)(hn:n<=2 ^ 12)(hok:sOk ops=true):∀(l:List Nat)(D:Nat->Bool)(F:Tr Value),Rel P pu w0 G call ops n listed D F H V a w->SM.sat P pu G call ops n H l D F=some (D1,F1)->Rel P pu w0 G call ops n listed D1 F1 H V a w
 |[],D,F,h,hs=>by simp only[SM.sat,Option.some.injEq,Prod.mk.injEq]at hs;obtain⟨rfl,rfl⟩:=hs;exact h
 |q::l,D,F,h,hs=>by
  simp only[SM.sat]at hs;split at hs
  .cases hs
  rename_i o ho;split at hs
  .rename_i hc;simp only[Bool.and_eq_true,Bool.not_eq_true']at hc;obtain⟨⟨hD,hp⟩,he⟩:=hc;split at hs
   .cases hs
   rename_i v H' hst;split at hs
   .cases hs
   rename_i F' hput;unfold jD at hp;rw[List.all_eq_true]at hp;exact Rel.sat hp0 hn hok l _ F' (h.ahead hp0 hn hok ho he hD hp hst hput).2 hs
  .exact Rel.sat hp0 hn hok l D F h hs
def Node(P:Program)(pu:FuncId->Bool)(G:Gl)(call:yN)(ops:Array Oper)(n:Nat)(chk:Tr Value->AS->Bool)(fu:Nat)(D:Nat->Bool)(F:Tr Value)(H:AS):Prop :=
 ((List.range ops.size).all D=true->chk F H=true)/\∀ (i:Nat) (o:Oper),ops[i]?=some o->D i=false->(∀ e∈vD o,D e=true) ->
  ∃ v H' F',wT P G call ops n o F H=some (v,H')/\sU n F o.dst v=some F'/\aaR P pu G call ops n chk fu (kS D i) F' H'=true
theorem dR{chk:Tr Value->AS->Bool}(hp0:∀ A f args H v H',pu f=true->call A f args H=some (v,H')->H'=H)(hn:n<=2 ^ 12)(hok:sOk ops=true){fu:Nat}(h:Rel P pu w0 G call ops n listed D F H V a w)(hg:aaR P pu G call ops n chk (fu+1) D F H=true) :
    ∃ D1 F1,Rel P pu w0 G call ops n listed D1 F1 H V a w/\Node P pu G call ops n chk fu D1 F1 H:=by
 simp only[aaR]at hg
 split at hg
 .cases hg
 rename_i D1 F1 hs
 rw[Bool.and_eq_true,Bool.or_eq_true]at hg
 obtain⟨h1,h2⟩:=hg
 refine⟨D1,F1,h.sat hp0 hn hok _ _ _ hs,fun hall=>?_,fun i o ho hD hp=>?_⟩
 .rcases h1 with h1|h1
  .rw[hall]at h1;cases h1
  .exact h1
 .rw[List.all_eq_true]at h2
  have:=h2 i (List.mem_range.2 (y8 ho))
  simp only[ho,hD,Bool.false_or,Bool.or_eq_true,Bool.not_eq_true']at this
  rcases this with h3|h3
  .unfold jD at h3
   rw[<-Bool.not_eq_true,List.all_eq_true]at h3
   exact absurd hp h3
  .split at h3
   .cases h3
   rename_i v H' hst
   split at h3
   .cases h3
   rename_i F' hput
   exact⟨v,H',F',hst,hput,h3⟩
end
theorem ah2{P:Program}{pu:FuncId->Bool}{w0:W0}{G:Gl}{call:yN}{ops:Array Oper}{n:Nat}{chk:Tr Value->AS->Bool}{Q:Exit->Act->World->Prop}(hN:vJ P)(hC:xH P G call)(hp0:∀ A f args H v H',pu f=true->call A f args H=some (v,H')->H'=H)
    (hok:sOk ops=true) (hn:n<=2 ^ 12) (V:Ren) (hQ:∀ (γ:Ren) (R:Tr Value) (HE:AS) (a':Act) (w':World),chk R HE=true->HR w0 (V++γ) HE w'->FS (V++γ) n R a'->Q .normal a' w') :
    ∀ (m:Nat) (listed:Array Bool) (D:Nat->Bool) (F:Tr Value) (H:AS) (γ:Ren) (a:Act) (w:World) (fu:Nat),cnt (fun k=>listed.getD k false) ops.size<=m ->
     Rel P pu w0 G call ops n listed D F H (V++γ) a w->Node P pu G call ops n chk fu D F H->wpAny P .any ops Q m listed a w:=by
 obtain⟨hlt,hap⟩:=aaP hok
 have final:∀ (listed:Array Bool) (D:Nat->Bool) (F:Tr Value) (H:AS) (γ:Ren) (a:Act) (w:World) (fu:Nat),Rel P pu w0 G call ops n listed D F H (V++γ) a w->Node P pu G call ops n chk fu D F H ->
     (∀ k,k<ops.size->listed.getD k false=true)->Q .normal a w:=by
  intro listed D F H γ a w fu h hN' hall
  refine hQ γ F H a w (hN'.1 ?_) h.hr ⟨h.size,hn,fun t u hu=>?_,h.nodef⟩
  .rw[List.all_eq_true]
   intro k hk
   exact h.sub k (hall k (List.mem_range.1 hk))
  .refine h.slot t u hu fun q oq hq hD hl=>?_
   rw[hall q (y8 hq)]at hl;cases hl
 have isready:∀ (listed:Array Bool) (k:Nat),listed.size=ops.size->k<ops.size->listed.getD k false=false->(∀ e,e<k->listed.getD e false=true)->k∈Region.ready .any ops listed:=by
  intro listed k hls hk hun hall;have ho:ops[k]?=some ops[k]:=Array.getElem?_eq_getElem hk;refine mem_ready.2 ⟨nM (by omega) hun,ops[k],ho,fun e he hb=>hall _ (hlt k ops[k] ho e.on ?_)⟩;exact List.mem_map.2 ⟨e,List.mem_filter.2 ⟨by simpa using he,hb⟩,rfl⟩
 intro m
 induction m with
 |zero =>
  intro listed D F H γ a w fu hcnt h hN'
  have hall:=jZ (S:=fun k=>listed.getD k false) ops.size (by omega)
  refine⟨?_,final listed D F H γ a w fu h hN' hall⟩
  rw[List.eq_nil_iff_forall_not_mem]
  intro j hj
  obtain⟨h0,o,ho,_⟩:=mem_ready.1 hj
  have hjl:=y8 ho
  have h1:=hall j hjl
  have hsz:=h.sz
  simp only[Array.getD_eq_getD_getElem?,Array.getElem?_eq_getElem (show j<listed.size by omega),Option.getD_some]at h0 h1
  rw[h0]at h1;cases h1
 |succ m ih =>
  intro listed D F H γ a w fu hcnt h hN'
  have hsz:=h.sz
  refine⟨fun hnil=>final listed D F H γ a w fu h hN' ?_,fun i hi=>?_⟩
  .intro k
   induction k using Nat.strongRecOn with
   |ind k ihk =>
    intro hk
    cases hs:listed.getD k false with
    |true=>rfl
    |false =>
     have:=isready listed k hsz hk hs (fun e he=>ihk e he (by omega))
     rw[hnil]at this;cases this
  obtain⟨hun0,o,ho,hpre⟩:=mem_ready.1 hi
  have hil:=y8 ho
  have hun:listed.getD i false=false:=by
   simp only[Array.getD_eq_getD_getElem?,Array.getElem?_eq_getElem (show i<listed.size by omega),Option.getD_some]at hun0 ⊢;exact hun0
  have hpre':∀ e∈vD o,listed.getD e false=true:=by
   intro e he;obtain⟨e',he',rfl⟩:=List.mem_map.1 he;obtain⟨h1,h2⟩:=List.mem_filter.1 he';exact hpre e' (by simpa using h1) h2
  have hpD:∀ e∈vD o,D e=true:=fun e he=>h.sub e (hpre' e he)
  have ahead:∀ (q:Nat) (oq:Oper),ops[q]?=some oq->q<i->oq.apart ops o=false->listed.getD q false=true:=fun q oq hq hqi hna =>
   oR (S:=fun k=>listed.getD k false) hlt h.clL q i o ho hpre' (hap q i oq o hqi hq ho hna)
  have hS':∀ k,k≠i->(listed.setIfInBounds i true).getD k false=listed.getD k false:=fun k hk=>getD_set_ne false (Ne.symm hk)
  have hSi:(listed.setIfInBounds i true).getD i false=true:=by simp[hsz,hil]
  have hcnt':cnt (fun k=>(listed.setIfInBounds i true).getD k false) ops.size<=m:=by
   have:=(cL (S:=fun k=>listed.getD k false) (S':=fun k=>(listed.setIfInBounds i true).getD k false) (i:=i) hun hSi hS' ops.size).2 hil;omega
  have clL':Closed ops (fun k=>(listed.setIfInBounds i true).getD k false):=by
   intro j oj hj hsj e he;by_cases hji:j=i
   .subst hji;rw[ho]at hj;cases hj;exact getD_set_true (hpre' e he)
   .have h1:listed.getD j false=true:=by rw[<-hS' j hji];exact hsj
    exact getD_set_true (h.clL j oj hj h1 e he)
  have hslots:∀ t,t∈o.looksAt ops->rO (V++γ) n F a t:=by
   intro t ht u hu;refine h.slot t u hu fun q oq hq hDq hlq hdq=>?_;obtain⟨oq',hq',_,hdst⟩:=rM (h.pend q hDq hlq);rw[hq]at hq';cases hq';rcases Nat.lt_or_ge q i with hqi|hqi
   ·have hna : oq.apart ops o = false := by
      cases hx:oq.apart ops o with
      |false=>rfl
      |true=>exact absurd ht ((Oper.apart_spec hx).1 t hdq)
    rw[ahead q oq hq hqi hna]at hlq;cases hlq
   .exact (hdst t hdq).1 i o hqi ho ht
  have putget:∀ (t:Nat) (x u:Value),(a.put o.dst u).tmps[t]?=some x->(o.dst=some t/\x=u)\/(o.dst≠some t/\a.tmps[t]?=some x):=by
   intro t x u hx;by_cases hd:o.dst=some t
   .left;refine⟨hd,?_⟩;rw[hd]at hx;simp only[Act.put]at hx;have htl:t<a.tmps.size:=by
     rcases Nat.lt_or_ge t a.tmps.size with h|h
     .exact h
     .rw[Array.getElem?_eq_none (by simpa using h)]at hx;cases hx
    rw[Array.getElem?_setIfInBounds_self_of_lt htl]at hx;cases hx;rfl
   .right;refine⟨hd,?_⟩;cases hdo:o.dst with
    |none=>rw[hdo]at hx;exact hx
    |some d =>
     rw[hdo]at hx hd;simp only[Act.put]at hx;rw[Array.getElem?_setIfInBounds_ne (fun e=>hd (by rw[e]))]at hx;exact hx
  cases hDi:D i with
  |true =>
   have hei:=h.pend i hDi hun
   obtain⟨o',ho',hc,hdst⟩:=rM hei
   rw[ho]at ho';cases ho'
   obtain⟨v,hst,hv⟩:=h.again i o ho hDi hun
   refine nP hN hC h.hr h.gok h.size ho hslots hst _ ?_
   intro γ' u w' hr' hu
   refine ih (listed.setIfInBounds i true) D F H (γ++γ') (a.put o.dst u) w' fu hcnt' ?_ hN'
   refine⟨?_,h.lt,h.clD,clL',?_,by rw[<-List.append_assoc];exact hr',by rw[<-List.append_assoc];exact h.gok.mono,by rw[nU];exact h.size,by rw[kV];exact h.nodef,?_,?_,by simpa using hsz⟩
   .intro k hk
    by_cases hki:k=i
    .rw[hki];exact hDi
    .rw[hS' k hki]at hk;exact h.sub k hk
   .intro k hk hl
    by_cases hki:k=i
    .rw[hki];exact hei
    .rw[hS' k hki]at hl;exact h.pend k hk hl
   .intro t x hx hno
    rw[<-List.append_assoc]
    rcases putget t x u hx with⟨hd,rfl⟩|⟨hd,hx'⟩
    .rw[hv t hd];exact hu
    .refine (h.slot t x hx' fun q oq hq hDq hlq=>?_).mono
     by_cases hqi:q=i
     .subst hqi;rw[ho]at hq;cases hq;exact hd
     .exact hno q oq hq hDq (by rw[hS' q hqi];exact hlq)
   .intro q oq hq hDq hlq
    by_cases hqi:q=i
    .rw[hqi,hSi]at hlq;cases hlq
    .rw[hS' q hqi]at hlq
     exact h.again q oq hq hDq hlq
  |false =>
   obtain⟨v,H',F',hst,hput,hg⟩:=hN'.2 i o ho hDi hpD
   refine nP hN hC h.hr h.gok h.size ho hslots hst _ ?_
   intro γ' u w' hr' hu
   have hrel:Rel P pu w0 G call ops n (listed.setIfInBounds i true) (kS D i) F' H' (V++(γ++γ')) (a.put o.dst u) w':=by
    refine⟨?_,?_,?_,clL',?_,by rw[<-List.append_assoc];exact hr',by rw[<-List.append_assoc];exact h.gok.mono,by rw[nU];exact h.size,by rw[kV];exact h.nodef,?_,?_,by simpa using hsz⟩
    .intro k hk;by_cases hki:k=i
     .rw[hki];exact dS D i
     .rw[hS' k hki]at hk;exact sD (h.sub k hk)
    .intro k hk;rcases uW hk with rfl|hk
     .exact hil
     .exact h.lt k hk
    .intro j oj hj hdj e he;rcases uW hdj with rfl|hdj
     .rw[ho]at hj;cases hj;exact sD (hpD e he)
     .exact sD (h.clD j oj hj hdj e he)
    .intro k hk hl;by_cases hki:k=i
     .rw[hki,hSi]at hl;cases hl
     .rw[hS' k hki]at hl;rcases uW hk with rfl|hk
      .exact absurd rfl hki
      .exact h.pend k hk hl
    .intro t x hx hno;rw[<-List.append_assoc,w9 hn hput];rcases putget t x u hx with⟨hd,rfl⟩|⟨hd,hx'⟩
     .rw[if_pos hd];exact hu
     .rw[if_neg hd];refine (h.slot t x hx' fun q oq hq hDq hlq=>?_).mono;have hqi:q≠i:=fun e=>by rw[e,hDi]at hDq;cases hDq
      exact hno q oq hq (sD hDq) (by rw[hS' q hqi];exact hlq)
    .intro q oq hq hDq hlq;have hqi:q≠i:=fun e=>by rw[e,hSi]at hlq;cases hlq
     rw[hS' q hqi]at hlq;have hDq':D q=true:=by
      rcases uW hDq with e|hh
      .exact absurd e hqi
      .exact hh
     obtain⟨oq',hq',hcq,hdst⟩:=rM (h.pend q hDq' hlq);rw[hq]at hq';cases hq';obtain⟨v',h1,h2⟩:=h.again q oq hq hDq' hlq;refine⟨v',?_,fun t ht=>?_⟩
     .rw[qX (F':=F) ?_]
      .rcases hcq with hcq|⟨hcq,hw⟩
       .exact gR hcq h1 H'
       .rcases Nat.lt_or_ge (v7 P pu ops o) 2 with hlt2|hge2
        .rw[pE hp0 (by omega) hst];exact h1
        .exfalso;have hle:v7 P pu ops o<=2:=by
          unfold v7 cls;repeat' split
          all_goals omega
         rcases hw i o ho (by omega) with hb|hb
         .have:=oR (S:=D) hlt h.clD i q oq hq (h.clD q oq hq hDq') hb;rw[hDi]at this;cases this
         .have:=oR (S:=fun k=>listed.getD k false) hlt h.clL q i o ho hpre' hb;rw[hlq]at this;cases this
      .intro t ht;rw[w9 hn hput];split
       .rename_i hd;exfalso;rcases Nat.lt_or_ge q i with hlt'|hge
        ·have hna : oq.apart ops o = false := by
           cases hx:oq.apart ops o with
           |false=>rfl
           |true=>exact absurd ht ((Oper.apart_spec hx).2.2 t hd)
         rw[ahead q oq hq hlt' hna]at hlq;cases hlq
        .have hiq:i<q:=by omega
         have hna:o.apart ops oq=false:=by
          cases hx:o.apart ops oq with
          |false=>rfl
          |true=>exact absurd ht ((Oper.apart_spec hx).1 t hd)
         have:=oR (S:=D) hlt h.clD i q oq hq (h.clD q oq hq hDq') (hap i q o oq hiq ho hq hna);rw[hDi]at this;cases this
       .rfl
     .rw[w9 hn hput,if_neg ?_]
      .exact h2 t ht
      .intro hd;exact (hdst t ht).2 i o (Ne.symm hqi) ho hd
   cases fu with
   |zero=>simp[aaR]at hg
   |succ fu =>
    obtain⟨D2,F2,hr2,hn2⟩:=dR hp0 hn hok hrel hg
    exact ih (listed.setIfInBounds i true) D2 F2 H' (γ++γ') (a.put o.dst u) w' fu hcnt' hr2 hn2
theorem lU{P:Program}{pu:FuncId->Bool}{w0:W0}{G:Gl}{call:yN}{ops:Array Oper}{n:Nat}{chk:Tr Value->AS->Bool}{Q:Exit->Act->World->Prop}(hN:vJ P)(hC:xH P G call)(hp0:∀ A f args H v H',pu f=true->call A f args H=some (v,H')->H'=H)(hm:P.follows .mixedOrders=true)
    (hok:sOk ops=true) {V:Ren} {F:Tr Value} {H:AS} {a:Act} {w:World} {id fu:Nat} (h:HR w0 V H w) (hG:Gok G V) (hF:FS V n F a) (hg:aaR P pu G call ops n chk (fu+1) (fun _=>false) F H=true)
    (hQ:∀ (γ:Ren) (R:Tr Value) (HE:AS) (a':Act) (w':World),chk R HE=true->HR w0 (V++γ) HE w'->FS (V++γ) n R a'->Q .normal a' w'):(Code.region id ops true).wp P Q a w:=by
 have hnone:∀ k,(Array.replicate ops.size false).getD k false=false:=by
  intro k;rw[Array.getD_eq_getD_getElem?];rcases Nat.lt_or_ge k ops.size with hk|hk
  .rw[Array.getElem?_replicate,if_pos hk];rfl
  .rw[Array.getElem?_eq_none (by simpa using hk)];rfl
 have hcn:∀ m,cnt (fun k=>(Array.replicate ops.size false).getD k false) m=m:=by
  intro m;induction m with
  |zero=>rfl
  |succ m ih=>simp only[cnt];rw[if_neg (by rw[hnone m];decide),ih];omega
 refine wp_region_any hm ?_
 have hrel:Rel P pu w0 G call ops n (Array.replicate ops.size false) (fun _=>false) F H (V++[]) a { w with drawn:=w.drawn+1 }:=by
  refine⟨fun k hk=>?_,fun k hk=>(by cases hk),fun j oj hj hs=>(by cases hs),fun j oj hj hs=>?_,fun k hk=>(by cases hk),by rw[List.append_nil];exact h.drew,by rw[List.append_nil];exact hG,hF.size,hF.nodef,fun t u hu _=>by rw[List.append_nil];exact hF.slot t u hu,fun q oq hq hD=>(by cases hD),by simp⟩
  .rw[hnone k]at hk;cases hk
  .simp only at hs;rw[hnone j]at hs;cases hs
 obtain⟨D1,F1,hr1,hn1⟩:=dR hp0 hF.small hok hrel hg
 exact ah2 hN hC hp0 hok hF.small V hQ ops.size _ D1 F1 H [] a _ fu (by rw[hcn];exact Nat.le_refl _) hr1 hn1
end
noncomputable section
def dl(f:Value->Value->Bool):List Value->List Value->Bool
 |[],[]=>true
 |a::l,b::m=>f a b&&dl f l m
 |_,_=>false
def deq:Nat->Value->Value->Bool
 |0,_,_=>false
 |k+1,v,u =>
  match v,u with
  | .bool a,.bool b=>a == b
  | .int i a,.int j b=>decide (i=j)&&decide (a=b)
  | .float i a,.float j b=>decide (i=j)&&Nat.beq a b
  | .complex i a b,.complex j c d=>decide (i=j)&&Nat.beq a c&&Nat.beq b d
  | .string s,.string t=>decide (s.data.toList=t.data.toList)
  | .pointer a,.pointer b=>decide (a=b)
  | .slice a n c,.slice b m d=>decide (a=b)&&Nat.beq n m&&Nat.beq c d
  | .map a,.map b=>decide (a=b)
  | .chan a,.chan b=>decide (a=b)
  | .nilFunc,.nilFunc=>true
  | .nilIface,.nilIface=>true
  | .func f a c,.func g b d=>decide (f=g)&&dl (deq k) a.toList b.toList&&dl (deq k) c.toList d.toList
  | .iface t a,.iface r b=>Nat.beq t r&&deq k a b
  | .agg a,.agg b=>dl (deq k) a.toList b.toList
  | .tuple a,.tuple b=>dl (deq k) a.toList b.toList
  |_,_=>false
theorem dM{f:Value->Value->Bool}(hf:∀ a b,f a b=true->a=b):∀(l m:List Value),dl f l m=true->l=m
 |[],[],_=>rfl
 |a::l,b::m,h=>by
  simp only[dl,Bool.and_eq_true]at h;rw[hf a b h.1,dM hf l m h.2]
 |[],_::_,h=>by cases h
 |_::_,[],h=>by cases h
theorem lB:∀(k:Nat)(v u:Value),deq k v u=true->v=u
 |0,v,u,h=>by cases h
 |k+1,v,u,h=>by
  have ih:=lB k;simp only[deq]at h;split at h
  .rw[beq_iff_eq]at h;rw[h]
  .simp only[Bool.and_eq_true,decide_eq_true_eq]at h;rw[h.1,h.2]
  .simp only[Bool.and_eq_true,decide_eq_true_eq]at h;rw[h.1,Nat.eq_of_beq_eq_true h.2]
  .simp only[Bool.and_eq_true,decide_eq_true_eq]at h;rw[h.1.1,Nat.eq_of_beq_eq_true h.1.2,Nat.eq_of_beq_eq_true h.2]
  .rename_i s t;have e:=of_decide_eq_true h;cases s;cases t;simp only[Value.string.injEq,ByteArray.mk.injEq];exact Array.ext' e
  .rw[of_decide_eq_true h]
  .simp only[Bool.and_eq_true,decide_eq_true_eq]at h;rw[h.1.1,Nat.eq_of_beq_eq_true h.1.2,Nat.eq_of_beq_eq_true h.2]
  .rw[of_decide_eq_true h]
  .rw[of_decide_eq_true h]
  .rfl
  .rfl
  .simp only[Bool.and_eq_true,decide_eq_true_eq]at h;rw[h.1.1,Array.ext' (dM ih _ _ h.1.2),Array.ext' (dM ih _ _ h.2)]
  .simp only[Bool.and_eq_true]at h;rw[Nat.eq_of_beq_eq_true h.1,ih _ _ h.2]
  .rw[Array.ext' (dM ih _ _ h)]
  .rw[Array.ext' (dM ih _ _ h)]
  .cases h
def eqF(n:Nat)(R R':Tr Value):Bool:=(List.range n).all fun t=>deq 60 (yW n R t) (yW n R' t)
def eqB(b c:Blk):Bool:=dl (deq 60) b.cells c.cells&&Nat.beq b.elem c.elem&&(b.ro == c.ro)&&(b.live == c.live)&&(match b.seq,c.seq with
 |none,none=>true
 |some x,some y=>deq 60 x y
 |_,_=>false)
def eqH(H H':AS):Bool:=Nat.beq H.size H'.size&&(List.range H.size).all fun B=>match H.get B,H'.get B with
 |some b,some c=>eqB b c
 |none,none=>true
 |_,_=>false
theorem atA{n:Nat}{R R':Tr Value}(h:eqF n R R'=true)(t:Nat):yW n R t=yW n R' t:=by
 unfold eqF at h;rw[List.all_eq_true]at h;rcases Nat.lt_or_ge t n with ht|ht
 .exact lB _ _ _ (h t (List.mem_range.2 ht))
 .unfold yW;rw[if_neg (by omega),if_neg (by omega)]
theorem aPQ{b c:Blk}(h:eqB b c=true):b=c:=by
 unfold eqB at h;simp only[Bool.and_eq_true,beq_iff_eq]at h;obtain⟨⟨⟨⟨h1,h2⟩,h3⟩,h4⟩,h5⟩:=h;have h1:=dM (lB 60) _ _ h1;have h2:=Nat.eq_of_beq_eq_true h2;have h5:b.seq=c.seq:=by
  split at h5
  .rename_i e1 e2;rw[e1,e2]
  .rename_i e1 e2;rw[e1,e2,lB 60 _ _ h5]
  .cases h5
 cases b;cases c;simp_all
theorem ajZ{H H':AS}(h:eqH H H'=true):H.size=H'.size/\∀ B,H.get B=H'.get B:=by
 unfold eqH at h;rw[Bool.and_eq_true,List.all_eq_true]at h;have hs:=Nat.eq_of_beq_eq_true h.1;refine⟨hs,fun B=>?_⟩;rcases Nat.lt_or_ge B H.size with hB|hB
 .have:=h.2 B (List.mem_range.2 hB);split at this
  .rename_i b c e1 e2;rw[e1,e2,aPQ this]
  .rename_i e1 e2;rw[e1,e2]
  .cases this
 .have e1:H.get B=none:=by unfold AS.get;rw[if_neg (by omega)]
  have e2:H'.get B=none:=by unfold AS.get;rw[if_neg (by omega)]
  rw[e1,e2]
theorem HR.as{w0:W0}{V:Ren}{H H':AS}{w:World}(h:HR w0 V H' w)(he:eqH H H'=true):HR w0 V H w:=by
 obtain⟨hs,hg⟩:=ajZ he;exact⟨h.len.trans hs.symm,by rw[hs];exact h.big,fun B b hb hl=>h.blk B b (by rw[<-hg];exact hb) hl,fun B B' b b' hb hb'=>h.inj B B' b b' (by rw[<-hg];exact hb) (by rw[<-hg];exact hb'),h.below⟩
theorem FS.as{V:Ren}{n:Nat}{R R':Tr Value}{a:Act}(h:FS V n R' a)(he:eqF n R R'=true):FS V n R a :=
 ⟨h.size,h.small,fun t u hu=>by rw[atA he t];exact h.slot t u hu,h.nodef⟩
end
noncomputable section
def a0G(o:Oper):Bool:=match o.op with
 | .load ..=>true
 |_=>false
def aZ3(o:Oper):Bool:=match o.op with
 | .call c=>match c.callee with
  | .value _=>true
  |_=>false
 |_=>false
def aZI(o:Oper):Bool:=match o.op with
 | .store ..=>true
 |_=>false
def aAK(ops:Array Oper):Bool:=(Nat.ble ops.size 16&&ops.toList.any aZ3&&ops.toList.any a0G) || Nat.beq (ops.toList.filter av2).length 2 || Nat.ble 4 (ops.toList.filter aZI).length
inductive AExit where
 |normal
 |ret
 |exit (id:Nat)
def AExit.conc:AExit->Exit
 | .normal=>.normal
 | .ret=>.ret
 | .exit id=>.exit id
def xY(P:Program)(pu:FuncId->Bool)(G:Gl)(call:yN)(n:Nat):Nat->Code->Tr Value->AS->Option (AExit × Tr Value × AS)
 |0,_,_,_=>none
 |k+1,c,F,H =>
  match c with
  | .skip=>some (.normal,F,H)
  | .label _=>some (.normal,F,H)
  | .region _ ops d =>
   match kO P { G with m:=H.size } call ops n ops.toList F H with
   |none=>none
   |some (R,HE) =>
    match d&&aAK ops && !(o7 P pu ops) with
    |false=>some (.normal,R,HE)
    |true=>if sOk ops&&aaR P pu { G with m:=H.size } call ops n (fun R' HE'=>eqF n R R'&&eqH HE HE') (ops.size+1) (fun _=>false) F H then some (.normal,R,HE) else none
  | .seq x y =>
   match xY P pu G call n k x F H with
   |some (.normal,F',H')=>xY P pu G call n k y F' H'
   |r=>r
  | .cond c x y =>
   match aev G n F c with
   | .bool t=>xY P pu G call n k (if t then x else y) F H
   |v =>
    match asB v with
    |none=>none
    |some e =>
     match dec G.A 60 e with
     |some t=>xY P pu G call n k (if t then x else y) F H
     |none=>none
  | .block id c =>
   match xY P pu G call n k c F H with
   |some (.exit id',F',H')=>if id'=id then some (.normal,F',H') else some (.exit id',F',H')
   |r=>r
  | .loop c =>
   match xY P pu G call n k c F H with
   |some (.normal,F',H')=>xY P pu G call n k (.loop c) F' H'
   |r=>r
  | .exit id=>some (.exit id,F,H)
  | .scope c=>xY P pu G call n k c F H
  | .ret=>some (.ret,F,H)
  |_=>none
def codeOk(P:Program)(pu:FuncId->Bool):Code->Bool
 | .region _ ops true=>o7 P pu ops || aAK ops
 | .seq x y=>codeOk P pu x&&codeOk P pu y
 | .cond _ x y=>codeOk P pu x&&codeOk P pu y
 | .block _ c=>codeOk P pu c
 | .loop c=>codeOk P pu c
 | .scope c=>codeOk P pu c
 |_=>true
theorem lS{P:Program}{pu:FuncId->Bool}{w0:W0}{G:Gl}{call:yN}{n:Nat}(hN:vJ P)(hC:xH P G call)(hp:∀ A f args H v H',pu f=true->call A f args H=some (v,H')->H'=H)
    (hm:P.follows .mixedOrders=true):∀ (k:Nat) (c:Code) (V:Ren) (F:Tr Value) (H:AS) (a:Act) (w:World) (e:AExit) (R:Tr Value) (HE:AS) (Q:Exit->Act->World->Prop),codeOk P pu c=true ->
     HR w0 V H w->Gok G V->FS V n F a->xY P pu G call n k c F H=some (e,R,HE) ->
     (∀ (γ:Ren) (a':Act) (w':World),HR w0 (V++γ) HE w'->FS (V++γ) n R a'->Q e.conc a' w')->c.wp P Q a w:=by
 intro k
 induction k using Nat.strongRecOn with
 |ind k ih =>
 intro c V F H a w e R HE Q hok h hG hF hr hQ
 cases k with
 |zero=>simp[xY]at hr
 |succ k =>
  have ihk:=ih k (Nat.lt_succ_self k)
  have here:∀ {e':AExit},some (e',F,H)=some (e,R,HE)->Q e'.conc a w:=by
   intro e' he;cases he;exact hQ [] a w (by rw[List.append_nil];exact h) (by rw[List.append_nil];exact hF)
  cases c with
  |skip=>exact wp_skip (here (e':=.normal) (by simpa only [xY] using hr))
  |label l=>exact wp_label (here (e':=.normal) (by simpa only [xY] using hr))
  |exit id=>exact wp_exit (here (e':=.exit id) (by simpa only [xY] using hr))
  |ret=>exact wp_ret (here (e':=.ret) (by simpa only [xY] using hr))
  |region id ops draw =>
   simp only[xY]at hr
   have hGm:Gok { G with m:=H.size } V:=⟨⟨hG.1.1,by rw[h.len];exact Nat.le_refl _⟩,hG.2⟩
   have hCm:xH P { G with m:=H.size } call:=hC
   split at hr
   .cases hr
   rename_i R' H' hrun
   cases draw with
   |false =>
    simp only[Bool.false_and]at hr
    cases hr
    exact acW hN hCm h hGm hF hrun hQ
   |true =>
    simp only[Bool.true_and]at hr
    split at hr
    .rename_i hh
     cases hr
     rw[Bool.and_eq_false_iff,Bool.not_eq_false']at hh
     rcases hh with hh|hh
     ·have hok' : o7 P pu ops = true := by
        simp only[codeOk,hh,Bool.or_false]at hok;exact hok
      exact gA hN hCm hp hm hok' h hGm hF hrun hQ
     .exact gA hN hCm hp hm hh h hGm hF hrun hQ
    .split at hr
     .rename_i hgo
      rw[Bool.and_eq_true]at hgo
      cases hr
      refine lU hN hCm hp hm hgo.1 h hGm hF hgo.2 ?_
      intro γ R2 HE2 a' w' hchk h1 h2
      rw[Bool.and_eq_true]at hchk
      exact hQ γ a' w' (h1.as hchk.2) (h2.as hchk.1)
     .cases hr
  |seq x y =>
   simp only[xY]at hr
   simp only[codeOk,Bool.and_eq_true]at hok
   refine wp_seq ?_
   split at hr
   .rename_i F' H' hx
    refine ihk x V F H a w .normal F' H' _ hok.1 h hG hF hx ?_
    intro γ a' w' h1 h2
    refine ihk y (V++γ) F' H' a' w' e R HE Q hok.2 h1 hG.mono h2 hr ?_
    intro γ' a2 w2 h3 h4
    exact hQ (γ++γ') a2 w2 (by rw[<-List.append_assoc];exact h3) (by rw[<-List.append_assoc];exact h4)
   .rename_i hx
    have hne:e≠.normal:=fun he=>by subst he;exact hx R HE hr
    refine ihk x V F H a w e R HE _ hok.1 h hG hF hr ?_
    intro γ a' w' h1 h2
    have:=hQ γ a' w' h1 h2
    cases e with
    |normal=>exact (hne rfl).elim
    |ret=>exact this
    |exit id=>exact this
  |cond c x y =>
   simp only[xY]at hr
   simp only[codeOk,Bool.and_eq_true]at hok
   split at hr
   .rename_i t ht
    have hc:=y9 hG hF.size c (fun t _=>hF.slot t)
    have hc':=hc.eq_of_ground (by rw[ht];rfl)
    rw[ht]at hc'
    refine wp_cond hc' ?_
    exact ihk _ V F H a w e R HE Q (by cases t<;>simp[hok]) h hG hF hr hQ
   .split at hr
    .cases hr
    rename_i e' he
    have hc:=y9 hG hF.size c (fun t _=>hF.slot t)
    obtain⟨tt,rfl,t1,t2⟩:=xJ hc he
    split at hr
    .rename_i t hd
     have hdt:=yV hG.2 60 tt _ hd
     rw[hdt]at t2
     refine wp_cond t2 ?_
     exact ihk _ V F H a w e R HE Q (by cases t<;>simp[hok]) h hG hF hr hQ
    .cases hr
  |block id c =>
   simp only[xY]at hr
   simp only[codeOk]at hok
   refine wp_block ?_
   split at hr
   .rename_i id' F' H' hx
    refine ihk c V F H a w (.exit id') F' H' _ hok h hG hF hx ?_
    intro γ a' w' h1 h2
    split at hr
    .rename_i hid
     cases hr
     simp only[AExit.conc,Exit.inBlock,hid,if_true]
     exact hQ γ a' w' h1 h2
    .rename_i hid
     cases hr
     simp only[AExit.conc,Exit.inBlock,hid,if_false]
     exact hQ γ a' w' h1 h2
   .rename_i hx
    refine ihk c V F H a w e R HE _ hok h hG hF hr ?_
    intro γ a' w' h1 h2
    have:=hQ γ a' w' h1 h2
    cases e with
    |normal=>exact this
    |ret=>exact this
    |exit id'=>exact (hx id' R HE hr).elim
  |loop c =>
   simp only[codeOk]at hok
   have rounds:∀ (j:Nat),j<=k+1->∀ (V:Ren) (F:Tr Value) (H:AS) (a:Act) (w:World),HR w0 V H w->Gok G V->FS V n F a->xY P pu G call n j (.loop c) F H=some (e,R,HE) ->
       (∀ (γ:Ren) (a':Act) (w':World),HR w0 (V++γ) HE w'->FS (V++γ) n R a'->Q e.conc a' w')->Code.rounds P c Q j a w:=by
    intro j
    induction j with
    |zero=>intro _ V F H a w h hG hF hr hQ;simp[xY]at hr
    |succ j ihj =>
     intro hj V F H a w h hG hF hr hQ
     simp only[xY]at hr
     rw[rounds_succ]
     split at hr
     .rename_i F' H' hx
      refine ih j (by omega) c V F H a w .normal F' H' _ hok h hG hF hx ?_
      intro γ a' w' h1 h2
      refine ihj (by omega) (V++γ) F' H' a' w' h1 hG.mono h2 hr ?_
      intro γ' a2 w2 h3 h4
      exact hQ (γ++γ') a2 w2 (by rw[<-List.append_assoc];exact h3) (by rw[<-List.append_assoc];exact h4)
     .rename_i hx
      have hne:e≠.normal:=fun he=>by subst he;exact hx R HE hr
      refine ih j (by omega) c V F H a w e R HE _ hok h hG hF hr ?_
      intro γ a' w' h1 h2
      have:=hQ γ a' w' h1 h2
      cases e with
      |normal=>exact (hne rfl).elim
      |ret=>exact this
      |exit id=>exact this
   exact wp_loop_rounds (k+1) (rounds (k+1) (Nat.le_refl _) V F H a w h hG hF hr hQ)
  |scope c =>
   simp only[xY]at hr
   simp only[codeOk]at hok
   refine wp_scope_straight ?_
   refine ihk c V F H a w e R HE _ hok h hG hF hr ?_
   intro γ a' w' h1 h2
   have:=hQ γ a' w' h1 h2
   cases e<;>exact this
  |rangeFunc=>simp[xY]at hr
  |goto=>simp[xY]at hr
  |refuse=>simp[xY]at hr
end
end Go.SM
