-- the statement of this claim: see YtoamgocecoiggaaDoorRs
import Derived.Test.YtoamgocecoiggaaDoorM10
set_option linter.unusedVariables false
set_option linter.unusedSimpArgs false
set_option maxRecDepth 100000
noncomputable section
namespace Go.SM
noncomputable section
def vD(o:Oper):List Nat:=(o.after.toList.filter (Region.binds .any)).map (·.on)
def v5:List Oper->List Nat->List Nat
 |[],acc=>acc
 |o::rest,acc=>v5 rest (acc++[(vD o).foldl (fun m k=>m ||| (acc.getD k 0 ||| 2 ^ k)) 0])
theorem dF(f:Nat->Nat)(i:Nat):∀(l:List Nat)(m:Nat),(l.foldl (fun m k=>m ||| f k) m).testBit i=true->m.testBit i=true\/∃ e∈l,(f e).testBit i=true
 |[],m,h=>.inl h
 |k::l,m,h=>by
  rw[List.foldl_cons]at h;rcases dF f i l _ h with h|⟨e,he,h⟩
  .rw[Nat.testBit_or,Bool.or_eq_true]at h;rcases h with h|h
   .exact .inl h
   .exact .inr ⟨k,by simp,h⟩
  .exact .inr ⟨e,by simp[he],h⟩
theorem iN:∀(l:List Oper)(acc:List Nat),(∀ k,k<acc.length->(v5 l acc).getD k 0=acc.getD k 0) /\
    (∀ (j:Nat) (o:Oper),l[j]?=some o->∀ i,((v5 l acc).getD (acc.length+j) 0).testBit i=true->∃ e∈vD o,i=e\/((v5 l acc).getD e 0).testBit i=true)
 |[],acc=>⟨fun _ _=>rfl,fun j o h=>by simp at h⟩
 |o::rest,acc=>by
  obtain⟨h1,h2⟩:=iN rest (acc++[(vD o).foldl (fun m k=>m ||| (acc.getD k 0 ||| 2 ^ k)) 0]);have g1:∀ k,k<acc.length->(v5 (o::rest) acc).getD k 0=acc.getD k 0:=by
   intro k hk;show (v5 rest _).getD k 0=_;rw[h1 k (by simp;omega)];simp only[List.getD_eq_getElem?_getD];rw[List.getElem?_append_left hk]
  refine⟨g1,?_⟩;intro j oj hj i hb;cases j with
  |zero =>
   simp only[List.getElem?_cons_zero,Option.some.injEq]at hj;subst hj;rw[Nat.add_zero]at hb;change ((v5 rest _).getD acc.length 0).testBit i=true at hb;rw[h1 _ (by simp)]at hb;simp only[List.getD_eq_getElem?_getD,List.getElem?_append_right (Nat.le_refl _),Nat.sub_self,List.getElem?_cons_zero,Option.getD_some]at hb;rcases dF _ i _ _ hb with h|⟨e,he,h⟩
   .simp at h
   .rw[Nat.testBit_or,Bool.or_eq_true]at h;rcases h with h|h
    .refine⟨e,he,.inr ?_⟩;rcases Nat.lt_or_ge e acc.length with hlt|hge
     .rw[g1 e hlt,List.getD_eq_getElem?_getD];exact h
     .rw[List.getElem?_eq_none hge]at h;simp at h
    .refine⟨e,he,.inl ?_⟩;rw[Nat.testBit_two_pow]at h;simpa using (of_decide_eq_true h).symm
  |succ j =>
   have:=h2 j oj (by simpa using hj) i;simp only[List.length_append,List.length_cons,List.length_nil]at this;rw[show acc.length+(0+1)+j=acc.length+(j+1) from by omega]at this;exact this hb
def g9(P:Program)(pu:FuncId->Bool)(ops:Array Oper)(oi oj:Oper):Bool :=
 !(oi.apart ops oj) || (decide (v7 P pu ops oi=2)&&decide (1<=v7 P pu ops oj)) || (decide (1<=v7 P pu ops oi)&&decide (v7 P pu ops oj=2))
def o7(P:Program)(pu:FuncId->Bool)(ops:Array Oper):Bool :=
 (List.range ops.size).all fun j =>
  match ops[j]? with
  |none=>true
  |some oj=>(vD oj).all (fun e=>decide (e<j))&&(List.range j).all fun i =>
      match ops[i]? with
      |none=>true
      |some oi=>!(g9 P pu ops oi oj) || ((v5 ops.toList []).getD j 0).testBit i
theorem y8{ops:Array Oper}{j:Nat}{o:Oper}(h:ops[j]?=some o):j<ops.size:=by
 rcases Nat.lt_or_ge j ops.size with hl|hl
 .exact hl
 .rw[Array.getElem?_eq_none hl]at h;cases h
theorem Z0{P:Program}{pu:FuncId->Bool}{ops:Array Oper}(h:o7 P pu ops=true) :
    (∀ (j:Nat) (oj:Oper),ops[j]?=some oj->∀ e∈vD oj,e<j) /\
    (∀ (i j:Nat) (oi oj:Oper),i<j->ops[i]?=some oi->ops[j]?=some oj->g9 P pu ops oi oj=true->((v5 ops.toList []).getD j 0).testBit i=true):=by
 unfold o7 at h
 rw[List.all_eq_true]at h
 refine⟨fun j oj hj e he=>?_,fun i j oi oj hij hi hj hc=>?_⟩
 .have:=h j (List.mem_range.2 (y8 hj))
  simp only[hj,Bool.and_eq_true,List.all_eq_true]at this
  exact of_decide_eq_true (this.1 e he)
 .have:=h j (List.mem_range.2 (y8 hj))
  simp only[hj,Bool.and_eq_true,List.all_eq_true]at this
  have:=this.2 i (List.mem_range.2 hij)
  simp only[hi,hc,Bool.not_true,Bool.false_or]at this
  exact this
def Closed(ops:Array Oper)(S:Nat->Bool):Prop:=∀(j:Nat)(oj:Oper),ops[j]?=some oj->S j=true->∀ e∈vD oj,S e=true
theorem oR{ops:Array Oper}{S:Nat->Bool}(hlt:∀(j:Nat)(oj:Oper),ops[j]?=some oj->∀ e∈vD oj,e<j)(hc:Closed ops S)(i:Nat):∀(j:Nat)(oj:Oper),ops[j]?=some oj->(∀ e∈vD oj,S e=true) ->
    ((v5 ops.toList []).getD j 0).testBit i=true->S i=true:=by
 intro j
 induction j using Nat.strongRecOn with
 |ind j ih =>
  intro oj hj hp hb
  have hspec:=(iN ops.toList []).2 j oj (by rw[Array.getElem?_toList];exact hj) i
  simp only[List.length_nil,Nat.zero_add]at hspec
  obtain⟨e,he,h⟩:=hspec hb
  rcases h with rfl|h
  .exact hp _ he
  .have hej:=hlt j oj hj e he
   have hes:e<ops.size:=by have:=y8 hj;omega
   have hoe:ops[e]?=some ops[e]:=Array.getElem?_eq_getElem hes
   exact ih e hej ops[e] hoe (hc e ops[e] hoe (hp e he)) h
theorem iK{P:Program}{G:Gl}{call:yN}{ops:Array Oper}{n:Nat}{R:Tr Value}{HE:AS}:∀(l:List Oper)(F:Tr Value)(H:AS),kO P G call ops n l F H=some (R,HE) ->
    ∃ (Fs:Nat->Tr Value) (Hs:Nat->AS) (vs:Nat->Value),Fs 0=F/\Hs 0=H/\Fs l.length=R/\Hs l.length=HE /\
     ∀ (i:Nat) (o:Oper),l[i]?=some o->wT P G call ops n o (Fs i) (Hs i)=some (vs i,Hs (i+1))/\sU n (Fs i) o.dst (vs i)=some (Fs (i+1))
 |[],F,H,h=>by
  simp only[kO,Option.some.injEq,Prod.mk.injEq]at h;obtain⟨rfl,rfl⟩:=h;exact⟨fun _=>F,fun _=>H,fun _=>undef,rfl,rfl,rfl,rfl,fun i o h=>by simp at h⟩
 |o::rest,F,H,h=>by
  simp only[kO]at h;split at h
  .cases h
  .rename_i v H' hst;split at h
   .cases h
   .rename_i F' hp;obtain⟨Fs,Hs,vs,h1,h2,h3,h4,h5⟩:=iK rest F' H' h;refine⟨fun i=>if i=0 then F else Fs (i-1),fun i=>if i=0 then H else Hs (i-1),fun i=>if i=0 then v else vs (i-1),rfl,rfl,by simp[h3],by simp[h4],?_⟩;intro i oi hi;cases i with
    |zero =>
     simp only[List.getElem?_cons_zero,Option.some.injEq]at hi;subst hi;simp only[if_true,Nat.zero_add,Nat.one_ne_zero,if_false,Nat.sub_self,h1,h2];exact⟨hst,hp⟩
    |succ i =>
     have:=h5 i oi (by simpa using hi);simp only[Nat.add_one_ne_zero,if_false,Nat.add_sub_cancel];exact this
def rK(ops:Array Oper)(vs:Nat->Value)(S:Nat->Bool)(t:Nat):Nat->Option Value
 |0=>none
 |k+1=>if S k=true/\(ops[k]?).bind (·.dst)=some t then some (vs k) else rK ops vs S t k
def isW(P:Program)(pu:FuncId->Bool)(ops:Array Oper)(k:Nat):Bool :=
 match ops[k]? with
 |some o=>decide (v7 P pu ops o=2)
 |none=>false
def vQ(P:Program)(pu:FuncId->Bool)(ops:Array Oper)(Hs:Nat->AS)(S:Nat->Bool):Nat->AS
 |0=>Hs 0
 |k+1=>if S k=true/\isW P pu ops k=true then Hs (k+1) else vQ P pu ops Hs S k
section
variable {P:Program} {pu:FuncId->Bool} {ops:Array Oper} {vs:Nat->Value} {Hs:Nat->AS} {S S':Nat->Bool} {t:Nat}
theorem rP:∀(m:Nat),(∀ k,k<m->(ops[k]?).bind (·.dst)=some t->S k=S' k)->rK ops vs S t m=rK ops vs S' t m
 |0,_=>rfl
 |m+1,h=>by
  simp only[rK];rw[rP m fun k hk hd=>h k (by omega) hd];by_cases hd:(ops[m]?).bind (·.dst)=some t
  .rw[h m (by omega) hd]
  .simp[hd]
theorem jW{i:Nat}:∀(m:Nat),i<=m->(∀ k,i<=k->k<m->(ops[k]?).bind (·.dst)=some t->S k=false)->rK ops vs S t m=rK ops vs S t i
 | 0, h, _ => by obtain rfl : i = 0 := by omega
                 rfl
 |m+1,h,hk=>by
  by_cases him:i=m+1
  .rw[him]
  .simp only[rK];rw[if_neg (fun hc=>by rw[hk m (by omega) (by omega) hc.2]at hc;cases hc.1)];exact jW m (by omega) fun k h1 h2 h3=>hk k h1 (by omega) h3
theorem uR:∀(m:Nat),(∀ k,k<m->isW P pu ops k=true->S k=S' k)->vQ P pu ops Hs S m=vQ P pu ops Hs S' m
 |0,_=>rfl
 |m+1,h=>by
  simp only[vQ];rw[uR m fun k hk hd=>h k (by omega) hd];by_cases hd:isW P pu ops m=true
  .rw[h m (by omega) hd]
  .simp[hd]
theorem mH{i:Nat}:∀(m:Nat),i<=m->(∀ k,i<=k->k<m->isW P pu ops k=true->S k=false)->vQ P pu ops Hs S m=vQ P pu ops Hs S i
 | 0, h, _ => by obtain rfl : i = 0 := by omega
                 rfl
 |m+1,h,hk=>by
  by_cases him:i=m+1
  .rw[him]
  .simp only[vQ];rw[if_neg (fun hc=>by rw[hk m (by omega) (by omega) hc.2]at hc;cases hc.1)];exact mH m (by omega) fun k h1 h2 h3=>hk k h1 (by omega) h3
end
def cnt(S:Nat->Bool):Nat->Nat
 |0=>0
 |k+1=>(if S k then 0 else 1)+cnt S k
theorem cL{S S':Nat->Bool}{i:Nat}(hi:S i=false)(hi':S' i=true)(h:∀ k,k≠i->S' k=S k):∀(m:Nat),(m<=i->cnt S' m=cnt S m)/\(i<m->cnt S' m+1=cnt S m)
 |0=>⟨fun _=>rfl,fun h=>by omega⟩
 |m+1=>by
  obtain⟨h1,h2⟩:=cL hi hi' h m;refine⟨fun hm=>?_,fun hm=>?_⟩
  .simp only[cnt];rw[h1 (by omega),h m (by omega)]
  .simp only[cnt];by_cases hmi:m=i
   .subst hmi;rw[h1 (Nat.le_refl _),hi,hi'];simp;omega
   .have:=h2 (by omega);rw[h m hmi];omega
theorem jZ{S:Nat->Bool}:∀(m:Nat),cnt S m=0->∀ k,k<m->S k=true
 |m+1,h,k,hk=>by
  simp only[cnt]at h;by_cases hkm:k=m
  .subst hkm;cases hs:S k with
   |true=>rfl
   |false=>rw[hs]at h;simp at h
  .exact jZ m (by omega) k (by omega)
end
noncomputable section
theorem w9{n:Nat}{F F':Tr Value}{dst:Option Tmp}{v:Value}(hn:n<=2 ^ 12)(h:sU n F dst v=some F')(t:Nat):yW n F' t=if dst=some t then v else yW n F t:=by
 cases dst with
 |none=>simp only[sU,Option.some.injEq]at h;subst h;simp
 |some d =>
  simp only[sU]at h;split at h
  .rename_i hd;have hd':@LT.lt Nat _ d n:=hd;simp only[Option.some.injEq]at h;subst h;unfold yW;by_cases ht:t<n
   .rw[if_pos ht,if_pos ht];by_cases hdt:d=t
    .subst hdt;rw[Tr.get_set];simp
    .rw[Tr.get_set_ne v d t DF F (uK 12 d t (by omega) (by omega) hdt),if_neg (by simpa using hdt)]
   .rw[if_neg ht,if_neg ht,if_neg (fun e=>by cases e;exact ht hd')]
  .cases h
section
variable {P:Program} {pu:FuncId->Bool} {G:Gl} {call:yN} {ops:Array Oper} {n:Nat} {Fs:Nat->Tr Value} {Hs:Nat->AS} {vs:Nat->Value}
theorem mP(hn:n<=2 ^ 12)(hT:∀(i:Nat)(o:Oper),ops.toList[i]?=some o->wT P G call ops n o (Fs i) (Hs i)=some (vs i,Hs (i+1))/\sU n (Fs i) o.dst (vs i)=some (Fs (i+1)))(t:Nat) :
    ∀ k,k<=ops.size->yW n (Fs k) t=(rK ops vs (fun _=>true) t k).getD (yW n (Fs 0) t)
 |0,_=>rfl
 |k+1,hk=>by
  have ho:ops[k]?=some ops[k]:=Array.getElem?_eq_getElem (by omega);obtain⟨_,h2⟩:=hT k ops[k] (by rw[Array.getElem?_toList];exact ho);rw[w9 hn h2 t];simp only[rK,ho,Option.bind_some,true_and];split
  .rfl
  .exact mP hn hT t k (by omega)
theorem jF(hp:∀ A f args H v H',pu f=true->call A f args H=some (v,H')->H'=H)
    (hT:∀ (i:Nat) (o:Oper),ops.toList[i]?=some o->wT P G call ops n o (Fs i) (Hs i)=some (vs i,Hs (i+1))/\sU n (Fs i) o.dst (vs i)=some (Fs (i+1))) :
    ∀ k,k<=ops.size->vQ P pu ops Hs (fun _=>true) k=Hs k
 |0,_=>rfl
 |k+1,hk=>by
  have ho:ops[k]?=some ops[k]:=Array.getElem?_eq_getElem (by omega);obtain⟨h1,_⟩:=hT k ops[k] (by rw[Array.getElem?_toList];exact ho);simp only[vQ,true_and];split
  .rfl
  .rename_i hw;rw[jF hp hT k (by omega)];refine (pE hp ?_ h1).symm;have:¬ v7 P pu ops ops[k]=2:=by
    intro hc;apply hw;unfold isW;rw[ho];simpa using hc
   have hle:v7 P pu ops ops[k]<=2:=by
    unfold v7 cls;repeat' split
    all_goals omega
   omega
end
theorem nM{listed:Array Bool}{j:Nat}(hj:j<listed.size)(h:listed.getD j false=false):listed.getD j true=false:=by
 simp only[Array.getD_eq_getD_getElem?,Array.getElem?_eq_getElem hj,Option.getD_some]at h ⊢;exact h
theorem aoO{P:Program}{pu:FuncId->Bool}{w0:W0}{G:Gl}{call:yN}{ops:Array Oper}{n:Nat}{Q:Exit->Act->World->Prop}(hN:vJ P)(hC:xH P G call)
    (hp:∀ A f args H v H',pu f=true->call A f args H=some (v,H')->H'=H) (hok:o7 P pu ops=true) (hn:n<=2 ^ 12) {Fs:Nat->Tr Value} {Hs:Nat->AS} {vs:Nat->Value}
    (hT:∀ (i:Nat) (o:Oper),ops.toList[i]?=some o->wT P G call ops n o (Fs i) (Hs i)=some (vs i,Hs (i+1))/\sU n (Fs i) o.dst (vs i)=some (Fs (i+1)))
    (V:Ren) (hQ:∀ (γ:Ren) (a':Act) (w':World),HR w0 (V++γ) (Hs ops.size) w'->FS (V++γ) n (Fs ops.size) a'->Q .normal a' w') :
    ∀ (fuel:Nat) (listed:Array Bool) (γ:Ren) (a:Act) (w:World),HR w0 (V++γ) (vQ P pu ops Hs (fun k=>listed.getD k false) ops.size) w->Gok G (V++γ)->a.tmps.size=n->a.defers=[] ->
     (∀ t u,a.tmps[t]?=some u->SR (V++γ) ((rK ops vs (fun k=>listed.getD k false) t ops.size).getD (yW n (Fs 0) t)) u)->listed.size=ops.size->Closed ops (fun k=>listed.getD k false) ->
     cnt (fun k=>listed.getD k false) ops.size<=fuel->wpAny P .any ops Q fuel listed a w:=by
 obtain⟨hlt,hconf⟩:=Z0 hok
 have final:∀ (listed:Array Bool) (γ:Ren) (a:Act) (w:World),HR w0 (V++γ) (vQ P pu ops Hs (fun k=>listed.getD k false) ops.size) w->a.tmps.size=n->a.defers=[] ->
     (∀ t u,a.tmps[t]?=some u->SR (V++γ) ((rK ops vs (fun k=>listed.getD k false) t ops.size).getD (yW n (Fs 0) t)) u)->(∀ k,k<ops.size->listed.getD k false=true)->Q .normal a w:=by
  intro listed γ a w hr hsz hdf hsl hall
  refine hQ γ a w ?_ ⟨hsz,hn,?_,hdf⟩
  .rw[uR (S':=fun _=>true) ops.size (fun k hk _=>hall k hk),jF hp hT ops.size (Nat.le_refl _)]at hr
   exact hr
  .intro t u hu
   have:=hsl t u hu
   rw[rP (S':=fun _=>true) ops.size (fun k hk _=>hall k hk),<-mP hn hT t ops.size (Nat.le_refl _)]at this
   exact this
 have isready:∀ (listed:Array Bool) (k:Nat),listed.size=ops.size->k<ops.size->listed.getD k false=false->(∀ e,e<k->listed.getD e false=true)->k∈Region.ready .any ops listed:=by
  intro listed k hls hk hun hall;have ho:ops[k]?=some ops[k]:=Array.getElem?_eq_getElem hk;refine mem_ready.2 ⟨nM (by omega) hun,ops[k],ho,fun e he hb=>hall _ (hlt k ops[k] ho e.on ?_)⟩;exact List.mem_map.2 ⟨e,List.mem_filter.2 ⟨by simpa using he,hb⟩,rfl⟩
 intro fuel
 induction fuel with
 |zero =>
  intro listed γ a w hr hG hsz hdf hsl hls hcl hcnt
  have hall:=jZ (S:=fun k=>listed.getD k false) ops.size (by omega)
  refine⟨?_,final listed γ a w hr hsz hdf hsl hall⟩
  rw[List.eq_nil_iff_forall_not_mem]
  intro j hj
  obtain⟨h0,o,ho,_⟩:=mem_ready.1 hj
  have hjl:=y8 ho
  have h1:=hall j hjl
  simp only[Array.getD_eq_getD_getElem?,Array.getElem?_eq_getElem (show j<listed.size by omega),Option.getD_some]at h0 h1
  rw[h0]at h1;cases h1
 |succ fuel ih =>
  intro listed γ a w hr hG hsz hdf hsl hls hcl hcnt
  refine⟨fun hnil=>final listed γ a w hr hsz hdf hsl ?_,fun i hi=>?_⟩
  .intro k
   induction k using Nat.strongRecOn with
   |ind k ihk =>
    intro hk
    cases hs:listed.getD k false with
    |true=>rfl
    |false =>
     have:=isready listed k hls hk hs (fun e he=>ihk e he (by omega))
     rw[hnil]at this;cases this
  .obtain⟨hun0,o,ho,hpre⟩:=mem_ready.1 hi
   have hil:=y8 ho
   have hun:listed.getD i false=false:=by
    simp only[Array.getD_eq_getD_getElem?,Array.getElem?_eq_getElem (show i<listed.size by omega),Option.getD_some]at hun0 ⊢;exact hun0
   have hpre':∀ e∈vD o,listed.getD e false=true:=by
    intro e he;obtain⟨e',he',rfl⟩:=List.mem_map.1 he;obtain⟨h1,h2⟩:=List.mem_filter.1 he';exact hpre e' (by simpa using h1) h2
   have ahead:∀ (j:Nat) (oj:Oper),j<i->ops[j]?=some oj->g9 P pu ops oj o=true->listed.getD j false=true:=fun j oj hji hj hc =>
    oR (S:=fun k=>listed.getD k false) hlt hcl j i o ho hpre' (hconf j i oj o hji hj ho hc)
   have behind:∀ (j:Nat) (oj:Oper),i<j->ops[j]?=some oj->g9 P pu ops o oj=true->listed.getD j false=false:=by
    intro j oj hij hj hc;cases hs:listed.getD j false with
    |false=>rfl
    |true =>
     have:=oR (S:=fun k=>listed.getD k false) hlt hcl i j oj hj (hcl j oj hj hs) (hconf i j o oj hij ho hj hc);rw[hun]at this;cases this
   obtain⟨hst,hput⟩:=hT i o (by rw[Array.getElem?_toList];exact ho)
   have apartW:∀ {x y:Oper},g9 P pu ops x y=false->x.apart ops y=true:=by
    intro x y h;unfold g9 at h;simp only[Bool.or_eq_false_iff,Bool.not_eq_false']at h;exact h.1.1
   have hslots:∀ t,t∈o.looksAt ops->rO (V++γ) n (Fs i) a t:=by
    intro t ht u hu;have h1:=hsl t u hu;have e1:rK ops vs (fun k=>listed.getD k false) t ops.size=rK ops vs (fun _=>true) t i:=by
     rw[jW (i:=i) ops.size (by omega) ?_]
     .refine rP i fun k hk hd=>?_;obtain⟨ok,hok1,hok2⟩:=Option.bind_eq_some_iff.1 hd;refine ahead k ok hk hok1 ?_;cases hcf:g9 P pu ops ok o with
      |true=>rfl
      |false=>exact ((Oper.apart_spec (apartW hcf)).1 t hok2 ht).elim
     .intro k h1 h2 hd;obtain⟨ok,hok1,hok2⟩:=Option.bind_eq_some_iff.1 hd;by_cases hki:k=i
      .subst hki;exact hun
      .refine behind k ok (by omega) hok1 ?_;cases hcf:g9 P pu ops o ok with
       |true=>rfl
       |false=>exact ((Oper.apart_spec (apartW hcf)).2.2 t hok2 ht).elim
    rw[e1,<-mP hn hT t i (by omega)]at h1;exact h1
   have hmem:wT P G call ops n o (Fs i) (vQ P pu ops Hs (fun k=>listed.getD k false) ops.size) =
       some (vs i,vQ P pu ops Hs (fun k=>(listed.setIfInBounds i true).getD k false) ops.size):=by
    have hS':∀ k,k≠i->(listed.setIfInBounds i true).getD k false=listed.getD k false:=fun k hk=>getD_set_ne false (Ne.symm hk)
    have hSi:(listed.setIfInBounds i true).getD i false=true:=by simp[hls,hil]
    by_cases hq:v7 P pu ops o=0
    ·have hsame : vQ P pu ops Hs (fun k => (listed.setIfInBounds i true).getD k false) ops.size = vQ P pu ops Hs (fun k => listed.getD k false) ops.size := by
       refine uR ops.size fun k hk hw=>?_;by_cases hki:k=i
       .subst hki;unfold isW at hw;rw[ho]at hw;simp[hq]at hw
       .exact hS' k hki
     rw[hsame];exact gR hq hst _
    .have hloud:1<=v7 P pu ops o:=by omega
     have before:∀ k,k<i->isW P pu ops k=true->listed.getD k false=true:=by
      intro k hk hw;unfold isW at hw;split at hw
      .rename_i ok hok1;refine ahead k ok hk hok1 ?_;unfold g9;rw[hw];simp[hloud]
      .cases hw
     have after':∀ k,i<k->k<ops.size->isW P pu ops k=true->listed.getD k false=false:=by
      intro k hik hk hw;unfold isW at hw;split at hw
      .rename_i ok hok1;refine behind k ok hik hok1 ?_;unfold g9;rw[hw];simp[hloud]
      .cases hw
     have e1:vQ P pu ops Hs (fun k=>listed.getD k false) ops.size=Hs i:=by
      rw[mH (i:=i) ops.size (by omega),uR (S':=fun _=>true) i (fun k hk hw=>before k hk hw),jF hp hT i (by omega)];intro k h1 h2 hw;by_cases hki:k=i
      .subst hki;exact hun
      .exact after' k (by omega) h2 hw
     have e2:vQ P pu ops Hs (fun k=>(listed.setIfInBounds i true).getD k false) ops.size=Hs (i+1):=by
      rw[mH (i:=i+1) ops.size (by omega),uR (S':=fun _=>true) (i+1),jF hp hT (i+1) (by omega)]
      .intro k hk hw;by_cases hki:k=i
       .subst hki;exact hSi
       .show (listed.setIfInBounds i true).getD k false=true;rw[hS' k hki];exact before k (by omega) hw
      .intro k h1 h2 hw;show (listed.setIfInBounds i true).getD k false=false;rw[hS' k (by omega)];exact after' k (by omega) h2 hw
     rw[e1,e2];exact hst
   refine nP hN hC hr hG hsz ho hslots hmem _ ?_
   intro γ' u w' hr' hu
   have hS':∀ k,k≠i->(listed.setIfInBounds i true).getD k false=listed.getD k false:=fun k hk=>getD_set_ne false (Ne.symm hk)
   have hSi:(listed.setIfInBounds i true).getD i false=true:=by simp[hls,hil]
   refine ih (listed.setIfInBounds i true) (γ++γ') (a.put o.dst u) w' (by rw[<-List.append_assoc];exact hr') (by rw[<-List.append_assoc];exact hG.mono) (by rw[nU,hsz]) (by rw[kV,hdf]) ?_ (by simpa using hls) ?_ ?_
   .rw[<-List.append_assoc]
    intro t x hx
    by_cases hd:o.dst=some t
    ·have hit : rK ops vs (fun k => (listed.setIfInBounds i true).getD k false) t ops.size = some (vs i) := by
       rw[jW (i:=i+1) ops.size (by omega)]
       .simp only[rK,ho,Option.bind_some,hd,and_true];rw[if_pos hSi]
       .intro k h1 h2 hdk;obtain⟨ok,hok1,hok2⟩:=Option.bind_eq_some_iff.1 hdk;show (listed.setIfInBounds i true).getD k false=false;rw[hS' k (by omega)];refine behind k ok (by omega) hok1 ?_;cases hcf:g9 P pu ops o ok with
        |true=>rfl
        |false=>exact ((Oper.apart_spec (apartW hcf)).2.1 t hd hok2).elim
     rw[hit];rw[hd]at hx;simp only[Act.put]at hx;have htl:t<a.tmps.size:=by
      rcases Nat.lt_or_ge t a.tmps.size with h|h
      .exact h
      .rw[Array.getElem?_eq_none (by simpa using h)]at hx;cases hx
     rw[Array.getElem?_setIfInBounds_self_of_lt htl]at hx;cases hx;exact hu
    ·have hmiss : rK ops vs (fun k => (listed.setIfInBounds i true).getD k false) t ops.size = rK ops vs (fun k => listed.getD k false) t ops.size := by
       refine rP ops.size fun k hk hdk=>?_;by_cases hki:k=i
       .subst hki;rw[ho]at hdk;exact (hd hdk).elim
       .exact hS' k hki
     rw[hmiss];have hx':a.tmps[t]?=some x:=by
      cases hdo:o.dst with
      |none=>rw[hdo]at hx;exact hx
      |some d =>
       rw[hdo]at hx hd;simp only[Act.put]at hx;rw[Array.getElem?_setIfInBounds_ne (fun e=>hd (by rw[e]))]at hx;exact hx
     exact (hsl t x hx').mono
   .intro j oj hj hsj e he
    by_cases hji:j=i
    .subst hji
     rw[ho]at hj;cases hj
     have:=hpre' e he
     exact getD_set_true this
    .have h1:listed.getD j false=true:=by rw[<-hS' j hji];exact hsj
     exact getD_set_true (hcl j oj hj h1 e he)
   .have:=(cL (S:=fun k=>listed.getD k false) (S':=fun k=>(listed.setIfInBounds i true).getD k false) (i:=i) hun hSi hS' ops.size).2 hil
    omega
theorem gA{P:Program}{pu:FuncId->Bool}{w0:W0}{G:Gl}{call:yN}{ops:Array Oper}{n:Nat}{Q:Exit->Act->World->Prop}(hN:vJ P)(hC:xH P G call)
    (hp:∀ A f args H v H',pu f=true->call A f args H=some (v,H')->H'=H) (hm:P.follows .mixedOrders=true) (hok:o7 P pu ops=true) {V:Ren} {F R:Tr Value} {H HE:AS} {a:Act} {w:World} {id:Nat}
    (h:HR w0 V H w) (hG:Gok G V) (hF:FS V n F a) (hr:kO P G call ops n ops.toList F H=some (R,HE))
    (hQ:∀ (γ:Ren) (a':Act) (w':World),HR w0 (V++γ) HE w'->FS (V++γ) n R a'->Q .normal a' w'):(Code.region id ops true).wp P Q a w:=by
 obtain⟨Fs,Hs,vs,rfl,rfl,h3,h4,hT⟩:=iK ops.toList F H hr
 rw[Array.length_toList]at h3 h4
 subst h3 h4
 have hnone:∀ k,(Array.replicate ops.size false).getD k false=false:=by
  intro k;rw[Array.getD_eq_getD_getElem?];rcases Nat.lt_or_ge k ops.size with hk|hk
  .rw[Array.getElem?_replicate,if_pos hk];rfl
  .rw[Array.getElem?_eq_none (by simpa using hk)];rfl
 have hc0:∀ t m,rK ops vs (fun k=>(Array.replicate ops.size false).getD k false) t m=none:=by
  intro t m;induction m with
  |zero=>rfl
  |succ m ih=>simp only[rK];rw[if_neg (fun hc=>by rw[hnone m]at hc;cases hc.1)];exact ih
 have hh0:∀ m,vQ P pu ops Hs (fun k=>(Array.replicate ops.size false).getD k false) m=Hs 0:=by
  intro m;induction m with
  |zero=>rfl
  |succ m ih=>simp only[vQ];rw[if_neg (fun hc=>by rw[hnone m]at hc;cases hc.1)];exact ih
 have hcn:∀ m,cnt (fun k=>(Array.replicate ops.size false).getD k false) m=m:=by
  intro m;induction m with
  |zero=>rfl
  |succ m ih=>simp only[cnt];rw[if_neg (by rw[hnone m];decide),ih];omega
 refine wp_region_any hm ?_
 refine aoO hN hC hp hok hF.small hT V hQ ops.size _ [] a _ (by rw[List.append_nil,hh0];exact h.drew) (by rw[List.append_nil];exact hG) hF.size hF.nodef ?_ (by simp) ?_ (by rw[hcn];exact Nat.le_refl _)
 .intro t u hu
  rw[List.append_nil,hc0]
  exact hF.slot t u hu
 .intro j oj _ hs
  have:=hnone j
  simp only at hs
  rw[this]at hs;cases hs
theorem acW{P:Program}{w0:W0}{G:Gl}{call:yN}{ops:Array Oper}{n:Nat}{Q:Exit->Act->World->Prop}(hN:vJ P)(hC:xH P G call)
    {V:Ren} {F R:Tr Value} {H HE:AS} {a:Act} {w:World} {id:Nat} (h:HR w0 V H w) (hG:Gok G V) (hF:FS V n F a) (hr:kO P G call ops n ops.toList F H=some (R,HE))
    (hQ:∀ (γ:Ren) (a':Act) (w':World),HR w0 (V++γ) HE w'->FS (V++γ) n R a'->Q .normal a' w'):(Code.region id ops false).wp P Q a w:=by
 refine wp_region ?_
 have:=jQ (Q:=Q) hN hC R HE ops.toList 0 V F H a w rfl h hG hF hr hQ
 rw[Array.length_toList,<-List.range_eq_range']at this
 exact this
end
end Go.SM
