-- the statement of this claim: see YtoamgocecoiggaaDoorRs
import Derived.Test.YtoamgocecoiggaaDoorM37
set_option linter.unusedVariables false
set_option linter.unusedSimpArgs false
set_option maxRecDepth 100000
noncomputable section
open Go Go.SM Go.Proofs
namespace U
theorem aTB:lF Tryd.prog puG aX7:=rC (by kernel_rfl)
theorem vG:xH Tryd.prog { g:=g0,A:=[],pu:=puG } ae9:=wY zQ follows aTB (tJ _ _) 8
theorem rest_step{V V1:Ren}(p:PE V)(s:SmE V V1)(h:gI V 23<gI V 31)(h23:gI V1 23=gI V 23+1):zZ V=vE V::zZ V1:=by
 rw[uD p h];congr 1;unfold zZ;rw[s.2.2.1,s.2.2.2,h23]
theorem adQ{w0:W0}{Q:Exit->Act->World->Prop}:∀(m:Nat)(V:Ren)(a:Act)(w:World),(gI V 31-gI V 23).toNat<=m->PE V->HR w0 V ad0.heap w->FS V (ntmps 21) ad0.frame a ->
    (∀ V1 a' w',Ln V1->SmT V V1->SmN V V1->(∀ c∈zZ V,Prs c)->HR w0 V1 M9.heap w'->FS V1 (ntmps 21) M9.frame a'->Q (.exit 0) a' w') ->
    (∀ V1 a' w',Ln V1->SmT V V1->HR w0 V1 D9.heap w'->FS V1 (ntmps 21) D9.frame a'->Q .ret a' w')->wpL Tryd.prog bB Q a w:=by
 intro m
 induction m with
 |zero =>
  intro V a w hm p hH hF h1 h2
  refine zR (yC (E:=ahZ) (G:=aQI V) zQ vG follows (by show (abW).Holds _ _;rw[lN];exact dE p) p.n.2 hH (Facts.nil _) hF ?_ (fun r s c h=>by rcases h with h|h<;>cases h) (fun j i V1 V2 h=>h.elim) (fun r s h=>by rcases h with h|h<;>cases h) (fun f s h=>by cases h))
  intro j e tp V1 a' w' hft q1 q2 q3
  have hl:V1.length=tp.m:=by rw[q1.len];exact zK _ _
  cases e with
  |normal=>cases hft;obtain⟨_,_,h,_⟩:=q3;omega
  |ret=>cases hft;exact h2 V1 a' w' (p.n.of q3.1.1 hl) q3.1 q1 q2
  |exit id =>
   match id,hft with
   |0,hft =>
    cases hft
    obtain⟨s,s2,h⟩:=q3
    refine h1 V1 a' w' (p.n.of s.1 hl) s s2 ?_ q1 q2
    rw[wO h p];intro c hc;cases hc
 |succ m ih =>
  intro V a w hm p hH hF h1 h2
  refine zR (yC (E:=ahZ) (G:=aQI V) zQ vG follows (by show (abW).Holds _ _;rw[lN];exact dE p) p.n.2 hH (Facts.nil _) hF ?_ (fun r s c h=>by rcases h with h|h<;>cases h) (fun j i V1 V2 h=>h.elim) (fun r s h=>by rcases h with h|h<;>cases h) (fun f s h=>by cases h))
  intro j e tp V1 a' w' hft q1 q2 q3
  have hl:V1.length=tp.m:=by rw[q1.len];exact zK _ _
  cases e with
  |normal =>
   cases hft
   obtain⟨s,s2,h,hv,h23⟩:=q3
   have s31:=s2.1.2.2.2
   have hrest:=rest_step p s2.1 h h23
   refine ih V1 a' w' (by omega) (abB p hl s2.1 h h23) q1 q2 ?_ ?_
   .intro V2 a2 w2 hn2 t1 t2 t3 r1 r2
    refine h1 V2 a2 w2 hn2 (s.trans t1) (s2.trans t2) ?_ r1 r2
    rw[hrest];intro c hc
    rcases List.mem_cons.1 hc with rfl|hc
    .exact hv
    .exact t3 c hc
   .intro V2 a2 w2 hn2 t1 r1 r2
    exact h2 V2 a2 w2 hn2 (s.trans t1) r1 r2
  |ret=>cases hft;exact h2 V1 a' w' (p.n.of q3.1.1 hl) q3.1 q1 q2
  |exit id =>
   match id,hft with
   |0,hft =>
    cases hft
    obtain⟨s,s2,h⟩:=q3
    refine h1 V1 a' w' (p.n.of s.1 hl) s s2 ?_ q1 q2
    rw[wO h p];intro c hc;cases hc
theorem adH{w0:W0}{Q:Exit->Act->World->Prop}:∀(m:Nat)(V:Ren)(a:Act)(w:World),(gI V 31-gI V 23).toNat<=m->PE V->HR w0 V ae8.heap w->FS V (ntmps 22) ae8.frame a ->
    (∀ V1 a' w',Ln V1->SmN V V1->(∀ c∈zZ V,NPl c)->HR w0 V1 t22.heap w'->FS V1 (ntmps 22) t22.frame a'->Q (.exit 0) a' w') ->
    (∀ V1 a' w',Ln V1->SmN V V1->HR w0 V1 aeF.heap w'->FS V1 (ntmps 22) aeF.frame a'->Q .ret a' w')->wpL Tryd.prog A8 Q a w:=by
 intro m
 induction m with
 |zero =>
  intro V a w hm p hH hF h1 h2
  refine zR (yC (E:=aiF) (G:=aP7 V) zQ vG follows (by show (adN).Holds _ _;rw[lK];exact eJ p) p.n.2 hH (Facts.nil _) hF ?_ (fun r s c h=>by rcases h with h|h<;>cases h) (fun j i V1 V2 h=>h.elim) (fun r s h=>by rcases h with h|h<;>cases h) (fun f s h=>by cases h))
  intro j e tp V1 a' w' hft q1 q2 q3
  have hl:V1.length=tp.m:=by rw[q1.len];exact zK _ _
  cases e with
  |normal=>cases hft;obtain⟨_,h,_⟩:=q3;omega
  |ret=>cases hft;exact h2 V1 a' w' (p.n.of q3.1.1.1 hl) q3.1 q1 q2
  |exit id =>
   match id,hft with
   |0,hft =>
    cases hft
    obtain⟨s2,h⟩:=q3
    refine h1 V1 a' w' (p.n.of s2.1.1 hl) s2 ?_ q1 q2
    rw[wO h p];intro c hc;cases hc
 |succ m ih =>
  intro V a w hm p hH hF h1 h2
  refine zR (yC (E:=aiF) (G:=aP7 V) zQ vG follows (by show (adN).Holds _ _;rw[lK];exact eJ p) p.n.2 hH (Facts.nil _) hF ?_ (fun r s c h=>by rcases h with h|h<;>cases h) (fun j i V1 V2 h=>h.elim) (fun r s h=>by rcases h with h|h<;>cases h) (fun f s h=>by cases h))
  intro j e tp V1 a' w' hft q1 q2 q3
  have hl:V1.length=tp.m:=by rw[q1.len];exact zK _ _
  cases e with
  |normal =>
   cases hft
   obtain⟨s2,h,hv,h23⟩:=q3
   have s31:=s2.1.2.2.2
   have hrest:=rest_step p s2.1 h h23
   refine ih V1 a' w' (by omega) (abB p hl s2.1 h h23) q1 q2 ?_ ?_
   .intro V2 a2 w2 hn2 t2 t3 r1 r2
    refine h1 V2 a2 w2 hn2 (s2.trans t2) ?_ r1 r2
    rw[hrest];intro c hc
    rcases List.mem_cons.1 hc with rfl|hc
    .exact hv
    .exact t3 c hc
   .intro V2 a2 w2 hn2 t2 r1 r2
    exact h2 V2 a2 w2 hn2 (s2.trans t2) r1 r2
  |ret=>cases hft;exact h2 V1 a' w' (p.n.of q3.1.1.1 hl) q3.1 q1 q2
  |exit id =>
   match id,hft with
   |0,hft =>
    cases hft
    obtain⟨s2,h⟩:=q3
    refine h1 V1 a' w' (p.n.of s2.1.1 hl) s2 ?_ q1 q2
    rw[wO h p];intro c hc;cases hc
theorem bL{V γ:Ren}(s:SmT V γ):∀ p∈sm5,SmK V γ p:=by
 intro x hx;have hx:x∈[(16,0),(17,2),(18,1),(72,1),(73,0)]:=hx;obtain⟨q1,q2,q3,q4,q5⟩:=s;simp only[List.mem_cons,List.not_mem_nil,or_false]at hx;rcases hx with rfl|rfl|rfl|rfl|rfl
 .exact q2
 .exact q3
 .exact q4
 .exact q5
 .exact q1
theorem avC{V γ:Ren}(s:SmN V γ):∀ p∈aUC,SmK V γ p:=by
 intro x hx;have hx:x∈[(30,0),(31,1),(32,1),(33,5),(73,0)]:=hx;obtain⟨⟨q1,q2,q3,q4⟩,q5⟩:=s;simp only[List.mem_cons,List.not_mem_nil,or_false]at hx;rcases hx with rfl|rfl|rfl|rfl|rfl
 .exact q2
 .exact q4
 .exact q5
 .exact q3
 .exact q1
theorem aYF{G:Goal}(hCL:∀ V,G.CL 22 V->PL V)(hCO:∀ V V1,G.CL 22 V->Ln V1->SmN V V1->(gB V1 84=true->∀ c∈NL V,NPl c)->G.CO 22 0 V V1):yT Tryd.prog G 22 ap5:=by
 refine zU (E:=E22) (Gt:=G22) (fn:=wK 22) (c:=body 22) (s:=ap5) zQ vG follows (by kernel_rfl) (by kernel_rfl) (by kernel_rfl) (by kernel_rfl) (by kernel_rfl) (by kernel_rfl) ?_ ?_ ?_ ?_ (fun V j i V1 V2 h=>h.1.2) ?_ (fun V=>t8)
 .intro e j tp h;have h:=h.resolve_right fun h=>by cases h
  cases e with
  |normal=>cases h;exact⟨(fun id h=>by cases h),sB (x 84),by kernel_rfl,_,rfl⟩
  |ret=>cases h;exact⟨(fun id h=>by cases h),sB (x 84),by kernel_rfl,_,rfl⟩
  |exit id=>cases h
 .intro V hcl hlen hr;have p:=hCL V hcl;refine⟨p.n.2,[],2000,Facts.nil _,?_⟩;show (aFS).Holds _ V;rw[aeH];exact ap1 p
 .intro V j v tp sm V1 hcl hout hlen _ hJ;obtain⟨hn,s,z⟩:=hJ;match j,hout with
  |0,hout =>
   cases hout;exact⟨hCO V V1 hcl hn s z,avC s⟩
 .intro V w0 r s c hs hw;rcases hs with hs|hs
  .have hs:apD r=some s:=hs;unfold apD at hs;split at hs
   .cases hs;have hc:c=agA:=hw;subst hc;intro Q b a w hH hF hl hQ;refine xU (adH _ b a w (Nat.le_refl _) hl.1 hH hF ?_ ?_)
    .intro V1 a' w' hn1 s1 h q1 q2;exact hQ 0 (.exit 0) t22 [] rfl V1 a' w' q1 q2 ⟨hn1,s1,h⟩
    .intro V1 a' w' hn1 s1 q1 q2;exact hQ 1 .ret aeF [] rfl V1 a' w' q1 q2 ⟨hn1,s1,trivial⟩
   .cases hs
  .cases hs
 .intro V r s hs i e tp B hi V1 V2 _;refine yO ?_;rcases hs with hs|hs
  .have hs:apD r=some s:=hs;unfold apD at hs;split at hs
   .cases hs;match i,hi with
    |0,hi=>cases hi;rfl
    |1,hi=>cases hi;rfl
   .cases hs
  .cases hs
theorem law21{G:Goal}(hCL:∀ V,G.CL 21 V->PK V)(h0:∀ V V1,G.CL 21 V->Ln V1->SmT V V1->(gB V1 84=true->sQ (T0 V) [])->G.CO 21 0 V V1)(h1:∀ V V1,G.CL 21 V->Ln V1->SmT V V1->(∃ cs,sQ (T0 V) cs/\cs≠[]/\Num6 cs V1/\∀ c∈cs,Prs c)->G.CO 21 1 V V1):yT Tryd.prog G 21 aoP:=by
 refine zU (E:=E21) (Gt:=G21) (fn:=wK 21) (c:=body 21) (s:=aoP) zQ vG follows (by kernel_rfl) (by kernel_rfl) (by kernel_rfl) (by kernel_rfl) (by kernel_rfl) (by kernel_rfl) ?_ ?_ ?_ ?_ (fun V j i V1 V2 h=>h.1.2) ?_ ?_
 .intro e j tp h;rcases h with h|h
  .cases e with
   |normal=>cases h;exact⟨(fun id h=>by cases h),.tuple #[.slice none 0 0,sB (x 84)],by kernel_rfl,_,rfl⟩
   |ret=>cases h;exact⟨(fun id h=>by cases h),.tuple #[.slice none 0 0,sB (x 84)],by kernel_rfl,_,rfl⟩
   |exit id=>cases h
  .cases e with
   |normal=>cases h;exact⟨(fun id h=>by cases h),.tuple #[wF,.bool true],by kernel_rfl,_,rfl⟩
   |ret=>cases h;exact⟨(fun id h=>by cases h),.tuple #[wF,.bool true],by kernel_rfl,_,rfl⟩
   |exit id=>cases h
 .intro V hcl hlen hr;have p:=hCL V hcl;refine⟨p.n.2,[],4000,Facts.nil _,?_⟩;show (azQ).Holds _ V;rw[ac7];exact asN p
 .intro V j v tp sm V1 hcl hout hlen _ hJ;match j,hout,hJ with
  |0,hout,hJ =>
   cases hout;exact⟨h0 V V1 hcl hJ.1 hJ.2.1 hJ.2.2,bL hJ.2.1⟩
  |1,hout,hJ =>
   cases hout;exact⟨h1 V V1 hcl hJ.1 hJ.2.1 hJ.2.2,bL hJ.2.1⟩
 .intro V w0 r s c hs hw;rcases hs with hs|hs
  .have hs:arL r=some s:=hs;unfold arL at hs;split at hs
   .cases hs;have hc:c=kX:=hw;subst hc;intro Q b a w hH hF hl hQ;refine xU (adQ _ b a w (Nat.le_refl _) hl.1 hH hF ?_ ?_)
    .intro V1 a' w' hn1 s0 s1 h q1 q2;exact hQ 0 (.exit 0) M9 [] rfl V1 a' w' q1 q2 ⟨hn1,s0,s1,h⟩
    .intro V1 a' w' hn1 s0 q1 q2;exact hQ 1 .ret D9 [] rfl V1 a' w' q1 q2 ⟨hn1,s0,trivial⟩
   .cases hs
  .cases hs
 .intro V r s hs i e tp B hi V1 V2 _;refine yO ?_;rcases hs with hs|hs
  .have hs:arL r=some s:=hs;unfold arL at hs;split at hs
   .cases hs;match i,hi with
    |0,hi=>cases hi;rfl
    |1,hi=>cases hi;rfl
   .cases hs
  .cases hs
 .intro V f s hs;have hs:aNI f=some s:=hs;unfold aNI at hs;split at hs
  .rename_i hf;subst hf;cases hs;exact aXG (fun _ h=>h) (fun _ _ _ a b=>⟨a,b⟩)
  split at hs
  .rename_i hf;subst hf;cases hs;exact a0C (fun _ h=>h) (fun _ _ _ _ a _ b=>⟨a,b⟩)
  split at hs
  .rename_i hf;subst hf;cases hs;exact aZ2 (fun _ h=>h) (fun _ _ _ _ a _ b=>⟨a,b⟩)
  .cases hs
theorem ayZ{G:Goal}(hCL:∀ V,G.CL 12 V->PK V)(h0:∀ V V1,G.CL 12 V->Ln V1->SmT V V1->(gB V1 84=true->Lkd (T0 V) [])->G.CO 12 0 V V1)(h1:∀ V V1,G.CL 12 V->Ln V1->SmT V V1->(∃ cs,sQ (T0 V) cs/\cs≠[]/\Num6 cs V1/\(gB V1 84=true->Lkd (T0 V) cs))->G.CO 12 1 V V1):yT Tryd.prog G 12 fX:=by
 refine zU (E:=E12) (Gt:=G12) (fn:=wK 12) (c:=body 12) (s:=fX) zQ vG follows (by kernel_rfl) (by kernel_rfl) (by kernel_rfl) (by kernel_rfl) (by kernel_rfl) (by kernel_rfl) ?_ ?_ ?_ (fun V w0 r s c h=>by rcases h with h|h<;>cases h) (fun V j i V1 V2 h=>h.elim) (fun V r s h=>by rcases h with h|h<;>cases h) ?_
 .intro e j tp h;rcases h with h|h
  .cases e with
   |normal=>cases h;exact⟨(fun id h=>by cases h),.tuple #[.slice none 0 0,sB (x 84)],by kernel_rfl,_,rfl⟩
   |ret=>cases h;exact⟨(fun id h=>by cases h),.tuple #[.slice none 0 0,sB (x 84)],by kernel_rfl,_,rfl⟩
   |exit id=>cases h
  .cases e with
   |normal=>cases h;exact⟨(fun id h=>by cases h),.tuple #[wF,sB (x 84)],by kernel_rfl,_,rfl⟩
   |ret=>cases h;exact⟨(fun id h=>by cases h),.tuple #[wF,sB (x 84)],by kernel_rfl,_,rfl⟩
   |exit id=>cases h
 .intro V hcl hlen hr;have p:=hCL V hcl;refine⟨p.n.2,[],4000,Facts.nil _,?_⟩;show (aDU).Holds _ V;rw[ae3];exact ao6 p
 .intro V j v tp sm V1 hcl hout hlen _ hJ;match j,hout,hJ with
  |0,hout,hJ =>
   cases hout;exact⟨h0 V V1 hcl hJ.1 hJ.2.1 hJ.2.2,bL hJ.2.1⟩
  |1,hout,hJ =>
   cases hout;exact⟨h1 V V1 hcl hJ.1 hJ.2.1 hJ.2.2,bL hJ.2.1⟩
 .intro V f s hs;have hs:aQH f=some s:=hs;unfold aQH at hs;split at hs
  .rename_i hf;subst hf;cases hs;exact aXG (fun _ h=>h) (fun _ _ _ a b=>⟨a,b⟩)
  split at hs
  .rename_i hf;subst hf;cases hs;exact law21 (fun _ h=>h) (fun _ _ _ a _ b=>⟨a,b⟩) (fun _ _ _ a _ b=>⟨a,b⟩)
  split at hs
  .rename_i hf;subst hf;cases hs;exact aYF (fun _ h=>h) (fun _ _ _ a _ b=>⟨a,b⟩)
  .cases hs
structure WN(l:List Int)(V:Ren):Prop where
 b:(gN V 37).take l.length=l
 l:gI V 35=l.length
 c:gI V 35<=gI V 38
 d:gI V 38<=(gN V 37).length
structure LQ(cs steps:List Int)(ow:List UInt8)(n i:Nat)(o w:Bool)(V:Ren):Prop where
 ln:Ln V
 ch:Num6 cs V
 i36:gI V 36=i
 i14:gI V 14=n
 n89:(gN V 89).take (3*n)=fl cs steps n
 i86:gI V 86=steps.length
 n85:(gN V 85).take steps.length=steps
 i77:gI V 77=(sts cs steps i).a
 i45:gI V 45=(sts cs steps i).l
 i78:gI V 78=(sts cs steps i).c
 le:i<=n/\n<=steps.length/\steps.length<=4096/\cs.length<=4096
 lt:∀ j,j<n->(sts cs steps j).a<cs.length
 wn:if w then WN (sts cs steps i).w V/\(sts cs steps i).w≠[] else (sts cs steps i).w=[]
 out:o=true->OutIt V ow
def zM(s v v1:Int)(x x':StX):Prop :=
 ((s=0\/s=2)/\(x'.a:Int)=x.a+1/\(x'.l:Int)=x.l/\(x'.c:Int)=x.c+1) \/
 (s≠0/\s≠2/\(s=1\/s=3)/\(v=10\/v=13)/\((v=13/\v1=10/\(x'.a:Int)=x.a+2)\/((v≠13\/v1≠10)/\(x'.a:Int)=x.a+1))/\(x'.l:Int)=x.l+1/\(x'.c:Int)=0) \/
 (s≠0/\s≠2/\((s≠1/\s≠3)\/(v≠10/\v≠13))/\(x'.a:Int)=x.a/\(x'.l:Int)=x.l/\(x'.c:Int)=x.c)
theorem aSW(cs:List Int)(s:Int)(x:StX):zM s (cs.getD x.a 0) (cs.getD (x.a+1) 0) x (stp cs s x):=by
 unfold zM;by_cases h1:s=0\/s=2
 .obtain⟨a,b,c⟩:=aoD (cs:=cs) (x:=x) h1;exact .inl ⟨h1,by omega,by omega,by omega⟩
 .by_cases h2:(s=1\/s=3)/\(cs.getD x.a 0=10\/cs.getD x.a 0=13)
  .obtain⟨a,b,c,_⟩:=E0 h2.1 h2.2;refine .inr (.inl ⟨by omega,by omega,h2.1,h2.2,?_,by omega,by omega⟩);by_cases h3:cs.getD x.a 0=13/\cs.getD (x.a+1) 0=10
   .rw[if_pos h3]at a;exact .inl ⟨h3.1,h3.2,by omega⟩
   .rw[if_neg h3]at a;exact .inr ⟨by omega,by omega⟩
  .have e:stp cs s x=x:=by unfold stp;rw[if_neg h1,if_neg h2]
   rw[e];exact .inr (.inr ⟨by omega,by omega,by omega,rfl,rfl,rfl⟩)
theorem gG{cs:List Int}{s:Int}{x:StX}(h:s=2):(stp cs s x).w=x.w++[cs.getD x.a 0]:=by subst h;exact ag8 rfl
theorem pH{cs:List Int}{s:Int}{x:StX}(h:s=3)(hv:cs.getD x.a 0=10\/cs.getD x.a 0=13):(stp cs s x).w=x.w++[10]:=by
 rw[(E0 (.inr h) hv).2.2.2,if_pos h]
theorem vT{cs:List Int}{s:Int}{x:StX}(h:s≠2)(hv:s≠3\/(cs.getD x.a 0≠10/\cs.getD x.a 0≠13)):(stp cs s x).w=x.w:=by
 by_cases h1:s=0
 .subst h1;exact af0
 .by_cases h2:(s=1\/s=3)/\(cs.getD x.a 0=10\/cs.getD x.a 0=13)
  .rw[(E0 h2.1 h2.2).2.2.2,if_neg (by omega)]
  .unfold stp;rw[if_neg (by omega),if_neg h2]
theorem atG(cs:List Int)(s:Int)(x:StX):∃ l,(stp cs s x).w=x.w++l:=by
 by_cases h2:s=2
 .exact⟨_,gG h2⟩
 .by_cases h3:s=3/\(cs.getD x.a 0=10\/cs.getD x.a 0=13)
  .exact⟨_,pH h3.1 h3.2⟩
  .exact⟨[],by rw[List.append_nil];exact vT h2 (by omega)⟩
theorem X5(cs steps:List Int)(i:Nat):∀ k,∃ l,(sts cs steps (i+k)).w=(sts cs steps i).w++l
 |0=>⟨[],by rw[List.append_nil];rfl⟩
 |k+1=>by
  obtain⟨l,h⟩:=X5 cs steps i k;obtain⟨l',h'⟩:=atG cs (steps.getD (i+k) 0) (sts cs steps (i+k));exact⟨l++l',by rw[<-List.append_assoc,<-h];exact h'⟩
theorem kW{cs steps:List Int}{i n:Nat}(h:i<=n)(hn:(sts cs steps n).w=[]):(sts cs steps i).w=[]:=by
 obtain⟨l,e⟩:=X5 cs steps i (n-i);rw[show i+(n-i)=n from by omega,hn]at e;exact (List.append_eq_nil_iff.1 e.symm).1
theorem aoY(cs steps:List Int):∀(n i:Nat),i<n->(fl cs steps n).getD (3*i) 0=(sts cs steps (i+1)).a/\(fl cs steps n).getD (3*i+1) 0=(sts cs steps (i+1)).l/\(fl cs steps n).getD (3*i+2) 0=(sts cs steps (i+1)).c
 |0,i,h=>absurd h (Nat.not_lt_zero i)
 |n+1,i,h=>by
  have hl:=qC cs steps n;have ap:∀ j,j<3*n->(fl cs steps (n+1)).getD j 0=(fl cs steps n).getD j 0:=by
   intro j hj;simp only[fl,List.getD_eq_getElem?_getD];rw[List.getElem?_append_left (by omega)]
  rcases Nat.lt_or_eq_of_le (Nat.le_of_lt_succ h) with h'|h'
  .obtain⟨a,b,c⟩:=aoY cs steps n i h';exact⟨by rw[ap _ (by omega)];exact a,by rw[ap _ (by omega)];exact b,by rw[ap _ (by omega)];exact c⟩
  .subst h';have ap2:∀ j,(fl cs steps (i+1)).getD (3*i+j) 0=([((sts cs steps (i+1)).a:Int),((sts cs steps (i+1)).l:Int),((sts cs steps (i+1)).c:Int)]).getD j 0:=by
    intro j;simp only[fl,List.getD_eq_getElem?_getD];rw[List.getElem?_append_right (by omega),hl];congr 2;omega
   exact⟨ap2 0,ap2 1,ap2 2⟩
theorem tK{l L:List Int}{k:Nat}(h:l.take k=L){i:Nat}(hi:i<k):l.getD i 0=L.getD i 0:=by
 rw[<-h,List.getD_eq_getElem?_getD,List.getD_eq_getElem?_getD,List.getElem?_take,if_pos hi]
structure LqF(cs steps:List Int)(n i:Nat)(V:Ren):Prop where
 s:(gN V 85).getD (gI V 36).toNat 0=steps.getD i 0
 v:(gN V 33).getD (gI V 77).toNat 0=cs.getD (sts cs steps i).a 0
 v1:gI V 77+1<gI V 31->(gN V 33).getD (gI V 77+1).toNat 0=cs.getD ((sts cs steps i).a+1) 0
 v1n:¬ gI V 77+1<gI V 31->cs.getD ((sts cs steps i).a+1) 0=0
 m0:(gN V 89).getD (gI V 36*3).toNat 0=(sts cs steps (i+1)).a
 m1:(gN V 89).getD (gI V 36*3+1).toNat 0=(sts cs steps (i+1)).l
 m2:(gN V 89).getD (gI V 36*3+2).toNat 0=(sts cs steps (i+1)).c
 st:zM (steps.getD i 0) (cs.getD (sts cs steps i).a 0) (cs.getD ((sts cs steps i).a+1) 0) (sts cs steps i) (sts cs steps (i+1))
 al:(sts cs steps i).a<cs.length
 i31:gI V 31=cs.length
theorem zN{cs steps:List Int}{ow:List UInt8}{n i:Nat}{o w:Bool}{V:Ren}(q:LQ cs steps ow n i o w V)(h:gI V 36<gI V 14):LqF cs steps n i V:=by
 have e36:=q.i36;have e14:=q.i14;have e77:=q.i77;have le:=q.le;have hi:i<n:=by omega
 have al:=q.lt i hi;obtain⟨c1,c2,c3,c4⟩:=q.ch;have c1:(gN V 33).take (gI V 31).toNat=cs:=c1;rw[show (gI V 31).toNat=cs.length from by omega]at c1;obtain⟨f0,f1,f2⟩:=aoY cs steps n i hi;refine⟨?_,?_,?_,?_,?_,?_,?_,aSW _ _ _,al,c2⟩
 .rw[show (gI V 36).toNat=i from by omega];exact tK q.n85 (by omega)
 .rw[show (gI V 77).toNat=(sts cs steps i).a from by omega];exact tK c1 al
 .intro h1;rw[show (gI V 77+1).toNat=(sts cs steps i).a+1 from by omega];exact tK c1 (by omega)
 .intro h1;rw[List.getD_eq_getElem?_getD,List.getElem?_eq_none (by omega)];rfl
 .rw[show (gI V 36*3).toNat=3*i from by omega,tK q.n89 (by omega)];exact f0
 .rw[show (gI V 36*3+1).toNat=3*i+1 from by omega,tK q.n89 (by omega)];exact f1
 .rw[show (gI V 36*3+2).toNat=3*i+2 from by omega,tK q.n89 (by omega)];exact f2
structure Kq(o:Bool)(V γ:Ren):Prop where
 h73:γ[73]?=V[73]?
 n33:gN γ 33=gN V 33
 i31:gI γ 31=gI V 31
 i32:gI γ 32=gI V 32
 i14:gI γ 14=gI V 14
 n89:gN γ 89=gN V 89
 i86:gI γ 86=gI V 86
 n85:gN γ 85=gN V 85
 out:o=true->gL γ 82=gL V 82/\gI γ 80=gI V 80/\gI γ 81=gI V 81
theorem Num6.kq{cs:List Int}{o:Bool}{a b:Ren}(h:Num6 cs a)(k:Kq o a b):Num6 cs b :=
 ⟨by unfold O6;rw[k.n33,k.i31];exact h.b,by rw[k.i31];exact h.l,by rw[k.i31,k.i32];exact h.c,by rw[k.i32,k.n33];exact h.d⟩
theorem xP{cs steps:List Int}{ow:List UInt8}{n i:Nat}{o w w':Bool}{V γ:Ren}(q:LQ cs steps ow n i o w V)(h:gI V 36<gI V 14)(hl:γ.length=90)(k:Kq o V γ)(e36:gI γ 36=gI V 36+1)(e77:gI γ 77=(sts cs steps (i+1)).a)(e45:gI γ 45=(sts cs steps (i+1)).l)(e78:gI γ 78=(sts cs steps (i+1)).c)
    (wn:if w' then WN (sts cs steps (i+1)).w γ/\(sts cs steps (i+1)).w≠[] else (sts cs steps (i+1)).w=[]):LQ cs steps ow n (i+1) o w' γ:=by
 have e:=q.i36;have e14:=q.i14;have le:=q.le
 refine⟨q.ln.of k.h73 hl,q.ch.kq k,by rw[e36,e];rfl,by rw[k.i14];exact e14,by rw[k.n89];exact q.n89,by rw[k.i86];exact q.i86,by rw[k.n85];exact q.n85,e77,e45,e78,⟨by omega,le.2⟩,q.lt,wn,fun ho=>?_⟩
 obtain⟨k1,k2,k3⟩:=k.out ho
 exact (q.out ho).cong k1 k2 k3
theorem nT{l l':List Int}{V γ:Ren}(h:WN l V)(e:l'=l)(e37:gN γ 37=gN V 37)(e35:gI γ 35=gI V 35)(e38:gI γ 38=gI V 38):WN l' γ:=by
 subst e;exact⟨by rw[e37];exact h.b,by rw[e35];exact h.l,by rw[e35,e38];exact h.c,by rw[e38,e37];exact h.d⟩
structure LX(cs steps:List Int)(ow:List UInt8)(n:Nat)(o w:Bool)(V:Ren):Prop where
 ln:Ln V
 ch:Num6 cs V
 i14:gI V 14=n
 i86:gI V 86=steps.length
 i77:gI V 77=(sts cs steps n).a
 lt:∀ j,j<n->(sts cs steps j).a<cs.length
 wn:if w then WN (sts cs steps n).w V/\(sts cs steps n).w≠[] else (sts cs steps n).w=[]
 out:o=true->OutIt V ow
def G4L(cs steps:List Int)(ow:List UInt8)(n i:Nat)(o w:Bool)(V:Ren):Goal where
 J:=fun j γ=>match j with
  |0=>LQ cs steps ow n (i+1) o w γ
  |1=>LX cs steps ow n o w γ
  |3=>LQ cs steps ow n (i+1) o true γ
  |_=>False
 L:=fun _ _=>False
 O:=fun _ _ _ _=>False
 W:=fun _ _=>False
end U
namespace U
theorem ad6{v:Int}{tl:List Int}{γ:Ren}(h:gN γ 37=[v]++tl)(h35:gI γ 35=1)(h38:gI γ 38=(tl.length:Int)+1):WN ([]++[v]) γ:=by
 refine⟨by rw[h];rfl,h35,by omega,?_⟩;rw[h];simp only[List.length_append,List.length_cons,List.length_nil];omega
theorem abR{l tl:List Int}{v:Int}{V γ:Ren}(q:WN l V)(h:gN γ 37=List.drop (Int.toNat 0) (List.take (gI V 35).toNat (gN V 37))++[v]++tl)(h35:gI γ 35=((List.drop (Int.toNat 0) (List.take (gI V 35).toNat (gN V 37))).length:Int)+1)(h38:gI γ 38=((List.drop (Int.toNat 0) (List.take (gI V 35).toNat (gN V 37))).length:Int)+1+tl.length):WN (l++[v]) γ:=by
 have e:List.drop (Int.toNat 0) (List.take (gI V 35).toNat (gN V 37))=l:=by
  have:=q.l;rw[show (gI V 35).toNat=l.length from by omega,q.b];rfl
 rw[e]at h h35 h38;refine⟨?_,?_,by omega,?_⟩
 .rw[h,List.take_append_of_le_length (Nat.le_refl _),List.take_length]
 .rw[h35];simp
 .rw[h];simp only[List.length_append,List.length_cons,List.length_nil];omega
abbrev au2:List TB:=[(.lt (v 36) (v 14))]
abbrev aYM:=.lt (v 36*3+2) (ln 89)::au2
abbrev aOV:=.or (nl (v 36) (v 86)) (nl (v 77) (v 31))::aYM
abbrev awW:=.lt (v 36) (v 86)::.lt (v 77) (v 31)::aYM
abbrev avE:=.lt (v 77) (ln 33)::awW
abbrev avX:=.or (.not (.and (.eq (sn 33 (v 77)) 13) (.lt (v 77+1) (v 31)))) (.lt (v 77+1) (ln 33))::avE
abbrev aTX:=.lt (v 36) (ln 85)::avX
abbrev aYI:=.or (.eq (sn 85 (v 36)) 0) (.eq (sn 85 (v 36)) 2)::aTX
abbrev avU:=.eq (sn 85 (v 36)) 2::aYI
abbrev aRC:=.not (.and (.eq (sn 89 (v 36*3)) (v 77+1)) (.and (.eq (sn 89 (v 36*3+1)) (v 45)) (.eq (sn 89 (v 36*3+2)) (v 78+1))))::avU
abbrev asC:=.eq (sn 89 (v 36*3)) (v 77+1)::.eq (sn 89 (v 36*3+1)) (v 45)::.eq (sn 89 (v 36*3+2)) (v 78+1)::avU
abbrev alY:=nl 4194303 (v 77+1)::asC
abbrev aq3:=nl 4194303 (v 78+1)::alY
abbrev aGD:=nl 8192 (v 36+1)::aq3
abbrev aG3:=nq (sn 85 (v 36)) 2::aYI
abbrev auI:=.not (.and (.eq (sn 89 (v 36*3)) (v 77+1)) (.and (.eq (sn 89 (v 36*3+1)) (v 45)) (.eq (sn 89 (v 36*3+2)) (v 78+1))))::aG3
abbrev afX:=.eq (sn 89 (v 36*3)) (v 77+1)::.eq (sn 89 (v 36*3+1)) (v 45)::.eq (sn 89 (v 36*3+2)) (v 78+1)::aG3
abbrev agB:=nl 4194303 (v 77+1)::afX
abbrev afH:=nl 4194303 (v 78+1)::agB
abbrev am2:=nl 8192 (v 36+1)::afH
abbrev aJW:=nq (sn 85 (v 36)) 0::nq (sn 85 (v 36)) 2::aTX
abbrev aD1:=.or (.and (nq (sn 85 (v 36)) 1) (nq (sn 85 (v 36)) 3)) (.and (nq (sn 33 (v 77)) 10) (nq (sn 33 (v 77)) 13))::aJW
abbrev aqL:=.not (.and (.eq (sn 89 (v 36*3)) (v 77)) (.and (.eq (sn 89 (v 36*3+1)) (v 45)) (.eq (sn 89 (v 36*3+2)) (v 78))))::aD1
abbrev ahP:=.eq (sn 89 (v 36*3)) (v 77)::.eq (sn 89 (v 36*3+1)) (v 45)::.eq (sn 89 (v 36*3+2)) (v 78)::aD1
abbrev apN:=nl 8192 (v 36+1)::ahP
abbrev aDD:=.not (.and (nq (sn 85 (v 36)) 1) (nq (sn 85 (v 36)) 3))::.not (.and (nq (sn 33 (v 77)) 10) (nq (sn 33 (v 77)) 13))::aJW
abbrev afS:=.eq (sn 85 (v 36)) 3::aDD
abbrev aC4:=.eq (sn 33 (v 77)) 13::.lt (v 77+1) (v 31)::.eq (sn 33 (v 77+1)) 10::afS
abbrev aJS:=.not (.and (.eq (sn 89 (v 36*3)) (v 77+2)) (.and (.eq (sn 89 (v 36*3+1)) (v 45+1)) (.eq (sn 89 (v 36*3+2)) 0)))::aC4
abbrev akQ:=.eq (sn 89 (v 36*3)) (v 77+2)::.eq (sn 89 (v 36*3+1)) (v 45+1)::.eq (sn 89 (v 36*3+2)) 0::aC4
abbrev ar9:=nl 4194303 (v 77+2)::akQ
abbrev anD:=nl 4194303 (v 45+1)::ar9
abbrev aGU:=nl 8192 (v 36+1)::anD
abbrev aIV:=.not (.and (.and (.eq (sn 33 (v 77)) 13) (.lt (v 77+1) (v 31))) (.eq (sn 33 (v 77+1)) 10))::afS
abbrev aH2:=.not (.and (.eq (sn 89 (v 36*3)) (v 77+1)) (.and (.eq (sn 89 (v 36*3+1)) (v 45+1)) (.eq (sn 89 (v 36*3+2)) 0)))::aIV
abbrev aoV:=.eq (sn 89 (v 36*3)) (v 77+1)::.eq (sn 89 (v 36*3+1)) (v 45+1)::.eq (sn 89 (v 36*3+2)) 0::aIV
abbrev alF:=nl 4194303 (v 77+1)::aoV
abbrev atL:=nl 4194303 (v 45+1)::alF
abbrev aE5:=nl 8192 (v 36+1)::atL
abbrev aFV:=nq (sn 85 (v 36)) 3::aDD
abbrev aGK:=.eq (sn 33 (v 77)) 13::.lt (v 77+1) (v 31)::.eq (sn 33 (v 77+1)) 10::aFV
abbrev asO:=.not (.and (.eq (sn 89 (v 36*3)) (v 77+2)) (.and (.eq (sn 89 (v 36*3+1)) (v 45+1)) (.eq (sn 89 (v 36*3+2)) 0)))::aGK
abbrev agP:=.eq (sn 89 (v 36*3)) (v 77+2)::.eq (sn 89 (v 36*3+1)) (v 45+1)::.eq (sn 89 (v 36*3+2)) 0::aGK
abbrev ahI:=nl 4194303 (v 77+2)::agP
abbrev agS:=nl 4194303 (v 45+1)::ahI
abbrev auD:=nl 8192 (v 36+1)::agS
abbrev aLW:=.not (.and (.and (.eq (sn 33 (v 77)) 13) (.lt (v 77+1) (v 31))) (.eq (sn 33 (v 77+1)) 10))::aFV
abbrev auG:=.not (.and (.eq (sn 89 (v 36*3)) (v 77+1)) (.and (.eq (sn 89 (v 36*3+1)) (v 45+1)) (.eq (sn 89 (v 36*3+2)) 0)))::aLW
abbrev agZ:=.eq (sn 89 (v 36*3)) (v 77+1)::.eq (sn 89 (v 36*3+1)) (v 45+1)::.eq (sn 89 (v 36*3+2)) 0::aLW
abbrev ahF:=nl 4194303 (v 77+1)::agZ
abbrev agY:=nl 4194303 (v 45+1)::ahF
abbrev as4:=nl 8192 (v 36+1)::agY
abbrev at0:List TB:=[(nl (v 36) (v 14))]
abbrev tH:SgT:=[bm 74,bm 73]
abbrev aSZ:SgT:=[im 32,im 31,bm 30,im 87,im 86,bm 84,bm 73]
abbrev awP:SgT:=im 15::im 14::bm 88::aSZ
abbrev aV2:SgT:=(38,.itm (ln 92+1))::ik 35 1::(34,.new 93)::awP
abbrev aWB:SgT:=(77,.itm (v 77+1))::aV2
abbrev aRT:SgT:=(77,.itm (v 77+1))::awP
abbrev aYV:SgT:=im 78::im 45::im 77::awP
def aZ:Tre:=(.fork (nd 90 au2 ((.lt (v 36*3+2) (ln 89)))
 (.fork (lf 2 90 91 (rgs (E4L false false).n t4f) tH aOV)
 (nd 91 awW ((.lt (v 77) (ln 33)))
 (nd 91 avE ((.or (.not (.and (.eq (sn 33 (v 77)) 13) (.lt (v 77+1) (v 31)))) (.lt (v 77+1) (ln 33))))
 (nd 91 avX ((.lt (v 36) (ln 85)))
 (.fork (.fork (.fork (lf 2 90 94 (rgs (E4L false false).n t4f) tH aRC)
 (nd 94 asC ((nl 4194303 (v 77+1)))
 (nd 94 alY ((nl 4194303 (v 78+1)))
 (nd 94 aq3 ((nl 8192 (v 36+1)))
 (lf 3 90 94 (rgs (E4L false false).n (t4L false true)) ((37,.ntm (.app (.one (sn 33 (v 77))) (.var 92)))::bm 74::nm 89::nm 33::nm 85::(36,.itm (v 36+1))::(78,.itm (v 78+1))::im 45::aWB) aGD)))))
 (.fork (lf 2 90 91 (rgs (E4L false false).n t4f) tH auI)
 (nd 91 afX ((nl 4194303 (v 77+1)))
 (nd 91 agB ((nl 4194303 (v 78+1)))
 (nd 91 afH ((nl 8192 (v 36+1)))
 (lf 0 90 91 (rgs (E4L false false).n (t4L false false)) (bm 74::nm 89::nm 33::nm 85::(36,.itm (v 36+1))::(78,.itm (v 78+1))::im 45::aRT) am2))))))
 (.fork (.fork (lf 2 90 91 (rgs (E4L false false).n t4f) tH aqL)
 (nd 91 ahP ((nl 8192 (v 36+1)))
 (lf 0 90 91 (rgs (E4L false false).n (t4L false false)) (bm 74::nm 89::nm 33::nm 85::(36,.itm (v 36+1))::aYV) apN)))
 (.fork (.fork (.fork (lf 2 90 94 (rgs (E4L false false).n t4f) tH aJS)
 (nd 94 akQ ((nl 4194303 (v 77+2)))
 (nd 94 ar9 ((nl 4194303 (v 45+1)))
 (nd 94 anD ((nl 8192 (v 36+1)))
 (lf 3 90 94 (rgs (E4L false false).n (t4L false true)) ((37,.ntm (.app (.one 10) (.var 92)))::bm 74::nm 89::nm 33::nm 85::(36,.itm (v 36+1))::ik 78 0::(45,.itm (v 45+1))::(77,.itm (v 77+2))::aV2) aGU)))))
 (.fork (lf 2 90 94 (rgs (E4L false false).n t4f) tH aH2)
 (nd 94 aoV ((nl 4194303 (v 77+1)))
 (nd 94 alF ((nl 4194303 (v 45+1)))
 (nd 94 atL ((nl 8192 (v 36+1)))
 (lf 3 90 94 (rgs (E4L false false).n (t4L false true)) ((37,.ntm (.app (.one 10) (.var 92)))::bm 74::nm 89::nm 33::nm 85::(36,.itm (v 36+1))::ik 78 0::(45,.itm (v 45+1))::aWB) aE5))))))
 (.fork (.fork (lf 2 90 91 (rgs (E4L false false).n t4f) tH asO)
 (nd 91 agP ((nl 4194303 (v 77+2)))
 (nd 91 ahI ((nl 4194303 (v 45+1)))
 (nd 91 agS ((nl 8192 (v 36+1)))
 (lf 0 90 91 (rgs (E4L false false).n (t4L false false)) (bm 74::nm 89::nm 33::nm 85::(36,.itm (v 36+1))::ik 78 0::(45,.itm (v 45+1))::(77,.itm (v 77+2))::awP) auD)))))
 (.fork (lf 2 90 91 (rgs (E4L false false).n t4f) tH auG)
 (nd 91 agZ ((nl 4194303 (v 77+1)))
 (nd 91 ahF ((nl 4194303 (v 45+1)))
 (nd 91 agY ((nl 8192 (v 36+1)))
 (lf 0 90 91 (rgs (E4L false false).n (t4L false false)) (bm 74::nm 89::nm 33::nm 85::(36,.itm (v 36+1))::ik 78 0::(45,.itm (v 45+1))::aRT) as4))))))))))))))
 (lf 1 90 90 (rgs (E4L false false).n (t4X false false)) (bm 74::nm 89::nm 33::nm 85::aYV) at0))
theorem ad5:aaJ false false []=aZ:=by kernel_rfl
abbrev aiT:SgT:=im 15::im 14::bm 88::im 81::im 80::bm 79::aSZ
abbrev aRH:SgT:=(38,.itm (ln 92+1))::ik 35 1::(34,.new 93)::aiT
abbrev aYY:SgT:=(77,.itm (v 77+1))::aRH
abbrev aJ6:SgT:=(77,.itm (v 77+1))::aiT
abbrev axW:SgT:=im 78::im 45::im 77::aiT
def aI:Tre:=(.fork (nd 90 au2 ((.lt (v 36*3+2) (ln 89)))
 (.fork (lf 2 90 91 (rgs (E4L true false).n t4f) tH aOV)
 (nd 91 awW ((.lt (v 77) (ln 33)))
 (nd 91 avE ((.or (.not (.and (.eq (sn 33 (v 77)) 13) (.lt (v 77+1) (v 31)))) (.lt (v 77+1) (ln 33))))
 (nd 91 avX ((.lt (v 36) (ln 85)))
 (.fork (.fork (.fork (lf 2 90 94 (rgs (E4L true false).n t4f) tH aRC)
 (nd 94 asC ((nl 4194303 (v 77+1)))
 (nd 94 alY ((nl 4194303 (v 78+1)))
 (nd 94 aq3 ((nl 8192 (v 36+1)))
 (lf 3 90 94 (rgs (E4L true false).n (t4L true true)) ((37,.ntm (.app (.one (sn 33 (v 77))) (.var 92)))::lm 82::bm 74::nm 89::nm 33::nm 85::(36,.itm (v 36+1))::(78,.itm (v 78+1))::im 45::aYY) aGD)))))
 (.fork (lf 2 90 91 (rgs (E4L true false).n t4f) tH auI)
 (nd 91 afX ((nl 4194303 (v 77+1)))
 (nd 91 agB ((nl 4194303 (v 78+1)))
 (nd 91 afH ((nl 8192 (v 36+1)))
 (lf 0 90 91 (rgs (E4L true false).n (t4L true false)) (lm 82::bm 74::nm 89::nm 33::nm 85::(36,.itm (v 36+1))::(78,.itm (v 78+1))::im 45::aJ6) am2))))))
 (.fork (.fork (lf 2 90 91 (rgs (E4L true false).n t4f) tH aqL)
 (nd 91 ahP ((nl 8192 (v 36+1)))
 (lf 0 90 91 (rgs (E4L true false).n (t4L true false)) (lm 82::bm 74::nm 89::nm 33::nm 85::(36,.itm (v 36+1))::axW) apN)))
 (.fork (.fork (.fork (lf 2 90 94 (rgs (E4L true false).n t4f) tH aJS)
 (nd 94 akQ ((nl 4194303 (v 77+2)))
 (nd 94 ar9 ((nl 4194303 (v 45+1)))
 (nd 94 anD ((nl 8192 (v 36+1)))
 (lf 3 90 94 (rgs (E4L true false).n (t4L true true)) ((37,.ntm (.app (.one 10) (.var 92)))::lm 82::bm 74::nm 89::nm 33::nm 85::(36,.itm (v 36+1))::ik 78 0::(45,.itm (v 45+1))::(77,.itm (v 77+2))::aRH) aGU)))))
 (.fork (lf 2 90 94 (rgs (E4L true false).n t4f) tH aH2)
 (nd 94 aoV ((nl 4194303 (v 77+1)))
 (nd 94 alF ((nl 4194303 (v 45+1)))
 (nd 94 atL ((nl 8192 (v 36+1)))
 (lf 3 90 94 (rgs (E4L true false).n (t4L true true)) ((37,.ntm (.app (.one 10) (.var 92)))::lm 82::bm 74::nm 89::nm 33::nm 85::(36,.itm (v 36+1))::ik 78 0::(45,.itm (v 45+1))::aYY) aE5))))))
 (.fork (.fork (lf 2 90 91 (rgs (E4L true false).n t4f) tH asO)
 (nd 91 agP ((nl 4194303 (v 77+2)))
 (nd 91 ahI ((nl 4194303 (v 45+1)))
 (nd 91 agS ((nl 8192 (v 36+1)))
 (lf 0 90 91 (rgs (E4L true false).n (t4L true false)) (lm 82::bm 74::nm 89::nm 33::nm 85::(36,.itm (v 36+1))::ik 78 0::(45,.itm (v 45+1))::(77,.itm (v 77+2))::aiT) auD)))))
 (.fork (lf 2 90 91 (rgs (E4L true false).n t4f) tH auG)
 (nd 91 agZ ((nl 4194303 (v 77+1)))
 (nd 91 ahF ((nl 4194303 (v 45+1)))
 (nd 91 agY ((nl 8192 (v 36+1)))
 (lf 0 90 91 (rgs (E4L true false).n (t4L true false)) (lm 82::bm 74::nm 89::nm 33::nm 85::(36,.itm (v 36+1))::ik 78 0::(45,.itm (v 45+1))::aJ6) as4))))))))))))))
 (lf 1 90 90 (rgs (E4L true false).n (t4X true false)) (lm 82::bm 74::nm 89::nm 33::nm 85::axW) at0))
theorem adK:aaJ true false []=aI:=by kernel_rfl
abbrev ax6:=nl (ln 37) (v 38)::avU
abbrev aK9:=nl 4398046511104 (.lenN (.sub (.var 37) 0 (v 35))+1)::ax6
abbrev aDI:=.eq (sn 89 (v 36*3)) (v 77+1)::.eq (sn 89 (v 36*3+1)) (v 45)::.eq (sn 89 (v 36*3+2)) (v 78+1)::aK9
abbrev aK1:=nl 4194303 (v 77+1)::aDI
abbrev aMD:=nl 4194303 (v 78+1)::aK1
abbrev aKY:=nl (ln 37) (v 38)::afS
abbrev ax8:=nl 4398046511104 (.lenN (.sub (.var 37) 0 (v 35))+1)::aKY
abbrev aIZ:=.eq (sn 33 (v 77)) 13::.lt (v 77+1) (v 31)::.eq (sn 33 (v 77+1)) 10::ax8
abbrev azH:=.eq (sn 89 (v 36*3)) (v 77+2)::.eq (sn 89 (v 36*3+1)) (v 45+1)::.eq (sn 89 (v 36*3+2)) 0::aIZ
abbrev aFG:=nl 4194303 (v 77+2)::azH
abbrev aAR:=nl 4194303 (v 45+1)::aFG
abbrev ayG:=.not (.and (.and (.eq (sn 33 (v 77)) 13) (.lt (v 77+1) (v 31))) (.eq (sn 33 (v 77+1)) 10))::ax8
abbrev axZ:=.eq (sn 89 (v 36*3)) (v 77+1)::.eq (sn 89 (v 36*3+1)) (v 45+1)::.eq (sn 89 (v 36*3+2)) 0::ayG
abbrev aC1:=nl 4194303 (v 77+1)::axZ
abbrev aEG:=nl 4194303 (v 45+1)::aC1
abbrev azY:SgT:=(38,.itm (.lenN (.sub (.var 37) 0 (v 35))+1+ln 92))::(35,.itm (.lenN (.sub (.var 37) 0 (v 35))+1))::(34,.new 93)::aiT
abbrev aMU:SgT:=(77,.itm (v 77+1))::azY
abbrev aqY:SgT:=im 38::im 35::bm 34::aiT
abbrev aEA:SgT:=(77,.itm (v 77+1))::aqY
abbrev aCJ:SgT:=im 78::im 45::im 77::aqY
def D7:Tre:=(.fork (nd 90 au2 ((.lt (v 36*3+2) (ln 89)))
 (.fork (lf 2 90 91 (rgs (E4L true true).n t4f) tH aOV)
 (nd 91 awW ((.lt (v 77) (ln 33)))
 (nd 91 avE ((.or (.not (.and (.eq (sn 33 (v 77)) 13) (.lt (v 77+1) (v 31)))) (.lt (v 77+1) (ln 33))))
 (nd 91 avX ((.lt (v 36) (ln 85)))
 (.fork (.fork (nd 91 avU ((nl (ln 37) (v 38)))
 (nd 91 ax6 ((nl 4398046511104 (.lenN (.sub (.var 37) 0 (v 35))+1)))
 (.fork (lf 2 90 94 (rgs (E4L true true).n t4f) tH ((.not (.and (.eq (sn 89 (v 36*3)) (v 77+1)) (.and (.eq (sn 89 (v 36*3+1)) (v 45)) (.eq (sn 89 (v 36*3+2)) (v 78+1)))))::aK9))
 (nd 94 aDI ((nl 4194303 (v 77+1)))
 (nd 94 aK1 ((nl 4194303 (v 78+1)))
 (nd 94 aMD ((nl 8192 (v 36+1)))
 (lf 0 90 94 (rgs (E4L true true).n (t4L true true)) ((37,.ntm (.app (.app (.sub (.var 37) 0 (v 35)) (.one (sn 33 (v 77)))) (.var 92)))::lm 82::bm 74::nm 89::nm 33::nm 85::(36,.itm (v 36+1))::(78,.itm (v 78+1))::im 45::aMU) ((nl 8192 (v 36+1))::aMD))))))))
 (.fork (lf 2 90 91 (rgs (E4L true true).n t4f) tH auI)
 (nd 91 afX ((nl 4194303 (v 77+1)))
 (nd 91 agB ((nl 4194303 (v 78+1)))
 (nd 91 afH ((nl 8192 (v 36+1)))
 (lf 0 90 91 (rgs (E4L true true).n (t4L true true)) (nm 37::lm 82::bm 74::nm 89::nm 33::nm 85::(36,.itm (v 36+1))::(78,.itm (v 78+1))::im 45::aEA) am2))))))
 (.fork (.fork (lf 2 90 91 (rgs (E4L true true).n t4f) tH aqL)
 (nd 91 ahP ((nl 8192 (v 36+1)))
 (lf 0 90 91 (rgs (E4L true true).n (t4L true true)) (nm 37::lm 82::bm 74::nm 89::nm 33::nm 85::(36,.itm (v 36+1))::aCJ) apN)))
 (.fork (nd 91 afS ((nl (ln 37) (v 38)))
 (nd 91 aKY ((nl 4398046511104 (.lenN (.sub (.var 37) 0 (v 35))+1)))
 (.fork (.fork (lf 2 90 94 (rgs (E4L true true).n t4f) tH ((.not (.and (.eq (sn 89 (v 36*3)) (v 77+2)) (.and (.eq (sn 89 (v 36*3+1)) (v 45+1)) (.eq (sn 89 (v 36*3+2)) 0))))::aIZ))
 (nd 94 azH ((nl 4194303 (v 77+2)))
 (nd 94 aFG ((nl 4194303 (v 45+1)))
 (nd 94 aAR ((nl 8192 (v 36+1)))
 (lf 0 90 94 (rgs (E4L true true).n (t4L true true)) ((37,.ntm (.app (.app (.sub (.var 37) 0 (v 35)) (.one 10)) (.var 92)))::lm 82::bm 74::nm 89::nm 33::nm 85::(36,.itm (v 36+1))::ik 78 0::(45,.itm (v 45+1))::(77,.itm (v 77+2))::azY) ((nl 8192 (v 36+1))::aAR))))))
 (.fork (lf 2 90 94 (rgs (E4L true true).n t4f) tH ((.not (.and (.eq (sn 89 (v 36*3)) (v 77+1)) (.and (.eq (sn 89 (v 36*3+1)) (v 45+1)) (.eq (sn 89 (v 36*3+2)) 0))))::ayG))
 (nd 94 axZ ((nl 4194303 (v 77+1)))
 (nd 94 aC1 ((nl 4194303 (v 45+1)))
 (nd 94 aEG ((nl 8192 (v 36+1)))
 (lf 0 90 94 (rgs (E4L true true).n (t4L true true)) ((37,.ntm (.app (.app (.sub (.var 37) 0 (v 35)) (.one 10)) (.var 92)))::lm 82::bm 74::nm 89::nm 33::nm 85::(36,.itm (v 36+1))::ik 78 0::(45,.itm (v 45+1))::aMU) ((nl 8192 (v 36+1))::aEG)))))))))
 (.fork (.fork (lf 2 90 91 (rgs (E4L true true).n t4f) tH asO)
 (nd 91 agP ((nl 4194303 (v 77+2)))
 (nd 91 ahI ((nl 4194303 (v 45+1)))
 (nd 91 agS ((nl 8192 (v 36+1)))
 (lf 0 90 91 (rgs (E4L true true).n (t4L true true)) (nm 37::lm 82::bm 74::nm 89::nm 33::nm 85::(36,.itm (v 36+1))::ik 78 0::(45,.itm (v 45+1))::(77,.itm (v 77+2))::aqY) auD)))))
 (.fork (lf 2 90 91 (rgs (E4L true true).n t4f) tH auG)
 (nd 91 agZ ((nl 4194303 (v 77+1)))
 (nd 91 ahF ((nl 4194303 (v 45+1)))
 (nd 91 agY ((nl 8192 (v 36+1)))
 (lf 0 90 91 (rgs (E4L true true).n (t4L true true)) (nm 37::lm 82::bm 74::nm 89::nm 33::nm 85::(36,.itm (v 36+1))::ik 78 0::(45,.itm (v 45+1))::aEA) as4))))))))))))))
 (lf 1 90 90 (rgs (E4L true true).n (t4X true true)) (nm 37::lm 82::bm 74::nm 89::nm 33::nm 85::aCJ) at0))
theorem ac9:aaJ true true []=D7:=by kernel_rfl
set_option maxHeartbeats 4000000
theorem aqJ{cs steps:List Int}{ow:List UInt8}{n i:Nat}{V:Ren}(q:LQ cs steps ow n i false false V)(hno:(sts cs steps n).w=[]):aZ.Holds (G4L cs steps ow n i false false V) V:=by
 unfold aZ;have hβ:=q.ln.1;have q36:=q.i36;have q14:=q.i14;have q86:=q.i86;have q77:=q.i77;have q45:=q.i45;have q78:=q.i78;obtain⟨qa,qb,qc,qd⟩:=q.le;have c31:=q.ch.l;have c32:=q.ch.c;have c33:=q.ch.d;have h89:3*n<=(gN V 89).length:=by have:=congrArg List.length q.n89;rw[List.length_take,qC]at this;omega
 have h85:steps.length<=(gN V 85).length:=by have:=congrArg List.length q.n85;rw[List.length_take]at this;omega
 have sb:=eH (cs:=cs) (steps:=steps) i (fun j hj=>q.lt j (by omega));have sb1:=sb.a;have sb2:=sb.lc;have sb3:=sb.w;refine (fO (nO hβ ?_ (fO (lG [] hβ ?_) (nO hβ ?_ (nO hβ ?_ (nO hβ ?_ (fO (fO (fO (lG [] hβ ?_) (nO hβ ?_ (nO hβ ?_ (nO hβ ?_ (lG [] hβ ?_))))) (fO (lG [] hβ ?_) (nO hβ ?_ (nO hβ ?_ (nO hβ ?_ (lG [] hβ ?_)))))) (fO (fO (lG [] hβ ?_) (nO hβ ?_ (lG [] hβ ?_))) (fO (fO (fO (lG [] hβ ?_) (nO hβ ?_ (nO hβ ?_ (nO hβ ?_ (lG [] hβ ?_))))) (fO (lG [] hβ ?_) (nO hβ ?_ (nO hβ ?_ (nO hβ ?_ (lG [] hβ ?_)))))) (fO (fO (lG [] hβ ?_) (nO hβ ?_ (nO hβ ?_ (nO hβ ?_ (lG [] hβ ?_))))) (fO (lG [] hβ ?_) (nO hβ ?_ (nO hβ ?_ (nO hβ ?_ (lG [] hβ ?_)))))))))))))) (lO [] hβ ?_))
 .intro hA;simp only[DD]at hA ⊢;first|omega|(obtain⟨f1,f2,f3,f4,f5,f6,f7,f8,f9,f10⟩:=zN q (by omega);unfold zM at f8;omega)
 .intro δ0 J0 hl0 hA hr0 hid0 hI;simp +decide only[DD,aL hβ]at hA hI;exfalso;obtain⟨f1,f2,f3,f4,f5,f6,f7,f8,f9,f10⟩:=zN q (by omega);unfold zM at f8;omega
 .intro hA;simp only[DD]at hA ⊢;first|omega|(obtain⟨f1,f2,f3,f4,f5,f6,f7,f8,f9,f10⟩:=zN q (by omega);unfold zM at f8;omega)
 .intro hA;simp only[DD]at hA ⊢;first|omega|(obtain⟨f1,f2,f3,f4,f5,f6,f7,f8,f9,f10⟩:=zN q (by omega);unfold zM at f8;omega)
 .intro hA;simp only[DD]at hA ⊢;first|omega|(obtain⟨f1,f2,f3,f4,f5,f6,f7,f8,f9,f10⟩:=zN q (by omega);unfold zM at f8;omega)
 .intro δ0 J0 hl0 hA hr0 hid0 hI;simp +decide only[DD,aL hβ]at hA hI;exfalso;obtain⟨f1,f2,f3,f4,f5,f6,f7,f8,f9,f10⟩:=zN q (by omega);unfold zM at f8;omega
 .intro hA;simp only[DD]at hA ⊢;first|omega|(obtain⟨f1,f2,f3,f4,f5,f6,f7,f8,f9,f10⟩:=zN q (by omega);unfold zM at f8;omega)
 .intro hA;simp only[DD]at hA ⊢;first|omega|(obtain⟨f1,f2,f3,f4,f5,f6,f7,f8,f9,f10⟩:=zN q (by omega);unfold zM at f8;omega)
 .intro hA;simp only[DD]at hA ⊢;first|omega|(obtain⟨f1,f2,f3,f4,f5,f6,f7,f8,f9,f10⟩:=zN q (by omega);unfold zM at f8;omega)
 .intro δ0 J0 hl0 hA hr0 hid0 hI;simp +decide only[DD,aL hβ]at hA hI;obtain⟨_,_,i89,i33,i85,_,_,_,_,_,_,_,i14,_,i32,i31,_,_,i86,_,i73⟩:=hI;obtain⟨f1,f2,f3,f4,f5,f6,f7,f8,f9,f10⟩:=zN q (by omega);have f8':=f8;unfold zM at f8';have kq:Kq false V J0:=⟨i73,i33,i31,i32,i14,i89,i86,i85,fun h=>by cases h⟩
  have ew:(sts cs steps (i+1)).w=(sts cs steps i).w++[cs.getD (sts cs steps i).a 0]:=gG (by omega);exfalso;have hz:=kW (show i+1<=n by omega) hno;rw[ew]at hz;simp at hz
 .intro δ0 J0 hl0 hA hr0 hid0 hI;simp +decide only[DD,aL hβ]at hA hI;exfalso;obtain⟨f1,f2,f3,f4,f5,f6,f7,f8,f9,f10⟩:=zN q (by omega);unfold zM at f8;omega
 .intro hA;simp only[DD]at hA ⊢;first|omega|(obtain⟨f1,f2,f3,f4,f5,f6,f7,f8,f9,f10⟩:=zN q (by omega);unfold zM at f8;omega)
 .intro hA;simp only[DD]at hA ⊢;first|omega|(obtain⟨f1,f2,f3,f4,f5,f6,f7,f8,f9,f10⟩:=zN q (by omega);unfold zM at f8;omega)
 .intro hA;simp only[DD]at hA ⊢;first|omega|(obtain⟨f1,f2,f3,f4,f5,f6,f7,f8,f9,f10⟩:=zN q (by omega);unfold zM at f8;omega)
 .intro δ0 J0 hl0 hA hr0 hid0 hI;simp +decide only[DD,aL hβ]at hA hI;obtain⟨_,i89,i33,i85,i36,_,_,_,_,i14,_,i32,i31,_,_,i86,_,i73⟩:=hI;obtain⟨f1,f2,f3,f4,f5,f6,f7,f8,f9,f10⟩:=zN q (by omega);have f8':=f8;unfold zM at f8';have kq:Kq false V J0:=⟨i73,i33,i31,i32,i14,i89,i86,i85,fun h=>by cases h⟩
  have ew:(sts cs steps (i+1)).w=(sts cs steps i).w:=vT (by omega) (by omega);exact xP q (by omega) hl0 kq i36 (by omega) (by omega) (by omega) (vV (by rw[ew];exact yU q.wn))
 .intro δ0 J0 hl0 hA hr0 hid0 hI;simp +decide only[DD,aL hβ]at hA hI;exfalso;obtain⟨f1,f2,f3,f4,f5,f6,f7,f8,f9,f10⟩:=zN q (by omega);unfold zM at f8;omega
 .intro hA;simp only[DD]at hA ⊢;first|omega|(obtain⟨f1,f2,f3,f4,f5,f6,f7,f8,f9,f10⟩:=zN q (by omega);unfold zM at f8;omega)
 .intro δ0 J0 hl0 hA hr0 hid0 hI;simp +decide only[DD,aL hβ]at hA hI;obtain⟨_,i89,i33,i85,i36,_,_,_,_,i14,_,i32,i31,_,_,i86,_,i73⟩:=hI;obtain⟨f1,f2,f3,f4,f5,f6,f7,f8,f9,f10⟩:=zN q (by omega);have f8':=f8;unfold zM at f8';have kq:Kq false V J0:=⟨i73,i33,i31,i32,i14,i89,i86,i85,fun h=>by cases h⟩
  have ew:(sts cs steps (i+1)).w=(sts cs steps i).w:=vT (by omega) (by omega);exact xP q (by omega) hl0 kq i36 (by omega) (by omega) (by omega) (vV (by rw[ew];exact yU q.wn))
 .intro δ0 J0 hl0 hA hr0 hid0 hI;simp +decide only[DD,aL hβ]at hA hI;exfalso;obtain⟨f1,f2,f3,f4,f5,f6,f7,f8,f9,f10⟩:=zN q (by omega);unfold zM at f8;omega
 .intro hA;simp only[DD]at hA ⊢;first|omega|(obtain⟨f1,f2,f3,f4,f5,f6,f7,f8,f9,f10⟩:=zN q (by omega);unfold zM at f8;omega)
 .intro hA;simp only[DD]at hA ⊢;first|omega|(obtain⟨f1,f2,f3,f4,f5,f6,f7,f8,f9,f10⟩:=zN q (by omega);unfold zM at f8;omega)
 .intro hA;simp only[DD]at hA ⊢;first|omega|(obtain⟨f1,f2,f3,f4,f5,f6,f7,f8,f9,f10⟩:=zN q (by omega);unfold zM at f8;omega)
 .intro δ0 J0 hl0 hA hr0 hid0 hI;simp +decide only[DD,aL hβ]at hA hI;obtain⟨_,_,i89,i33,i85,_,_,_,_,_,_,_,i14,_,i32,i31,_,_,i86,_,i73⟩:=hI;obtain⟨f1,f2,f3,f4,f5,f6,f7,f8,f9,f10⟩:=zN q (by omega);have f8':=f8;unfold zM at f8';have kq:Kq false V J0:=⟨i73,i33,i31,i32,i14,i89,i86,i85,fun h=>by cases h⟩
  have ew:(sts cs steps (i+1)).w=(sts cs steps i).w++[10]:=pH (by omega) (by omega);exfalso;have hz:=kW (show i+1<=n by omega) hno;rw[ew]at hz;simp at hz
 .intro δ0 J0 hl0 hA hr0 hid0 hI;simp +decide only[DD,aL hβ]at hA hI;exfalso;obtain⟨f1,f2,f3,f4,f5,f6,f7,f8,f9,f10⟩:=zN q (by omega);unfold zM at f8;omega
 .intro hA;simp only[DD]at hA ⊢;first|omega|(obtain⟨f1,f2,f3,f4,f5,f6,f7,f8,f9,f10⟩:=zN q (by omega);unfold zM at f8;omega)
 .intro hA;simp only[DD]at hA ⊢;first|omega|(obtain⟨f1,f2,f3,f4,f5,f6,f7,f8,f9,f10⟩:=zN q (by omega);unfold zM at f8;omega)
 .intro hA;simp only[DD]at hA ⊢;first|omega|(obtain⟨f1,f2,f3,f4,f5,f6,f7,f8,f9,f10⟩:=zN q (by omega);unfold zM at f8;omega)
 .intro δ0 J0 hl0 hA hr0 hid0 hI;simp +decide only[DD,aL hβ]at hA hI;obtain⟨_,_,i89,i33,i85,_,_,_,_,_,_,_,i14,_,i32,i31,_,_,i86,_,i73⟩:=hI;obtain⟨f1,f2,f3,f4,f5,f6,f7,f8,f9,f10⟩:=zN q (by omega);have f8':=f8;unfold zM at f8';have kq:Kq false V J0:=⟨i73,i33,i31,i32,i14,i89,i86,i85,fun h=>by cases h⟩
  have ew:(sts cs steps (i+1)).w=(sts cs steps i).w++[10]:=pH (by omega) (by omega);exfalso;have hz:=kW (show i+1<=n by omega) hno;rw[ew]at hz;simp at hz
 .intro δ0 J0 hl0 hA hr0 hid0 hI;simp +decide only[DD,aL hβ]at hA hI;exfalso;obtain⟨f1,f2,f3,f4,f5,f6,f7,f8,f9,f10⟩:=zN q (by omega);unfold zM at f8;omega
 .intro hA;simp only[DD]at hA ⊢;first|omega|(obtain⟨f1,f2,f3,f4,f5,f6,f7,f8,f9,f10⟩:=zN q (by omega);unfold zM at f8;omega)
 .intro hA;simp only[DD]at hA ⊢;first|omega|(obtain⟨f1,f2,f3,f4,f5,f6,f7,f8,f9,f10⟩:=zN q (by omega);unfold zM at f8;omega)
 .intro hA;simp only[DD]at hA ⊢;first|omega|(obtain⟨f1,f2,f3,f4,f5,f6,f7,f8,f9,f10⟩:=zN q (by omega);unfold zM at f8;omega)
 .intro δ0 J0 hl0 hA hr0 hid0 hI;simp +decide only[DD,aL hβ]at hA hI;obtain⟨_,i89,i33,i85,i36,_,_,_,_,i14,_,i32,i31,_,_,i86,_,i73⟩:=hI;obtain⟨f1,f2,f3,f4,f5,f6,f7,f8,f9,f10⟩:=zN q (by omega);have f8':=f8;unfold zM at f8';have kq:Kq false V J0:=⟨i73,i33,i31,i32,i14,i89,i86,i85,fun h=>by cases h⟩
  have ew:(sts cs steps (i+1)).w=(sts cs steps i).w:=vT (by omega) (by omega);exact xP q (by omega) hl0 kq i36 (by omega) (by omega) (by omega) (vV (by rw[ew];exact yU q.wn))
 .intro δ0 J0 hl0 hA hr0 hid0 hI;simp +decide only[DD,aL hβ]at hA hI;exfalso;obtain⟨f1,f2,f3,f4,f5,f6,f7,f8,f9,f10⟩:=zN q (by omega);unfold zM at f8;omega
 .intro hA;simp only[DD]at hA ⊢;first|omega|(obtain⟨f1,f2,f3,f4,f5,f6,f7,f8,f9,f10⟩:=zN q (by omega);unfold zM at f8;omega)
 .intro hA;simp only[DD]at hA ⊢;first|omega|(obtain⟨f1,f2,f3,f4,f5,f6,f7,f8,f9,f10⟩:=zN q (by omega);unfold zM at f8;omega)
 .intro hA;simp only[DD]at hA ⊢;first|omega|(obtain⟨f1,f2,f3,f4,f5,f6,f7,f8,f9,f10⟩:=zN q (by omega);unfold zM at f8;omega)
 .intro δ0 J0 hl0 hA hr0 hid0 hI;simp +decide only[DD,aL hβ]at hA hI;obtain⟨_,i89,i33,i85,i36,_,_,_,_,i14,_,i32,i31,_,_,i86,_,i73⟩:=hI;obtain⟨f1,f2,f3,f4,f5,f6,f7,f8,f9,f10⟩:=zN q (by omega);have f8':=f8;unfold zM at f8';have kq:Kq false V J0:=⟨i73,i33,i31,i32,i14,i89,i86,i85,fun h=>by cases h⟩
  have ew:(sts cs steps (i+1)).w=(sts cs steps i).w:=vT (by omega) (by omega);exact xP q (by omega) hl0 kq i36 (by omega) (by omega) (by omega) (vV (by rw[ew];exact yU q.wn))
 .intro J0 hl0 hA hr0 hid0 hI;simp only[DD]at hA hI;obtain⟨_,i89,i33,i85,_,_,i77,_,i14,_,i32,i31,_,_,i86,_,i73⟩:=hI;have kq:Kq false V J0:=⟨i73,i33,i31,i32,i14,i89,i86,i85,fun h=>by cases h⟩
  have e:n=i:=by omega
  exact⟨q.ln.of i73 hl0,q.ch.kq kq,by rw[i14];exact q.i14,by rw[i86];exact q.i86,by rw[i77,e];exact q.i77,q.lt,by rw[e];exact q.wn,fun h=>by cases h⟩
end U
