-- the statement of this claim: see YtoamgocecoiggaaDoorRw
import Derived.Test.YtoamgocecoiggaaDoorM13
set_option linter.unusedVariables false
set_option linter.unusedSimpArgs false
namespace Go.SM
noncomputable section
theorem aput_slot {n:Nat} {F F':Tr Value} {dst:Option Tmp} {v:Value} (hn:n≤2 ^ 12) (h:aput n F dst v=some F') (t:Nat):aslot n F' t=if dst=some t then v else aslot n F t:=by
 cases dst with
 | none=>simp only [aput,Option.some.injEq] at h; subst h; simp
 | some d =>
  simp only [aput] at h
  split at h
  ·rename_i hd
   have hd':@LT.lt Nat _ d n:=hd
   simp only [Option.some.injEq] at h
   subst h
   unfold aslot
   by_cases ht:t < n
   ·rw [if_pos ht,if_pos ht]
    by_cases hdt:d=t
    ·subst hdt; rw [Tr.get_set]; simp
    ·rw [Tr.get_set_ne v d t DF F (bits_ne 12 d t (by omega) (by omega) hdt),if_neg (by simpa using hdt)]
   ·rw [if_neg ht,if_neg ht,if_neg (fun e=>by cases e; exact ht hd')]
  ·cases h
section
variable {P:Program} {pu:FuncId→Bool} {G:Gl} {call:ACall} {ops:Array Oper} {n:Nat} {Fs:Nat→Tr Value} {Hs:Nat→AS} {vs:Nat→Value}
theorem slots_all (hn:n≤2 ^ 12) (hT:∀ (i:Nat) (o:Oper),ops.toList[i]?=some o→astep P G call ops n o (Fs i) (Hs i)=some (vs i,Hs (i + 1))∧aput n (Fs i) o.dst (vs i)=some (Fs (i + 1))) (t:Nat) :
    ∀ k,k≤ops.size→aslot n (Fs k) t=(cont ops vs (fun _=>true) t k).getD (aslot n (Fs 0) t)
 | 0,_=>rfl
 | k + 1,hk=>by
  have ho:ops[k]?=some ops[k]:=Array.getElem?_eq_getElem (by omega)
  obtain ⟨_,h2⟩:=hT k ops[k] (by rw [Array.getElem?_toList]; exact ho)
  rw [aput_slot hn h2 t]
  simp only [cont,ho,Option.bind_some,true_and]
  split
  ·rfl
  ·exact slots_all hn hT t k (by omega)
theorem mem_all (hp:∀ A f args H v H',pu f=true→call A f args H=some (v,H')→H'=H)
    (hT:∀ (i:Nat) (o:Oper),ops.toList[i]?=some o→astep P G call ops n o (Fs i) (Hs i)=some (vs i,Hs (i + 1))∧aput n (Fs i) o.dst (vs i)=some (Fs (i + 1))) :
    ∀ k,k≤ops.size→hcont P pu ops Hs (fun _=>true) k=Hs k
 | 0,_=>rfl
 | k + 1,hk=>by
  have ho:ops[k]?=some ops[k]:=Array.getElem?_eq_getElem (by omega)
  obtain ⟨h1,_⟩:=hT k ops[k] (by rw [Array.getElem?_toList]; exact ho)
  simp only [hcont,true_and]
  split
  ·rfl
  ·rename_i hw
   rw [mem_all hp hT k (by omega)]
   refine (reader_same hp ?_ h1).symm
   have:¬ clsF P pu ops ops[k]=2:=by
    intro hc
    apply hw
    unfold isW
    rw [ho]
    simpa using hc
   have hle:clsF P pu ops ops[k]≤2:=by
    unfold clsF cls
    repeat' split
    all_goals omega
   omega
end
theorem getD_true_of {listed:Array Bool} {j:Nat} (hj:j < listed.size) (h:listed.getD j false=false):listed.getD j true=false:=by
 simp only [Array.getD_eq_getD_getElem?,Array.getElem?_eq_getElem hj,Option.getD_some] at h ⊢
 exact h
theorem any_main {P:Program} {pu:FuncId→Bool} {w0:W0} {G:Gl} {call:ACall} {ops:Array Oper} {n:Nat} {Q:Exit→Act→World→Prop} (hN:NoNum P) (hC:CallOk P G call)
    (hp:∀ A f args H v H',pu f=true→call A f args H=some (v,H')→H'=H) (hok:drawOk P pu ops=true) (hn:n≤2 ^ 12) {Fs:Nat→Tr Value} {Hs:Nat→AS} {vs:Nat→Value}
    (hT:∀ (i:Nat) (o:Oper),ops.toList[i]?=some o→astep P G call ops n o (Fs i) (Hs i)=some (vs i,Hs (i + 1))∧aput n (Fs i) o.dst (vs i)=some (Fs (i + 1)))
    (β:Ren) (hQ:∀ (γ:Ren) (a':Act) (w':World),HR w0 (β++γ) (Hs ops.size) w'→FS (β++γ) n (Fs ops.size) a'→Q .normal a' w') :
    ∀ (fuel:Nat) (listed:Array Bool) (γ:Ren) (a:Act) (w:World),HR w0 (β++γ) (hcont P pu ops Hs (fun k=>listed.getD k false) ops.size) w→Gok G (β++γ)→a.tmps.size=n→a.defers=[] →
     (∀ t u,a.tmps[t]?=some u→SR (β++γ) ((cont ops vs (fun k=>listed.getD k false) t ops.size).getD (aslot n (Fs 0) t)) u)→listed.size=ops.size→Closed ops (fun k=>listed.getD k false) →
     cnt (fun k=>listed.getD k false) ops.size≤fuel→wpAny P .any ops Q fuel listed a w:=by
 obtain ⟨hlt,hconf⟩:=drawOk_spec hok
 have final:∀ (listed:Array Bool) (γ:Ren) (a:Act) (w:World),HR w0 (β++γ) (hcont P pu ops Hs (fun k=>listed.getD k false) ops.size) w→a.tmps.size=n→a.defers=[] →
     (∀ t u,a.tmps[t]?=some u→SR (β++γ) ((cont ops vs (fun k=>listed.getD k false) t ops.size).getD (aslot n (Fs 0) t)) u)→(∀ k,k < ops.size→listed.getD k false=true)→Q .normal a w:=by
  intro listed γ a w hr hsz hdf hsl hall
  refine hQ γ a w ?_ ⟨hsz,hn,?_,hdf⟩
  ·rw [hcont_congr (S':=fun _=>true) ops.size (fun k hk _=>hall k hk),mem_all hp hT ops.size (Nat.le_refl _)] at hr
   exact hr
  ·intro t u hu
   have:=hsl t u hu
   rw [cont_congr (S':=fun _=>true) ops.size (fun k hk _=>hall k hk),← slots_all hn hT t ops.size (Nat.le_refl _)] at this
   exact this
 have isready:∀ (listed:Array Bool) (k:Nat),listed.size=ops.size→k < ops.size→listed.getD k false=false→(∀ e,e < k→listed.getD e false=true)→k ∈ Region.ready .any ops listed:=by
  intro listed k hls hk hun hall
  have ho:ops[k]?=some ops[k]:=Array.getElem?_eq_getElem hk
  refine mem_ready.2 ⟨getD_true_of (by omega) hun,ops[k],ho,fun e he hb=>hall _ (hlt k ops[k] ho e.on ?_)⟩
  exact List.mem_map.2 ⟨e,List.mem_filter.2 ⟨by simpa using he,hb⟩,rfl⟩
 intro fuel
 induction fuel with
 | zero =>
  intro listed γ a w hr hG hsz hdf hsl hls hcl hcnt
  have hall:=cnt_zero (S:=fun k=>listed.getD k false) ops.size (by omega)
  refine ⟨?_,final listed γ a w hr hsz hdf hsl hall⟩
  rw [List.eq_nil_iff_forall_not_mem]
  intro j hj
  obtain ⟨h0,o,ho,_⟩:=mem_ready.1 hj
  have hjl:=lt_of_get ho
  have h1:=hall j hjl
  simp only [Array.getD_eq_getD_getElem?,Array.getElem?_eq_getElem (show j < listed.size by omega),Option.getD_some] at h0 h1
  rw [h0] at h1; cases h1
 | succ fuel ih =>
  intro listed γ a w hr hG hsz hdf hsl hls hcl hcnt
  refine ⟨fun hnil=>final listed γ a w hr hsz hdf hsl ?_,fun i hi=>?_⟩
  ·intro k
   induction k using Nat.strongRecOn with
   | ind k ihk =>
    intro hk
    cases hs:listed.getD k false with
    | true=>rfl
    | false =>
     have:=isready listed k hls hk hs (fun e he=>ihk e he (by omega))
     rw [hnil] at this; cases this
  ·obtain ⟨hun0,o,ho,hpre⟩:=mem_ready.1 hi
   have hil:=lt_of_get ho
   have hun:listed.getD i false=false:=by
    simp only [Array.getD_eq_getD_getElem?,Array.getElem?_eq_getElem (show i < listed.size by omega),Option.getD_some] at hun0 ⊢
    exact hun0
   have hpre':∀ e ∈ bpreds o,listed.getD e false=true:=by
    intro e he
    obtain ⟨e',he',rfl⟩:=List.mem_map.1 he
    obtain ⟨h1,h2⟩:=List.mem_filter.1 he'
    exact hpre e' (by simpa using h1) h2
   have ahead:∀ (j:Nat) (oj:Oper),j < i→ops[j]?=some oj→conf P pu ops oj o=true→listed.getD j false=true:=fun j oj hji hj hc =>
    anc_in (S:=fun k=>listed.getD k false) hlt hcl j i o ho hpre' (hconf j i oj o hji hj ho hc)
   have behind:∀ (j:Nat) (oj:Oper),i < j→ops[j]?=some oj→conf P pu ops o oj=true→listed.getD j false=false:=by
    intro j oj hij hj hc
    cases hs:listed.getD j false with
    | false=>rfl
    | true =>
     have:=anc_in (S:=fun k=>listed.getD k false) hlt hcl i j oj hj (hcl j oj hj hs) (hconf i j o oj hij ho hj hc)
     rw [hun] at this; cases this
   obtain ⟨hst,hput⟩:=hT i o (by rw [Array.getElem?_toList]; exact ho)
   have apartW:∀ {x y:Oper},conf P pu ops x y=false→x.apart ops y=true:=by
    intro x y h
    unfold conf at h
    simp only [Bool.or_eq_false_iff,Bool.not_eq_false'] at h
    exact h.1.1
   have hslots:∀ t,t ∈ o.looksAt ops→SlotOk (β++γ) n (Fs i) a t:=by
    intro t ht u hu
    have h1:=hsl t u hu
    have e1:cont ops vs (fun k=>listed.getD k false) t ops.size=cont ops vs (fun _=>true) t i:=by
     rw [cont_cut (i:=i) ops.size (by omega) ?_]
     ·refine cont_congr i fun k hk hd=>?_
      obtain ⟨ok,hok1,hok2⟩:=Option.bind_eq_some_iff.1 hd
      refine ahead k ok hk hok1 ?_
      cases hcf:conf P pu ops ok o with
      | true=>rfl
      | false=>exact ((Oper.apart_spec (apartW hcf)).1 t hok2 ht).elim
     ·intro k h1 h2 hd
      obtain ⟨ok,hok1,hok2⟩:=Option.bind_eq_some_iff.1 hd
      by_cases hki:k=i
      ·subst hki; exact hun
      ·refine behind k ok (by omega) hok1 ?_
       cases hcf:conf P pu ops o ok with
       | true=>rfl
       | false=>exact ((Oper.apart_spec (apartW hcf)).2.2 t hok2 ht).elim
    rw [e1,← slots_all hn hT t i (by omega)] at h1
    exact h1
   have hmem:astep P G call ops n o (Fs i) (hcont P pu ops Hs (fun k=>listed.getD k false) ops.size) =
       some (vs i,hcont P pu ops Hs (fun k=>(listed.setIfInBounds i true).getD k false) ops.size):=by
    have hS':∀ k,k≠i→(listed.setIfInBounds i true).getD k false=listed.getD k false:=fun k hk=>getD_set_ne false (Ne.symm hk)
    have hSi:(listed.setIfInBounds i true).getD i false=true:=by simp [hls,hil]
    by_cases hq:clsF P pu ops o=0
    ·have hsame : hcont P pu ops Hs (fun k => (listed.setIfInBounds i true).getD k false) ops.size = hcont P pu ops Hs (fun k => listed.getD k false) ops.size := by
       refine hcont_congr ops.size fun k hk hw=>?_
       by_cases hki:k=i
       ·subst hki; unfold isW at hw; rw [ho] at hw; simp [hq] at hw
       ·exact hS' k hki
     rw [hsame]
     exact quiet_step hq hst _
    ·have hloud:1≤clsF P pu ops o:=by omega
     have before:∀ k,k < i→isW P pu ops k=true→listed.getD k false=true:=by
      intro k hk hw
      unfold isW at hw
      split at hw
      ·rename_i ok hok1
       refine ahead k ok hk hok1 ?_
       unfold conf
       rw [hw]; simp [hloud]
      ·cases hw
     have after':∀ k,i < k→k < ops.size→isW P pu ops k=true→listed.getD k false=false:=by
      intro k hik hk hw
      unfold isW at hw
      split at hw
      ·rename_i ok hok1
       refine behind k ok hik hok1 ?_
       unfold conf
       rw [hw]; simp [hloud]
      ·cases hw
     have e1:hcont P pu ops Hs (fun k=>listed.getD k false) ops.size=Hs i:=by
      rw [hcont_cut (i:=i) ops.size (by omega),hcont_congr (S':=fun _=>true) i (fun k hk hw=>before k hk hw),mem_all hp hT i (by omega)]
      intro k h1 h2 hw
      by_cases hki:k=i
      ·subst hki; exact hun
      ·exact after' k (by omega) h2 hw
     have e2:hcont P pu ops Hs (fun k=>(listed.setIfInBounds i true).getD k false) ops.size=Hs (i + 1):=by
      rw [hcont_cut (i:=i + 1) ops.size (by omega),hcont_congr (S':=fun _=>true) (i + 1),mem_all hp hT (i + 1) (by omega)]
      ·intro k hk hw
       by_cases hki:k=i
       ·subst hki; exact hSi
       ·show (listed.setIfInBounds i true).getD k false=true
        rw [hS' k hki]; exact before k (by omega) hw
      ·intro k h1 h2 hw
       show (listed.setIfInBounds i true).getD k false=false
       rw [hS' k (by omega)]; exact after' k (by omega) h2 hw
     rw [e1,e2]; exact hst
   refine step_wp hN hC hr hG hsz ho hslots hmem _ ?_
   intro γ' u w' hr' hu
   have hS':∀ k,k≠i→(listed.setIfInBounds i true).getD k false=listed.getD k false:=fun k hk=>getD_set_ne false (Ne.symm hk)
   have hSi:(listed.setIfInBounds i true).getD i false=true:=by simp [hls,hil]
   refine ih (listed.setIfInBounds i true) (γ++γ') (a.put o.dst u) w' (by rw [← List.append_assoc]; exact hr') (by rw [← List.append_assoc]; exact hG.mono) (by rw [put_size,hsz]) (by rw [put_def,hdf]) ?_ (by simpa using hls) ?_ ?_
   ·rw [← List.append_assoc]
    intro t x hx
    by_cases hd:o.dst=some t
    ·have hit : cont ops vs (fun k => (listed.setIfInBounds i true).getD k false) t ops.size = some (vs i) := by
       rw [cont_cut (i:=i + 1) ops.size (by omega)]
       ·simp only [cont,ho,Option.bind_some,hd,and_true]
        rw [if_pos hSi]
       ·intro k h1 h2 hdk
        obtain ⟨ok,hok1,hok2⟩:=Option.bind_eq_some_iff.1 hdk
        show (listed.setIfInBounds i true).getD k false=false
        rw [hS' k (by omega)]
        refine behind k ok (by omega) hok1 ?_
        cases hcf:conf P pu ops o ok with
        | true=>rfl
        | false=>exact ((Oper.apart_spec (apartW hcf)).2.1 t hd hok2).elim
     rw [hit]
     rw [hd] at hx
     simp only [Act.put] at hx
     have htl:t < a.tmps.size:=by
      rcases Nat.lt_or_ge t a.tmps.size with h | h
      ·exact h
      ·rw [Array.getElem?_eq_none (by simpa using h)] at hx; cases hx
     rw [Array.getElem?_setIfInBounds_self_of_lt htl] at hx
     cases hx
     exact hu
    ·have hmiss : cont ops vs (fun k => (listed.setIfInBounds i true).getD k false) t ops.size = cont ops vs (fun k => listed.getD k false) t ops.size := by
       refine cont_congr ops.size fun k hk hdk=>?_
       by_cases hki:k=i
       ·subst hki; rw [ho] at hdk; exact (hd hdk).elim
       ·exact hS' k hki
     rw [hmiss]
     have hx':a.tmps[t]?=some x:=by
      cases hdo:o.dst with
      | none=>rw [hdo] at hx; exact hx
      | some d =>
       rw [hdo] at hx hd
       simp only [Act.put] at hx
       rw [Array.getElem?_setIfInBounds_ne (fun e=>hd (by rw [e]))] at hx
       exact hx
     exact (hsl t x hx').mono
   ·intro j oj hj hsj e he
    by_cases hji:j=i
    ·subst hji
     rw [ho] at hj; cases hj
     have:=hpre' e he
     exact getD_set_true this
    ·have h1:listed.getD j false=true:=by rw [← hS' j hji]; exact hsj
     exact getD_set_true (hcl j oj hj h1 e he)
   ·have:=(cnt_set (S:=fun k=>listed.getD k false) (S':=fun k=>(listed.setIfInBounds i true).getD k false) (i:=i) hun hSi hS' ops.size).2 hil
    omega
theorem draw_sound {P:Program} {pu:FuncId→Bool} {w0:W0} {G:Gl} {call:ACall} {ops:Array Oper} {n:Nat} {Q:Exit→Act→World→Prop} (hN:NoNum P) (hC:CallOk P G call)
    (hp:∀ A f args H v H',pu f=true→call A f args H=some (v,H')→H'=H) (hm:P.follows .mixedOrders=true) (hok:drawOk P pu ops=true) {β:Ren} {F R:Tr Value} {H HE:AS} {a:Act} {w:World} {id:Nat}
    (h:HR w0 β H w) (hG:Gok G β) (hF:FS β n F a) (hr:arun P G call ops n ops.toList F H=some (R,HE))
    (hQ:∀ (γ:Ren) (a':Act) (w':World),HR w0 (β++γ) HE w'→FS (β++γ) n R a'→Q .normal a' w'):(Code.region id ops true).wp P Q a w:=by
 obtain ⟨Fs,Hs,vs,rfl,rfl,h3,h4,hT⟩:=arun_trace ops.toList F H hr
 rw [Array.length_toList] at h3 h4
 subst h3 h4
 have hnone:∀ k,(Array.replicate ops.size false).getD k false=false:=by
  intro k
  rw [Array.getD_eq_getD_getElem?]
  rcases Nat.lt_or_ge k ops.size with hk | hk
  ·rw [Array.getElem?_replicate,if_pos hk]; rfl
  ·rw [Array.getElem?_eq_none (by simpa using hk)]; rfl
 have hc0:∀ t m,cont ops vs (fun k=>(Array.replicate ops.size false).getD k false) t m=none:=by
  intro t m
  induction m with
  | zero=>rfl
  | succ m ih=>simp only [cont]; rw [if_neg (fun hc=>by rw [hnone m] at hc; cases hc.1)]; exact ih
 have hh0:∀ m,hcont P pu ops Hs (fun k=>(Array.replicate ops.size false).getD k false) m=Hs 0:=by
  intro m
  induction m with
  | zero=>rfl
  | succ m ih=>simp only [hcont]; rw [if_neg (fun hc=>by rw [hnone m] at hc; cases hc.1)]; exact ih
 have hcn:∀ m,cnt (fun k=>(Array.replicate ops.size false).getD k false) m=m:=by
  intro m
  induction m with
  | zero=>rfl
  | succ m ih=>simp only [cnt]; rw [if_neg (by rw [hnone m]; decide),ih]; omega
 refine wp_region_any hm ?_
 refine any_main hN hC hp hok hF.small hT β hQ ops.size _ [] a _ (by rw [List.append_nil,hh0]; exact h.drew) (by rw [List.append_nil]; exact hG) hF.size hF.nodef ?_ (by simp) ?_ (by rw [hcn]; exact Nat.le_refl _)
 ·intro t u hu
  rw [List.append_nil,hc0]
  exact hF.slot t u hu
 ·intro j oj _ hs
  have:=hnone j
  simp only at hs
  rw [this] at hs; cases hs
theorem text_sound {P:Program} {w0:W0} {G:Gl} {call:ACall} {ops:Array Oper} {n:Nat} {Q:Exit→Act→World→Prop} (hN:NoNum P) (hC:CallOk P G call)
    {β:Ren} {F R:Tr Value} {H HE:AS} {a:Act} {w:World} {id:Nat} (h:HR w0 β H w) (hG:Gok G β) (hF:FS β n F a) (hr:arun P G call ops n ops.toList F H=some (R,HE))
    (hQ:∀ (γ:Ren) (a':Act) (w':World),HR w0 (β++γ) HE w'→FS (β++γ) n R a'→Q .normal a' w'):(Code.region id ops false).wp P Q a w:=by
 refine wp_region ?_
 have:=arun_sound (Q:=Q) hN hC R HE ops.toList 0 β F H a w rfl h hG hF hr hQ
 rw [Array.length_toList,← List.range_eq_range'] at this
 exact this
end
end Go.SM
