-- the statement of this claim: see YtoamgocecoiggaaDoorRw
import Derived.Test.YtoamgocecoiggaaDoorM24
set_option linter.unusedVariables false
set_option linter.unusedSimpArgs false
open Go Go.SM Go.Proofs
namespace U
set_option maxRecDepth 100000
theorem globOk_of {β β1:Ren} (h:GlobOk g0 β) (e:β1[73]?=β[73]?):GlobOk g0 β1:=by
 intro x B hx
 have h2:=h x B hx
 unfold g0 at hx
 split at hx
 ·cases hx
  unfold Go.SM.hm at h2 ⊢
  rw [e]; exact h2
 ·cases hx
theorem Ln.of {β β1:Ren} (h:Ln β) (e:β1[73]?=β[73]?) (hl:β1.length=90):Ln β1:=⟨hl,globOk_of h.2 e⟩
theorem run_tree {bt:Nat→Option LSpec} {ft:AExit→Option (Nat × Tpl)} {w0:W0} {G:Goal} {Q:Exit→Act→World→Prop} {k:Nat} {c:Code} {A:List TB} {tin:Tpl} {t:Tre} {β:Ren} {a:Act} {w:World}
    (hg:GlobOk g0 β) (hO:∀ j i β1 β2,G.O j i β1 β2→GlobOk g0 β2) (ht:tre (EP bt ft) k c [] (A.map TB.enc) tin.frame tin.heap=t) (hh:t.Holds G β)
    (hJ:∀ (j:Nat) (e:AExit) (tp:Tpl) (β1:Ren) (a:Act) (w:World),ft e=some (j,tp)→HR w0 β1 tp.heap w→FS β1 (ntmps 42) tp.frame a→G.J j β1→Q e.conc a w)
    (hW:∀ (r:Nat) (s:LSpec) (c:Code),bt r=some s→G.W s.j c→LoopOk (EP bt ft) w0 G s c)
    (hO2:∀ (r:Nat) (s:LSpec),bt r=some s→∀ (i:Nat) (e:AExit) (tp:Tpl) (B:List Value),s.outs[i]?=some (e,tp,B)→∀ (β1 β2:Ren),G.O s.j i β1 β2→Facts β2 B)
    (hH:HR w0 β tin.heap w) (hF:FS β (ntmps 42) tin.frame a) (hA:Facts β (A.map TB.enc)):c.wp Tryd.prog Q a w:=by
 subst ht
 have h:=(tre_sound (E:=EP bt ft) (w0:=w0) (Q:=Q) (G:=G) noNum callOk follows (fun j e tp β1 a w h=>hJ j e tp β1 a w (h.resolve_right fun h=>by cases h)) (fun r s c h=>by
  rcases h with h | h
  ·cases h
  ·exact hW r s c h) hO (fun r s h=>by
  rcases h with h | h
  ·cases h
  ·exact hO2 r s h) (fun f s h=>by cases h) k).1 c [] (A.map TB.enc) tin.frame tin.heap β [] a w hh hg (by rw [List.append_nil]; exact hH) (by rw [List.append_nil]; exact hA) (by rw [List.append_nil]; exact hF)
 exact h
theorem ok10 {bt:Nat→Option LSpec} {ft:AExit→Option (Nat × Tpl)} {w0:W0} {G:Goal} (hL:∀ β,G.L 10 β→Ln β)
    (h0:∀ β β1,G.L 10 β→Ln β1→(G10 β).J 0 β1→G.O 10 0 β β1) (h2:∀ β β1,G.L 10 β→Ln β1→(G10 β).J 2 β1→G.O 10 1 β β1):LoopOk (EP bt ft) w0 G sp10 blk10:=by
 intro Q β a w hH hF hl hQ
 have hβ:=hL β hl
 have hv:RV β:=rv_of (rgs_sound hH hF)
 refine run_tree (bt:=fun _=>none) (ft:=ft4) (G:=G10 β) (A:=[]) (tin:=sp10.tin) hβ.2 (fun _ _ _ _ h=>h.elim) lit10_eq (hold10 hβ.1 hv) ?_ (fun _ _ _ h=>by cases h) (fun _ _ h=>by cases h) hH hF (Facts.nil _)
 intro j e tp β1 a' w' hft h1 h2' h3
 cases e with
 | normal=>cases hft; exact hQ 0 .normal tV [] rfl β1 a' w' h1 h2' (h0 β β1 hl (hβ.of h3.1.h73 h1.len) h3)
 | ret=>cases hft; exact hQ 1 .ret tE [] rfl β1 a' w' h1 h2' (h2 β β1 hl (hβ.of h3.1.2 h1.len) h3)
 | exit id =>
  exfalso
  match id,hft with
  | 2,hft=>cases hft; exact h3
theorem ok4 {bt:Nat→Option LSpec} {ft:AExit→Option (Nat × Tpl)} {w0:W0} {G:Goal} (hL:∀ β,G.L 4 β→Ln β∧Look β)
    (h0:∀ β β1,G.L 4 β→Ln β1→RV β1→(G4 β).J 0 β1→G.O 4 0 β β1) (h1:∀ β β1,G.L 4 β→Ln β1→(G4 β).J 1 β1→G.O 4 1 β β1) (h2:∀ β β1,G.L 4 β→Ln β1→(G4 β).J 2 β1→G.O 4 2 β β1):LoopOk (EP bt ft) w0 G sp4 blk4:=by
 intro Q β a w hH hF hl hQ
 obtain ⟨hβ,hk⟩:=hL β hl
 have hv:RA β:=r4_of (rgs_sound hH hF)
 have fin:∀ {A:List TB} {t:Tre},tre4 A=t→t.Holds (G4 β) β→FactsP β A→(∀ t ∈ A,t.ok 90=true)→blk4.wp Tryd.prog Q a w:=by
  intro A t ht hh hA hok
  refine run_tree (bt:=fun _=>none) (ft:=ft4) (G:=G4 β) (A:=A) (tin:=sp4.tin) hβ.2 (fun _ _ _ _ h=>h.elim) ht hh ?_ (fun _ _ _ h=>by cases h) (fun _ _ h=>by cases h) hH hF ?_
  ·intro j e tp β1 a' w' hft q1 q2 q3
   cases e with
   | normal=>cases hft; exact hQ 0 .normal tV [] rfl β1 a' w' q1 q2 (h0 β β1 hl (hβ.of q3.1.h73 q1.len) (rv_of (rgs_sound q1 q2)) q3)
   | ret=>cases hft; exact hQ 2 .ret tE [] rfl β1 a' w' q1 q2 (h2 β β1 hl (hβ.of q3.1.2 q1.len) q3)
   | exit id =>
    match id,hft with
    | 2,hft=>cases hft; exact hQ 1 (.exit 2) tA [] rfl β1 a' w' q1 q2 (h1 β β1 hl (hβ.of q3.1.h73 q1.len) q3)
  ·exact Facts.ofP hA (by rw [hβ.1]; exact hok)
 have h10:=hv.i10
 by_cases e1':gI β 10=1
 ·exact fin lit41_eq (hold41 hβ.1 hv hk) ⟨e1',trivial⟩ (by simp [fA1,e1,TB.ok,TI.ok])
 by_cases e2':gI β 10=2
 ·exact fin lit42_eq (hold42 hβ.1 hv hk) ⟨e1',e2',trivial⟩ (by simp [fA2,e1,e2,TB.ok,TI.ok])
 ·exact fin lit43_eq (hold43 hβ.1 hv hk) ⟨e1',e2',show gI β 10=3 by omega,trivial⟩ (by simp [fA3,e1,e2,e3,TB.ok,TI.ok])
abbrev u8 (x:Int):UInt8:=UInt8.ofNat x.toNat
abbrev sr (a b:Int):Int:=IOp.fn .shr a b
def enc1 (v:Int):List UInt8 :=
 if ¬ 127 < v then [u8 (IntKind.u8.wrap v)]
 else if ¬ 2047 < v then [u8 (IntKind.u8.wrap (sr v 6 + 192)),u8 (ia v 63 + 128)]
 else if ¬ 65535 < v then [u8 (IntKind.u8.wrap (sr v 12 + 224)),u8 (ia (sr v 6) 63 + 128),u8 (ia v 63 + 128)]
 else [u8 (sr v 18 + 240),u8 (ia (sr v 12) 63 + 128),u8 (ia (sr v 6) 63 + 128),u8 (ia v 63 + 128)]
noncomputable def dc (β:Ren):Dc:=dcd (gI β 10) (gI β 6 - gI β 7) (rb β)
structure Rnd (β β1:Ren) (v:Int):Prop where
 fx:Fx β β1
 ok:∃ w,dc β=.ok v w∧gI β1 7=gI β 7 + w∧gI β1 9=gI β 9 + w∧1≤w∧w≤gI β 6 - gI β 7∧((enc1 v).length:Int)≤2 * w
 prn:Prn v
 buf:(gL β1 3).take (gI β1 5).toNat=(gL β 3).take (gI β 5).toNat++enc1 v
 bl:gI β1 5=gI β 5 + ((enc1 v).length:Int)
 len:(gL β1 3).length=(gL β 3).length
 un:gI β1 8=gI β 8 + 1
structure Inv (β:Ren):Prop where
 n:Ln β
 raw:(gL β 4).length=512
 buf:(gL β 3).length=1536
 le:gI β 7≤gI β 6
 cap:gI β 5 + 2 * (gI β 6 - gI β 7)≤1500
 un:gI β 8 + (gI β 6 - gI β 7)≤1000
 off:gI β 9 + (gI β 6 - gI β 7)≤10000000
def Bad (β:Ren):Prop:=dc β=.bad∨(dc β=.more∧gB β 11=true)∨∃ v w,dc β=.ok v w∧¬ Prn v
def GI (β:Ren):Goal where
 J:=fun j β1=>match j with
  | 0=>∃ v,Rnd β β1 v
  | 1=>Sm β β1∧(gI β 7=gI β 6∨gI β 7 < gI β 6∧dc β=.more∧gB β 11=false)
  | 2=>Er β β1∧gI β 7 < gI β 6∧Bad β
  | _=>False
 L:=fun j β1=>match j with
  | 4=>Ln β1∧Look β1
  | 10=>Ln β1
  | _=>False
 O:=fun j i β1 β2=>match j,i with
  | 4,0=>Ln β2∧RV β2∧Sm β1 β2∧dcs β1=.ok (gI β2 13) (gI β2 14)
  | 4,1=>Ln β2∧Sm β1 β2∧dcs β1=.more∧gB β1 11=false
  | 4,2=>Ln β2∧Er β1 β2∧(dcs β1=.bad∨dcs β1=.more∧gB β1 11=true)
  | 10,0=>Ln β2∧Sm β1 β2∧gI β2 13=gI β1 13∧gI β2 14=gI β1 14∧Prn (gI β1 13)
  | 10,1=>Ln β2∧Er β1 β2∧¬ Prn (gI β1 13)
  | _,_=>False
 W:=fun j c=>match j with
  | 4=>c=blk4
  | 10=>c=blk10
  | _=>False
theorem ia_le (a:Int) (b:Nat):ia a b≤b:=by
 show ((Nat.land a.toNat b:Nat):Int)≤b
 exact Int.ofNat_le.2 (Nat.and_le_right)
theorem enc1_len (v:Int):(enc1 v).length≤4∧(v≤127→(enc1 v).length=1):=by
 unfold enc1
 split
 ·simp
 ·split
  ·simp; omega
  ·split
   ·simp; omega
   ·simp; omega
theorem dcd_w {e n v w:Int} {b:Int→Int} (h:dcd e n b=.ok v w):1≤w∧w≤n∧((enc1 v).length:Int)≤2 * w:=by
 have key:∀ v w:Int,(1≤w∧w≤n∧(2≤w∨v≤127))→1≤w∧w≤n∧((enc1 v).length:Int)≤2 * w:=by
  intro v w ⟨h1,h2,h3⟩
  have h4:=enc1_len v
  refine ⟨h1,h2,?_⟩
  rcases h3 with h3 | h3
  ·omega
  ·have:=h4.2 h3; omega
 have e8:∀ {v w},dcd8 n b=.ok v w→1≤w∧w≤n∧(2≤w∨v≤127):=by
  intro v w h
  unfold dcd8 at h
  split at h
  ·split at h
   ·cases h
   ·cases h; exact ⟨by omega,by omega,.inr (ia_le _ 127)⟩
  repeat' (split at h)
  all_goals (cases h <;> exact ⟨by omega,by omega,.inl (by omega)⟩)
 have e16:∀ {x y v w},dcd16 n x y=.ok v w→1≤w∧w≤n∧(2≤w∨v≤127):=by
  intro x y v w h
  unfold dcd16 at h
  repeat' (split at h)
  all_goals (cases h <;> exact ⟨by omega,by omega,.inl (by omega)⟩)
 unfold dcd at h
 split at h
 ·exact key _ _ (e8 h)
 ·split at h
  ·exact key _ _ (e16 h)
  ·exact key _ _ (e16 h)
theorem tk (l:List UInt8) (n:Nat) (x:UInt8) (h:n < l.length):(l.set n x).take (n + 1)=l.take n++[x]:=by
 rw [List.take_add_one,List.take_set_of_le (Nat.le_refl n)]
 simp [h]
end U
namespace Go.SM
noncomputable section
theorem aresults_run {P:Program} {w0:W0} {β:Ren} {H:AS} {w:World} {fn:Func} {R:Tr Value} {a:Act} {v:Value} (h1:HR w0 β H w) (h2:FS β fn.ntmps R a) (hres:aresults P fn fn.ntmps R H=some v) :
    ∃ u,(results fn a.tmps).run P w=.ok u w∧VR β v u:=by
 have arr:∀ vs us,aresList P fn.ntmps R H fn.results.toList=some vs→(fn.results.toList.mapM (m:=Sem) fun
     | .tmp t=>pure (a.tmps.getD t undef)
     | .cell x t=>do loadVar t (← asAddr (a.tmps.getD x undef))).run P w=.ok us w→(results fn a.tmps).run P w=.ok (if h:us.toArray.size=1 then us.toArray[0] else .tuple us.toArray) w:=by
  intro vs us _ hus
  unfold results
  simp only [Sem.run_bind,Array.mapM_eq_mapM_toList,Sem.run_map]
  erw [hus]
  rfl
 unfold aresults at hres
 split at hres
 ·rename_i v1 hl
  cases hres
  obtain ⟨us,g1,g2⟩:=aresList_sound h1 h2 _ _ hl
  have g0:=arr _ _ hl g1
  obtain ⟨u,us',rfl,g3,g4⟩:=g2.cons_inv
  obtain rfl:us'=[]:=List.eq_nil_of_length_eq_zero g4.1
  exact ⟨u,g0,g3⟩
 ·rename_i vs hne1 hl
  cases hres
  obtain ⟨us,g1,g2⟩:=aresList_sound h1 h2 _ _ hl
  have g0:=arr _ _ hl g1
  have hlen:¬ us.toArray.size=1:=by
   rw [List.size_toArray,g2.1]
   intro hc
   obtain ⟨x,hx⟩:=List.length_eq_one_iff.1 hc
   exact hne1 x (by rw [hx])
  rw [dif_neg hlen] at g0
  exact ⟨_,g0,.tuple _ _ (by simp [g2.1]) (fun i x y hx hy=>g2.2 i x y (by simpa using hx) (by simpa using hy))⟩
 ·cases hres
theorem FS.grow {β:Ren} {n m:Nat} {l:List (Nat × Value)} {args:Array Value} (h:FS β n (frm l) { tmps:=args,defers:=[] }) (hnm:n≤m) (hm:m≤2 ^ 12) (hk:(l.all fun p=>Nat.blt p.1 n)=true) :
    FS β m (frm l) { tmps:=args++Array.replicate (m - args.size) undef,defers:=[] }:=by
 have hsz:args.size=n:=h.size
 refine ⟨by simp [hsz]; omega,hm,fun t u hu=>?_,rfl⟩
 have hlt:∀ p ∈ l,p.1 < n:=fun p hp=>Nat.le_of_ble_eq_true (List.all_eq_true.1 hk p hp)
 have ht:t < m:=by
  rcases Nat.lt_or_ge t m with h | h
  ·exact h
  ·rw [Array.getElem?_eq_none (by simp [hsz]; omega)] at hu; cases hu
 rcases Nat.lt_or_ge t n with htn | htn
 ·have:=h.slot t u (by rw [Array.getElem?_append_left (by omega)] at hu; exact hu)
  unfold aslot at this ⊢
  rw [if_pos htn] at this
  rw [if_pos ht]
  exact this
 ·left
  unfold aslot
  rw [if_pos ht]
  show VR β (match (frm l).get DF t with
   | some v=>v
   | none=>.tuple #[]) u
  rw [frm_get hm l t ht (fun p hp=>by have:=hlt p hp; omega)]
  cases hf:l.find? (fun p=>Nat.beq p.1 t) with
  | none=>exact .any u
  | some p =>
   exfalso
   have h1:=List.find?_some hf
   have h2:=hlt p (List.mem_of_find?_eq_some hf)
   have:p.1=t:=Nat.eq_of_beq_eq_true h1
   omega
theorem wp_of_tre {E:Env} {w0:W0} {G:Goal} {Q:Exit→Act→World→Prop} {k:Nat} {c:Code} {A:List Value} {F:Tr Value} {H:AS} {β:Ren} {a:Act} {w:World}
    (hN:NoNum E.P) (hC:CallOk E.P (E.gl []) E.call) (hm:E.P.follows .mixedOrders=true) (hh:(tre E k c [] A F H).Holds G β) (hg:GlobOk E.g β) (hH:HR w0 β H w) (hA:Facts β A) (hF:FS β E.n F a)
    (hJ:∀ (j:Nat) (e:AExit) (tp:Tpl) (β1:Ren) (a:Act) (w:World),E.ft e=some (j,tp)→HR w0 β1 tp.heap w→FS β1 E.n tp.frame a→G.J j β1→Q e.conc a w)
    (hW:∀ (r:Nat) (s:LSpec) (c:Code),E.lt r=some s∨E.bt r=some s→G.W s.j c→LoopOk E w0 G s c)
    (hO:∀ j i β1 β2,G.O j i β1 β2→GlobOk E.g β2)
    (hO2:∀ (r:Nat) (s:LSpec),E.lt r=some s∨E.bt r=some s→∀ (i:Nat) (e:AExit) (tp:Tpl) (B:List Value),s.outs[i]?=some (e,tp,B)→∀ (β1 β2:Ren),G.O s.j i β1 β2→Facts β2 B)
    (hCT:∀ f s,E.ct f=some s→CLaw E.P G f s) (h2:∀ e,E.ft2 e=none:=by intro e; rfl):c.wp E.P Q a w :=
 (tre_sound hN hC hm (fun j e tp β1 a w h=>hJ j e tp β1 a w (h.resolve_right fun h=>by rw [h2] at h; cases h)) hW hO hO2 hCT k).1 c [] A F H β [] a w hh hg (by rw [List.append_nil]; exact hH) (by rw [List.append_nil]; exact hA) (by rw [List.append_nil]; exact hF)
theorem claw_of {E:Env} {Gt:Ren→Goal} {G:Goal} {f:FuncId} {fn:Func} {c:Code} {s:CSpec}
    (hN:NoNum E.P) (hC:CallOk E.P (E.gl []) E.call) (hm:E.P.follows .mixedOrders=true) (hf:E.P.funcs[f]?=some fn) (hb:fn.body=some c)
    (hn:E.n=fn.ntmps) (hn1:Nat.ble s.n E.n=true) (hn2:Nat.ble E.n 4096=true) (hk:(s.tin.F.all fun p=>Nat.blt p.1 s.n)=true)
    (hft:∀ e j tp,(E.ft e=some (j,tp)∨E.ft2 e=some (j,tp))→(∀ id,e≠.exit id)∧∃ v,aresults E.P fn fn.ntmps tp.frame tp.heap=some v∧∃ sm,s.outs[j]?=some (v,tp,sm))
    (hall:∀ β,G.CL s.j β→β.length=s.tin.m→FactsP β (rgs s.n s.tin)→GlobOk E.g β∧∃ (A:List Value) (k:Nat),Facts β A∧(tre E k c [] A s.tin.frame s.tin.heap).Holds (Gt β) β)
    (hJ:∀ β j v tp sm β1,G.CL s.j β→s.outs[j]?=some (v,tp,sm)→β1.length=tp.m→FactsP β1 (rgs E.n tp)→(Gt β).J j β1→G.CO s.j j β β1∧∀ p ∈ sm,SmK β β1 p)
    (hW:∀ (β:Ren) (w0:W0) (r:Nat) (s:LSpec) (c:Code),E.lt r=some s∨E.bt r=some s→(Gt β).W s.j c→LoopOk E w0 (Gt β) s c)
    (hO:∀ β j i β1 β2,(Gt β).O j i β1 β2→GlobOk E.g β2)
    (hO2:∀ (β:Ren) (r:Nat) (s:LSpec),E.lt r=some s∨E.bt r=some s→∀ (i:Nat) (e:AExit) (tp:Tpl) (B:List Value),s.outs[i]?=some (e,tp,B)→∀ (β1 β2:Ren),(Gt β).O s.j i β1 β2→Facts β2 B)
    (hCT:∀ β f s,E.ct f=some s→CLaw E.P (Gt β) f s):CLaw E.P G f s:=by
 intro w0 β args w hH hF hcl
 have hn2':E.n≤2 ^ 12:=Nat.le_of_ble_eq_true hn2
 have hn1':s.n≤E.n:=Nat.le_of_ble_eq_true hn1
 have hlen:β.length=s.tin.m:=by rw [hH.len]; exact heapOf_size _ _
 obtain ⟨hg,A,k,hA,hh⟩:=hall β hcl hlen (rgs_sound hH hF)
 refine calls_of_wp hf hb ?_
 have hF':FS β E.n (frm s.tin.F) { tmps:=args++Array.replicate (E.n - args.size) undef,defers:=[] }:=FS.grow hF hn1' hn2' hk
 rw [hn] at hF'
 have key:=(tre_sound (E:=E) (w0:=w0) (G:=Gt β) (Q:=bodyPost E.P fn fun e w'=>∃ (i:Nat) (v:Value) (tp:Tpl) (sm:List (Nat × Nat)) (β2:Ren) (u:Value),s.outs[i]?=some (v,tp,sm)∧e=.returned u∧HR w0 β2 tp.heap w'∧VR β2 v u∧G.CO s.j i β β2∧∀ p ∈ sm,SmK β β2 p) hN hC hm ?_ (fun r s c h1 h2=>hW β w0 r s c h1 h2) (fun j i β1 β2 h=>hO β j i β1 β2 h) (fun r s h i e tp B h1 β1 β2 h2=>hO2 β r s h i e tp B h1 β1 β2 h2) (fun f s h=>hCT β f s h) k).1 c [] A s.tin.frame s.tin.heap β [] _ w hh hg (by rw [List.append_nil]; exact hH) (by rw [List.append_nil]; exact hA) (by rw [List.append_nil,hn]; exact hF')
 ·exact key
 ·intro j e tp β1 a w' hft' h1 h2 h3
  obtain ⟨hne,v,hres,sm,hout⟩:=hft e j tp hft'
  obtain ⟨hco,hsm⟩:=hJ β j v tp sm β1 hcl hout (by rw [h1.len]; exact heapOf_size _ _) (rgs_sound h1 h2) h3
  rw [hn] at h2
  obtain ⟨u,hu1,hu2⟩:=aresults_run h1 h2 hres
  have fin:∃ v_1,(results fn a.tmps).run E.P w'=.ok v_1 w'∧∃ (i:Nat) (v:Value) (tp:Tpl) (sm:List (Nat × Nat)) (β2:Ren) (u:Value),s.outs[i]?=some (v,tp,sm)∧Ending.returned v_1=.returned u∧HR w0 β2 tp.heap w'∧VR β2 v u∧G.CO s.j i β β2∧∀ p ∈ sm,SmK β β2 p :=
   ⟨u,hu1,j,v,tp,sm,β1,u,hout,rfl,h1,hu2,hco,hsm⟩
  cases e with
  | normal=>exact ⟨h2.nodef,fin⟩
  | ret=>exact ⟨h2.nodef,fin⟩
  | exit id=>exact (hne id rfl).elim
end
end Go.SM
open Go Go.SM Go.Proofs
namespace U
def updR:List (Nat × Value):=[(11,.func (.func 47) #[] #[]),(13,sL 16 (Z 0) (x 18) (x 72)),(14,I 19 0 2000000),(15,sB (x 11)),(20,sL 2 (Z 0) (x 6) (Z 512)),(21,I 7 0 512),(45,.chan none)]
def HPR:List (Nat × Blk):=[(0,{ cells:=cellsP updR,elem:=76,ro:=false,live:=true }),
 (2,{ cells:=[],elem:=5,ro:=false,live:=true,seq:=some (x 4) }),(16,{ cells:=[],elem:=5,ro:=true,live:=true,seq:=some (x 17) }),(73,{ cells:=[.iface 89 (.pointer (some ⟨74,0,none⟩))],elem:=86,ro:=true,live:=true })]
def tR:Tpl:={ m:=90,F:=[(0,.pointer (some ⟨0,0,none⟩))],H:=HPR,G:=[73] }
def tRo:Tpl:={ m:=90,F:=[(0,.pointer (some ⟨0,0,none⟩)),(2,.bool true)],H:=HPR,G:=[73] }
def opR:List Nat:=(List.range 52).filterMap fun i=>if [11,13,14,15,20,21,45].contains i then none else some (20 + i)
def spR:CSpec:={ j:=49,n:=1,tin:=tR,outs:=[(.bool true,tRo,[(0,0),(2,0),(16,0),(73,0),(74,0),(17,2),(18,1),(72,1)]++opR.map fun i=>(i,4))] }
def ftR:AExit→Option (Nat × Tpl):=fun e=>match e with
 | .normal=>some (0,tRo)
 | .ret=>some (0,tRo)
 | _=>none
noncomputable def EF (f:Nat) (ct:FuncId→Option CSpec) (rc:Nat→Bool) (bt lt:Nat→Option LSpec) (ft:AExit→Option (Nat × Tpl)):Env:={ P:=Tryd.prog,pu:=pu0,g:=g0,call:=callE,n:=ntmps f,lt:=lt,bt:=bt,ft:=ft,orc:=theOrc Tryd.prog pu0 g0 callE (ntmps f),ct:=ct,rc:=rc }
noncomputable def ER:Env:=EF 49 (fun _=>none) (fun _=>false) (fun _=>none) (fun _=>none) ftR
noncomputable def treR (A:List TB):Tre:=tre ER 2000 (body 49) [] (A.map TB.enc) tR.frame tR.heap
def s67:TI:=.op .sub (.var 6) (.var 7)
def fS1:List TB:=[.eq (.var 7) (.lit 0),.not (.eq (.var 6) (.lit 512)),.not (.lt (.lit 0) (.var 7)),.not (.var 11),.lt s67 (.lit 512)]
def fS2:List TB:=[.not (.eq (.var 7) (.lit 0)),.lt (.lit 0) (.var 7),.lt (.var 7) (.var 6),.not (.lt (.var 6) (.var 7)),.lt (.var 7) (.lit 512),.not (.lt (.var 6) s67),.not (.var 11),.lt s67 (.lit 512)]
def fS3:List TB:=[.not (.eq (.var 7) (.lit 0)),.lt (.lit 0) (.var 7),.not (.lt (.var 7) (.var 6)),.not (.var 11),.lt s67 (.lit 512)]
def fEa:List TB:=[.eq (.var 19) (.var 18)]
def fEb:List TB:=[.not (.eq (.var 19) (.var 18)),.lt (.var 19) (.var 72)]
def fFu:List TB:=[.eq (.var 7) (.lit 0),.eq (.var 6) (.lit 512)]
def fEo:List TB:=[.var 11]
set_option maxRecDepth 100000
structure PR (β:Ren):Prop where
 n:Ln β
 raw:(gL β 4).length=512
 le:gI β 7≤gI β 6
 inp:gI β 19≤gI β 18
 inl:gI β 18≤(gL β 17).length
 inb:gI β 18≤2000000
 eo:gB β 11=true→gI β 19=gI β 18
structure RR (β:Ren):Prop where
 i18:0≤gI β 18∧gI β 18≤gI β 72
 i19:0≤gI β 19∧gI β 19≤2000000
 i6:0≤gI β 6∧gI β 6≤512
 i7:0≤gI β 7∧gI β 7≤512
def le0R0 (i:Nat) (a b:Int):List TB:=[.le (.lit a) (.var i),.le (.var i) (.lit b)]
theorem rgs_R:rgs 1 tR=[.le (.lit 0) (.lit 0),.le (.lit 0) (.var 18),.le (.var 18) (.var 72)]++(le0R0 19 0 2000000++([.le (.lit 0) (.lit 0),.le (.lit 0) (.var 6),.le (.var 6) (.lit 512)]++le0R0 7 0 512)):=by kernel_rfl
theorem rr_of {β:Ren} (h:FactsP β (rgs 1 tR)):RR β:=by
 rw [rgs_R] at h
 simp only [le0R0,List.cons_append,List.nil_append,FactsP,TB.P,den_litI,den_varI] at h
 obtain ⟨_,a1,a2,a3,a4,_,a5,a6,a7,a8,_⟩:=h
 exact ⟨⟨a1,a2⟩,⟨a3,a4⟩,⟨a5,a6⟩,⟨a7,a8⟩⟩
noncomputable def rawB (β:Ren):List UInt8:=((gL β 4).take (gI β 6).toNat).drop (gI β 7).toNat
noncomputable def inpB (β:Ren):List UInt8:=((gL β 17).take (gI β 18).toNat).drop (gI β 19).toNat
noncomputable def restB (β:Ren):List UInt8:=rawB β++inpB β
structure SR9 (β β1:Ren):Prop where
 h0:β1[0]?=β[0]?
 h2:β1[2]?=β[2]?
 h16:β1[16]?=β[16]?
 h73:β1[73]?=β[73]?
 h74:β1[74]?=β[74]?
 l17:gL β1 17=gL β 17
 i18:gI β1 18=gI β 18
 i72:gI β1 72=gI β 72
 op:∀ i ∈ opR,gV β1 i=gV β i
structure QR (β β1:Ren):Prop extends SR9 β β1 where
 raw:(gL β1 4).length=512
 b6:0≤gI β1 7∧gI β1 7≤gI β1 6∧gI β1 6≤512
 b19:gI β 19≤gI β1 19∧gI β1 19≤gI β 18
 rest:restB β1=restB β
 pr:(gL β1 4=gL β 4∧gI β1 7=gI β 7∧gI β1 6=gI β 6∧gI β1 19=gI β 19∧gB β1 11=gB β 11∧(gB β 11=true∨(gI β 7=0∧gI β 6=512))) ∨
  (gB β 11=false∧gI β1 7=0∧gI β1 6 - (gI β 6 - gI β 7)=gI β1 19 - gI β 19∧((gB β1 11=true∧gI β 19=gI β 18)∨(gB β1 11=false∧gI β 19 < gI β1 19∧(gI β1 6=512∨gI β1 19=gI β 18))))
theorem qr_same {β β1:Ren} (p:PR β) (r:RR β) (s:SR9 β β1) (h4:gL β1 4=gL β 4) (h7:gI β1 7=gI β 7) (h6:gI β1 6=gI β 6) (h19:gI β1 19=gI β 19) (h11:gB β1 11=gB β 11) (hc:gB β 11=true∨(gI β 7=0∧gI β 6=512)):QR β β1:=by
 have:=r.i6; have:=r.i7; have:=p.le; have:=p.inp
 exact ⟨s,by rw [h4]; exact p.raw,by omega,by omega,by unfold restB rawB inpB; rw [h4,h7,h6,s.l17,s.i18,h19],.inl ⟨h4,h7,h6,h19,h11,hc⟩⟩
theorem qr_a {β β1:Ren} {K:List UInt8} (p:PR β) (r:RR β) (s:SR9 β β1) (h4:gL β1 4=K) (hK:K.take (gI β 6 - gI β 7).toNat=rawB β) (hKl:K.length=512) (h7:gI β1 7=0) (h6:gI β1 6=gI β 6 - gI β 7) (h19:gI β1 19=gI β 19) (h11:gB β1 11=true) (hf:gB β 11=false) (he:gI β 19=gI β 18):QR β β1:=by
 have:=r.i6; have:=r.i7; have:=p.le; have:=p.inp
 refine ⟨s,by rw [h4]; exact hKl,by omega,by omega,?_,.inr ⟨hf,h7,by omega,.inl ⟨h11,he⟩⟩⟩
 unfold restB
 have e1:inpB β1=inpB β:=by unfold inpB; rw [s.l17,s.i18,h19]
 rw [e1,← hK]
 unfold rawB
 rw [h4,h7,h6]
 rfl
theorem putAt_len {l m:List UInt8} {i:Nat} (h:i + m.length≤l.length):(putAt l i m).length=l.length:=by
 unfold putAt; simp; omega
theorem putAt_take {l m:List UInt8} {i:Nat} (h:i + m.length≤l.length):(putAt l i m).take (i + m.length)=l.take i++m:=by
 unfold putAt
 rw [List.take_append_of_le_length (by simp; omega),List.take_of_length_le (by simp; omega)]
theorem qr_b {β β1:Ren} {K M:List UInt8} {m:Int} (p:PR β) (r:RR β) (s:SR9 β β1) (h4:gL β1 4=putAt K (gI β 6 - gI β 7).toNat M) (hK:K.take (gI β 6 - gI β 7).toNat=rawB β) (hKl:K.length=512)
    (hm:(M.length:Int)=m) (hM:M++((gL β 17).take (gI β 18).toNat).drop (gI β 19 + m).toNat=inpB β) (h7:gI β1 7=0) (h6:gI β1 6=gI β 6 - gI β 7 + m) (h19:gI β1 19=gI β 19 + m) (h11:gB β1 11=gB β 11) (hf:gB β 11=false)
    (h0:0 < m) (hr:gI β 6 - gI β 7 + m≤512) (hi:gI β 19 + m≤gI β 18) (hl:gI β1 6=512∨gI β1 19=gI β 18):QR β β1:=by
 have:=r.i6; have:=r.i7; have:=p.le; have:=p.inp
 have hle:(gI β 6 - gI β 7).toNat + M.length≤K.length:=by omega
 refine ⟨s,by rw [h4,putAt_len hle]; exact hKl,by omega,by omega,?_,.inr ⟨hf,h7,by omega,.inr ⟨by rw [h11]; exact hf,by omega,hl⟩⟩⟩
 have e1:rawB β1=rawB β++M:=by
  unfold rawB
  rw [h4,h7,h6,show (gI β 6 - gI β 7 + m).toNat=(gI β 6 - gI β 7).toNat + M.length from by omega,putAt_take hle,hK]
  rfl
 have e2:inpB β1=((gL β 17).take (gI β 18).toNat).drop (gI β 19 + m).toNat:=by unfold inpB; rw [s.l17,s.i18,h19]
 unfold restB
 rw [e1,e2,List.append_assoc,hM]
theorem kS1 {β:Ren} (h:gI β 7=0):(gL β 4).take (gI β 6 - gI β 7).toNat=rawB β:=by
 unfold rawB; rw [h]; simp
theorem kS3 {β:Ren} (r:RR β) (h:¬ gI β 7 < gI β 6):(gL β 4).take (gI β 6 - gI β 7).toNat=rawB β:=by
 have:=r.i6; have:=r.i7
 unfold rawB
 rw [show (gI β 6 - gI β 7).toNat=0 from by omega,List.take_zero,List.drop_eq_nil_of_le (by rw [List.length_take]; omega)]
theorem rawB_len {β:Ren} (p:PR β) (r:RR β):(rawB β).length=(gI β 6 - gI β 7).toNat:=by
 have:=r.i6; have:=r.i7; have:=p.raw
 unfold rawB; rw [List.length_drop,List.length_take]; omega
theorem kS2 {β:Ren} (p:PR β) (r:RR β):(putAt (gL β 4) 0 (rawB β)).take (gI β 6 - gI β 7).toNat=rawB β∧(putAt (gL β 4) 0 (rawB β)).length=512:=by
 have h:=rawB_len p r
 have:=r.i6; have:=r.i7; have:=p.raw
 have hle:0 + (rawB β).length≤(gL β 4).length:=by omega
 refine ⟨?_,by rw [putAt_len hle]; exact p.raw⟩
 have:=putAt_take hle
 rw [Nat.zero_add,h,List.take_zero,List.nil_append] at this
 exact this
theorem mB2 {β:Ren} (p:PR β) (r:RR β):((inpB β).length:Int)=gI β 18 - gI β 19∧inpB β++((gL β 17).take (gI β 18).toNat).drop (gI β 19 + (gI β 18 - gI β 19)).toNat=inpB β:=by
 have:=r.i18; have:=r.i19; have:=p.inp; have:=p.inl
 constructor
 ·unfold inpB; rw [List.length_drop,List.length_take]; omega
 ·rw [List.drop_eq_nil_of_le (by rw [List.length_take]; omega),List.append_nil]
theorem mB1 {β:Ren} {m:Int} (p:PR β) (r:RR β) (h0:0≤m) (h:m≤gI β 18 - gI β 19):(((((inpB β).take m.toNat).drop 0).length:Nat):Int)=m∧((inpB β).take m.toNat).drop 0++((gL β 17).take (gI β 18).toNat).drop (gI β 19 + m).toNat=inpB β:=by
 have:=r.i18; have:=r.i19; have:=p.inp; have:=p.inl
 have hl:((inpB β).length:Int)=gI β 18 - gI β 19:=(mB2 p r).1
 constructor
 ·rw [List.drop_zero,List.length_take]; omega
 ·rw [List.drop_zero]
  have:((gL β 17).take (gI β 18).toNat).drop (gI β 19 + m).toNat=(inpB β).drop m.toNat:=by
   unfold inpB; rw [List.drop_drop]; congr 1; omega
  rw [this,List.take_append_drop]
def GR9 (β:Ren):Goal where
 J:=fun _ β1=>QR β β1
 L:=fun _ _=>False
 O:=fun _ _ _ _=>False
 W:=fun _ _=>False
end U
