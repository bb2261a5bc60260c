-- the statement of this claim: see YtoamgocecoiggaaDoorRs
import Derived.Test.YtoamgocecoiggaaDoorM18
set_option linter.unusedVariables false
set_option linter.unusedSimpArgs false
set_option maxRecDepth 100000
noncomputable section
open Go Go.SM Go.Proofs
namespace U
theorem aOW{V:Ren}(hβ:V.length=90)(hv:RV V):amM.Holds (G10 V) V:=by
 unfold amM;obtain⟨⟨r12,r5,r8,r6,r7,r10,r9,r18,r19⟩,r13,r14⟩:=hv;refine (fO (lO opA hβ ?_) (fO (lO opA hβ ?_) (fO (lO opA hβ ?_) (fO (lO opA hβ ?_) (fO (lO opA hβ ?_) (fO (lO opA hβ ?_) (fO (lO opA hβ ?_) (fO (lO opA hβ ?_) (lO [] hβ ?_)))))))))
 .intro J0 hl0 hA hr0 hid0 hI;simp only[DD]at hA hI;obtain⟨i74,i17,i4,i3,i9,i10,i7,i6,i2,i8,i1,i11,i19,i72,i18,i16,i14,i13,i5,i12,i0,i73⟩:=hI;exact⟨⟨⟨i0,i1,i2,i4,i6,i10,i12,Bool.eq_iff_iff.2 i11,i16,i73,i74,i17,i18,i19,i72,hid0⟩,i3,i5,i7,i8,i9⟩,i13,i14,by unfold Prn;omega⟩
 .intro J0 hl0 hA hr0 hid0 hI;simp only[DD]at hA hI;obtain⟨i74,i17,i4,i3,i9,i10,i7,i6,i2,i8,i1,i11,i19,i72,i18,i16,i14,i13,i5,i12,i0,i73⟩:=hI;exact⟨⟨⟨i0,i1,i2,i4,i6,i10,i12,Bool.eq_iff_iff.2 i11,i16,i73,i74,i17,i18,i19,i72,hid0⟩,i3,i5,i7,i8,i9⟩,i13,i14,by unfold Prn;omega⟩
 .intro J0 hl0 hA hr0 hid0 hI;simp only[DD]at hA hI;obtain⟨i74,i17,i4,i3,i9,i10,i7,i6,i2,i8,i1,i11,i19,i72,i18,i16,i14,i13,i5,i12,i0,i73⟩:=hI;exact⟨⟨⟨i0,i1,i2,i4,i6,i10,i12,Bool.eq_iff_iff.2 i11,i16,i73,i74,i17,i18,i19,i72,hid0⟩,i3,i5,i7,i8,i9⟩,i13,i14,by unfold Prn;omega⟩
 .intro J0 hl0 hA hr0 hid0 hI;simp only[DD]at hA hI;obtain⟨i74,i17,i4,i3,i9,i10,i7,i6,i2,i8,i1,i11,i19,i72,i18,i16,i14,i13,i5,i12,i0,i73⟩:=hI;exact⟨⟨⟨i0,i1,i2,i4,i6,i10,i12,Bool.eq_iff_iff.2 i11,i16,i73,i74,i17,i18,i19,i72,hid0⟩,i3,i5,i7,i8,i9⟩,i13,i14,by unfold Prn;omega⟩
 .intro J0 hl0 hA hr0 hid0 hI;simp only[DD]at hA hI;obtain⟨i74,i17,i4,i3,i9,i10,i7,i6,i2,i8,i1,i11,i19,i72,i18,i16,i14,i13,i5,i12,i0,i73⟩:=hI;exact⟨⟨⟨i0,i1,i2,i4,i6,i10,i12,Bool.eq_iff_iff.2 i11,i16,i73,i74,i17,i18,i19,i72,hid0⟩,i3,i5,i7,i8,i9⟩,i13,i14,by unfold Prn;omega⟩
 .intro J0 hl0 hA hr0 hid0 hI;simp only[DD]at hA hI;obtain⟨i74,i17,i4,i3,i9,i10,i7,i6,i2,i8,i1,i11,i19,i72,i18,i16,i14,i13,i5,i12,i0,i73⟩:=hI;exact⟨⟨⟨i0,i1,i2,i4,i6,i10,i12,Bool.eq_iff_iff.2 i11,i16,i73,i74,i17,i18,i19,i72,hid0⟩,i3,i5,i7,i8,i9⟩,i13,i14,by unfold Prn;omega⟩
 .intro J0 hl0 hA hr0 hid0 hI;simp only[DD]at hA hI;obtain⟨i74,i17,i4,i3,i9,i10,i7,i6,i2,i8,i1,i11,i19,i72,i18,i16,i14,i13,i5,i12,i0,i73⟩:=hI;exact⟨⟨⟨i0,i1,i2,i4,i6,i10,i12,Bool.eq_iff_iff.2 i11,i16,i73,i74,i17,i18,i19,i72,hid0⟩,i3,i5,i7,i8,i9⟩,i13,i14,by unfold Prn;omega⟩
 .intro J0 hl0 hA hr0 hid0 hI;simp only[DD]at hA hI;obtain⟨i74,i17,i4,i3,i9,i10,i7,i6,i2,i8,i1,i11,i19,i72,i18,i16,i14,i13,i5,i12,i0,i73⟩:=hI;exact⟨⟨⟨i0,i1,i2,i4,i6,i10,i12,Bool.eq_iff_iff.2 i11,i16,i73,i74,i17,i18,i19,i72,hid0⟩,i3,i5,i7,i8,i9⟩,i13,i14,by unfold Prn;omega⟩
 .intro J0 hl0 hA hr0 hid0 hI;simp only[DD]at hA hI;obtain⟨_,_,_,_,_,_,_,_,_,_,_,_,_,_,_,_,i0,i73⟩:=hI;exact⟨⟨i0,i73⟩,by unfold Prn;omega⟩
theorem aiR{V V1:Ren}(h:wV g0 V)(e:V1[73]?=V[73]?):wV g0 V1:=by
 intro x B hx;have h2:=h x B hx;unfold g0 at hx;split at hx
 .cases hx;unfold Go.SM.hm at h2 ⊢;rw[e];exact h2
 .cases hx
theorem Ln.of{V V1:Ren}(h:Ln V)(e:V1[73]?=V[73]?)(hl:V1.length=90):Ln V1:=⟨hl,aiR h.2 e⟩
theorem fS{bt:Nat->Option LSpec}{ft:AExit->Option (Nat × Tpl)}{w0:W0}{G:Goal}{Q:Exit->Act->World->Prop}{k:Nat}{c:Code}{A:List TB}{tin:Tpl}{t:Tre}{V:Ren}{a:Act}{w:World}
    (hg:wV g0 V) (hO:∀ j i V1 V2,G.O j i V1 V2->wV g0 V2) (ht:tre (EP bt ft) k c [] (A.map TB.enc) tin.frame tin.heap=t) (hh:t.Holds G V)
    (hJ:∀ (j:Nat) (e:AExit) (tp:Tpl) (V1:Ren) (a:Act) (w:World),ft e=some (j,tp)->HR w0 V1 tp.heap w->FS V1 (ntmps 42) tp.frame a->G.J j V1->Q e.conc a w)
    (hW:∀ (r:Nat) (s:LSpec) (c:Code),bt r=some s->G.W s.j c->tW (EP bt ft) w0 G s c)
    (hO2:∀ (r:Nat) (s:LSpec),bt r=some s->∀ (i:Nat) (e:AExit) (tp:Tpl) (B:List Value),s.outs[i]?=some (e,tp,B)->∀ (V1 V2:Ren),G.O s.j i V1 V2->Facts V2 B)
    (hH:HR w0 V tin.heap w) (hF:FS V (ntmps 42) tin.frame a) (hA:Facts V (A.map TB.enc)):c.wp Tryd.prog Q a w:=by
 subst ht
 have h:=(pP (E:=EP bt ft) (w0:=w0) (Q:=Q) (G:=G) zQ qB follows (fun j e tp V1 a w h=>hJ j e tp V1 a w (h.resolve_right fun h=>by cases h)) (fun r s c h=>by
  rcases h with h|h
  .cases h
  .exact hW r s c h) hO (fun r s h=>by
  rcases h with h|h
  .cases h
  .exact hO2 r s h) (fun f s h=>by cases h) k).1 c [] (A.map TB.enc) tin.frame tin.heap V [] a w hh hg (by rw[List.append_nil];exact hH) (by rw[List.append_nil];exact hA) (by rw[List.append_nil];exact hF)
 exact h
theorem aZ6{bt:Nat->Option LSpec}{ft:AExit->Option (Nat × Tpl)}{w0:W0}{G:Goal}(hL:∀ V,G.L 10 V->Ln V)
    (h0:∀ V V1,G.L 10 V->Ln V1->(G10 V).J 0 V1->G.O 10 0 V V1) (h2:∀ V V1,G.L 10 V->Ln V1->(G10 V).J 2 V1->G.O 10 1 V V1):tW (EP bt ft) w0 G aiV V9:=by
 intro Q V a w hH hF hl hQ
 have hβ:=hL V hl
 have hv:RV V:=azX (yS hH hF)
 refine fS (bt:=fun _=>none) (ft:=ft4) (G:=G10 V) (A:=[]) (tin:=aiV.tin) hβ.2 (fun _ _ _ _ h=>h.elim) auB (aOW hβ.1 hv) ?_ (fun _ _ _ h=>by cases h) (fun _ _ h=>by cases h) hH hF (Facts.nil _)
 intro j e tp V1 a' w' hft h1 h2' h3
 cases e with
 |normal=>cases hft;exact hQ 0 .normal tV [] rfl V1 a' w' h1 h2' (h0 V V1 hl (hβ.of h3.1.h73 h1.len) h3)
 |ret=>cases hft;exact hQ 1 .ret tE [] rfl V1 a' w' h1 h2' (h2 V V1 hl (hβ.of h3.1.2 h1.len) h3)
 |exit id =>
  exfalso
  match id,hft with
  |2,hft=>cases hft;exact h3
theorem ok4{bt:Nat->Option LSpec}{ft:AExit->Option (Nat × Tpl)}{w0:W0}{G:Goal}(hL:∀ V,G.L 4 V->Ln V/\Look V)
    (h0:∀ V V1,G.L 4 V->Ln V1->RV V1->(G4 V).J 0 V1->G.O 4 0 V V1) (h1:∀ V V1,G.L 4 V->Ln V1->(G4 V).J 1 V1->G.O 4 1 V V1) (h2:∀ V V1,G.L 4 V->Ln V1->(G4 V).J 2 V1->G.O 4 2 V V1):tW (EP bt ft) w0 G sp4 blk4:=by
 intro Q V a w hH hF hl hQ
 obtain⟨hβ,hk⟩:=hL V hl
 have hv:RA V:=aWG (yS hH hF)
 have fin:∀ {A:List TB} {t:Tre},auU A=t->t.Holds (G4 V) V->zF V A->(∀ t∈A,t.ok 90=true)->blk4.wp Tryd.prog Q a w:=by
  intro A t ht hh hA hok;refine fS (bt:=fun _=>none) (ft:=ft4) (G:=G4 V) (A:=A) (tin:=sp4.tin) hβ.2 (fun _ _ _ _ h=>h.elim) ht hh ?_ (fun _ _ _ h=>by cases h) (fun _ _ h=>by cases h) hH hF ?_
  .intro j e tp V1 a' w' hft q1 q2 q3;cases e with
   |normal=>cases hft;exact hQ 0 .normal tV [] rfl V1 a' w' q1 q2 (h0 V V1 hl (hβ.of q3.1.h73 q1.len) (azX (yS q1 q2)) q3)
   |ret=>cases hft;exact hQ 2 .ret tE [] rfl V1 a' w' q1 q2 (h2 V V1 hl (hβ.of q3.1.2 q1.len) q3)
   |exit id =>
    match id,hft with
    |2,hft=>cases hft;exact hQ 1 (.exit 2) tA [] rfl V1 a' w' q1 q2 (h1 V V1 hl (hβ.of q3.1.h73 q1.len) q3)
  .exact Facts.ofP hA (by rw[hβ.1];exact hok)
 have h10:=hv.i10
 by_cases e1':gI V 10=1
 .exact fin akR (aOA hβ.1 hv hk) ⟨e1',trivial⟩ (by simp[fA1,e1,TB.ok,TI.ok])
 by_cases e2':gI V 10=2
 .exact fin ajN (aNO hβ.1 hv hk) ⟨e1',e2',trivial⟩ (by simp[fA2,e1,e2,TB.ok,TI.ok])
 .exact fin ak9 (aPK hβ.1 hv hk) ⟨e1',e2',show gI V 10=3 by omega,trivial⟩ (by simp[fA3,e1,e2,e3,TB.ok,TI.ok])
abbrev u8(x:Int):UInt8:=UInt8.ofNat x.toNat
abbrev sr(a b:Int):Int:=IOp.fn .shr a b
def enc1(v:Int):List UInt8 :=
 if ¬ 127<v then [u8 (IntKind.u8.wrap v)]
 else if ¬ 2047<v then [u8 (IntKind.u8.wrap (sr v 6+192)),u8 (ia v 63+128)]
 else if ¬ 65535<v then [u8 (IntKind.u8.wrap (sr v 12+224)),u8 (ia (sr v 6) 63+128),u8 (ia v 63+128)]
 else [u8 (sr v 18+240),u8 (ia (sr v 12) 63+128),u8 (ia (sr v 6) 63+128),u8 (ia v 63+128)]
def dc(V:Ren):Dc:=dcd (gI V 10) (gI V 6-gI V 7) (rb V)
structure Rnd(V V1:Ren)(v:Int):Prop where
 fx:Fx V V1
 ok:∃ w,dc V=.ok v w/\gI V1 7=gI V 7+w/\gI V1 9=gI V 9+w/\1<=w/\w<=gI V 6-gI V 7/\((enc1 v).length:Int)<=2*w
 prn:Prn v
 buf:(gL V1 3).take (gI V1 5).toNat=(gL V 3).take (gI V 5).toNat++enc1 v
 bl:gI V1 5=gI V 5+((enc1 v).length:Int)
 len:(gL V1 3).length=(gL V 3).length
 un:gI V1 8=gI V 8+1
structure Inv(V:Ren):Prop where
 n:Ln V
 raw:(gL V 4).length=512
 buf:(gL V 3).length=1536
 le:gI V 7<=gI V 6
 cap:gI V 5+2*(gI V 6-gI V 7)<=1500
 un:gI V 8+(gI V 6-gI V 7)<=1000
 off:gI V 9+(gI V 6-gI V 7)<=10000000
def Bad(V:Ren):Prop:=dc V=.bad\/(dc V=.more/\gB V 11=true)\/∃ v w,dc V=.ok v w/\¬ Prn v
def GI(V:Ren):Goal where
 J:=fun j V1=>match j with
  |0=>∃ v,Rnd V V1 v
  |1=>Sm V V1/\(gI V 7=gI V 6\/gI V 7<gI V 6/\dc V=.more/\gB V 11=false)
  |2=>Er V V1/\gI V 7<gI V 6/\Bad V
  |_=>False
 L:=fun j V1=>match j with
  |4=>Ln V1/\Look V1
  |10=>Ln V1
  |_=>False
 O:=fun j i V1 V2=>match j,i with
  |4,0=>Ln V2/\RV V2/\Sm V1 V2/\dcs V1=.ok (gI V2 13) (gI V2 14)
  |4,1=>Ln V2/\Sm V1 V2/\dcs V1=.more/\gB V1 11=false
  |4,2=>Ln V2/\Er V1 V2/\(dcs V1=.bad\/dcs V1=.more/\gB V1 11=true)
  |10,0=>Ln V2/\Sm V1 V2/\gI V2 13=gI V1 13/\gI V2 14=gI V1 14/\Prn (gI V1 13)
  |10,1=>Ln V2/\Er V1 V2/\¬ Prn (gI V1 13)
  |_,_=>False
 W:=fun j c=>match j with
  |4=>c=blk4
  |10=>c=V9
  |_=>False
theorem aKQ(a:Int)(b:Nat):ia a b<=b:=by
 show ((Nat.land a.toNat b:Nat):Int)<=b;exact Int.ofNat_le.2 (Nat.and_le_right)
theorem as5(v:Int):(enc1 v).length<=4/\(v<=127->(enc1 v).length=1):=by
 unfold enc1;split
 .simp
 .split
  .simp;omega
  .split
   .simp;omega
   .simp;omega
theorem aCV{e n v w:Int}{b:Int->Int}(h:dcd e n b=.ok v w):1<=w/\w<=n/\((enc1 v).length:Int)<=2*w:=by
 have key:∀ v w:Int,(1<=w/\w<=n/\(2<=w\/v<=127))->1<=w/\w<=n/\((enc1 v).length:Int)<=2*w:=by
  intro v w ⟨h1,h2,h3⟩;have h4:=as5 v;refine⟨h1,h2,?_⟩;rcases h3 with h3|h3
  .omega
  .have:=h4.2 h3;omega
 have e8:∀ {v w},yE n b=.ok v w->1<=w/\w<=n/\(2<=w\/v<=127):=by
  intro v w h;unfold yE at h;split at h
  .split at h
   .cases h
   .cases h;exact⟨by omega,by omega,.inr (aKQ _ 127)⟩
  repeat' (split at h)
  all_goals (cases h<;>exact⟨by omega,by omega,.inl (by omega)⟩)
 have e16:∀ {x y v w},zW n x y=.ok v w->1<=w/\w<=n/\(2<=w\/v<=127):=by
  intro x y v w h;unfold zW at h;repeat' (split at h)
  all_goals (cases h<;>exact⟨by omega,by omega,.inl (by omega)⟩)
 unfold dcd at h;split at h
 .exact key _ _ (e8 h)
 .split at h
  .exact key _ _ (e16 h)
  .exact key _ _ (e16 h)
theorem tk(l:List UInt8)(n:Nat)(x:UInt8)(h:n<l.length):(l.set n x).take (n+1)=l.take n++[x]:=by
 rw[List.take_add_one,List.take_set_of_le (Nat.le_refl n)];simp[h]
end U
namespace Go.SM
noncomputable section
theorem J5{P:Program}{w0:W0}{V:Ren}{H:AS}{w:World}{fn:Func}{R:Tr Value}{a:Act}{v:Value}(h1:HR w0 V H w)(h2:FS V fn.ntmps R a)(hres:rB P fn fn.ntmps R H=some v) :
    ∃ u,(results fn a.tmps).run P w=.ok u w/\VR V v u:=by
 have arr:∀ vs us,tP P fn.ntmps R H fn.results.toList=some vs->(fn.results.toList.mapM (m:=Sem) fun
     | .tmp t=>pure (a.tmps.getD t undef)
     | .cell x t=>do loadVar t (← asAddr (a.tmps.getD x undef))).run P w=.ok us w->(results fn a.tmps).run P w=.ok (if h:us.toArray.size=1 then us.toArray[0] else .tuple us.toArray) w:=by
  intro vs us _ hus
  unfold results
  simp only[Sem.run_bind,Array.mapM_eq_mapM_toList,Sem.run_map]
  erw[hus]
  rfl
 unfold rB at hres
 split at hres
 .rename_i v1 hl
  cases hres
  obtain⟨us,g1,g2⟩:=wW h1 h2 _ _ hl
  have g0:=arr _ _ hl g1
  obtain⟨u,us',rfl,g3,g4⟩:=g2.cons_inv
  obtain rfl:us'=[]:=List.eq_nil_of_length_eq_zero g4.1
  exact⟨u,g0,g3⟩
 .rename_i vs hne1 hl
  cases hres
  obtain⟨us,g1,g2⟩:=wW h1 h2 _ _ hl
  have g0:=arr _ _ hl g1
  have hlen:¬ us.toArray.size=1:=by
   rw[List.size_toArray,g2.1];intro hc;obtain⟨x,hx⟩:=List.length_eq_one_iff.1 hc;exact hne1 x (by rw[hx])
  rw[dif_neg hlen]at g0
  exact⟨_,g0,.tuple _ _ (by simp[g2.1]) (fun i x y hx hy=>g2.2 i x y (by simpa using hx) (by simpa using hy))⟩
 .cases hres
theorem FS.grow{V:Ren}{n m:Nat}{l:List (Nat × Value)}{args:Array Value}(h:FS V n (frm l) { tmps:=args,defers:=[] })(hnm:n<=m)(hm:m<=2 ^ 12)(hk:(l.all fun p=>Nat.blt p.1 n)=true) :
    FS V m (frm l) { tmps:=args++Array.replicate (m-args.size) undef,defers:=[] }:=by
 have hsz:args.size=n:=h.size
 refine⟨by simp[hsz];omega,hm,fun t u hu=>?_,rfl⟩
 have hlt:∀ p∈l,p.1<n:=fun p hp=>Nat.le_of_ble_eq_true (List.all_eq_true.1 hk p hp)
 have ht:t<m:=by
  rcases Nat.lt_or_ge t m with h|h
  .exact h
  .rw[Array.getElem?_eq_none (by simp[hsz];omega)]at hu;cases hu
 rcases Nat.lt_or_ge t n with htn|htn
 .have:=h.slot t u (by rw[Array.getElem?_append_left (by omega)]at hu;exact hu)
  unfold yW at this ⊢
  rw[if_pos htn]at this
  rw[if_pos ht]
  exact this
 .left
  unfold yW
  rw[if_pos ht]
  show VR V (match (frm l).get DF t with
   |some v=>v
   |none=>.tuple #[]) u
  rw[A1 hm l t ht (fun p hp=>by have:=hlt p hp;omega)]
  cases hf:l.find? (fun p=>Nat.beq p.1 t) with
  |none=>exact .any u
  |some p =>
   exfalso
   have h1:=List.find?_some hf
   have h2:=hlt p (List.mem_of_find?_eq_some hf)
   have:p.1=t:=Nat.eq_of_beq_eq_true h1
   omega
theorem yC{E:Env}{w0:W0}{G:Goal}{Q:Exit->Act->World->Prop}{k:Nat}{c:Code}{A:List Value}{F:Tr Value}{H:AS}{V:Ren}{a:Act}{w:World}
    (hN:vJ E.P) (hC:xH E.P (E.gl []) E.call) (hm:E.P.follows .mixedOrders=true) (hh:(tre E k c [] A F H).Holds G V) (hg:wV E.g V) (hH:HR w0 V H w) (hA:Facts V A) (hF:FS V E.n F a)
    (hJ:∀ (j:Nat) (e:AExit) (tp:Tpl) (V1:Ren) (a:Act) (w:World),E.ft e=some (j,tp)->HR w0 V1 tp.heap w->FS V1 E.n tp.frame a->G.J j V1->Q e.conc a w)
    (hW:∀ (r:Nat) (s:LSpec) (c:Code),E.lt r=some s\/E.bt r=some s->G.W s.j c->tW E w0 G s c)
    (hO:∀ j i V1 V2,G.O j i V1 V2->wV E.g V2)
    (hO2:∀ (r:Nat) (s:LSpec),E.lt r=some s\/E.bt r=some s->∀ (i:Nat) (e:AExit) (tp:Tpl) (B:List Value),s.outs[i]?=some (e,tp,B)->∀ (V1 V2:Ren),G.O s.j i V1 V2->Facts V2 B)
    (hCT:∀ f s,E.ct f=some s->yT E.P G f s) (h2:∀ e,E.ft2 e=none:=by intro e;rfl):c.wp E.P Q a w :=
 (pP hN hC hm (fun j e tp V1 a w h=>hJ j e tp V1 a w (h.resolve_right fun h=>by rw[h2]at h;cases h)) hW hO hO2 hCT k).1 c [] A F H V [] a w hh hg (by rw[List.append_nil];exact hH) (by rw[List.append_nil];exact hA) (by rw[List.append_nil];exact hF)
theorem zU{E:Env}{Gt:Ren->Goal}{G:Goal}{f:FuncId}{fn:Func}{c:Code}{s:CSpec}
    (hN:vJ E.P) (hC:xH E.P (E.gl []) E.call) (hm:E.P.follows .mixedOrders=true) (hf:E.P.funcs[f]?=some fn) (hb:fn.body=some c)
    (hn:E.n=fn.ntmps) (hn1:Nat.ble s.n E.n=true) (hn2:Nat.ble E.n 4096=true) (hk:(s.tin.F.all fun p=>Nat.blt p.1 s.n)=true)
    (hft:∀ e j tp,(E.ft e=some (j,tp)\/E.ft2 e=some (j,tp))->(∀ id,e≠.exit id)/\∃ v,rB E.P fn fn.ntmps tp.frame tp.heap=some v/\∃ sm,s.outs[j]?=some (v,tp,sm))
    (hall:∀ V,G.CL s.j V->V.length=s.tin.m->zF V (rgs s.n s.tin)->wV E.g V/\∃ (A:List Value) (k:Nat),Facts V A/\(tre E k c [] A s.tin.frame s.tin.heap).Holds (Gt V) V)
    (hJ:∀ V j v tp sm V1,G.CL s.j V->s.outs[j]?=some (v,tp,sm)->V1.length=tp.m->zF V1 (rgs E.n tp)->(Gt V).J j V1->G.CO s.j j V V1/\∀ p∈sm,SmK V V1 p)
    (hW:∀ (V:Ren) (w0:W0) (r:Nat) (s:LSpec) (c:Code),E.lt r=some s\/E.bt r=some s->(Gt V).W s.j c->tW E w0 (Gt V) s c)
    (hO:∀ V j i V1 V2,(Gt V).O j i V1 V2->wV E.g V2)
    (hO2:∀ (V:Ren) (r:Nat) (s:LSpec),E.lt r=some s\/E.bt r=some s->∀ (i:Nat) (e:AExit) (tp:Tpl) (B:List Value),s.outs[i]?=some (e,tp,B)->∀ (V1 V2:Ren),(Gt V).O s.j i V1 V2->Facts V2 B)
    (hCT:∀ V f s,E.ct f=some s->yT E.P (Gt V) f s):yT E.P G f s:=by
 intro w0 V args w hH hF hcl
 have hn2':E.n<=2 ^ 12:=Nat.le_of_ble_eq_true hn2
 have hn1':s.n<=E.n:=Nat.le_of_ble_eq_true hn1
 have hlen:V.length=s.tin.m:=by rw[hH.len];exact zK _ _
 obtain⟨hg,A,k,hA,hh⟩:=hall V hcl hlen (yS hH hF)
 refine calls_of_wp hf hb ?_
 have hF':FS V E.n (frm s.tin.F) { tmps:=args++Array.replicate (E.n-args.size) undef,defers:=[] }:=FS.grow hF hn1' hn2' hk
 rw[hn]at hF'
 have key:=(pP (E:=E) (w0:=w0) (G:=Gt V) (Q:=bodyPost E.P fn fun e w'=>∃ (i:Nat) (v:Value) (tp:Tpl) (sm:List (Nat × Nat)) (V2:Ren) (u:Value),s.outs[i]?=some (v,tp,sm)/\e=.returned u/\HR w0 V2 tp.heap w'/\VR V2 v u/\G.CO s.j i V V2/\∀ p∈sm,SmK V V2 p) hN hC hm ?_ (fun r s c h1 h2=>hW V w0 r s c h1 h2) (fun j i V1 V2 h=>hO V j i V1 V2 h) (fun r s h i e tp B h1 V1 V2 h2=>hO2 V r s h i e tp B h1 V1 V2 h2) (fun f s h=>hCT V f s h) k).1 c [] A s.tin.frame s.tin.heap V [] _ w hh hg (by rw[List.append_nil];exact hH) (by rw[List.append_nil];exact hA) (by rw[List.append_nil,hn];exact hF')
 .exact key
 .intro j e tp V1 a w' hft' h1 h2 h3
  obtain⟨hne,v,hres,sm,hout⟩:=hft e j tp hft'
  obtain⟨hco,hsm⟩:=hJ V j v tp sm V1 hcl hout (by rw[h1.len];exact zK _ _) (yS h1 h2) h3
  rw[hn]at h2
  obtain⟨u,hu1,hu2⟩:=J5 h1 h2 hres
  have fin:∃ v_1,(results fn a.tmps).run E.P w'=.ok v_1 w'/\∃ (i:Nat) (v:Value) (tp:Tpl) (sm:List (Nat × Nat)) (V2:Ren) (u:Value),s.outs[i]?=some (v,tp,sm)/\Ending.returned v_1=.returned u/\HR w0 V2 tp.heap w'/\VR V2 v u/\G.CO s.j i V V2/\∀ p∈sm,SmK V V2 p :=
   ⟨u,hu1,j,v,tp,sm,V1,u,hout,rfl,h1,hu2,hco,hsm⟩
  cases e with
  |normal=>exact⟨h2.nodef,fin⟩
  |ret=>exact⟨h2.nodef,fin⟩
  |exit id=>exact (hne id rfl).elim
end
end Go.SM
open Go Go.SM Go.Proofs
namespace U
def aSD:List (Nat × Value):=[(11,.func (.func 47) #[] #[]),(13,sL 16 (Z 0) (x 18) (x 72)),(14,I 19 0 2000000),(15,sB (x 11)),(20,sL 2 (Z 0) (x 6) (Z 512)),(21,I 7 0 512),(45,.chan none)]
def HPR:List (Nat × Blk):=[(0,{ cells:=rX aSD,elem:=76,ro:=false,live:=true }),
 (2,{ cells:=[],elem:=5,ro:=false,live:=true,seq:=some (x 4) }),(16,{ cells:=[],elem:=5,ro:=true,live:=true,seq:=some (x 17) }),(73,{ cells:=[.iface 89 (.pointer (some ⟨74,0,none⟩))],elem:=86,ro:=true,live:=true })]
def tR:Tpl:={ m:=90,F:=[(0,.pointer (some ⟨0,0,none⟩))],H:=HPR,G:=[73] }
def tRo:Tpl:={ m:=90,F:=[(0,.pointer (some ⟨0,0,none⟩)),(2,.bool true)],H:=HPR,G:=[73] }
def opR:List Nat:=(List.range 52).filterMap fun i=>if [11,13,14,15,20,21,45].contains i then none else some (20+i)
def spR:CSpec:={ j:=49,n:=1,tin:=tR,outs:=[(.bool true,tRo,[(0,0),(2,0),(16,0),(73,0),(74,0),(17,2),(18,1),(72,1)]++opR.map fun i=>(i,4))] }
def ftR:AExit->Option (Nat × Tpl):=fun e=>match e with
 | .normal=>some (0,tRo)
 | .ret=>some (0,tRo)
 |_=>none
def EF(f:Nat)(ct:FuncId->Option CSpec)(rc:Nat->Bool)(bt lt:Nat->Option LSpec)(ft:AExit->Option (Nat × Tpl)):Env:={ P:=Tryd.prog,pu:=pu0,g:=g0,call:=abA,n:=ntmps f,lt:=lt,bt:=bt,ft:=ft,orc:=oY Tryd.prog pu0 g0 abA (ntmps f),ct:=ct,rc:=rc }
def ER:Env:=EF 49 (fun _=>none) (fun _=>false) (fun _=>none) (fun _=>none) ftR
def eB(A:List TB):Tre:=tre ER 2000 (body 49) [] (A.map TB.enc) tR.frame tR.heap
def s67:TI:=.op .sub (.var 6) (.var 7)
def fS1:List TB:=[.eq (.var 7) (.lit 0),.not (.eq (.var 6) (.lit 512)),.not (.lt (.lit 0) (.var 7)),.not (.var 11),.lt s67 (.lit 512)]
def fS2:List TB:=[.not (.eq (.var 7) (.lit 0)),.lt (.lit 0) (.var 7),.lt (.var 7) (.var 6),.not (.lt (.var 6) (.var 7)),.lt (.var 7) (.lit 512),.not (.lt (.var 6) s67),.not (.var 11),.lt s67 (.lit 512)]
def fS3:List TB:=[.not (.eq (.var 7) (.lit 0)),.lt (.lit 0) (.var 7),.not (.lt (.var 7) (.var 6)),.not (.var 11),.lt s67 (.lit 512)]
def fEa:List TB:=[.eq (.var 19) (.var 18)]
def fEb:List TB:=[.not (.eq (.var 19) (.var 18)),.lt (.var 19) (.var 72)]
def fFu:List TB:=[.eq (.var 7) (.lit 0),.eq (.var 6) (.lit 512)]
def fEo:List TB:=[.var 11]
structure PR(V:Ren):Prop where
 n:Ln V
 raw:(gL V 4).length=512
 le:gI V 7<=gI V 6
 inp:gI V 19<=gI V 18
 inl:gI V 18<=(gL V 17).length
 inb:gI V 18<=2000000
 eo:gB V 11=true->gI V 19=gI V 18
structure RR(V:Ren):Prop where
 i18:0<=gI V 18/\gI V 18<=gI V 72
 i19:0<=gI V 19/\gI V 19<=2000000
 i6:0<=gI V 6/\gI V 6<=512
 i7:0<=gI V 7/\gI V 7<=512
def apO(i:Nat)(a b:Int):List TB:=[.le (.lit a) (.var i),.le (.var i) (.lit b)]
theorem aTG:rgs 1 tR=[.le (.lit 0) (.lit 0),.le (.lit 0) (.var 18),.le (.var 18) (.var 72)]++(apO 19 0 2000000++([.le (.lit 0) (.lit 0),.le (.lit 0) (.var 6),.le (.var 6) (.lit 512)]++apO 7 0 512)):=by kernel_rfl
theorem aT4{V:Ren}(h:zF V (rgs 1 tR)):RR V:=by
 rw[aTG]at h;simp only[apO,List.cons_append,List.nil_append,zF,TB.P,xW,xT]at h;obtain⟨_,a1,a2,a3,a4,_,a5,a6,a7,a8,_⟩:=h;exact⟨⟨a1,a2⟩,⟨a3,a4⟩,⟨a5,a6⟩,⟨a7,a8⟩⟩
def zY(V:Ren):List UInt8:=((gL V 4).take (gI V 6).toNat).drop (gI V 7).toNat
def uJ(V:Ren):List UInt8:=((gL V 17).take (gI V 18).toNat).drop (gI V 19).toNat
def zH(V:Ren):List UInt8:=zY V++uJ V
structure SR9(V V1:Ren):Prop where
 h0:V1[0]?=V[0]?
 h2:V1[2]?=V[2]?
 h16:V1[16]?=V[16]?
 h73:V1[73]?=V[73]?
 h74:V1[74]?=V[74]?
 l17:gL V1 17=gL V 17
 i18:gI V1 18=gI V 18
 i72:gI V1 72=gI V 72
 op:∀ i∈opR,gV V1 i=gV V i
structure QR(V V1:Ren):Prop extends SR9 V V1 where
 raw:(gL V1 4).length=512
 b6:0<=gI V1 7/\gI V1 7<=gI V1 6/\gI V1 6<=512
 b19:gI V 19<=gI V1 19/\gI V1 19<=gI V 18
 rest:zH V1=zH V
 pr:(gL V1 4=gL V 4/\gI V1 7=gI V 7/\gI V1 6=gI V 6/\gI V1 19=gI V 19/\gB V1 11=gB V 11/\(gB V 11=true\/(gI V 7=0/\gI V 6=512))) \/
  (gB V 11=false/\gI V1 7=0/\gI V1 6-(gI V 6-gI V 7)=gI V1 19-gI V 19/\((gB V1 11=true/\gI V 19=gI V 18)\/(gB V1 11=false/\gI V 19<gI V1 19/\(gI V1 6=512\/gI V1 19=gI V 18))))
theorem cN{V V1:Ren}(p:PR V)(r:RR V)(s:SR9 V V1)(h4:gL V1 4=gL V 4)(h7:gI V1 7=gI V 7)(h6:gI V1 6=gI V 6)(h19:gI V1 19=gI V 19)(h11:gB V1 11=gB V 11)(hc:gB V 11=true\/(gI V 7=0/\gI V 6=512)):QR V V1:=by
 have:=r.i6;have:=r.i7;have:=p.le;have:=p.inp;exact⟨s,by rw[h4];exact p.raw,by omega,by omega,by unfold zH zY uJ;rw[h4,h7,h6,s.l17,s.i18,h19],.inl ⟨h4,h7,h6,h19,h11,hc⟩⟩
theorem aNJ{V V1:Ren}{K:List UInt8}(p:PR V)(r:RR V)(s:SR9 V V1)(h4:gL V1 4=K)(hK:K.take (gI V 6-gI V 7).toNat=zY V)(hKl:K.length=512)(h7:gI V1 7=0)(h6:gI V1 6=gI V 6-gI V 7)(h19:gI V1 19=gI V 19)(h11:gB V1 11=true)(hf:gB V 11=false)(he:gI V 19=gI V 18):QR V V1:=by
 have:=r.i6;have:=r.i7;have:=p.le;have:=p.inp;refine⟨s,by rw[h4];exact hKl,by omega,by omega,?_,.inr ⟨hf,h7,by omega,.inl ⟨h11,he⟩⟩⟩;unfold zH;have e1:uJ V1=uJ V:=by unfold uJ;rw[s.l17,s.i18,h19]
 rw[e1,<-hK];unfold zY;rw[h4,h7,h6];rfl
theorem zC{l m:List UInt8}{i:Nat}(h:i+m.length<=l.length):(putAt l i m).length=l.length:=by
 unfold putAt;simp;omega
theorem oS{l m:List UInt8}{i:Nat}(h:i+m.length<=l.length):(putAt l i m).take (i+m.length)=l.take i++m:=by
 unfold putAt;rw[List.take_append_of_le_length (by simp;omega),List.take_of_length_le (by simp;omega)]
theorem ajB{V V1:Ren}{K M:List UInt8}{m:Int}(p:PR V)(r:RR V)(s:SR9 V V1)(h4:gL V1 4=putAt K (gI V 6-gI V 7).toNat M)(hK:K.take (gI V 6-gI V 7).toNat=zY V)(hKl:K.length=512)
    (hm:(M.length:Int)=m) (hM:M++((gL V 17).take (gI V 18).toNat).drop (gI V 19+m).toNat=uJ V) (h7:gI V1 7=0) (h6:gI V1 6=gI V 6-gI V 7+m) (h19:gI V1 19=gI V 19+m) (h11:gB V1 11=gB V 11) (hf:gB V 11=false)
    (h0:0<m) (hr:gI V 6-gI V 7+m<=512) (hi:gI V 19+m<=gI V 18) (hl:gI V1 6=512\/gI V1 19=gI V 18):QR V V1:=by
 have:=r.i6;have:=r.i7;have:=p.le;have:=p.inp
 have hle:(gI V 6-gI V 7).toNat+M.length<=K.length:=by omega
 refine⟨s,by rw[h4,zC hle];exact hKl,by omega,by omega,?_,.inr ⟨hf,h7,by omega,.inr ⟨by rw[h11];exact hf,by omega,hl⟩⟩⟩
 have e1:zY V1=zY V++M:=by
  unfold zY;rw[h4,h7,h6,show (gI V 6-gI V 7+m).toNat=(gI V 6-gI V 7).toNat+M.length from by omega,oS hle,hK];rfl
 have e2:uJ V1=((gL V 17).take (gI V 18).toNat).drop (gI V 19+m).toNat:=by unfold uJ;rw[s.l17,s.i18,h19]
 unfold zH
 rw[e1,e2,List.append_assoc,hM]
theorem kS1{V:Ren}(h:gI V 7=0):(gL V 4).take (gI V 6-gI V 7).toNat=zY V:=by
 unfold zY;rw[h];simp
theorem kS3{V:Ren}(r:RR V)(h:¬ gI V 7<gI V 6):(gL V 4).take (gI V 6-gI V 7).toNat=zY V:=by
 have:=r.i6;have:=r.i7;unfold zY;rw[show (gI V 6-gI V 7).toNat=0 from by omega,List.take_zero,List.drop_eq_nil_of_le (by rw[List.length_take];omega)]
theorem zG{V:Ren}(p:PR V)(r:RR V):(zY V).length=(gI V 6-gI V 7).toNat:=by
 have:=r.i6;have:=r.i7;have:=p.raw;unfold zY;rw[List.length_drop,List.length_take];omega
theorem kS2{V:Ren}(p:PR V)(r:RR V):(putAt (gL V 4) 0 (zY V)).take (gI V 6-gI V 7).toNat=zY V/\(putAt (gL V 4) 0 (zY V)).length=512:=by
 have h:=zG p r;have:=r.i6;have:=r.i7;have:=p.raw;have hle:0+(zY V).length<=(gL V 4).length:=by omega
 refine⟨?_,by rw[zC hle];exact p.raw⟩;have:=oS hle;rw[Nat.zero_add,h,List.take_zero,List.nil_append]at this;exact this
theorem mB2{V:Ren}(p:PR V)(r:RR V):((uJ V).length:Int)=gI V 18-gI V 19/\uJ V++((gL V 17).take (gI V 18).toNat).drop (gI V 19+(gI V 18-gI V 19)).toNat=uJ V:=by
 have:=r.i18;have:=r.i19;have:=p.inp;have:=p.inl;constructor
 .unfold uJ;rw[List.length_drop,List.length_take];omega
 .rw[List.drop_eq_nil_of_le (by rw[List.length_take];omega),List.append_nil]
theorem mB1{V:Ren}{m:Int}(p:PR V)(r:RR V)(h0:0<=m)(h:m<=gI V 18-gI V 19):(((((uJ V).take m.toNat).drop 0).length:Nat):Int)=m/\((uJ V).take m.toNat).drop 0++((gL V 17).take (gI V 18).toNat).drop (gI V 19+m).toNat=uJ V:=by
 have:=r.i18;have:=r.i19;have:=p.inp;have:=p.inl;have hl:((uJ V).length:Int)=gI V 18-gI V 19:=(mB2 p r).1;constructor
 .rw[List.drop_zero,List.length_take];omega
 .rw[List.drop_zero];have:((gL V 17).take (gI V 18).toNat).drop (gI V 19+m).toNat=(uJ V).drop m.toNat:=by
   unfold uJ;rw[List.drop_drop];congr 1;omega
  rw[this,List.take_append_drop]
def GR9(V:Ren):Goal where
 J:=fun _ V1=>QR V V1
 L:=fun _ _=>False
 O:=fun _ _ _ _=>False
 W:=fun _ _=>False
abbrev aOC:List TB:=[(.not (.var 11)),(.lt (v 6-v 7) 512),(.eq (v 19) (v 18))]
abbrev aW2:=.eq (v 7) 0::nq (v 6) 512::nl 0 (v 7)::aOC
abbrev aTR:=nl (v 6-v 7) 0::aW2
abbrev aN1:SgT:=im 72::im 18::bm 16::(ids ([32]++dn 30 11)++[bm 0,bm 73])
abbrev aW1:SgT:=im 19::aN1
abbrev aYA:SgT:=(ids (dn 71 6++dn 64 23)++(ik 7 0::(6,.itm (v 6-v 7))::bm 2::(ids (dn 39 4)++((11,.btm (.lit true))::aW1))))
abbrev aQ4:SgT:=bm 74::lm 17::lm 4::aYA
def aH:Tre:=(nd 90 aW2 ((nl (v 6-v 7) 0))
 (nd 90 aTR ((nl 1125899906842624 (v 6-v 7)))
 (lf 0 90 90 (rgs ER.n tRo) aQ4 ((nl 1125899906842624 (v 6-v 7))::aTR))))
theorem acP:eB (fS1++fEa)=aH:=by kernel_rfl
abbrev aQU:List TB:=[(.not (.var 11)),(.lt (v 6-v 7) 512),(nq (v 19) (v 18)),(.lt (v 19) (v 72))]
abbrev aQZ:=.eq (v 7) 0::nq (v 6) 512::nl 0 (v 7)::aQU
abbrev aWH:=nl (v 6-v 7) 0::aQZ
abbrev aQX:=nl 1125899906842624 (v 6-v 7)::aWH
abbrev aU2:=nl (v 19) 0::aQX
abbrev aVN:=nl (v 18) (v 19)::aU2
abbrev aYZ:=nl (v 72) (v 18)::aVN
abbrev aCS:=nl 1125899906842624 (v 18)::aYZ
abbrev aDH:=nl (lb 17) (v 18)::aCS
abbrev aL4:=nl (lb 4) 512::aDH
abbrev aAO:=.lt (512-(v 6-v 7)) (v 18-v 19)::aL4
abbrev aLM:=nl (512-(v 6-v 7)) (v 18-v 19)::aL4
abbrev aD4:=nl (lb 4) (v 6-v 7+(v 18-v 19))::aLM
abbrev aAE:=nl (v 6-v 7+(v 18-v 19)) 0::aD4
abbrev aFB:=nl 512 (v 6-v 7+(v 18-v 19))::aAE
abbrev aJ8:=nl 1125899906842624 (v 6-v 7+(v 18-v 19))::aFB
abbrev aTH:SgT:=(ids (dn 71 6++dn 64 23)++(ik 7 0::ik 6 512::bm 2::(ids (dn 39 4)++((11,.btm (.var 11))::(19,.itm (v 19+(512-(v 6-v 7))))::aN1))))
abbrev aRE:SgT:=bm 74::lm 17::(4,.ltm (.put (.var 4) (v 6-v 7) (.sub (.sub (.var 17) (v 19) (v 18)) 0 (512-(v 6-v 7)))))::aTH
abbrev aXY:SgT:=(ids (dn 71 6++dn 64 23)++(ik 7 0::(6,.itm (v 6-v 7+(v 18-v 19)))::bm 2::(ids (dn 39 4)++((11,.btm (.var 11))::ij 19 18::aN1))))
abbrev aVC:SgT:=bm 74::lm 17::(4,.ltm (.put (.var 4) (v 6-v 7) (.sub (.var 17) (v 19) (v 18))))::aXY
def aR:Tre:=(nd 90 aQZ ((nl (v 6-v 7) 0))
 (nd 90 aWH ((nl 1125899906842624 (v 6-v 7)))
 (nd 90 aQX ((nl (v 19) 0))
 (nd 90 aU2 ((nl (v 18) (v 19)))
 (nd 90 aVN ((nl (v 72) (v 18)))
 (nd 90 aYZ ((nl 1125899906842624 (v 18)))
 (nd 90 aCS ((nl (lb 17) (v 18)))
 (nd 90 aDH ((nl (lb 4) 512))
 (.fork (nd 90 aAO ((nl 2000000 (v 19+(512-(v 6-v 7)))))
 (lf 0 90 90 (rgs ER.n tRo) aRE ((nl 2000000 (v 19+(512-(v 6-v 7))))::aAO)))
 (nd 90 aLM ((nl (lb 4) (v 6-v 7+(v 18-v 19))))
 (nd 90 aD4 ((nl (v 6-v 7+(v 18-v 19)) 0))
 (nd 90 aAE ((nl 512 (v 6-v 7+(v 18-v 19))))
 (nd 90 aFB ((nl 1125899906842624 (v 6-v 7+(v 18-v 19))))
 (nd 90 aJ8 ((nl 2000000 (v 18)))
 (lf 0 90 90 (rgs ER.n tRo) aVC ((nl 2000000 (v 18))::aJ8))))))))))))))))
theorem aeO:eB (fS1++fEb)=aR:=by kernel_rfl
abbrev aLE:=nq (v 7) 0::.lt 0 (v 7)::.lt (v 7) (v 6)::nl (v 6) (v 7)::.lt (v 7) 512::nl (v 6) (v 6-v 7)::aOC
abbrev aK5:=nl 512 (v 6)::aLE
abbrev aGR:=nl 1125899906842624 (v 6)::aK5
abbrev aFA:=nl (lb 4) (v 6)::aGR
abbrev aMK:=nl (lb 4) (v 6-v 7)::aFA
abbrev aDO:=nl (v 6-v 7) 0::aMK
def aF:Tre:=(nd 90 aLE ((nl 512 (v 6)))
 (nd 90 aK5 ((nl 1125899906842624 (v 6)))
 (nd 90 aGR ((nl (lb 4) (v 6)))
 (nd 90 aFA ((nl (lb 4) (v 6-v 7)))
 (nd 90 aMK ((nl (v 6-v 7) 0))
 (nd 90 aDO ((nl 1125899906842624 (v 6-v 7)))
 (lf 0 90 90 (rgs ER.n tRo) (bm 74::lm 17::(4,.ltm (.put (.var 4) 0 (.sub (.var 4) (v 7) (v 6))))::aYA) ((nl 1125899906842624 (v 6-v 7))::aDO))))))))
theorem ac2:eB (fS2++fEa)=aF:=by kernel_rfl
abbrev ax0:=nq (v 7) 0::.lt 0 (v 7)::.lt (v 7) (v 6)::nl (v 6) (v 7)::.lt (v 7) 512::nl (v 6) (v 6-v 7)::aQU
abbrev aAA:=nl 512 (v 6)::ax0
abbrev ay7:=nl 1125899906842624 (v 6)::aAA
abbrev aCL:=nl (lb 4) (v 6)::ay7
abbrev aM0:=nl (lb 4) (v 6-v 7)::aCL
abbrev aBY:=nl (v 6-v 7) 0::aM0
abbrev aIN:=nl 1125899906842624 (v 6-v 7)::aBY
abbrev aMW:=nl (v 19) 0::aIN
abbrev azM:=nl (v 18) (v 19)::aMW
abbrev aH6:=nl (v 72) (v 18)::azM
abbrev aM5:=nl 1125899906842624 (v 18)::aH6
abbrev aAZ:=nl (lb 17) (v 18)::aM5
abbrev aEY:=nl (.len (.put (.var 4) 0 (.sub (.var 4) (v 7) (v 6)))) 512::aAZ
abbrev axN:=.lt (512-(v 6-v 7)) (v 18-v 19)::aEY
abbrev aJE:=nl (512-(v 6-v 7)) (v 18-v 19)::aEY
abbrev aKD:=nl (.len (.put (.var 4) 0 (.sub (.var 4) (v 7) (v 6)))) (v 6-v 7+(v 18-v 19))::aJE
abbrev axS:=nl (v 6-v 7+(v 18-v 19)) 0::aKD
abbrev aIP:=nl 512 (v 6-v 7+(v 18-v 19))::axS
abbrev aAP:=nl 1125899906842624 (v 6-v 7+(v 18-v 19))::aIP
def L9:Tre:=(nd 90 ax0 ((nl 512 (v 6)))
 (nd 90 aAA ((nl 1125899906842624 (v 6)))
 (nd 90 ay7 ((nl (lb 4) (v 6)))
 (nd 90 aCL ((nl (lb 4) (v 6-v 7)))
 (nd 90 aM0 ((nl (v 6-v 7) 0))
 (nd 90 aBY ((nl 1125899906842624 (v 6-v 7)))
 (nd 90 aIN ((nl (v 19) 0))
 (nd 90 aMW ((nl (v 18) (v 19)))
 (nd 90 azM ((nl (v 72) (v 18)))
 (nd 90 aH6 ((nl 1125899906842624 (v 18)))
 (nd 90 aM5 ((nl (lb 17) (v 18)))
 (nd 90 aAZ ((nl (.len (.put (.var 4) 0 (.sub (.var 4) (v 7) (v 6)))) 512))
 (.fork (nd 90 axN ((nl 2000000 (v 19+(512-(v 6-v 7)))))
 (lf 0 90 90 (rgs ER.n tRo) (bm 74::lm 17::(4,.ltm (.put (.put (.var 4) 0 (.sub (.var 4) (v 7) (v 6))) (v 6-v 7) (.sub (.sub (.var 17) (v 19) (v 18)) 0 (512-(v 6-v 7)))))::aTH) ((nl 2000000 (v 19+(512-(v 6-v 7))))::axN)))
 (nd 90 aJE ((nl (.len (.put (.var 4) 0 (.sub (.var 4) (v 7) (v 6)))) (v 6-v 7+(v 18-v 19))))
 (nd 90 aKD ((nl (v 6-v 7+(v 18-v 19)) 0))
 (nd 90 axS ((nl 512 (v 6-v 7+(v 18-v 19))))
 (nd 90 aIP ((nl 1125899906842624 (v 6-v 7+(v 18-v 19))))
 (nd 90 aAP ((nl 2000000 (v 18)))
 (lf 0 90 90 (rgs ER.n tRo) (bm 74::lm 17::(4,.ltm (.put (.put (.var 4) 0 (.sub (.var 4) (v 7) (v 6))) (v 6-v 7) (.sub (.var 17) (v 19) (v 18))))::aXY) ((nl 2000000 (v 18))::aAP))))))))))))))))))))
theorem acG:eB (fS2++fEb)=L9:=by kernel_rfl
abbrev aLA:=nq (v 7) 0::.lt 0 (v 7)::nl (v 7) (v 6)::aOC
abbrev aC9:=nl (v 6-v 7) 0::aLA
def aY:Tre:=(nd 90 aLA ((nl (v 6-v 7) 0))
 (nd 90 aC9 ((nl 1125899906842624 (v 6-v 7)))
 (lf 0 90 90 (rgs ER.n tRo) aQ4 ((nl 1125899906842624 (v 6-v 7))::aC9))))
theorem ab9:eB (fS3++fEa)=aY:=by kernel_rfl
abbrev aM9:=nq (v 7) 0::.lt 0 (v 7)::nl (v 7) (v 6)::aQU
abbrev aMR:=nl (v 6-v 7) 0::aM9
abbrev aIL:=nl 1125899906842624 (v 6-v 7)::aMR
abbrev aID:=nl (v 19) 0::aIL
abbrev aGO:=nl (v 18) (v 19)::aID
abbrev aLF:=nl (v 72) (v 18)::aGO
abbrev aIW:=nl 1125899906842624 (v 18)::aLF
abbrev aBJ:=nl (lb 17) (v 18)::aIW
abbrev aB1:=nl (lb 4) 512::aBJ
abbrev azL:=.lt (512-(v 6-v 7)) (v 18-v 19)::aB1
abbrev aB9:=nl (512-(v 6-v 7)) (v 18-v 19)::aB1
abbrev aCG:=nl (lb 4) (v 6-v 7+(v 18-v 19))::aB9
abbrev aC6:=nl (v 6-v 7+(v 18-v 19)) 0::aCG
abbrev aCZ:=nl 512 (v 6-v 7+(v 18-v 19))::aC6
abbrev aLL:=nl 1125899906842624 (v 6-v 7+(v 18-v 19))::aCZ
def cH:Tre:=(nd 90 aM9 ((nl (v 6-v 7) 0))
 (nd 90 aMR ((nl 1125899906842624 (v 6-v 7)))
 (nd 90 aIL ((nl (v 19) 0))
 (nd 90 aID ((nl (v 18) (v 19)))
 (nd 90 aGO ((nl (v 72) (v 18)))
 (nd 90 aLF ((nl 1125899906842624 (v 18)))
 (nd 90 aIW ((nl (lb 17) (v 18)))
 (nd 90 aBJ ((nl (lb 4) 512))
 (.fork (nd 90 azL ((nl 2000000 (v 19+(512-(v 6-v 7)))))
 (lf 0 90 90 (rgs ER.n tRo) aRE ((nl 2000000 (v 19+(512-(v 6-v 7))))::azL)))
 (nd 90 aB9 ((nl (lb 4) (v 6-v 7+(v 18-v 19))))
 (nd 90 aCG ((nl (v 6-v 7+(v 18-v 19)) 0))
 (nd 90 aC6 ((nl 512 (v 6-v 7+(v 18-v 19))))
 (nd 90 aCZ ((nl 1125899906842624 (v 6-v 7+(v 18-v 19))))
 (nd 90 aLL ((nl 2000000 (v 18)))
 (lf 0 90 90 (rgs ER.n tRo) aVC ((nl 2000000 (v 18))::aLL))))))))))))))))
theorem adJ:eB (fS3++fEb)=cH:=by kernel_rfl
abbrev aOK:SgT:=bm 74::lm 17::lm 4::(ids (dn 71 6++dn 64 23)++(im 7::im 6::bm 2::(ids (dn 39 4)++((11,.btm (.var 11))::aW1))))
def bO:Tre:=(lf 0 90 90 (rgs ER.n tRo) aOK [(.eq (v 7) 0),(.eq (v 6) 512)])
theorem acF:eB (fFu)=bO:=by kernel_rfl
def N3:Tre:=(.fork (lf 0 90 90 (rgs ER.n tRo) aOK [(.eq (v 7) 0),(.eq (v 6) 512),(.var 11)])
 (lf 0 90 90 (rgs ER.n tRo) aOK [(.not (.and (.eq (v 7) 0) (.eq (v 6) 512))),(.var 11)]))
theorem ac0:eB (fEo)=N3:=by kernel_rfl
end U
