-- the statement of this claim: see YtoamgocecoiggaaDoorRs
import Derived.Test.YtoamgocecoiggaaDoorM40
set_option linter.unusedVariables false
set_option linter.unusedSimpArgs false
set_option maxRecDepth 100000
noncomputable section
open Go Go.SM Go.Proofs Go.RowKit
namespace U
def qE(w0:W0)(w:World)(V:Ren)(B:Nat)(b:Blk):Prop:=∃ (c s:Nat) (C:Array Value) (fr:Nat × Nat),hm V B=some (c,s)/\HC w c C b fr/\(∀ h,V[B]?=some h->h.top=C.size) /\
    b.cells.length+s<=C.size/\(b.ro=false->∀ i,i<C.size->¬ (fr.1<=i/\i<fr.2))/\(∀ i v,b.cells[i]?=some v->∃ u,C[i+s]?=some u/\VR V v u)/\((b.ro=false->¬ w0.keep c)/\xR V b C s)
def hmS(b off top n cap b2 off2 top2 m cap2 c0 be oe:Nat)(bs:List UInt8)(zs:List Int):Nat->Hm:=fun i =>
 if i=84 then { b:=b2,s:=off2,top:=top2 } else if i=85 then { b:=0,s:=0,top:=0,v:=.tuple (nv zs).toArray } else if i=86 then { b:=0,s:=0,top:=0,v:=.int .i64 m }
 else if i=87 then { b:=0,s:=0,top:=0,v:=.int .i64 cap2 } else hmF b off top n cap c0 be oe bs i
theorem lX{C:Array Value}{off n:Nat}{L:List Value}(hL:L.length=n)(h:∀ i,i<n->C[off+i]?=L[i]?):C.toList=C.toList.take off++L++(C.toList.drop off).drop n:=by
 have hm:L=(C.toList.drop off).take n:=by
  apply List.ext_getElem?;intro i;rcases Nat.lt_or_ge i n with hi|hi
  .rw[List.getElem?_take_of_lt hi,List.getElem?_drop,Array.getElem?_toList (xs:=C),h i hi]
  .rw[List.getElem?_eq_none (by omega),List.getElem?_eq_none (by simp;omega)]
 rw[hm,List.append_assoc,List.take_append_drop,List.take_append_drop]
theorem afN{w0:W0}{w:World}{V:Ren}{b off n:Nat}{C:Array Value}{fr:Nat × Nat}{e:TypeId}{bs:List UInt8}(hl:V.length=90)(f16:V[16]?=some { b:=b,s:=off,top:=C.size })(g17:gL V 17=bs)(hw:w.heap[b]?=some (.cells C e fr))(hbs:bs.length=n)
    (hcells:∀ i,i<n->C[off+i]?=some (.int .u8 (((bs.getD i 0).toNat:Nat):Int))) (hoff:off<=C.size):qE w0 w V 16 vM:=by
 refine⟨b,off,C,fr,vU f16,⟨e,hw,fun h=>by cases h⟩,(fun h hh=>by rw[f16]at hh;cases hh;rfl),by show 0+off<=_;omega,(fun h=>by cases h),(fun i v hv=>by cases hv),(fun h=>by cases h),?_⟩
 intro x hx
 cases hx
 refine .inl ⟨.var 17,C.toList.take off,(C.toList.drop off).drop n,rfl,by simp[TL.ok,hl],by rw[List.length_take,Array.length_toList];omega,?_⟩
 show C.toList=C.toList.take off++((gL V 17).map fun x=>Value.int .u8 x.toNat)++_
 rw[g17]
 refine lX (by simp[hbs]) fun i hi=>?_
 rw[hcells i hi,List.getElem?_map,List.getElem?_eq_getElem (show i<bs.length by omega)]
 simp[List.getD_eq_getElem?_getD,List.getElem?_eq_getElem (show i<bs.length by omega)]
theorem ag2{w0:W0}{w:World}{V:Ren}{b off m:Nat}{C:Array Value}{fr:Nat × Nat}{e:TypeId}{zs:List Int}(hl:V.length=90)(f84:V[84]?=some { b:=b,s:=off,top:=C.size })(g85:gN V 85=zs)(hw:w.heap[b]?=some (.cells C e fr))(hzs:zs.length=m)
    (hcells:∀ i,i<m->C[off+i]?=some (.int .i64 (zs.getD i 0))) (hr:∀ x∈zs,-9223372036854775808<=x/\x<=9223372036854775807) (hoff:off<=C.size):qE w0 w V 84 kN:=by
 refine⟨b,off,C,fr,vU f84,⟨e,hw,fun h=>by cases h⟩,(fun h hh=>by rw[f84]at hh;cases hh;rfl),by show 0+off<=_;omega,(fun h=>by cases h),(fun i v hv=>by cases hv),(fun h=>by cases h),?_⟩
 intro x hx
 cases hx
 refine .inr ⟨29,.var 85,C.toList.take off,(C.toList.drop off).drop m,.inr rfl,rfl,by simp[TN.ok,hl],by rw[List.length_take,Array.length_toList];omega,?_,?_⟩
 .show C.toList=C.toList.take off++((gN V 85).map fun x=>Value.int .i64 x)++_
  rw[g85]
  refine lX (by simp[hzs]) fun i hi=>?_
  rw[hcells i hi,List.getElem?_map,List.getElem?_eq_getElem (show i<zs.length by omega)]
  simp[List.getD_eq_getElem?_getD,List.getElem?_eq_getElem (show i<zs.length by omega)]
 .show ∀ x∈gN V 85,rgN 29 x
  rw[g85];exact hr
theorem jA{w0:W0}{w:World}{V:Ren}{be oe:Nat}{C0:Array Value}{fr0:Nat × Nat}{e0:TypeId}(f73:V[73]?=some { b:=0,s:=0,top:=C0.size })(f74:V[74]?=some { b:=be,s:=oe,top:=0 })
    (hc0:C0[0]?=some (.iface 89 (.pointer (some ⟨be,oe,none⟩)))) (hw0:w.heap[0]?=some (.cells C0 e0 fr0)):qE w0 w V 73 xB:=by
 have hs0:0<C0.size:=by
  rcases Nat.lt_or_ge 0 C0.size with h|h
  .exact h
  .rw[Array.getElem?_eq_none h]at hc0;cases hc0
 refine⟨0,0,C0,fr0,vU f73,⟨e0,hw0,fun h=>by cases h⟩,(fun h hh=>by rw[f73]at hh;cases hh;rfl),by show 1+0<=_;omega,(fun h=>by cases h),fun i v hv=>?_,(fun h=>by cases h),xR.none rfl⟩
 match i,hv with
 |0,hv=>cases hv;exact⟨_,hc0,.iface _ _ _ (by have:=VR.ptr (V:=V) 74 0 be oe (vU f74);rw[Nat.zero_add]at this;exact this)⟩
theorem afE{w:World}{V:Ren}{tp:Tpl}(hl:V.length=tp.m)(hm:tp.m=90)(hk:tp.H.all (fun p=>p.2.ro&&Nat.blt p.1 90)=true)(h:∀ p∈tp.H,qE (W0.of w) w V p.1 p.2):HR (W0.of w) V tp.heap w:=by
 have hlt:∀ p∈tp.H,p.1<tp.m:=fun p hp=>by
  have:=List.all_eq_true.1 hk p hp;rw[Bool.and_eq_true]at this;rw[hm];exact Nat.le_of_ble_eq_true this.2
 have hb:tp.m<=2 ^ 20:=by rw[hm];decide
 have hget:∀ B bl,tp.heap.get B=some bl->(B,bl)∈tp.H:=fun B bl hg=>wJ hb tp.H B bl hlt hg;refine⟨by rw[hl];exact (zK _ _).symm,by show (vS tp.m tp.H).size<=_;rw[zK];exact hb,fun B bl hg hv=>h _ (hget B bl hg),?_,Kept.refl _⟩;intro B B' bl bl' hg hg' hv hv' hro hne;have:=List.all_eq_true.1 hk _ (hget B bl hg);rw[Bool.and_eq_true,hro]at this;cases this.1
structure TxtIn(w:World)(b off n cap:Nat)(C:Array Value)(bs:List UInt8):Prop where
 hw:∃ fr e,w.heap[b]?=some (.cells C e fr)
 len:bs.length=n
 cells:∀ i,i<n->C[off+i]?=some (.int .u8 (((bs.getD i 0).toNat:Nat):Int))
 off:off<=C.size
 nc:n<=cap
 cap:cap<=1125899906842624
structure StpIn(w:World)(b off m cap:Nat)(C:Array Value)(zs:List Int):Prop where
 hw:∃ fr e,w.heap[b]?=some (.cells C e fr)
 len:zs.length=m
 cells:∀ i,i<m->C[off+i]?=some (.int .i64 (zs.getD i 0))
 rng:∀ x∈zs,-9223372036854775808<=x/\x<=9223372036854775807
 off:off<=C.size
 nc:m<=cap
 cap:cap<=1125899906842624
section
variable {w:World} {be oe:Nat} {C0:Array Value} {fr0:Nat × Nat} {e0:TypeId} {f:Nat->Hm}
theorem auO(f73:(yG f)[73]?=some { b:=0,s:=0,top:=C0.size }):Ln (yG f):=by
 refine⟨wE f,fun x B hx=>?_⟩;unfold g0 at hx;split at hx
 .rename_i hx0;cases hx;rw[hx0];exact vU f73
 .cases hx
theorem slT{b off n cap top:Nat}(f16:(yG f)[16]?=some { b:=b,s:=off,top:=top })(g18:gI (yG f) 18=n)(g72:gI (yG f) 72=cap)(hnc:n<=cap)(hcap:cap<=1125899906842624):VR (yG f) nR (.slice (some ⟨b,off,none⟩) n cap):=by
 have:=VR.symL (V:=yG f) 16 (.lit 0) (.var 18) (.var 72) b off (vU f16) rfl (by simp[TI.ok,wE]) (by simp[TI.ok,wE]) (by simp[TI.den]) (by show 0<=gI _ 18;rw[g18];omega) (by show gI _ 18<=gI _ 72;rw[g18,g72];omega) ⟨by show gI _ 18<=1125899906842624;rw[g18];omega,by show gI _ 72<9223372036854775808;rw[g72];omega⟩;have e1:(TI.den (yG f) (.var 18)).toNat=n:=by show (gI _ 18).toNat=n;rw[g18];rfl
 have e2:(TI.den (yG f) (.var 72)).toNat=cap:=by show (gI _ 72).toNat=cap;rw[g72];rfl
 have e0:(TI.den (yG f) (.lit 0)).toNat+off=off:=by simp[TI.den]
 rw[e0,e1,e2]at this;exact this
theorem slS{b off n cap top:Nat}(f84:(yG f)[84]?=some { b:=b,s:=off,top:=top })(g86:gI (yG f) 86=n)(g87:gI (yG f) 87=cap)(hnc:n<=cap)(hcap:cap<=1125899906842624):VR (yG f) U6 (.slice (some ⟨b,off,none⟩) n cap):=by
 have:=VR.symL (V:=yG f) 84 (.lit 0) (.var 86) (.var 87) b off (vU f84) rfl (by simp[TI.ok,wE]) (by simp[TI.ok,wE]) (by simp[TI.den]) (by show 0<=gI _ 86;rw[g86];omega) (by show gI _ 86<=gI _ 87;rw[g86,g87];omega) ⟨by show gI _ 86<=1125899906842624;rw[g86];omega,by show gI _ 87<9223372036854775808;rw[g87];omega⟩;have e1:(TI.den (yG f) (.var 86)).toNat=n:=by show (gI _ 86).toNat=n;rw[g86];rfl
 have e2:(TI.den (yG f) (.var 87)).toNat=cap:=by show (gI _ 87).toNat=cap;rw[g87];rfl
 have e0:(TI.den (yG f) (.lit 0)).toNat+off=off:=by simp[TI.den]
 rw[e0,e1,e2]at this;exact this
end
def GW(P:Ren->Prop):Goal where
 J:=fun _ _=>False
 L:=fun _ _=>False
 O:=fun _ _ _ _=>False
 W:=fun _ _=>False
 CL:=fun _ b=>P b
 CO:=fun _ _ _ b1=>gB b1 29=true
theorem aU8{w w':World}{V2:Ren}{H:AS}{u:Value}{e':Ending}(g2:e'=.returned u)(g3:HR (W0.of w) V2 H w')(g4:VR V2 (sB (x 29)) u)(g5:gB V2 29=true):e'=.returned (.bool true)/\Below w.heap.size w w':=by
 obtain⟨t,ht,_,rfl⟩:=xJ (e:=x 29) g4 rfl;have:t=.var 29:=TB.inj t (.var 29) ht.symm;subst this;have g5:(TB.var 29).den V2=true:=g5;rw[g5]at g2;exact⟨g2,g3.below.below⟩
def Ans(w:World)(e:Ending)(w':World):Prop:=e=.returned (.bool true)/\Below w.heap.size w w'
theorem aw8{w:World}{V:Ren}{args:Array Value}{sp:CSpec}{P:Ren->Prop}(hj:sp.j=4)(ho:sp.outs=[(sB (x 29),t4o,[])])(law:yT Tryd.prog (GW P) 4 sp)(hH:HR (W0.of w) V sp.tin.heap w)(hF:FS V sp.n sp.tin.frame { tmps:=args,defers:=[] })(p:P V):Calls Tryd.prog 4 args w (Ans w):=by
 refine (law (W0.of w) V args w hH hF p).mono ?_;rintro e' w' ⟨i,v,tp,sm,V2,u,g1,g2,g3,g4,g5,g6⟩;rw[ho]at g1;match i,g1 with
 |0,g1=>cases g1;exact aU8 g2 g3 g4 g5
theorem steps_ts{w:World}(he:EofOk w){b off n cap b2 off2 m cap2:Nat}{C C2:Array Value}{bs:List UInt8}{zs:List Int}(t:TxtIn w b off n cap C bs)(s:StpIn w b2 off2 m cap2 C2 zs):Calls Tryd.prog 4 #[.slice (some ⟨b,off,none⟩) n cap,.slice (some ⟨b2,off2,none⟩) m cap2] w (Ans w):=by
 obtain⟨be,oe,C0,fr0,e0,hc0,hw0⟩:=he;obtain⟨⟨fr,e,hw⟩,hbs,hcells,hoff,hnc,hcap⟩:=t;obtain⟨⟨fr2,e2,hw2⟩,hzs,hcells2,hrng,hoff2,hnc2,hcap2⟩:=s;generalize hf:hmS b off C.size n cap b2 off2 C2.size m cap2 C0.size be oe bs zs=f;have f16:(yG f)[16]?=some { b:=b,s:=off,top:=C.size }:=by rw[yF f (by decide),<-hf];rfl
 have f17:(yG f)[17]?=some { b:=0,s:=0,top:=0,v:=.string ⟨bs.toArray⟩ }:=by rw[yF f (by decide),<-hf];rfl
 have f18:(yG f)[18]?=some { b:=0,s:=0,top:=0,v:=.int .i64 n }:=by rw[yF f (by decide),<-hf];rfl
 have f72:(yG f)[72]?=some { b:=0,s:=0,top:=0,v:=.int .i64 cap }:=by rw[yF f (by decide),<-hf];rfl
 have f73:(yG f)[73]?=some { b:=0,s:=0,top:=C0.size }:=by rw[yF f (by decide),<-hf];rfl
 have f74:(yG f)[74]?=some { b:=be,s:=oe,top:=0 }:=by rw[yF f (by decide),<-hf];rfl
 have f84:(yG f)[84]?=some { b:=b2,s:=off2,top:=C2.size }:=by rw[yF f (by decide),<-hf];rfl
 have f85:(yG f)[85]?=some { b:=0,s:=0,top:=0,v:=.tuple (nv zs).toArray }:=by rw[yF f (by decide),<-hf];rfl
 have f86:(yG f)[86]?=some { b:=0,s:=0,top:=0,v:=.int .i64 m }:=by rw[yF f (by decide),<-hf];rfl
 have f87:(yG f)[87]?=some { b:=0,s:=0,top:=0,v:=.int .i64 cap2 }:=by rw[yF f (by decide),<-hf];rfl
 have g17:gL (yG f) 17=bs:=by simp[gL,TL.den,f17,pG]
 have g18:gI (yG f) 18=n:=by simp[gI,TI.den,f18,kR]
 have g72:gI (yG f) 72=cap:=by simp[gI,TI.den,f72,kR]
 have g85:gN (yG f) 85=zs:=by simp only[gN,TN.den,f85];exact w8 zs
 have g86:gI (yG f) 86=m:=by simp[gI,TI.den,f86,kR]
 have g87:gI (yG f) 87=cap2:=by simp[gI,TI.den,f87,kR]
 have B16:qE (W0.of w) w (yG f) 16 vM:=afN (wE f) f16 g17 hw hbs hcells hoff;have B84:qE (W0.of w) w (yG f) 84 kN:=ag2 (wE f) f84 g85 hw2 hzs hcells2 hrng hoff2;have B73:qE (W0.of w) w (yG f) 73 xB:=jA f73 f74 hc0 hw0;have hH:HR (W0.of w) (yG f) t4a.heap w:=afE (wE f) rfl (by rfl) (fun p hp=>by
  have hp:p∈[(16,vM),(84,kN),(73,xB)]:=hp;simp only[List.mem_cons,List.not_mem_nil,or_false]at hp;rcases hp with rfl|rfl|rfl
  .exact B16
  .exact B84
  .exact B73)
 have hF:FS (yG f) awV.n t4a.frame { tmps:=#[.slice (some ⟨b,off,none⟩) n cap,.slice (some ⟨b2,off2,none⟩) m cap2],defers:=[] }:=by
  refine⟨rfl,by decide,fun t u hu=>.inl ?_,rfl⟩;match t,hu with
  |0,hu=>cases hu;exact slT f16 g18 g72 hnc hcap
  |1,hu=>cases hu;exact slS f84 g86 g87 hnc2 hcap2
 exact aw8 rfl rfl (aW3 (G:=GW P4) (fun _ h=>h) (fun _ _ _ h=>h)) hH hF ⟨auO f73,by rw[g18];omega,by rw[g18,g72];omega,by rw[g18,g17];omega,by rw[g86];omega,by rw[g86,g85];omega⟩
theorem steps_tn{w:World}(he:EofOk w){b off n cap:Nat}{C:Array Value}{bs:List UInt8}(t:TxtIn w b off n cap C bs):Calls Tryd.prog 4 #[.slice (some ⟨b,off,none⟩) n cap,.slice none 0 0] w (Ans w):=by
 obtain⟨be,oe,C0,fr0,e0,hc0,hw0⟩:=he;obtain⟨⟨fr,e,hw⟩,hbs,hcells,hoff,hnc,hcap⟩:=t;generalize hf:hmF b off C.size n cap C0.size be oe bs=f;have f16:(yG f)[16]?=some { b:=b,s:=off,top:=C.size }:=by rw[yF f (by decide),<-hf];rfl
 have f17:(yG f)[17]?=some { b:=0,s:=0,top:=0,v:=.string ⟨bs.toArray⟩ }:=by rw[yF f (by decide),<-hf];rfl
 have f18:(yG f)[18]?=some { b:=0,s:=0,top:=0,v:=.int .i64 n }:=by rw[yF f (by decide),<-hf];rfl
 have f72:(yG f)[72]?=some { b:=0,s:=0,top:=0,v:=.int .i64 cap }:=by rw[yF f (by decide),<-hf];rfl
 have f73:(yG f)[73]?=some { b:=0,s:=0,top:=C0.size }:=by rw[yF f (by decide),<-hf];rfl
 have f74:(yG f)[74]?=some { b:=be,s:=oe,top:=0 }:=by rw[yF f (by decide),<-hf];rfl
 have g17:gL (yG f) 17=bs:=by simp[gL,TL.den,f17,pG]
 have g18:gI (yG f) 18=n:=by simp[gI,TI.den,f18,kR]
 have g72:gI (yG f) 72=cap:=by simp[gI,TI.den,f72,kR]
 have B16:qE (W0.of w) w (yG f) 16 vM:=afN (wE f) f16 g17 hw hbs hcells hoff;have B73:qE (W0.of w) w (yG f) 73 xB:=jA f73 f74 hc0 hw0;have hH:HR (W0.of w) (yG f) t4n.heap w:=afE (wE f) rfl (by rfl) (fun p hp=>by
  have hp:p∈[(16,vM),(73,xB)]:=hp;simp only[List.mem_cons,List.not_mem_nil,or_false]at hp;rcases hp with rfl|rfl
  .exact B16
  .exact B73)
 have hF:FS (yG f) aP2.n t4n.frame { tmps:=#[.slice (some ⟨b,off,none⟩) n cap,.slice none 0 0],defers:=[] }:=by
  refine⟨rfl,by decide,fun t u hu=>.inl ?_,rfl⟩;match t,hu with
  |0,hu=>cases hu;exact slT f16 g18 g72 hnc hcap
  |1,hu=>cases hu;exact .sl0 0 0
 exact aw8 rfl rfl (aPA (G:=GW PK0) (fun _ h=>h) (fun _ _ _ _ h=>h)) hH hF ⟨auO f73,by rw[g18];omega,by rw[g18,g72];omega,by rw[g18,g17];omega⟩
theorem steps_ns{w:World}(he:EofOk w){b2 off2 m cap2:Nat}{C2:Array Value}{zs:List Int}(s:StpIn w b2 off2 m cap2 C2 zs):Calls Tryd.prog 4 #[.slice none 0 0,.slice (some ⟨b2,off2,none⟩) m cap2] w (Ans w):=by
 obtain⟨be,oe,C0,fr0,e0,hc0,hw0⟩:=he;obtain⟨⟨fr2,e2,hw2⟩,hzs,hcells2,hrng,hoff2,hnc2,hcap2⟩:=s;generalize hf:hmS 0 0 0 0 0 b2 off2 C2.size m cap2 C0.size be oe [] zs=f;have f73:(yG f)[73]?=some { b:=0,s:=0,top:=C0.size }:=by rw[yF f (by decide),<-hf];rfl
 have f74:(yG f)[74]?=some { b:=be,s:=oe,top:=0 }:=by rw[yF f (by decide),<-hf];rfl
 have f84:(yG f)[84]?=some { b:=b2,s:=off2,top:=C2.size }:=by rw[yF f (by decide),<-hf];rfl
 have f85:(yG f)[85]?=some { b:=0,s:=0,top:=0,v:=.tuple (nv zs).toArray }:=by rw[yF f (by decide),<-hf];rfl
 have f86:(yG f)[86]?=some { b:=0,s:=0,top:=0,v:=.int .i64 m }:=by rw[yF f (by decide),<-hf];rfl
 have f87:(yG f)[87]?=some { b:=0,s:=0,top:=0,v:=.int .i64 cap2 }:=by rw[yF f (by decide),<-hf];rfl
 have g85:gN (yG f) 85=zs:=by simp only[gN,TN.den,f85];exact w8 zs
 have g86:gI (yG f) 86=m:=by simp[gI,TI.den,f86,kR]
 have g87:gI (yG f) 87=cap2:=by simp[gI,TI.den,f87,kR]
 have B84:qE (W0.of w) w (yG f) 84 kN:=ag2 (wE f) f84 g85 hw2 hzs hcells2 hrng hoff2;have B73:qE (W0.of w) w (yG f) 73 xB:=jA f73 f74 hc0 hw0;have hH:HR (W0.of w) (yG f) aaL.heap w:=afE (wE f) rfl (by rfl) (fun p hp=>by
  have hp:p∈[(84,kN),(73,xB)]:=hp;simp only[List.mem_cons,List.not_mem_nil,or_false]at hp;rcases hp with rfl|rfl
  .exact B84
  .exact B73)
 have hF:FS (yG f) aPT.n aaL.frame { tmps:=#[.slice none 0 0,.slice (some ⟨b2,off2,none⟩) m cap2],defers:=[] }:=by
  refine⟨rfl,by decide,fun t u hu=>.inl ?_,rfl⟩;match t,hu with
  |0,hu=>cases hu;exact .sl0 0 0
  |1,hu=>cases hu;exact slS f84 g86 g87 hnc2 hcap2
 exact aw8 rfl rfl (aNY (G:=GW PS) (fun _ h=>h) (fun _ _ _ _ h=>h)) hH hF ⟨auO f73,by rw[g86];omega,by rw[g86,g85];omega⟩
theorem steps_nn{w:World}(he:EofOk w):Calls Tryd.prog 4 #[.slice none 0 0,.slice none 0 0] w (Ans w):=by
 obtain⟨be,oe,C0,fr0,e0,hc0,hw0⟩:=he;generalize hf:hmF 0 0 0 0 0 C0.size be oe []=f;have f73:(yG f)[73]?=some { b:=0,s:=0,top:=C0.size }:=by rw[yF f (by decide),<-hf];rfl
 have f74:(yG f)[74]?=some { b:=be,s:=oe,top:=0 }:=by rw[yF f (by decide),<-hf];rfl
 have B73:qE (W0.of w) w (yG f) 73 xB:=jA f73 f74 hc0 hw0;have hH:HR (W0.of w) (yG f) Y0.heap w:=afE (wE f) rfl (by rfl) (fun p hp=>by
  have hp:p∈[(73,xB)]:=hp;simp only[List.mem_cons,List.not_mem_nil,or_false]at hp;rcases hp with rfl;exact B73)
 have hF:FS (yG f) aNU.n Y0.frame { tmps:=#[.slice none 0 0,.slice none 0 0],defers:=[] }:=by
  refine⟨rfl,by decide,fun t u hu=>.inl ?_,rfl⟩;match t,hu with
  |0,hu=>cases hu;exact .sl0 0 0
  |1,hu=>cases hu;exact .sl0 0 0
 exact aw8 rfl rfl (aPI (G:=GW Ln) (fun _ h=>h) (fun _ _ _ _ h=>h)) hH hF (auO f73)
end U
