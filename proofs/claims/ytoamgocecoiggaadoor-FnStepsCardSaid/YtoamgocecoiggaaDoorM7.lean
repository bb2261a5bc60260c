-- the statement of this claim: see YtoamgocecoiggaaDoorRs
import Derived.Test.YtoamgocecoiggaaDoorM6
set_option linter.unusedVariables false
set_option linter.unusedSimpArgs false
set_option maxRecDepth 100000
noncomputable section
namespace Go.SM
noncomputable section
theorem ao7(a:List Int):(nv a).all one=true:=by
 rw[List.all_eq_true];intro v hv;simp only[nv,List.mem_map]at hv;obtain⟨x,_,rfl⟩:=hv;rfl
theorem w8(l:List Int):as3 (.tuple (nv l).toArray)=l:=by
 unfold as3 nv;simp only[List.map_map];exact (List.map_congr_left fun x _=>rfl).trans (List.map_id l)
def oM(A:List Value)(l a b:Value):Value :=
 match l,a with
 | .func (.yield 26) ⟨[x,y]⟩ ⟨[]⟩,.int k z=>if z=0/\teq 60 (xG 20 x) b=true then x else if z=0/\teq 60 (xG 20 l) b=true then l else nd3 27 l a b
 |l,.int k z=>if z=0/\teq 60 (xG 20 l) b=true then l else nd3 27 l a b
 |l,a=>nd3 27 l a b
theorem rQ(A:List Value)(l:TN)(a b:TI):∃ r:TN,oM A l.enc a.enc b.enc=r.enc/\(∀ n,l.ok n=true->a.ok n=true->b.ok n=true->r.ok n=true) /\
    ∀ V,r.den V=((l.den V).take (b.den V).toNat).drop (a.den V).toNat:=by
 have whole:∀ {z:Int},a=.lit z->z=0->teq 60 (xG 20 l.enc) b.enc=true->∀ V,l.den V=((l.den V).take (b.den V).toNat).drop (a.den V).toNat:=by
  rintro z rfl rfl hb V;obtain⟨r,h1,h2,h3⟩:=yQ 20 l;have:=xK _ _ _ hb;rw[h1]at this;have:=TI.inj _ _ this;subst this;rw[h3];simp[TI.den]
 have base:∃ r:TN,nd3 27 l.enc a.enc b.enc=r.enc/\(∀ n,l.ok n=true->a.ok n=true->b.ok n=true->r.ok n=true)/\∀ V,r.den V=((l.den V).take (b.den V).toNat).drop (a.den V).toNat :=
  ⟨.sub l a b,rfl,fun n h1 h2 h3=>by simp[TN.ok,h1,h2,h3],fun V=>rfl⟩
 generalize hl:l.enc=e at base whole ⊢
 generalize ha:a.enc=f at base ⊢
 unfold oM
 split
 .rename_i x y k z
  obtain⟨p,q,rfl,rfl,rfl⟩:=aaD hl
  obtain⟨rfl,rfl⟩:=xN ha
  split
  .rename_i hc
   obtain⟨rfl,hc⟩:=hc
   refine⟨p,rfl,fun n h _ _=>by simp[TN.ok]at h;exact h.1,fun V=>?_⟩
   obtain⟨r,h1,h2,h3⟩:=yQ 20 p
   have:=xK _ _ _ hc
   rw[h1]at this
   have:=TI.inj _ _ this
   subst this
   rw[h3];simp[TI.den,TN.den]
  .split
   .rename_i hc
    exact⟨.app p q,hl.symm,fun n h _ _=>h,whole rfl hc.1 hc.2⟩
   .exact base
 .obtain⟨rfl,rfl⟩:=xN ha
  split
  .rename_i hc
   exact⟨l,hl.symm,fun n h _ _=>h,whole rfl hc.1 hc.2⟩
  .exact base
 .exact base
theorem rW{P:Program}{w:World}{c s o n:Nat}{C:Array Value}{e:TypeId}{fr:Nat × Nat}{l:List Int}{pre post:List Value}(hw:w.heap[c]?=some (.cells C e fr))(hC:C.toList=pre++nv l++post)(hs:pre.length=s)(hn:o+n<=l.length) :
    (loadCells ⟨c,o+s,none⟩ n).run P w=.ok (nv ((l.take (o+n)).drop o)).toArray w:=by
 have hCs:C.size=pre.length+l.length+post.length:=by
  have:=congrArg List.length hC;simp only[Array.length_toList,List.length_append,vK]at this;exact this
 unfold loadCells
 rw[v8 hw (o+s) n 0 #[] (by omega)]
 congr 1
 simp only[Nat.add_zero,Array.empty_append]
 congr 1
 have e1:C.toList.drop (o+s)=(nv l).drop o++post:=by
  rw[hC,List.append_assoc,List.drop_append,List.drop_of_length_le (by omega),List.nil_append,show o+s-pre.length=o from by omega,List.drop_append_of_le_length (by rw[vK];omega)]
 rw[e1,List.take_append_of_le_length (by rw[List.length_drop,vK];omega)]
 simp only[nv,List.map_drop,List.map_take]
 rw[List.drop_take,show o+n-o=n from by omega]
def eX:List Value->Option Value
 |[]=>some (.bool false)
 |v::vs =>
  match asI v,eX vs with
  |some (.i64,e,lo,hi),some r=>if 0<=lo/\hi<=4194303 then some (match vs with
   |[]=>nd1 25 e
   |_=>nd2 26 (nd1 25 e) r) else none
  |_,_=>none
theorem sH{V:Ren}:∀ {vs us:List Value} {e:Value},VRs V vs us->eX vs=some e->∃ t:TN,e=t.enc/\t.ok V.length=true/\us=nv (t.den V)/\(t.den V).length=vs.length/\∀ x∈t.den V,0<=x/\x<=4194303
 |[],us,e,h,ho=>by
  have:us=[]:=List.eq_nil_of_length_eq_zero h.1;subst this;cases ho;exact⟨.nil,rfl,rfl,rfl,rfl,fun x hx=>by simp[TN.den]at hx⟩
 |v::vs,us,e,h,ho=>by
  obtain⟨u,us',rfl,h1,h2⟩:=h.cons_inv;simp only[eX]at ho;split at ho;rotate_left
  .cases ho
  rename_i e' lo hi r hq hr;split at ho;rotate_left
  .cases ho
  rename_i hc;obtain⟨t,rfl,t1,rfl,t2,t3⟩:=yK h1 hq;obtain⟨tr,rfl,r1,rfl,r2,r3⟩:=sH h2 hr;cases ho;split
  .have:tr.den V=[]:=List.eq_nil_of_length_eq_zero (by rw[r2];rfl);exact⟨.one t,rfl,by simpa [TN.ok] using t1,by simp[TN.den,nv,this],by simp[TN.den],fun x hx=>by simp[TN.den]at hx;omega⟩
  ·exact ⟨.app (.one t) tr, rfl, by simp [TN.ok, t1, r1], by simp [TN.den, nv], by simp [TN.den, r2], fun x hx => by
     simp only[TN.den,List.mem_append,List.mem_singleton]at hx;rcases hx with rfl|hx
     .omega
     .exact r3 x hx⟩
def agJ(A:List Value)(H:AS)(x:Value):Option Value :=
 match x with
 | .slice none n _=>if n=0 then some (.bool false) else none
 | .slice (some ⟨B,o,_⟩) n _ =>
  match uC H B o n with
  |some l=>eX l
  |none=>none
 |x =>
  match asL x with
  |some (B,o,n,c) =>
   match H.get B with
   |some b =>
    match b.live,b.seq with
    |true,some (.func (.yield 28) ⟨[q]⟩ ⟨[]⟩)=>if vH A (yM o n) (xG 20 q)=true then some (oM A q o (yM o n)) else none
    |_,_=>none
   |none=>none
  |none=>none
theorem qU{P:Program}{w0:W0}{V:Ren}{H:AS}{w:World}{A:List Value}(hA:Facts V A)(h:HR w0 V H w){x x' e:Value}(hx:VR V x x')(hs:agJ A H x=some e) :
    ∃ t:TN,e=t.enc/\t.ok V.length=true/\(Builtin.lenOf x').run P w=.ok (t.den V).length w/\(∀ k,k<=(t.den V).length->(Builtin.firstCells 1 k x').run P w=.ok (nv ((t.den V).take k)).toArray w)/\∀ x∈t.den V,0<=x/\x<=4194303:=by
 unfold agJ at hs
 split at hs
 .rename_i n c
  split at hs
  .rename_i hn
   cases hs
   subst hn
   cases hx
   exact⟨.nil,rfl,rfl,rfl,fun k _=>by simp[TN.den,nv];rfl,fun x hx=>by simp[TN.den]at hx⟩
  .cases hs
 .rename_i B o sp n c
  split at hs
  rotate_left
  .cases hs
  rename_i l hl
  have hlen:=(uB hl).1
  have go:∀ (b s:Nat),hm V B=some (b,s)->∀ c',x'=.slice (some ⟨b,o+s,none⟩) n c'->∃ t:TN,e=t.enc/\t.ok V.length=true/\(Builtin.lenOf x').run P w=.ok (t.den V).length w/\(∀ k,k<=(t.den V).length->(Builtin.firstCells 1 k x').run P w=.ok (nv ((t.den V).take k)).toArray w)/\∀ x∈t.den V,0<=x/\x<=4194303:=by
   rintro b s hb c' rfl;obtain⟨us,hrun,hv⟩:=h.loads (P:=P) hl hb;obtain⟨t,h1,h2,h3,h4,h5⟩:=sH hv hs;refine⟨t,h1,h2,by rw[h4,hlen];rfl,fun k hk=>?_,h5⟩;have hk':k<=n:=by rw[<-hlen,<-h4];exact hk
   obtain⟨C,el,fr,hw,hsz⟩:∃ (C:Array Value) (el:TypeId) (fr:Nat × Nat),w.heap[b]?=some (.cells C el fr)/\o+s+n<=C.size:=by
    unfold uC at hl;split at hl
    .rename_i bl hg;split at hl
     .rename_i hc;simp only[Bool.and_eq_true,decide_eq_true_eq]at hc;obtain⟨c2,s2,C,fr,hβ,⟨el,hw,_⟩,_,hsz,_⟩:=h.blk B bl hg hc.1;rw[hb]at hβ;cases hβ;exact⟨C,el,fr,hw,by omega⟩
     .cases hl
    .cases hl
   have r1:=v8 (P:=P) hw (o+s) n 0 #[] (by omega);have r2:=v8 (P:=P) hw (o+s) k 0 #[] (by omega);have hus:us=(C.toList.drop (o+s)).take n:=by
    have hrun':(loadCells ⟨b,o+s,none⟩ n).run P w=.ok us.toArray w:=hrun;unfold loadCells at hrun';rw[r1]at hrun';simp only[Nat.add_zero,Array.empty_append,Result.ok.injEq,and_true]at hrun';have:=congrArg Array.toList hrun';simpa using this.symm
   have e1:(C.toList.drop (o+s)).take k=nv ((t.den V).take k):=by
    have:us.take k=nv ((t.den V).take k):=by rw[h3];simp[nv,List.map_take]
    rw[<-this,hus,List.take_take,Nat.min_eq_left hk']
   simp only[Builtin.firstCells,Nat.mul_one];unfold loadCells;rw[r2];simp only[Nat.add_zero,Array.empty_append,e1]
  cases hx with
  |sl _ _ b s _ _ hb=>exact go b s hb _ rfl
  |slL _ _ _ _ c' z q hb _ _=>exact go _ _ (vU hb) _ rfl
 .split at hs
  rotate_left
  .cases hs
  rename_i B o n c he
  obtain⟨to,tn,tc,b,s,rfl,rfl,rfl,hk,rfl⟩:=yR hx he
  split at hs
  rotate_left
  .cases hs
  rename_i bl hg
  split at hs
  rotate_left
  .cases hs
  rename_i q hlive hseq
  split at hs
  rotate_left
  .cases hs
  rename_i hle
  cases hs
  obtain⟨c',s',C,fr,hβ,⟨el,hw,hel⟩,htop,hsz,hfr,hcl,hbase,hsq⟩:=h.blk B bl hg hlive
  rw[hk.home]at hβ;cases hβ
  obtain⟨tl,pre,post,rfl,hok,hpre,hC,hrg⟩:=hsq.getN hseq
  obtain⟨ra,a1,a2,a3⟩:=zX to tn
  obtain⟨r,e1,e2,e3⟩:=yQ 20 tl
  rw[a1,e1]at hle
  have hle:=zO hA hle
  rw[a3,e3]at hle
  obtain⟨rs,s1,s2,s3⟩:=rQ A tl to ra
  have o0:=hk.o0
  have n0:=hk.n0
  have hto:(ra.den V).toNat=(to.den V).toNat+(tn.den V).toNat:=by rw[a3];omega
  have hlen:(rs.den V).length=(tn.den V).toNat:=by
   rw[s3,List.length_drop,List.length_take,hto];omega
  refine⟨rs,by rw[a1,s1],s2 _ hok hk.oko (a2 _ hk.oko hk.okn),by rw[hlen];rfl,fun k hk'=>?_,fun x hx=>hrg x (by rw[s3]at hx;exact List.mem_of_mem_take (List.mem_of_mem_drop hx))⟩
  simp only[Builtin.firstCells,Nat.mul_one]
  rw[rW hw hC hpre (by omega)]
  congr 2
  rw[s3,hto,List.take_drop]
  congr 1
  rw[List.take_take,Nat.min_eq_left (by omega)]
def iZ(a b:Value):Value :=
 match a,b with
 | .bool false,b=>b
 |a,.bool false=>a
 |a,b=>nd2 26 a b
theorem nH(s t:TN):∃ r:TN,iZ s.enc t.enc=r.enc/\(∀ n,s.ok n=true->t.ok n=true->r.ok n=true)/\∀ V,r.den V=s.den V++t.den V:=by
 generalize hs:s.enc=a;generalize ht:t.enc=b;have base:nd2 26 a b=(TN.app s t).enc:=by simp only[TN.enc,hs,ht]
 unfold iZ;split
 .have:=jR hs;subst this;exact⟨t,ht.symm,fun _ _ h=>h,fun V=>by simp[TN.den]⟩
 .have:=jR ht;subst this;exact⟨s,hs.symm,fun _ h _=>h,fun V=>by simp[TN.den]⟩
 .exact⟨.app s t,base,fun n h h'=>by simp[TN.ok,h,h'],fun _=>rfl⟩
def o5(A:List Value)(H:AS)(e:TypeId)(kill:Option Nat)(T:Value):Option (Value × AS) :=
 match H.new dY with
 |none=>none
 |some (K,H1) =>
  match (match kill with
   |none=>some H1
   |some B=>lW H1 B) with
  |none=>none
  |some H2 =>
   match H2.new { cells:=[],elem:=e,ro:=false,live:=true,seq:=some (nd1 28 (nd2 26 T (.map (some K)))) } with
   |none=>none
   |some (B',H3)=>if vH A (xG 20 T) (.int .i64 4398046511104)=true then some (sL B' (.int .i64 0) (xG 20 T) (yM (xG 20 T) (nd1 14 (.map (some K)))),H3) else none
def jT(P:Program)(A:List Value)(H:AS)(ts:Array TypeId)(s x:Value):Option (Value × AS) :=
 match ts[0]?,ts[1]? with
 |some t,some t2 =>
  match P.underlying t,P.underlying t2 with
  |some (.slice e),some d2 =>
   match P.info? e,pX P e,agJ A H x with
   |some i,some [.int .i64 z],some src =>
    if uY d2=false/\i.size=1/\i.bytes=8/\z=0 then
     match s with
     | .slice none n c=>if n=0/\c=0/\nS A (.int .i64 0) (xG 20 src)=true then o5 A H e none src else none
     |s =>
      match asL s with
      |some (B,o,n,c) =>
       match H.get B with
       |some b =>
        match b.live,b.ro,b.seq with
        |true,false,some (.func (.yield 28) ⟨[q]⟩ ⟨[]⟩)=>if b.elem=e/\vH A (yM o c) (xG 20 q)=true then o5 A H e (some B) (iZ (oM A q o (yM o n)) src) else none
        |_,_,_=>none
       |none=>none
      |none=>none
    else none
   |_,_,_=>none
  |_,_=>none
 |_,_=>none
theorem aQB{z:Value}(hz:z.cells.toList=[.int .i64 0])(n:Nat):(Builtin.zeroCells z.cells n).toList=nv (List.replicate n 0):=by
 have:z.cells=#[.int .i64 0]:=by apply Array.ext';simpa using hz
 rw[this];simp only[Builtin.zeroCells,nv];simp only[Array.toList_map,Array.toList_range,List.map_replicate];rw[List.eq_replicate_iff];refine⟨by simp,fun b hb=>?_⟩;simp only[List.mem_map]at hb;obtain⟨i,_,rfl⟩:=hb;have:i%1=0:=Nat.mod_one i;simp[this]
theorem eV{V:Ren}{A:List Value}{T:TN}{K B' b s':Nat}{tail:List Int}{q:Hm}(hA:Facts V A)(hT:T.ok V.length=true)(hK:K=V.length)(hle:vH A (xG 20 T.enc) (.int .i64 4398046511104)=true)(hcap:(T.den V).length+tail.length<2 ^ 63)
    (hb:hm (V++[⟨0,0,0,.tuple (nv tail).toArray,yD⟩]++[q]) B'=some (b,s')) :
    VR (V++[⟨0,0,0,.tuple (nv tail).toArray,yD⟩]++[q]) (sL B' (.int .i64 0) (xG 20 T.enc) (yM (xG 20 T.enc) (nd1 14 (.map (some K))))) (.slice (some ⟨b,s',none⟩) (T.den V).length ((T.den V).length+tail.length)):=by
 subst hK
 obtain⟨r,e1,e2,e3⟩:=yQ 20 T
 obtain⟨ra,a1,a2,a3⟩:=zX r (.lenN (.var V.length))
 rw[e1]at hle ⊢
 have hle:=zO (t:=.lit 4398046511104) hA hle
 rw[e3]at hle
 simp only[TI.den]at hle
 have a1':yM r.enc (nd1 14 (.map (some V.length)))=ra.enc:=a1
 rw[a1']
 have g1:(T.den (V++[⟨0,0,0,.tuple (nv tail).toArray,yD⟩]++[q]))=T.den V:=by rw[List.append_assoc];exact TN.den_app V _ T hT
 have hr:r.den (V++[⟨0,0,0,.tuple (nv tail).toArray,yD⟩]++[q])=(T.den V).length:=by rw[e3,g1]
 have hv:(TI.lenN (.var V.length)).den (V++[⟨0,0,0,.tuple (nv tail).toArray,yD⟩]++[q])=tail.length:=by
  simp only[TI.den,TN.den];rw[List.append_assoc,List.getElem?_append_right (Nat.le_refl _)];simp[w8]
 have hlen:(V++[(⟨0,0,0,.tuple (nv tail).toArray,yD⟩:Hm)]++[q]).length=V.length+2:=by simp
 have:=SlOk.vr (V:=V++[⟨0,0,0,.tuple (nv tail).toArray,yD⟩]++[q]) (B:=B') (o:=.lit 0) (n:=r) (c:=ra) (b:=b) (s:=s')
  ⟨hb,rfl,e2 _ (TN.ok_app _ _ (by simp) T hT),a2 _ (e2 _ (TN.ok_app _ _ (by simp) T hT)) (by rw[hlen];simp only[TI.ok,TN.ok];exact decide_eq_true (by omega)),by simp[TI.den],by rw[hr];omega,by rw[a3,hr,hv];omega,by rw[hr];omega,by rw[a3,hr,hv];omega⟩
 rw[a3,hr,hv]at this
 simp only[TI.den,Int.toNat_zero,Nat.zero_add,Int.toNat_natCast]at this
 have e4:(((T.den V).length:Int)+(tail.length:Int)).toNat=(T.den V).length+tail.length:=by omega
 rw[e4]at this
 exact this
theorem rR{V:Ren}{T:TN}{K:Nat}{tail:List Int}{e:TypeId}{C:Array Value}{s':Nat}{pre post:List Value}(hT:T.ok V.length=true)(hK:K=V.length)(hpre:pre.length=s')(hC:C.toList=pre++nv (T.den V++tail)++post)(hrg:∀ x∈T.den V++tail,0<=x/\x<=4194303) :
    xR (V++[⟨0,0,0,.tuple (nv tail).toArray,yD⟩]) { cells:=[],elem:=e,ro:=false,live:=true,seq:=some (nd1 28 (nd2 26 T.enc (.map (some K)))) } C s':=by
 subst hK
 intro x hx
 simp only[Option.some.injEq]at hx
 subst hx
 refine .inr ⟨28,.app T (.var V.length),pre,post,.inl rfl,rfl,?_,hpre,?_,?_⟩
 .simp only[TN.ok,Bool.and_eq_true]
  exact⟨TN.ok_app _ _ (by simp) T hT,by simp⟩
 ·have e1 : (TN.app T (.var V.length)).den (V ++ [⟨0, 0, 0, .tuple (nv tail).toArray, yD⟩]) = T.den V ++ tail := by
    simp only[TN.den,TN.den_app V _ T hT];rw[List.getElem?_append_right (Nat.le_refl _)];simp[w8]
  rw[e1];exact hC
 ·have e1 : (TN.app T (.var V.length)).den (V ++ [⟨0, 0, 0, .tuple (nv tail).toArray, yD⟩]) = T.den V ++ tail := by
    simp only[TN.den,TN.den_app V _ T hT];rw[List.getElem?_append_right (Nat.le_refl _)];simp[w8]
  rw[e1];exact hrg
theorem HR.appendN{P:Program}{w0:W0}{V:Ren}{H H':AS}{w:World}{A:List Value}(hA:Facts V A)(h:HR w0 V H w){ts:Array TypeId}{ty:TypeId}{s s' x x' v:Value}(hs:VR V s s')(hx:VR V x x')(ha:jT P A H ts s x=some (v,H')) :
    Made P w0 V H' w (Builtin.append_ ts ty #[s',x']) v:=by
 unfold jT at ha
 split at ha
 rotate_left
 .cases ha
 rename_i t t2 h0 h1
 split at ha
 rotate_left
 .cases ha
 rename_i e d2 hu hu2
 split at ha
 rotate_left
 .cases ha
 rename_i i z src hi hz hsrc
 split at ha
 rotate_left
 .cases ha
 rename_i hc
 obtain⟨hd,hsz,hby,hz0⟩:=hc
 subst hz0
 obtain⟨ts',rfl,hok,hN,hus,hrgs⟩:=qU (P:=P) hA h hx hsrc
 obtain⟨_,_,_,hN',hus',_⟩:=qU (P:=P) hA h.drew hx hsrc
 have hus1:=hus _ (Nat.le_refl _)
 rw[List.take_length]at hus1
 have hus2:(Builtin.firstCells i.size (ts'.den V).length x').run P w.drew=.ok (nv (ts'.den V)).toArray w.drew:=by
  obtain⟨t3,e3,_,hN3,hus3,_⟩:=qU (P:=P) hA h.drew hx hsrc;have:=TN.inj _ _ e3;subst this;have:=hus3 _ (Nat.le_refl _);rw[List.take_length]at this;rw[hsz];exact this
 have hus1':(Builtin.firstCells i.size (ts'.den V).length x').run P w=.ok (nv (ts'.den V)).toArray w:=by rw[hsz];exact hus1
 obtain⟨z',hz',hzl,_⟩:=sA (w:=w.drew) hz
 have grow:∀ {T:TN} {base:Option Addr} {n c:Nat} {X:List Int} {H0:AS} {kill:Option Nat},T.ok V.length=true->T.den V=X++ts'.den V->(∀ x∈X,0<=x/\x<=4194303)->X.length=n->(∀ B,kill=some B->True) ->
     (Builtin.firstCells i.size n (.slice base n c)).run P w.drew=.ok (nv X).toArray w.drew->¬ n+(ts'.den V).length<=c->o5 A H e kill T.enc=some (v,H')->(n+(ts'.den V).length<=2 ^ 42->Made P w0 V H' w (Builtin.append_ ts ty #[.slice base n c,x']) v):=by
  intro T base n c X H0 kill hT hTd hXr hX _ hos hfit hnew h46
  unfold o5 at hnew
  split at hnew
  .cases hnew
  rename_i K H1 hn1
  split at hnew
  .cases hnew
  rename_i H2 hk2
  split at hnew
  .cases hnew
  rename_i B' H3 hn3
  split at hnew
  rotate_left
  .cases hnew
  rename_i hle
  cases hnew
  have hcap:¬ Builtin.nextslicecap (n+(ts'.den V).length) c*i.bytes > 2 ^ 48:=by
   have:=nextslicecap_le (need:=n+(ts'.den V).length) (old:=c) (by omega);rw[hby];omega
  obtain⟨newCap,hnc,hnc63,hrun⟩:=vR (ty:=ty) h0 h1 hu hu2 hd hi hN hus2 hos hz' hfit (by rw[hby];decide) hcap (by omega)
  obtain⟨g1,g2,g3⟩:=h.drew.var hn1 ⟨0,0,0,.tuple (nv (List.replicate (newCap-(n+(ts'.den V).length)) (0:Int))).toArray,yD⟩
  have g4:HR w0 (V++[⟨0,0,0,.tuple (nv (List.replicate (newCap-(n+(ts'.den V).length)) (0:Int))).toArray,yD⟩]) H2 w.drew:=by
   split at hk2
   .cases hk2;exact g1
   .exact (g1.kill hk2).1
  have hCl:((nv X).toArray++(nv (ts'.den V)).toArray++Builtin.zeroCells z'.cells (newCap-(n+(ts'.den V).length))).toList=[]++nv (T.den V++List.replicate (newCap-(n+(ts'.den V).length)) (0:Int))++[]:=by
   simp only[Array.toList_append,aQB hzl,hTd,nB];simp
  obtain⟨q1,q2⟩:=g4.newS (w':=w.drew.alloc (.cells ((nv X).toArray++(nv (ts'.den V)).toArray++Builtin.zeroCells z'.cells (newCap-(n+(ts'.den V).length))) e)) (fr:=(0,0)) hn3 rfl rfl (h.drew.below.alloc _) (fun k _ hk=>by omega) (rR hT g3 rfl hCl (fun x hx=>by
   rw[hTd]at hx;simp only[List.mem_append]at hx;rcases hx with (hx|hx)|hx
   .exact hXr x hx
   .exact hrgs x hx
   .have:=List.eq_of_mem_replicate hx;omega))
  refine⟨_,_,_,hrun,by rw[<-List.append_assoc];exact q1,?_⟩
  rw[<-List.append_assoc]
  have:=eV (A:=A) hA hT g3 hle (by rw[hTd,List.length_append,List.length_replicate,hX];omega) q2
  rw[hTd,List.length_append,List.length_replicate,hX]at this
  have e5:n+(ts'.den V).length+(newCap-(n+(ts'.den V).length))=newCap:=by omega
  rw[e5]at this
  exact this
 split at ha
 .rename_i n c
  split at ha
  rotate_left
  .cases ha
  rename_i hc
  obtain⟨rfl,rfl,hlt⟩:=hc
  cases hs
  obtain⟨r,e1,e2,e3⟩:=yQ 20 ts'
  rw[e1]at hlt
  have hlt:=xM (s:=.lit 0) hA hlt
  rw[e3]at hlt
  simp only[TI.den]at hlt
  have ha':=ha
  have h46:(ts'.den V).length<=2 ^ 42:=by
   unfold o5 at ha';split at ha'
   .cases ha'
   split at ha'
   .cases ha'
   split at ha'
   .cases ha'
   split at ha'
   .rename_i hle;rw[e1]at hle;have:=zO (t:=.lit 4398046511104) hA hle;rw[e3]at this;simp only[TI.den]at this;omega
   .cases ha'
  exact grow (T:=ts') (X:=[]) (n:=0) (c:=0) (kill:=none) (H0:=H) hok rfl (fun x hx=>by simp at hx) rfl (fun _ _=>trivial) rfl (by omega) ha (by omega)
 .split at ha
  rotate_left
  .cases ha
  rename_i B o n c hq
  obtain⟨to,tn,tc,b,sh,rfl,rfl,rfl,hk,rfl⟩:=yR hs hq
  split at ha
  rotate_left
  .cases ha
  rename_i bl hg
  split at ha
  rotate_left
  .cases ha
  rename_i q hlive hro hseq
  split at ha
  rotate_left
  .cases ha
  rename_i hc
  obtain⟨hel0,hle0⟩:=hc
  obtain⟨c',s0,C,fr,hβ,⟨el,hw,hel⟩,htop,hsz',hfr,hcl,hbase,hsq⟩:=h.blk B bl hg hlive
  rw[hk.home]at hβ;cases hβ
  obtain rfl:=hel hro
  obtain⟨tl,pre,post,rfl,hokl,hpre,hC,hrgl⟩:=hsq.getN hseq
  obtain⟨rc,c1,c2,c3⟩:=zX to tc
  obtain⟨rl,l1,l2,l3⟩:=yQ 20 tl
  rw[c1,l1]at hle0
  have hle0:=zO hA hle0
  rw[c3,l3]at hle0
  obtain⟨ra,a1,a2,a3⟩:=zX to tn
  rw[a1]at ha
  obtain⟨rx,x1,x2,x3⟩:=rQ A tl to ra
  rw[x1]at ha
  obtain⟨T,t1,t2',t3⟩:=nH rx ts'
  rw[t1]at ha
  have o0:=hk.o0
  have n0:=hk.n0
  have nc:=hk.nc
  have hra:(ra.den V).toNat=(to.den V).toNat+(tn.den V).toNat:=by rw[a3];omega
  have hTok:T.ok V.length=true:=t2' _ (x2 _ hokl hk.oko (a2 _ hk.oko hk.okn)) hok
  have hX:(rx.den V).length=(tn.den V).toNat:=by rw[x3,List.length_drop,List.length_take,hra];omega
  have hTl:(T.den V).length=(tn.den V).toNat+(ts'.den V).length:=by rw[t3,List.length_append,hX]
  have ha':=ha
  have h46:(tn.den V).toNat+(ts'.den V).length<=2 ^ 42:=by
   unfold o5 at ha';split at ha'
   .cases ha'
   split at ha'
   .cases ha'
   split at ha'
   .cases ha'
   split at ha'
   .rename_i hle;obtain⟨rT,u1,u2,u3⟩:=yQ 20 T;rw[u1]at hle;have:=zO (t:=.lit 4398046511104) hA hle;rw[u3]at this;simp only[TI.den]at this;omega
   .cases ha'
  have hloads:(Builtin.firstCells i.size (tn.den V).toNat (.slice (some ⟨b,(to.den V).toNat+sh,none⟩) (tn.den V).toNat (tc.den V).toNat)).run P w.drew=.ok (nv (rx.den V)).toArray w.drew:=by
   simp only[Builtin.firstCells,hsz,Nat.mul_one];have hw2:w.drew.heap[b]?=some (.cells C bl.elem fr):=hw;rw[rW hw2 hC hpre (by omega),x3,hra]
  by_cases hfit:(tn.den V).toNat+(ts'.den V).length<=(tc.den V).toNat
  .unfold o5 at ha
   split at ha
   .cases ha
   rename_i K H1 hn1
   split at ha
   .cases ha
   rename_i H2 hk2
   split at ha
   .cases ha
   rename_i B' H3 hn3
   split at ha
   rotate_left
   .cases ha
   rename_i hle
   cases ha
   have hCs:C.size=pre.length+(tl.den V).length+post.length:=by
    have:=congrArg List.length hC;simp only[Array.length_toList,List.length_append,vK]at this;exact this
   obtain⟨w',C',g1,g2,g3,g4,g5,g6⟩:=uG (P:=P) (w0:=w0) b (hbase hro) (nv (ts'.den V)) 0 ((to.den V).toNat+sh+(tn.den V).toNat) w C bl.elem fr hw (by rw[vK];omega) (hfr hro) (ao7 _) h.below
   obtain⟨v1,v2,v3⟩:=h.var hn1 ⟨0,0,0,.tuple (nv (((tl.den V).drop ((to.den V).toNat+(tn.den V).toNat+(ts'.den V).length)).take ((tc.den V).toNat-((tn.den V).toNat+(ts'.den V).length)))).toArray,yD⟩
   have hg1:H1.get B=some bl:=by
    obtain⟨rfl,_,_,_,hX1⟩:=AS.new_get hn1;rw[hX1 B (by have:=AS.get_lt hg;omega)];exact hg
   have hCl:C'.toList=(pre++nv ((tl.den V).take (to.den V).toNat))++nv (T.den V++((tl.den V).drop ((to.den V).toNat+(tn.den V).toNat+(ts'.den V).length)).take ((tc.den V).toNat-((tn.den V).toNat+(ts'.den V).length))) ++
       (nv ((tl.den V).drop ((to.den V).toNat+(tc.den V).toNat))++post):=by
    rw[g4,hC]
    have p1:(to.den V).toNat+sh+(tn.den V).toNat+0=pre.length+((to.den V).toNat+(tn.den V).toNat):=by omega
    rw[p1,List.append_assoc pre,List.take_append,List.take_of_length_le (by omega:pre.length<=_),Nat.add_sub_cancel_left,List.take_append_of_le_length (by rw[vK];omega)]
    rw[vK,Nat.add_assoc,List.drop_append,List.drop_of_length_le (by omega:pre.length<=_),Nat.add_sub_cancel_left,List.drop_append_of_le_length (by rw[vK];omega)]
    have q1:(nv (tl.den V)).take ((to.den V).toNat+(tn.den V).toNat)=nv ((tl.den V).take (to.den V).toNat)++nv (rx.den V):=by
     rw[x3,hra,<-nB];have:(tl.den V).take (to.den V).toNat++((tl.den V).take ((to.den V).toNat+(tn.den V).toNat)).drop (to.den V).toNat=(tl.den V).take ((to.den V).toNat+(tn.den V).toNat):=by
      have e:=List.take_append_drop (to.den V).toNat ((tl.den V).take ((to.den V).toNat+(tn.den V).toNat));rw[List.take_take,Nat.min_eq_left (by omega)]at e;exact e
     rw[this];simp[nv,List.map_take]
    have q2:(nv (tl.den V)).drop ((to.den V).toNat+(tn.den V).toNat+(ts'.den V).length)=nv (((tl.den V).drop ((to.den V).toNat+(tn.den V).toNat+(ts'.den V).length)).take ((tc.den V).toNat-((tn.den V).toNat+(ts'.den V).length)))++nv ((tl.den V).drop ((to.den V).toNat+(tc.den V).toNat)):=by
     rw[<-nB];have:((tl.den V).drop ((to.den V).toNat+(tn.den V).toNat+(ts'.den V).length)).take ((tc.den V).toNat-((tn.den V).toNat+(ts'.den V).length))++(tl.den V).drop ((to.den V).toNat+(tc.den V).toNat)=(tl.den V).drop ((to.den V).toNat+(tn.den V).toNat+(ts'.den V).length):=by
      have e:=List.take_append_drop ((tc.den V).toNat-((tn.den V).toNat+(ts'.den V).length)) ((tl.den V).drop ((to.den V).toNat+(tn.den V).toNat+(ts'.den V).length));rw[List.drop_drop,show (to.den V).toNat+(tn.den V).toNat+(ts'.den V).length+((tc.den V).toNat-((tn.den V).toNat+(ts'.den V).length))=(to.den V).toNat+(tc.den V).toNat from by omega]at e;exact e
     rw[this];simp[nv,List.map_drop]
    rw[q1,q2,t3]
    simp only[nB,List.append_assoc,List.nil_append]
   obtain⟨q1,q2⟩:=v1.rehomeS (w':=w') hg1 hlive hro (zV hk.home) hk2 hn3 rfl hel0.symm hw g3 g2 g5 g6 (s':=(to.den V).toNat+sh) (by omega) (rR hTok v3 (by rw[List.length_append,vK,List.length_take];omega) hCl (fun x hx=>by
    rw[List.mem_append]at hx;rcases hx with hx|hx
    .rw[t3,List.mem_append]at hx;rcases hx with hx|hx
     .exact hrgl x (by rw[x3]at hx;exact List.mem_of_mem_take (List.mem_of_mem_drop hx))
     .exact hrgs x hx
    .exact hrgl x (List.mem_of_mem_drop (List.mem_of_mem_take hx))))
   refine⟨_,.slice (some ⟨b,(to.den V).toNat+sh,none⟩) ((tn.den V).toNat+(ts'.den V).length) (tc.den V).toNat,w',?_,by rw[<-List.append_assoc];exact q1,?_⟩
   .rw[run_append_fits h0 h1 hu hu2 hd hi hN hus1' hfit]
    have e5:(⟨b,(to.den V).toNat+sh,none⟩:Addr).add ((tn.den V).toNat*i.size)=⟨b,(to.den V).toNat+sh+(tn.den V).toNat,none⟩:=by rw[wS,hsz,Nat.mul_one]
    simp only[e5,Sem.run_bind,g1,Result.andThen_ok]
    rfl
   .rw[<-List.append_assoc]
    have htl:(((tl.den V).drop ((to.den V).toNat+(tn.den V).toNat+(ts'.den V).length)).take ((tc.den V).toNat-((tn.den V).toNat+(ts'.den V).length))).length=(tc.den V).toNat-((tn.den V).toNat+(ts'.den V).length):=by
     rw[List.length_take,List.length_drop];omega
    have hcb:=hk.cb
    have:=eV (A:=A) hA hTok v3 hle (by rw[hTl,htl];omega) q2
    rw[hTl,htl]at this
    have e5:(tn.den V).toNat+(ts'.den V).length+((tc.den V).toNat-((tn.den V).toNat+(ts'.den V).length))=(tc.den V).toNat:=by omega
    rw[e5]at this
    exact this
  .exact grow (T:=T) (X:=rx.den V) (kill:=some B) (H0:=H) hTok (t3 V) (fun x hx=>hrgl x (by rw[x3]at hx;exact List.mem_of_mem_take (List.mem_of_mem_drop hx))) hX (fun _ _=>trivial) hloads hfit ha h46
end
end Go.SM
