-- the statement of this claim: see YtoamgocecoiggaaDoorRs
import Derived.Test.YtoamgocecoiggaaDoorM7
set_option linter.unusedVariables false
set_option linter.unusedSimpArgs false
set_option maxRecDepth 100000
noncomputable section
namespace Go.SM
noncomputable section
def ah5(e:Value):Value:=match e with
 | .int _ x=>.int .i64 (x*3)
 |e=>nd2 102 e (.int .i64 3)
theorem o8(t:TI):∃ r:TI,ah5 t.enc=r.enc/\(∀ n,t.ok n=true->r.ok n=true)/\∀ V,r.den V=t.den V*3:=by
 generalize he:t.enc=e;unfold ah5;split
 .rename_i k x;have:t=.lit x:=by cases t<;>simp[TI.enc,nd1,nd2,nd3]at he;rw[he.2]
  subst this;exact⟨.lit (x*3),rfl,fun _ _=>rfl,fun V=>by simp[TI.den]⟩
 .rw[<-he];exact⟨.op .mul t (.lit 3),rfl,fun n h=>by simp[TI.ok,h],fun V=>rfl⟩
def afU(H:AS)(x:Value):Option (Nat × Value) :=
 match x with
 | .slice (some ⟨B,o,_⟩) n _ =>
  match uC H B o (n*3) with
  |some l=>(match eX l with
   |some e=>some (n,e)
   |none=>none)
  |none=>none
 |_=>none
theorem kE{P:Program}{w0:W0}{V:Ren}{H:AS}{w:World}(h:HR w0 V H w){x x' e:Value}{n:Nat}(hx:VR V x x')(hs:afU H x=some (n,e)) :
    ∃ t:TN,e=t.enc/\t.ok V.length=true/\(Builtin.lenOf x').run P w=.ok n w/\(Builtin.firstCells 3 n x').run P w=.ok (nv (t.den V)).toArray w/\(t.den V).length=n*3/\∀ x∈t.den V,0<=x/\x<=4194303:=by
 unfold afU at hs
 split at hs
 rotate_left
 .cases hs
 rename_i B o sp n' c
 split at hs
 rotate_left
 .cases hs
 rename_i l hl
 split at hs
 rotate_left
 .cases hs
 rename_i e' ho
 cases hs
 have hlen:=(uB hl).1
 have go:∀ (b s:Nat),hm V B=some (b,s)->∀ c',x'=.slice (some ⟨b,o+s,none⟩) n c'->∃ t:TN,e=t.enc/\t.ok V.length=true/\(Builtin.lenOf x').run P w=.ok n w/\(Builtin.firstCells 3 n x').run P w=.ok (nv (t.den V)).toArray w/\(t.den V).length=n*3/\∀ x∈t.den V,0<=x/\x<=4194303:=by
  rintro b s hb c' rfl;obtain⟨us,hrun,hv⟩:=h.loads (P:=P) hl hb;obtain⟨t,h1,h2,h3,h4,h5⟩:=sH hv ho;refine⟨t,h1,h2,rfl,?_,by rw[h4,hlen],h5⟩;simp only[Builtin.firstCells];rw[<-h3];exact hrun
 cases hx with
 |sl _ _ b s _ _ hb=>exact go b s hb _ rfl
 |slL _ _ _ _ c' z q hb _ _=>exact go _ _ (vU hb) _ rfl
def iJ(A:List Value)(H:AS)(e:TypeId)(kill:Option Nat)(T N:Value):Option (Value × AS) :=
 match H.new dY with
 |none=>none
 |some (K,H1) =>
  match (match kill with
   |none=>some H1
   |some B=>lW H1 B) with
  |none=>none
  |some H2 =>
   match H2.new { cells:=[],elem:=e,ro:=false,live:=true,seq:=some (nd1 28 (nd2 26 T (.map (some K)))) } with
   |none=>none
   |some (B',H3)=>if vH A N (.int .i64 1099511627776)=true then some (sL B' (.int .i64 0) N (yM N (nd2 109 (nd1 14 (.map (some K))) (.int .i64 3))),H3) else none
def fU(P:Program)(A:List Value)(H:AS)(ts:Array TypeId)(s x:Value):Option (Value × AS) :=
 match ts[0]?,ts[1]? with
 |some t,some t2 =>
  match P.underlying t,P.underlying t2 with
  |some (.slice e),some d2 =>
   match P.info? e,pX P e,afU H x with
   |some i,some [.int .i64 0,.int .i64 0,.int .i64 0],some (k,src) =>
    if uY d2=false/\i.size=3/\i.bytes=24/\0<k then
     match s with
     | .slice none n c=>if n=0/\c=0 then iJ A H e none src (.int .i64 k) else none
     |s =>
      match asL s with
      |some (B,.int .i64 0,n,c) =>
       match H.get B with
       |some b =>
        match b.live,b.ro,b.seq with
        |true,false,some (.func (.yield 28) ⟨[q]⟩ ⟨[]⟩)=>if b.elem=e/\vH A (ah5 c) (xG 20 q)=true then iJ A H e (some B) (iZ (oM A q (.int .i64 0) (ah5 n)) src) (yM n (.int .i64 k)) else none
        |_,_,_=>none
       |none=>none
      |_=>none
    else none
   |_,_,_=>none
  |_,_=>none
 |_,_=>none
theorem aP9{z:Value}(hz:z.cells.toList=[.int .i64 0,.int .i64 0,.int .i64 0])(n:Nat):(Builtin.zeroCells z.cells n).toList=nv (List.replicate (n*3) 0):=by
 have:z.cells=#[.int .i64 0,.int .i64 0,.int .i64 0]:=by apply Array.ext';simpa using hz
 rw[this];simp only[Builtin.zeroCells,nv];simp only[Array.toList_map,Array.toList_range,List.map_replicate];rw[List.eq_replicate_iff];refine⟨by simp,fun b hb=>?_⟩;simp only[List.mem_map]at hb;obtain⟨i,_,rfl⟩:=hb;have h3:i%3<3:=Nat.mod_lt _ (by decide);show (#[Value.int .i64 0,.int .i64 0,.int .i64 0])[i%3]! = _;generalize i%3=m at h3;match m,h3 with
 |0,_=>rfl
 |1,_=>rfl
 |2,_=>rfl
theorem eS{V:Ren}{A:List Value}{N:TI}{K B' b s' nn j:Nat}{tail:List Int}{q:Hm}(hA:Facts V A)(hN:N.ok V.length=true)(hNd:N.den V=(nn:Int))(hK:K=V.length)(hle:vH A N.enc (.int .i64 1099511627776)=true)(htl:tail.length=j*3)(hcap:nn+j<2 ^ 63)
    (hb:hm (V++[⟨0,0,0,.tuple (nv tail).toArray,yD⟩]++[q]) B'=some (b,s')) :
    VR (V++[⟨0,0,0,.tuple (nv tail).toArray,yD⟩]++[q]) (sL B' (.int .i64 0) N.enc (yM N.enc (nd2 109 (nd1 14 (.map (some K))) (.int .i64 3)))) (.slice (some ⟨b,s',none⟩) nn (nn+j)):=by
 subst hK
 obtain⟨ra,a1,a2,a3⟩:=zX N (.op .quo (.lenN (.var V.length)) (.lit 3))
 have hle:=zO (t:=.lit 1099511627776) hA hle
 simp only[TI.den]at hle
 have a1':yM N.enc (nd2 109 (nd1 14 (.map (some V.length))) (.int .i64 3))=ra.enc:=a1
 rw[a1']
 have hr:N.den (V++[⟨0,0,0,.tuple (nv tail).toArray,yD⟩]++[q])=(nn:Int):=by rw[List.append_assoc,TI.den_app V _ N hN];exact hNd
 have hv0:(TI.lenN (.var V.length)).den (V++[⟨0,0,0,.tuple (nv tail).toArray,yD⟩]++[q])=tail.length:=by
  simp only[TI.den,TN.den];rw[List.append_assoc,List.getElem?_append_right (Nat.le_refl _)];simp[w8]
 have hv:(TI.op .quo (.lenN (.var V.length)) (.lit 3)).den (V++[⟨0,0,0,.tuple (nv tail).toArray,yD⟩]++[q])=(j:Int):=by
  show IOp.fn .quo ((TI.lenN (.var V.length)).den _) 3=_;rw[hv0,htl];show (((j*3:Nat):Int)).tdiv 3=j;rw[Int.tdiv_eq_ediv_of_nonneg (by omega)];omega
 have hlen:(V++[(⟨0,0,0,.tuple (nv tail).toArray,yD⟩:Hm)]++[q]).length=V.length+2:=by simp
 have:=SlOk.vr (V:=V++[⟨0,0,0,.tuple (nv tail).toArray,yD⟩]++[q]) (B:=B') (o:=.lit 0) (n:=N) (c:=ra) (b:=b) (s:=s')
  ⟨hb,rfl,by rw[hlen];exact TI.ok_app _ _ (by omega) N hN,a2 _ (by rw[hlen];exact TI.ok_app _ _ (by omega) N hN) (by rw[hlen];simp only[TI.ok,TN.ok,Bool.and_true];exact decide_eq_true (by omega)),by simp[TI.den],by rw[hr];omega,by rw[a3,hr,hv];omega,by rw[hr];omega,by rw[a3,hr,hv];omega⟩
 rw[a3,hr,hv]at this
 simp only[TI.den,Int.toNat_zero,Nat.zero_add,Int.toNat_natCast]at this
 have e4:((nn:Int)+(j:Int)).toNat=nn+j:=by omega
 rw[e4]at this
 exact this
theorem HR.append3{P:Program}{w0:W0}{V:Ren}{H H':AS}{w:World}{A:List Value}(hA:Facts V A)(h:HR w0 V H w){ts:Array TypeId}{ty:TypeId}{s s' x x' v:Value}(hs:VR V s s')(hx:VR V x x')(ha:fU P A H ts s x=some (v,H')) :
    Made P w0 V H' w (Builtin.append_ ts ty #[s',x']) v:=by
 unfold fU at ha
 split at ha
 rotate_left
 .cases ha
 rename_i t t2 h0 h1
 split at ha
 rotate_left
 .cases ha
 rename_i e d2 hu hu2
 split at ha
 rotate_left
 .cases ha
 rename_i i k src hi hz hsrc
 split at ha
 rotate_left
 .cases ha
 rename_i hc
 obtain⟨hd,hsz,hby,hk0⟩:=hc
 obtain⟨ts',rfl,hok,hN,hus,htl,hrgs⟩:=kE (P:=P) h hx hsrc
 have hus2:(Builtin.firstCells i.size k x').run P w.drew=.ok (nv (ts'.den V)).toArray w.drew:=by
  obtain⟨t3,e3,_,hN3,hus3,_,_⟩:=kE (P:=P) h.drew hx hsrc;have:=TN.inj _ _ e3;subst this;rw[hsz];exact hus3
 have hus1':(Builtin.firstCells i.size k x').run P w=.ok (nv (ts'.den V)).toArray w:=by rw[hsz];exact hus
 obtain⟨z',hz',hzl,_⟩:=sA (w:=w.drew) hz
 have grow:∀ {T:TN} {N:TI} {base:Option Addr} {n c:Nat} {X:List Int} {kill:Option Nat},T.ok V.length=true->N.ok V.length=true->N.den V=((n+k:Nat):Int)->T.den V=X++ts'.den V->(∀ x∈X,0<=x/\x<=4194303)->X.length=n*3 ->
     (Builtin.firstCells i.size n (.slice base n c)).run P w.drew=.ok (nv X).toArray w.drew->¬ n+k<=c->iJ A H e kill T.enc N.enc=some (v,H')->Made P w0 V H' w (Builtin.append_ ts ty #[.slice base n c,x']) v:=by
  intro T N base n c X kill hT hNo hNd hTd hXr hX hos hfit hnew
  unfold iJ at hnew
  split at hnew
  .cases hnew
  rename_i K H1 hn1
  split at hnew
  .cases hnew
  rename_i H2 hk2
  split at hnew
  .cases hnew
  rename_i B' H3 hn3
  split at hnew
  rotate_left
  .cases hnew
  rename_i hle
  cases hnew
  have h46:=zO (t:=.lit 1099511627776) hA hle
  simp only[TI.den]at h46
  rw[hNd]at h46
  have hcap:¬ Builtin.nextslicecap (n+k) c*i.bytes > 2 ^ 48:=by
   have:=nextslicecap_le (need:=n+k) (old:=c) (by omega);rw[hby];omega
  obtain⟨newCap,hnc,hnc63,hrun⟩:=vR (ty:=ty) h0 h1 hu hu2 hd hi hN hus2 hos hz' hfit (by rw[hby];decide) hcap (by omega)
  obtain⟨g1,g2,g3⟩:=h.drew.var hn1 ⟨0,0,0,.tuple (nv (List.replicate ((newCap-(n+k))*3) (0:Int))).toArray,yD⟩
  have g4:HR w0 (V++[⟨0,0,0,.tuple (nv (List.replicate ((newCap-(n+k))*3) (0:Int))).toArray,yD⟩]) H2 w.drew:=by
   split at hk2
   .cases hk2;exact g1
   .exact (g1.kill hk2).1
  have hCl:((nv X).toArray++(nv (ts'.den V)).toArray++Builtin.zeroCells z'.cells (newCap-(n+k))).toList=[]++nv (T.den V++List.replicate ((newCap-(n+k))*3) (0:Int))++[]:=by
   simp only[Array.toList_append,aP9 hzl,hTd,nB];simp
  obtain⟨q1,q2⟩:=g4.newS (w':=w.drew.alloc (.cells ((nv X).toArray++(nv (ts'.den V)).toArray++Builtin.zeroCells z'.cells (newCap-(n+k))) e)) (fr:=(0,0)) hn3 rfl rfl (h.drew.below.alloc _) (fun k _ hk=>by omega) (rR hT g3 rfl hCl (fun x hx=>by
   rw[hTd]at hx;simp only[List.mem_append]at hx;rcases hx with (hx|hx)|hx
   .exact hXr x hx
   .exact hrgs x hx
   .have:=List.eq_of_mem_replicate hx;omega))
  refine⟨_,_,_,hrun,by rw[<-List.append_assoc];exact q1,?_⟩
  rw[<-List.append_assoc]
  have:=eS (A:=A) (j:=newCap-(n+k)) hA hNo hNd g3 hle (by rw[List.length_replicate]) (by omega) q2
  have e5:n+k+(newCap-(n+k))=newCap:=by omega
  rw[e5]at this
  exact this
 split at ha
 .rename_i n c
  split at ha
  rotate_left
  .cases ha
  rename_i hc
  obtain⟨rfl,rfl⟩:=hc
  cases hs
  exact grow (T:=ts') (N:=.lit k) (X:=[]) (n:=0) (c:=0) (kill:=none) hok rfl (by simp[TI.den]) rfl (fun x hx=>by simp at hx) rfl rfl (by omega) ha
 .split at ha
  rotate_left
  .cases ha
  rename_i B n c hq
  obtain⟨to,tn,tc,b,sh,hto,rfl,rfl,hk,rfl⟩:=yR hs hq
  have:to=.lit 0:=TI.inj to (.lit 0) hto.symm
  subst this
  split at ha
  rotate_left
  .cases ha
  rename_i bl hg
  split at ha
  rotate_left
  .cases ha
  rename_i q hlive hro hseq
  split at ha
  rotate_left
  .cases ha
  rename_i hc
  obtain⟨hel0,hle0⟩:=hc
  obtain⟨c',s0,C,fr,hβ,⟨el,hw,hel⟩,htop,hsz',hfr,hcl,hbase,hsq⟩:=h.blk B bl hg hlive
  rw[hk.home]at hβ;cases hβ
  obtain rfl:=hel hro
  obtain⟨tl,pre,post,rfl,hokl,hpre,hC,hrgl⟩:=hsq.getN hseq
  obtain⟨rc,c1,c2,c3⟩:=o8 tc
  obtain⟨rl,l1,l2,l3⟩:=yQ 20 tl
  rw[c1,l1]at hle0
  have hle0:=zO hA hle0
  rw[c3,l3]at hle0
  obtain⟨rn,m1,m2,m3⟩:=o8 tn
  rw[m1]at ha
  obtain⟨rx,x1,x2,x3⟩:=rQ A tl (.lit 0) rn
  have x1':oM A tl.enc (.int .i64 0) rn.enc=rx.enc:=x1
  rw[x1']at ha
  obtain⟨T,t1,t2',t3⟩:=nH rx ts'
  rw[t1]at ha
  obtain⟨ra,a1,a2,a3⟩:=zX tn (.lit k)
  have a1':yM tn.enc (.int .i64 k)=ra.enc:=a1
  rw[a1']at ha
  have n0:=hk.n0
  have nc:=hk.nc
  have z0:(TI.den V (.lit 0)).toNat=0:=rfl
  have hrn:(rn.den V).toNat=(tn.den V).toNat*3:=by rw[m3];omega
  have hTok:T.ok V.length=true:=t2' _ (x2 _ hokl rfl (m2 _ hk.okn)) hok
  have hraok:ra.ok V.length=true:=a2 _ hk.okn rfl
  have hrad:ra.den V=(((tn.den V).toNat+k:Nat):Int):=by rw[a3];simp only[TI.den];omega
  have hX:(rx.den V).length=(tn.den V).toNat*3:=by rw[x3,z0,List.drop_zero,List.length_take,hrn];omega
  have hXe:rx.den V=(tl.den V).take ((tn.den V).toNat*3):=by rw[x3,z0,List.drop_zero,hrn]
  have hTl:(T.den V).length=(tn.den V).toNat*3+(ts'.den V).length:=by rw[t3,List.length_append,hX]
  have hloads:(Builtin.firstCells i.size (tn.den V).toNat (.slice (some ⟨b,(TI.den V (.lit 0)).toNat+sh,none⟩) (tn.den V).toNat (tc.den V).toNat)).run P w.drew=.ok (nv (rx.den V)).toArray w.drew:=by
   simp only[Builtin.firstCells,hsz];have hw2:w.drew.heap[b]?=some (.cells C bl.elem fr):=hw;rw[rW hw2 hC hpre (by omega),hXe,z0,Nat.zero_add,List.drop_zero]
  by_cases hfit:(tn.den V).toNat+k<=(tc.den V).toNat
  .unfold iJ at ha
   split at ha
   .cases ha
   rename_i K H1 hn1
   split at ha
   .cases ha
   rename_i H2 hk2
   split at ha
   .cases ha
   rename_i B' H3 hn3
   split at ha
   rotate_left
   .cases ha
   rename_i hle
   cases ha
   have hCs:C.size=pre.length+(tl.den V).length+post.length:=by
    have:=congrArg List.length hC;simp only[Array.length_toList,List.length_append,vK]at this;exact this
   obtain⟨w',C',g1,g2,g3,g4,g5,g6⟩:=uG (P:=P) (w0:=w0) b (hbase hro) (nv (ts'.den V)) 0 (sh+(tn.den V).toNat*3) w C bl.elem fr hw (by rw[vK];omega) (hfr hro) (ao7 _) h.below
   obtain⟨v1,v2,v3⟩:=h.var hn1 ⟨0,0,0,.tuple (nv (((tl.den V).drop ((tn.den V).toNat*3+(ts'.den V).length)).take (((tc.den V).toNat-((tn.den V).toNat+k))*3))).toArray,yD⟩
   have hg1:H1.get B=some bl:=by
    obtain⟨rfl,_,_,_,hX1⟩:=AS.new_get hn1;rw[hX1 B (by have:=AS.get_lt hg;omega)];exact hg
   have hCl:C'.toList=pre++nv (T.den V++((tl.den V).drop ((tn.den V).toNat*3+(ts'.den V).length)).take (((tc.den V).toNat-((tn.den V).toNat+k))*3)) ++
       (nv ((tl.den V).drop ((tc.den V).toNat*3))++post):=by
    rw[g4,hC]
    have p1:sh+(tn.den V).toNat*3+0=pre.length+(tn.den V).toNat*3:=by omega
    rw[p1,List.append_assoc pre,List.take_append,List.take_of_length_le (by omega:pre.length<=_),Nat.add_sub_cancel_left,List.take_append_of_le_length (by rw[vK];omega)]
    rw[vK,Nat.add_assoc,List.drop_append,List.drop_of_length_le (by omega:pre.length<=_),Nat.add_sub_cancel_left,List.drop_append_of_le_length (by rw[vK];omega)]
    have q1:(nv (tl.den V)).take ((tn.den V).toNat*3)=nv (rx.den V):=by rw[hXe];simp[nv,List.map_take]
    have q2:(nv (tl.den V)).drop ((tn.den V).toNat*3+(ts'.den V).length)=nv (((tl.den V).drop ((tn.den V).toNat*3+(ts'.den V).length)).take (((tc.den V).toNat-((tn.den V).toNat+k))*3))++nv ((tl.den V).drop ((tc.den V).toNat*3)):=by
     rw[<-nB];have:((tl.den V).drop ((tn.den V).toNat*3+(ts'.den V).length)).take (((tc.den V).toNat-((tn.den V).toNat+k))*3)++(tl.den V).drop ((tc.den V).toNat*3)=(tl.den V).drop ((tn.den V).toNat*3+(ts'.den V).length):=by
      have e:=List.take_append_drop (((tc.den V).toNat-((tn.den V).toNat+k))*3) ((tl.den V).drop ((tn.den V).toNat*3+(ts'.den V).length));rw[List.drop_drop,show (tn.den V).toNat*3+(ts'.den V).length+((tc.den V).toNat-((tn.den V).toNat+k))*3=(tc.den V).toNat*3 from by rw[htl,Nat.sub_mul];omega]at e;exact e
     rw[this];simp[nv,List.map_drop]
    rw[q1,q2,t3]
    simp only[nB,List.append_assoc,List.nil_append]
   obtain⟨q1,q2⟩:=v1.rehomeS (w':=w') hg1 hlive hro (zV hk.home) hk2 hn3 rfl hel0.symm hw g3 g2 g5 g6 (s':=sh) (by omega) (rR hTok v3 hpre hCl (fun x hx=>by
    rw[List.mem_append]at hx;rcases hx with hx|hx
    .rw[t3,List.mem_append]at hx;rcases hx with hx|hx
     .exact hrgl x (by rw[hXe]at hx;exact List.mem_of_mem_take hx)
     .exact hrgs x hx
    .exact hrgl x (List.mem_of_mem_drop (List.mem_of_mem_take hx))))
   refine⟨_,.slice (some ⟨b,sh,none⟩) ((tn.den V).toNat+k) (tc.den V).toNat,w',?_,by rw[<-List.append_assoc];exact q1,?_⟩
   .rw[run_append_fits h0 h1 hu hu2 hd hi hN hus1' hfit]
    have e6:(⟨b,(TI.den V (.lit 0)).toNat+sh,none⟩:Addr)=⟨b,sh,none⟩:=by rw[z0,Nat.zero_add]
    have e5:(⟨b,sh,none⟩:Addr).add ((tn.den V).toNat*i.size)=⟨b,sh+(tn.den V).toNat*3,none⟩:=by rw[wS,hsz]
    rw[e6]
    simp only[e5,Sem.run_bind,g1,Result.andThen_ok]
    rfl
   .rw[<-List.append_assoc]
    have htl2:(((tl.den V).drop ((tn.den V).toNat*3+(ts'.den V).length)).take (((tc.den V).toNat-((tn.den V).toNat+k))*3)).length=((tc.den V).toNat-((tn.den V).toNat+k))*3:=by
     rw[List.length_take,List.length_drop];omega
    have hcb:=hk.cb
    have:=eS (A:=A) (j:=(tc.den V).toNat-((tn.den V).toNat+k)) hA hraok hrad v3 hle htl2 (by omega) q2
    have e5:(tn.den V).toNat+k+((tc.den V).toNat-((tn.den V).toNat+k))=(tc.den V).toNat:=by omega
    rw[e5]at this
    exact this
  .exact grow (T:=T) (N:=ra) (X:=rx.den V) (kill:=some B) hTok hraok hrad (t3 V) (fun x hx=>hrgl x (by rw[hXe]at hx;exact List.mem_of_mem_take hx)) hX hloads hfit ha
def pA(P:Program)(A:List Value)(t:TypeId)(x ix:Value):Option Value :=
 match asL x,asI ix,P.underlying t with
 |some (B,o,n,_),some (_,e,lo,_),some (.slice el) =>
  match P.info? el with
  |some q=>if q.size=3/\(0<=lo\/vH A (.int .i64 0) e=true)/\nS A e n=true then some (sP B (yM o (ah5 e))) else none
  |none=>none
 |_,_,_=>none
theorem mB{P:Program}{w:World}{V:Ren}{A:List Value}(hA:Facts V A){t:TypeId}{x x' ix ix' v:Value}(hx:VR V x x')(hi:VR V ix ix')(h:pA P A t x ix=some v) :
    ∃ u,(Instr.indexAt t x' ix').run P w=.ok u w/\VR V v u:=by
 unfold pA at h
 split at h
 rotate_left
 .cases h
 rename_i B o n c k e lo hi' el q1 q2 hu
 obtain⟨to,tn,tc,b,s,rfl,rfl,rfl,hk,rfl⟩:=yR hx q1
 obtain⟨ti,rfl,i1,rfl,i2,_⟩:=yK hi q2
 split at h
 rotate_left
 .cases h
 rename_i q hq
 split at h
 rotate_left
 .cases h
 rename_i hc
 obtain⟨hsz,h0,hlt⟩:=hc
 cases h
 have d1:0<=ti.den V:=by
  rcases h0 with h0|h0
  .omega
  .exact zO (s:=.lit 0) hA h0
 have d2:=xM hA hlt
 have ho:=hk.o0
 obtain⟨rm,m1,m2,m3⟩:=o8 ti
 rw[m1]
 obtain⟨ra,k1,k2,k3⟩:=zX to rm
 have hb:(0:Int)<=ti.den V/\ti.den V<((tn.den V).toNat:Int):=by omega
 have e3:(⟨b,(to.den V).toNat+s,none⟩:Addr).add ((ti.den V).toNat*3)=⟨b,(ra.den V).toNat+s,none⟩:=by rw[wS,k3,m3];congr 1;omega
 refine⟨.pointer (some ⟨b,(ra.den V).toNat+s,none⟩),?_,?_⟩
 .simp only[Instr.indexAt,asIntOf,Sem.run_bind,Sem.run_pure,run_underlying hu,Result.andThen_ok,Sem.run_ite,hb,if_true,yA hq,and_self,hsz,e3]
 .rw[k1]
  exact .symP B ra b s hk.home (k2 _ hk.oko (m2 _ i1)) (by rw[k3,m3];omega)
def adF(P:Program)(A:List Value)(t:TypeId)(H:AS)(x:Value):Option Value :=
 match asP x,P.underlying t,P.info? t with
 |some (B,o),some d,some i =>
  match H.get B with
  |some b =>
   (match b.live,b.seq with
   |true,some (.func (.yield 28) ⟨[e]⟩ ⟨[]⟩)=>if qT d=true/\i.size=3/\nS A (yM o (.int .i64 2)) (xG 20 e)=true then some (.agg #[sI .i64 (nd2 15 e o) 0 4194303,sI .i64 (nd2 15 e (yM o (.int .i64 1))) 0 4194303,sI .i64 (nd2 15 e (yM o (.int .i64 2))) 0 4194303]) else none
   |_,_=>none)
  |none=>none
 |_,_,_=>none
theorem HR.load3{P:Program}{w0:W0}{V:Ren}{H:AS}{w:World}{A:List Value}(hA:Facts V A)(h:HR w0 V H w){t:TypeId}{x x' v:Value}(hx:VR V x x')(hl:adF P A t H x=some v) :
    ∃ u,(Instr.loadAt t x').run P w=.ok u w/\VR V v u:=by
 unfold adF at hl
 split at hl
 rotate_left
 .cases hl
 rename_i B o d i hq hd hi
 obtain⟨to,c,s,rfl,hb,ho,ho0,rfl⟩:=pI hx hq
 split at hl
 rotate_left
 .cases hl
 rename_i b hg
 split at hl
 rotate_left
 .cases hl
 rename_i e hlive hseq
 split at hl
 rotate_left
 .cases hl
 rename_i hc
 obtain⟨hagg,hsz3,hlt⟩:=hc
 cases hl
 obtain⟨c',s',C,fr,hβ,⟨el,hw,hel⟩,htop,hsz,hfr,hcl,hbase,hsq⟩:=h.blk B b hg hlive
 rw[hb]at hβ;cases hβ
 obtain⟨tl,pre,post,rfl,hok,hpre,hC,hrg⟩:=hsq.getN hseq
 obtain⟨r,e1,e2,e3⟩:=yQ 20 tl
 obtain⟨r1,p1,p2,p3⟩:=zX to (.lit 1)
 obtain⟨r2,g1,g2,g3⟩:=zX to (.lit 2)
 have p1':yM to.enc (.int .i64 1)=r1.enc:=p1
 have g1':yM to.enc (.int .i64 2)=r2.enc:=g1
 rw[p1',g1']
 rw[g1',e1]at hlt
 have hlt:=xM hA hlt
 rw[e3,g3]at hlt
 simp only[TI.den]at hlt p3 g3
 have at_:∀ k:Nat,k<3->(tl.den V).getD ((to.den V).toNat+k) 0∈tl.den V:=by
  intro k hk;have:(to.den V).toNat+k<(tl.den V).length:=by omega
  rw[List.getD_eq_getElem?_getD,List.getElem?_eq_getElem this];exact List.getElem_mem this
 have q1:(r1.den V).toNat=(to.den V).toNat+1:=by rw[p3];omega
 have q2:(r2.den V).toNat=(to.den V).toNat+2:=by rw[g3];omega
 have b0:=hrg _ (at_ 0 (by omega));have b1:=hrg _ (at_ 1 (by omega));have b2:=hrg _ (at_ 2 (by omega))
 rw[Nat.add_zero]at b0
 have hdr:((tl.den V).take ((to.den V).toNat+3)).drop (to.den V).toNat=[(tl.den V).getD (to.den V).toNat 0,(tl.den V).getD ((to.den V).toNat+1) 0,(tl.den V).getD ((to.den V).toNat+2) 0]:=by
  have hm:(to.den V).toNat+2<(tl.den V).length:=by omega
  have hl3:(to.den V).toNat+3<=(tl.den V).length:=by omega
  clear hlt b0 b1 b2 at_ hw hC hrg;generalize (to.den V).toNat=m at hm hl3 ⊢;apply List.ext_getElem?;intro j;rw[List.getElem?_drop];simp only[List.getD_eq_getElem?_getD];rcases Nat.lt_or_ge j 3 with hj|hj
  .rw[List.getElem?_take_of_lt (by omega)];match j,hj with
   |0,_=>rw[Nat.add_zero,List.getElem?_eq_getElem (by omega)];simp
   |1,_=>rw[List.getElem?_eq_getElem (show m+1<_ by omega)];simp
   |2,_=>rw[List.getElem?_eq_getElem (show m+2<_ by omega)];simp
  .rw[List.getElem?_eq_none (by rw[List.length_take];omega),List.getElem?_eq_none (by simp;omega)]
 refine⟨.agg (nv [(tl.den V).getD (to.den V).toNat 0,(tl.den V).getD ((to.den V).toNat+1) 0,(tl.den V).getD ((to.den V).toNat+2) 0]).toArray,?_,?_⟩
 .have hrun:=rW (P:=P) (n:=3) (o:=(to.den V).toNat) hw hC hpre (by omega)
  rw[hdr]at hrun
  simp only[Instr.loadAt,Instr.sureAddr,Go.loadVar,Sem.run_bind,Sem.run_pure,Result.andThen_ok,vA hd,hagg,if_true,yA hi,hsz3,hrun]
 .refine .agg _ _ (by simp[nv]) (fun j v u hv hu=>?_)
  match j,hv,hu with
  |0,hv,hu =>
   cases hv;cases hu
   exact VR.symI .i64 (.selN tl to) _ _ (by simp[TI.ok,hok,ho]) b0.1 b0.2
  |1,hv,hu =>
   cases hv;cases hu
   have:=VR.symI (V:=V) .i64 (.selN tl r1) 0 4194303 (by simp[TI.ok,hok,p2 _ ho rfl]) (by simp only[TI.den,q1];exact b1.1) (by simp only[TI.den,q1];exact b1.2)
   simp only[TI.den,q1]at this
   exact this
  |2,hv,hu =>
   cases hv;cases hu
   have:=VR.symI (V:=V) .i64 (.selN tl r2) 0 4194303 (by simp[TI.ok,hok,g2 _ ho rfl]) (by simp only[TI.den,q2];exact b2.1) (by simp only[TI.den,q2];exact b2.2)
   simp only[TI.den,q2]at this
   exact this
end
end Go.SM
