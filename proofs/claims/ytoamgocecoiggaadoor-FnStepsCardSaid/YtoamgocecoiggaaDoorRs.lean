/- The statement FnSteps (a tied card), proved: to pass over or to read a character is a column more, a line break a line more; what is read is what stands there, each break as LF. Conditions: io.EOF is laid as the program lays it. -/
import Derived.Test.YtoamgocecoiggaaDoorRows
import Derived.Test.YtoamgocecoiggaaDoorCards
import Derived.Test.YtoamgocecoiggaaDoorTie
import Derived.WalkKit
import Derived.ProofKit
import Derived.OpenShut
import Derived.ChangeSame
import Derived.ChangeVars
import Derived.ChangeSlices
import Derived.JoinedOf
import Derived.RowKit
import Derived.RowKitTokens
import Derived.LaidLaws
import Derived.SizedLaws
import Derived.Carry
import Derived.Stop.LaidErr
import Derived.Stop.Joined
import Derived.Below
import Derived.SevenTiedAt
import Derived.Test.YtoamgocecoiggaaDoorM41
set_option linter.unusedVariables false
set_option linter.unusedSimpArgs false
set_option maxRecDepth 100000
noncomputable section
namespace Go.Proofs.YtoamgocecoiggaaDoor.fnStepsRow
open Go.ChangeShapes Go.WideShapes Go.ChangeAt Go.RowKit
theorem own:ownKnob Tryd.prog.godebug=none:=by kernel_rfl
theorem gO : Tryd.prog.globalNamed "io.EOF" = some 0 := by kernel_rfl
theorem gOType:(Tryd.prog.globals[0]?).map (·.type)=some 86:=by kernel_rfl
theorem u86 : Tryd.prog.underlying 86 = some (.interface #[("Error", 88)]) := by kernel_rfl
theorem u89:Tryd.prog.underlying 89=some (.pointer 124):=by kernel_rfl
theorem u9:Tryd.prog.underlying 9=some .string:=by kernel_rfl
theorem u4:Tryd.prog.underlying 4=some .bool:=by kernel_rfl
theorem u5:Tryd.prog.underlying 5=some (.int .u8):=by kernel_rfl
theorem u3:Tryd.prog.underlying 3=some (.int .i64):=by kernel_rfl
theorem u25:Tryd.prog.underlying 25=some (.slice 3):=by kernel_rfl
theorem c3:Tryd.prog.cellsOf 3=1:=by kernel_rfl
theorem b3:Tryd.prog.bytesOf 3=8:=by kernel_rfl
theorem u22:Tryd.prog.underlying 22=some (.slice 5):=by kernel_rfl
theorem a0E : (Tryd.prog.underlying 124).map (fun t => match t with | .struct a => a.toList.map (fun f => (f.name, f.type, f.offset)) | _ => []) = some [("s", 9, 0)] := by kernel_rfl
theorem aZZ:Tryd.prog.cellsOf 124=1:=by kernel_rfl
theorem c9:Tryd.prog.cellsOf 9=1:=by kernel_rfl
theorem c5:Tryd.prog.cellsOf 5=1:=by kernel_rfl
theorem b5:Tryd.prog.bytesOf 5=1:=by kernel_rfl
theorem laidOut:laidOutB Tryd.prog=true:=by kernel_rfl
theorem star : "*" ++ "errors.errorString" = "*errors.errorString" := by decide
theorem aU7 (u : TypeId) (h : Tryd.prog.typeName? 3 u = some "*errors.errorString") : u = 89 :=
 typeName_ptr_named (nm := "errors.errorString") (by rw [star]; kernel_rfl) (by kernel_rfl) (by decide) u (by rw [star]; exact h)
theorem aVF:∃ f:Field,Tryd.prog.underlying 124=some (.struct #[f])/\f.type=9/\f.offset=0:=by
 have h:=a0E;generalize Tryd.prog.underlying 124=o at h ⊢;cases o with
 |none=>cases h
 |some t =>
  cases t with
  |struct a =>
   simp only[Option.map_some,Option.some.injEq]at h;obtain⟨l⟩:=a;rcases l with _|⟨f,_|⟨g,l⟩⟩
   .simp at h
   .simp only[List.map_cons,List.map_nil,List.cons.injEq,Prod.mk.injEq,and_true]at h;exact⟨f,rfl,h.2.1,h.2.2⟩
   .simp at h
  |_=>simp at h
theorem eof{W:World}(h:laidMet Tryd.prog Rows.fnStepsRow.laid W):U.EofOk W:=by
 obtain⟨f,hf,ht,ho⟩:=aVF;obtain⟨a,s,hv,hc,_,_⟩:=laid_sentinel h gO gOType u86 aU7 u89 hf ht ho u9 aZZ c9;obtain⟨b,o,sp⟩:=a;have hsp:sp=none:=by
  cases sp with
  |none=>rfl
  |some x =>
   unfold World.cell? at hc;split at hc
   .simp at hc
   .cases hc
 subst hsp;unfold World.var? at hv;rw[gO]at hv;simp only[Option.bind_some]at hv;split at hv
 .rename_i cs e fr hh;cases hv;exact⟨b,o,_,fr,e,rfl,hh⟩
 .cases hv
theorem anP{p:Program}{fits:TypeId->Bool}:∀(d:Nat){e:TypeId}{count off n:Nat},rowAt p fits d e count off n=true->off<=count*p.cellsOf e
 |0,_,_,_,_,h=>by simp[rowAt]at h
 |d+1,e,count,off,n,h=>by
  unfold rowAt at h;simp only[]at h;split at h
  .cases h
  .have hdm:=Nat.div_add_mod off (p.cellsOf e);have hs:0<p.cellsOf e:=by omega
   rw[Bool.or_eq_true]at h;rcases h with h|h
   .simp only[Bool.and_eq_true,beq_iff_eq,decide_eq_true_eq]at h;obtain⟨⟨h1,h2⟩,_⟩:=h;rw[h1,Nat.add_zero]at hdm;rw[<-hdm,Nat.mul_comm];exact Nat.mul_le_mul_right _ (by omega)
   .rw[Bool.and_eq_true,decide_eq_true_eq]at h;have h1:=h.1;have h2:off<p.cellsOf e*(off/p.cellsOf e+1):=by
     rw[Nat.mul_add,Nat.mul_one];have:=Nat.mod_lt off hs;omega
    have h3:p.cellsOf e*(off/p.cellsOf e+1)<=p.cellsOf e*count:=Nat.mul_le_mul_left _ (by omega);rw[Nat.mul_comm count];omega
theorem aQC{W:World}{base:Nat}{a:Addr}{cap:Nat}{ty:TypeId}{k:IntKind}(ut:Tryd.prog.underlying ty=some (.int k))(h:W.has Tryd.prog .any base a ty cap):a.spot=none/\∃ C t fr,W.heap[a.block]?=some (.cells C t fr)/\a.off<=C.size:=by
 obtain⟨_,hs,row,cells,hsh,hl⟩:=h;refine⟨hs,?_⟩;unfold World.shape? at hsh;split at hsh
 .rename_i C t fr hh;cases hsh;refine⟨C,row,fr,hh,?_⟩;generalize Tryd.prog.depth=D at hl;cases D with
  |zero=>simp[liesAt]at hl
  |succ D =>
   unfold liesAt at hl;rw[Bool.or_eq_true,ut]at hl;rcases hl with hl|hl
   .have:=anP _ hl;have h2:=Nat.div_mul_le_self C.size (Tryd.prog.cellsOf row);omega
   .cases hl
 .cases hsh
theorem L1{H:Type}{enc:TypeId × Value->H}{W:World}{base:Nat}{held:Bool}{ao:Option Addr}{n cap:Nat}{d:DataW H}{ps:List MemPlace}{sty ty:TypeId}{k:IntKind}(us:Tryd.prog.underlying sty=some (.slice ty))(ut:Tryd.prog.underlying ty=some (.int k))(ct:Tryd.prog.cellsOf ty=1)(bt:1<=Tryd.prog.bytesOf ty)
    (hv:Value.okWide Tryd.prog W .any base sty (.slice ao n cap)) (h:DataW.Trod enc Tryd.prog W 0 (fun _=>true) held sty (.slice ao n cap) d ps) (hsz:∀ elems spare,d=.slice elems spare->(elems.length+spare.length)*Tryd.prog.bytesOf ty<=reachBytes) :
    (ao=none/\n=0/\cap=0)\/∃ (b off:Nat) (C:Array Value) (zs:List Int),ao=some ⟨b,off,none⟩/\(∃ fr e,W.heap[b]?=some (.cells C e fr))/\off<=C.size/\n<=cap/\cap<=140737488351232/\zs.length=cap/\(∀ i,i<cap->C[off+i]?=some (.int k (zs.getD i 0)))/\∀ x∈zs,(Lit.int k x).wf=true:=by
 obtain⟨fuel,hf⟩:=h
 rcases open_ints us ut ct hf with⟨hcs,_⟩|⟨x,len,cap',zs,hcs,_,hl,_,hz,hx,hcell,hwf⟩
 .simp[Value.cells]at hcs
  exact .inl hcs
 .simp[Value.cells]at hcs
  obtain⟨rfl,rfl,rfl⟩:=hcs
  rw[if_pos rfl]at hz
  have hh:W.has Tryd.prog .any base x ty cap:=by
   have:=hv;simp only[Value.okWide,us,Cell.okWide,Cell.ok]at this;exact this.2.2
  obtain⟨hs,C,t,fr,hb,hoff⟩:=aQC ut hh
  simp only[Prod.mk.injEq]at hx
  have hbig:=hsz _ _ hx.1
  have hlits:∀ (l:List Int),(lits (H:=H) k l).length=l.length:=fun l=>by simp[lits]
  rw[hlits,hlits,List.length_take,List.length_drop]at hbig
  have hr:reachBytes=140737488351232:=rfl
  rw[hr]at hbig
  have hbig2:=Nat.le_trans (Nat.mul_le_mul_left (min n zs.length+(zs.length-n)) bt) hbig
  obtain⟨b,off,sp⟩:=x
  have hs:sp=none:=hs
  subst hs
  have hoff:off<=C.size:=hoff
  have hb:W.heap[b]?=some (.cells C t fr):=hb
  refine .inr ⟨b,off,C,zs,rfl,⟨fr,t,hb⟩,hoff,hl,by omega,hz,fun i hi=>?_,hwf⟩
  have h1:=hcell i (by omega)
  unfold Addr.add at h1
  unfold World.cell? at h1
  by_cases hi0:i=0
  .subst hi0
   rw[if_pos rfl]at h1
   simp only[hb]at h1
   simpa using h1
  .rw[if_neg hi0]at h1
   simp only[hb]at h1
   simpa using h1
theorem aO1{W:World}{b off n cap:Nat}{C:Array Value}{zs:List Int}(hb:∃ fr e,W.heap[b]?=some (.cells C e fr))(hoff:off<=C.size)(hl:n<=cap)(hc:cap<=140737488351232)(hz:zs.length=cap)(hcell:∀ i,i<cap->C[off+i]?=some (.int .u8 (zs.getD i 0)))(hwf:∀ x∈zs,(Lit.int .u8 x).wf=true):∃ bs,U.TxtIn W b off n cap C bs:=by
 have hrng:∀ i,i<cap->0<=zs.getD i 0/\zs.getD i 0<=255:=by
  intro i hi;have hi':i<zs.length:=by omega
  have:=hwf (zs.getD i 0) (by rw[List.getD_eq_getElem?_getD,List.getElem?_eq_getElem hi'];exact List.getElem_mem hi');simp[Lit.wf,IntKind.min,IntKind.max,IntKind.signed,IntKind.bits]at this;simp only[List.getD_eq_getElem?_getD];omega
 refine⟨(zs.take n).map fun z=>UInt8.ofNat z.toNat,hb,by simp;omega,?_,hoff,hl,by omega⟩;intro i hi;rw[hcell i (by omega)];have:=hrng i (by omega);congr 2;have hi':i<zs.length:=by omega
 simp only[List.getD_eq_getElem?_getD,List.getElem?_map,List.getElem?_take_of_lt hi,List.getElem?_eq_getElem hi',Option.map_some,Option.getD_some]at this ⊢;rw[UInt8.toNat_ofNat',Nat.mod_eq_of_lt (by omega)];omega
theorem akI{W:World}{b off n cap:Nat}{C:Array Value}{zs:List Int}(hb:∃ fr e,W.heap[b]?=some (.cells C e fr))(hoff:off<=C.size)(hl:n<=cap)(hc:cap<=140737488351232)(hz:zs.length=cap)(hcell:∀ i,i<cap->C[off+i]?=some (.int .i64 (zs.getD i 0)))(hwf:∀ x∈zs,(Lit.int .i64 x).wf=true):∃ ys,U.StpIn W b off n cap C ys:=by
 refine⟨zs.take n,hb,by simp;omega,?_,?_,hoff,hl,by omega⟩
 .intro i hi;rw[hcell i (by omega)];simp only[List.getD_eq_getElem?_getD,List.getElem?_take_of_lt hi]
 .intro x hx;have:=hwf x (List.mem_of_mem_take hx);simp[Lit.wf,IntKind.min,IntKind.max,IntKind.signed,IntKind.bits]at this;omega
theorem aw4{H:Type}{enc:TypeId × Value->H}{W:World}{base:Nat}{held:Bool}{ao ao2:Option Addr}{n cap n2 cap2:Nat}{d d2:DataW H}{ps ps2:List MemPlace}(he:U.EofOk W)(hv:Value.okWide Tryd.prog W .any base 22 (.slice ao n cap))(hv2:Value.okWide Tryd.prog W .any base 25 (.slice ao2 n2 cap2))
    (h:DataW.Trod enc Tryd.prog W 0 (fun _=>true) held 22 (.slice ao n cap) d ps) (h2:DataW.Trod enc Tryd.prog W 0 (fun _=>true) held 25 (.slice ao2 n2 cap2) d2 ps2) (hsz:∀ elems spare,d=.slice elems spare->(elems.length+spare.length)*Tryd.prog.bytesOf 5<=reachBytes) (hsz2:∀ elems spare,d2=.slice elems spare->(elems.length+spare.length)*Tryd.prog.bytesOf 3<=reachBytes) :
    Calls Tryd.prog 4 #[.slice ao n cap,.slice ao2 n2 cap2] W fun e w'=>e=.returned (.bool true)/\Below W.heap.size W w':=by
 rcases L1 u22 u5 c5 (by rw[b5];decide) hv h hsz with⟨rfl,rfl,rfl⟩|⟨b,off,C,zs,rfl,q1,q2,q3,q4,q5,q6,q7⟩
 .rcases L1 u25 u3 c3 (by rw[b3];decide) hv2 h2 hsz2 with⟨rfl,rfl,rfl⟩|⟨b',off',C',zs',rfl,r1,r2,r3,r4,r5,r6,r7⟩
  .exact U.steps_nn he
  .obtain⟨ys,s⟩:=akI r1 r2 r3 r4 r5 r6 r7
   exact U.steps_ns he s
 .obtain⟨bs,t⟩:=aO1 q1 q2 q3 q4 q5 q6 q7
  rcases L1 u25 u3 c3 (by rw[b3];decide) hv2 h2 hsz2 with⟨rfl,rfl,rfl⟩|⟨b',off',C',zs',rfl,r1,r2,r3,r4,r5,r6,r7⟩
  .exact U.steps_tn he t
  .obtain⟨ys,s⟩:=akI r1 r2 r3 r4 r5 r6 r7
   exact U.steps_ts he t s
def low:Nat:=(World.holding Tryd.prog default ⟨#[],#[],[]⟩).heap.size
def laidWorld(os:Os):World :=
 let w0:=World.holding Tryd.prog os ⟨#[.cells #[.string ⟨#[69,79,70]⟩] 124],#[],[]⟩
 { w0 with heap:=w0.heap.modify 0 fun
     | .cells _ t frozen=>.cells #[.iface 89 (.pointer (some ⟨low,0,none⟩))] t frozen
     |o=>o }
theorem laidWorld_met(os:Os)(args:Array Value):laidMet Tryd.prog Rows.fnStepsRow.laid ((laidWorld os).forCall (fun _ _=>0) ⟨#[],args,[]⟩).memory :=
 laidMet_of_run (ps:=[.cell 0 0,.cell low 0]) 8 (by kernel_rfl) (by kernel_rfl) (by kernel_rfl)
set_option maxRecDepth 100000 in
theorem lifted(os:Os)(started:os.Started)(H:Type)(enc:TypeId × Value->H) :
    ReturnsInHanded {} Tryd.checked os 4 .any (fun w args=>(Rows.fnStepsSpec.pre enc Tryd.prog Tryd.f4 [] false w args/\laidMet Tryd.prog Rows.fnStepsRow.laid w)/\sizedMet enc Tryd.prog Tryd.f4 (OpenSpec.ofChange Rows.fnStepsSpec) false w args)
     (Rows.fnStepsSpec.post enc Tryd.prog Tryd.f4 false true false false):=by
 refine returnsInHanded_of_change_and (C:=Tryd.checked) (X:=fun w _=>laidMet Tryd.prog Rows.fnStepsRow.laid w) (fun _ _ _ hh h=>h.of_heap hh) own started (by kernel_rfl) Tryd.func4
  (ChangeSpec.witness_at (enc:=enc) (C:=Tryd.checked) (os:=os) (X:=fun w _=>laidMet Tryd.prog Rows.fnStepsRow.laid w) false (laidWorld os) #[.slice none 0 0,.slice none 0 0] 8 rfl (by kernel_rfl) (by kernel_rfl) (by kernel_rfl) (by kernel_rfl) (by kernel_rfl) (laidWorld_met os _)) ?_
 intro W base args ds gs before hval0 hW hcnd hsz0 hL _
 have hval:∀ (j:Nat) t v,Tryd.f4.params[j]?=some t->args[j]?=some v->Value.okWide Tryd.prog W .any base t v:=hval0
 have hW':=hW
 obtain⟨p,q,hA0,hV,rfl,hfz,hnd⟩:=hW
 have hA:DataW.TrodAll enc Tryd.prog W 0 (fun _=>true) true Tryd.f4.params.toList args.toList ds p:=hA0
 have hsz:(DataW.weightsEach Tryd.prog (Tryd.f4.params.toList++Rows.fnStepsSpec.plain.varTypes Tryd.prog) (ds++gs)).all (·<=reachBytes)=true:=hsz0
 rw[Tryd.params4]at hA hval hsz
 obtain⟨v0,vs0,d0,ds0,p0,q0,hargs,rfl,rfl,h0,r0⟩:=trodAll_cons hA
 obtain⟨v1,vs1,d1,ds1,p1,q1,rfl,rfl,rfl,h1,r1⟩:=trodAll_cons r0
 obtain⟨rfl,rfl,rfl⟩:=trodAll_nil r1
 obtain rfl:args=#[v0,v1]:=by cases args;simp_all
 obtain⟨rfl,rfl⟩:=trodVars_none hV
 obtain⟨ao,n,cap,rfl⟩:=okWide_slice u22 (hval 0 22 v0 rfl rfl)
 obtain⟨ao2,n2,cap2,rfl⟩:=okWide_slice u25 (hval 1 25 v1 rfl rfl)
 have hlt0:∀ x∈p0,x.block<W.heap.size:=fun x hx=>hW'.lt x (by simp[hx])
 have hlt1:∀ x∈p1,x.block<W.heap.size:=fun x hx=>hW'.lt x (by simp[hx])
 have hv0:=hval 0 22 _ rfl rfl
 have hv1:=hval 1 25 _ rfl rfl
 clear hA0 hval0 hsz0
 refine (aw4 (eof hL) hv0 hv1 h0 h1 (fun el sp hd=>sized_slice hsz (j:=0) rfl (by rw[hd];rfl) u22) (fun el sp hd=>sized_slice hsz (j:=1) rfl (by rw[hd];rfl) u25)).mono fun e W' ⟨he,bel⟩=>?_
 subst he
 exact⟨_,rfl,_,_,_,[],_,[],hW',trodAll_mk1 (shut_bool u4 _),(trodAll_cons_mk (Below.trod laidOut (by kernel_rfl) (of_decide_eq_true (by kernel_rfl)) h0 bel hlt0) (trodAll_cons_mk (Below.trod laidOut (by kernel_rfl) (of_decide_eq_true (by kernel_rfl)) h1 bel hlt1) trodAll_mk0)),rfl,bel.frame _,fun h=>by cases h⟩
theorem over:Rows.FnStepsSaid :=
 OpenClaim.holds_of_wide 4 Tryd.f4 rfl rfl rfl rfl rfl rfl rfl ⟨rfl,rfl,rfl,rfl,rfl⟩ rfl rfl rfl rfl rfl (by kernel_rfl) Tryd.func4 (by kernel_rfl)
  (of_decide_eq_true (by kernel_rfl)) (by unfold Func.isWrapper;first|(rw[if_pos (by decide +kernel)];kernel_rfl)|(rw[if_neg (by decide +kernel)];exact⟨rfl,rfl⟩))
  (fun os started H enc _=>lifted os started H enc)
theorem card(h:Rows.FnStepsSaid):Rows.FnStepsCardSaid :=
 Claim7.holds_tied_plain_at .later [] [.sentinel] true (true, "fed96fcf776f3b50c970c72058ad889b5a201393eb40f656c42cf9ff657d9b56") true
  h (fun _ h=>by cases h) (by kernel_rfl) (fun _ h=>by cases h) fnSteps_row_tie rfl ⟨rfl,rfl⟩ (by kernel_rfl) rfl
  (fun f fn hf hfn=>by
   obtain rfl : f = 4 := Option.some.inj ((show Tryd.prog.funcNamed "given.example/pub-quincunx/laws.FnSteps" = some 4 by kernel_rfl).symm.trans hf) |>.symm
   obtain rfl:fn=Tryd.f4:=(Option.some.inj (Tryd.func4.symm.trans hfn)).symm;exact⟨by kernel_rfl,fun j t ht=>by
    rw[Tryd.params4]at ht;rcases j with _|_|j
    .obtain rfl:t=22:=by simpa using ht.symm
     exact (show Tryd.prog.wantsStandIn 22=false by kernel_rfl)
    .obtain rfl:t=25:=by simpa using ht.symm
     exact (show Tryd.prog.wantsStandIn 25=false by kernel_rfl)
    .simp at ht⟩)
  (by kernel_rfl)
end Go.Proofs.YtoamgocecoiggaaDoor.fnStepsRow
namespace Go.Proofs.YtoamgocecoiggaaDoor
theorem fnSteps_holds:Rows.FnStepsCardSaid:=fnStepsRow.card fnStepsRow.over
#print axioms fnSteps_holds
end Go.Proofs.YtoamgocecoiggaaDoor
