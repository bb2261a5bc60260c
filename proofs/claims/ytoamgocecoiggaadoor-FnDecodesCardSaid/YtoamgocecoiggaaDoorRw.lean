/- The statement FnDecodes (a tied card), proved: the characters of bytes are those of the encoding that their byte order mark tells; others are refused. Conditions: io.EOF is laid as the program lays it. -/
import Derived.Test.YtoamgocecoiggaaDoorRows
import Derived.Test.YtoamgocecoiggaaDoorCards
import Derived.Test.YtoamgocecoiggaaDoorTie
import Derived.WalkKit
import Derived.ProofKit
import Derived.OpenShut
import Derived.ChangeSame
import Derived.ChangeVars
import Derived.ChangeSlices
import Derived.JoinedOf
import Derived.RowKit
import Derived.RowKitTokens
import Derived.LaidLaws
import Derived.SizedLaws
import Derived.Carry
import Derived.Stop.LaidErr
import Derived.Stop.Joined
import Derived.Below
import Derived.SevenTiedAt
import Derived.Test.YtoamgocecoiggaaDoorM49
set_option linter.unusedVariables false
set_option linter.unusedSimpArgs false
namespace Go.Proofs.YtoamgocecoiggaaDoor.fnDecodesRow
open Go.ChangeShapes Go.WideShapes Go.ChangeAt Go.RowKit
theorem own:ownKnob Tryd.prog.godebug=none:=by kernel_rfl
theorem gO : Tryd.prog.globalNamed "io.EOF" = some 0 := by kernel_rfl
theorem gOType:(Tryd.prog.globals[0]?).map (·.type)=some 86:=by kernel_rfl
theorem u86 : Tryd.prog.underlying 86 = some (.interface #[("Error", 88)]) := by kernel_rfl
theorem u89:Tryd.prog.underlying 89=some (.pointer 124):=by kernel_rfl
theorem u9:Tryd.prog.underlying 9=some .string:=by kernel_rfl
theorem u4:Tryd.prog.underlying 4=some .bool:=by kernel_rfl
theorem u5:Tryd.prog.underlying 5=some (.int .u8):=by kernel_rfl
theorem u22:Tryd.prog.underlying 22=some (.slice 5):=by kernel_rfl
theorem u124 : (Tryd.prog.underlying 124).map (fun t => match t with | .struct a => a.toList.map (fun f => (f.name, f.type, f.offset)) | _ => []) = some [("s", 9, 0)] := by kernel_rfl
theorem c124:Tryd.prog.cellsOf 124=1:=by kernel_rfl
theorem c9:Tryd.prog.cellsOf 9=1:=by kernel_rfl
theorem c5:Tryd.prog.cellsOf 5=1:=by kernel_rfl
theorem b5:Tryd.prog.bytesOf 5=1:=by kernel_rfl
theorem laidOut:laidOutB Tryd.prog=true:=by kernel_rfl
theorem star : "*" ++ "errors.errorString" = "*errors.errorString" := by decide
theorem row89 (u : TypeId) (h : Tryd.prog.typeName? 3 u = some "*errors.errorString") : u = 89 :=
 typeName_ptr_named (nm := "errors.errorString") (by rw [star]; kernel_rfl) (by kernel_rfl) (by decide) u (by rw [star]; exact h)
theorem su124:∃ f:Field,Tryd.prog.underlying 124=some (.struct #[f])∧f.type=9∧f.offset=0:=by
 have h:=u124
 generalize Tryd.prog.underlying 124=o at h ⊢
 cases o with
 | none=>cases h
 | some t =>
  cases t with
  | struct a =>
   simp only [Option.map_some,Option.some.injEq] at h
   obtain ⟨l⟩:=a
   rcases l with _ | ⟨f,_ | ⟨g,l⟩⟩
   ·simp at h
   ·simp only [List.map_cons,List.map_nil,List.cons.injEq,Prod.mk.injEq,and_true] at h
    exact ⟨f,rfl,h.2.1,h.2.2⟩
   ·simp at h
  | _=>simp at h
theorem eof {W:World} (h:laidMet Tryd.prog Rows.fnDecodesRow.laid W):U.EofOk W:=by
 obtain ⟨f,hf,ht,ho⟩:=su124
 obtain ⟨a,s,hv,hc,_,_⟩:=laid_sentinel h gO gOType u86 row89 u89 hf ht ho u9 c124 c9
 obtain ⟨b,o,sp⟩:=a
 have hsp:sp=none:=by
  cases sp with
  | none=>rfl
  | some x =>
   unfold World.cell? at hc
   split at hc
   ·simp at hc
   ·cases hc
 subst hsp
 unfold World.var? at hv
 rw [gO] at hv
 simp only [Option.bind_some] at hv
 split at hv
 ·rename_i cs e fr hh
  cases hv
  exact ⟨b,o,_,fr,e,rfl,hh⟩
 ·cases hv
theorem rowAt_le {p:Program} {fits:TypeId→Bool}:∀ (d:Nat) {e:TypeId} {count off n:Nat},rowAt p fits d e count off n=true→off≤count * p.cellsOf e
 | 0,_,_,_,_,h=>by simp [rowAt] at h
 | d + 1,e,count,off,n,h=>by
  unfold rowAt at h
  simp only [] at h
  split at h
  ·cases h
  ·have hdm:=Nat.div_add_mod off (p.cellsOf e)
   have hs:0 < p.cellsOf e:=by omega
   rw [Bool.or_eq_true] at h
   rcases h with h | h
   ·simp only [Bool.and_eq_true,beq_iff_eq,decide_eq_true_eq] at h
    obtain ⟨⟨h1,h2⟩,_⟩:=h
    rw [h1,Nat.add_zero] at hdm
    rw [← hdm,Nat.mul_comm]
    exact Nat.mul_le_mul_right _ (by omega)
   ·rw [Bool.and_eq_true,decide_eq_true_eq] at h
    have h1:=h.1
    have h2:off < p.cellsOf e * (off / p.cellsOf e + 1):=by
     rw [Nat.mul_add,Nat.mul_one]
     have:=Nat.mod_lt off hs
     omega
    have h3:p.cellsOf e * (off / p.cellsOf e + 1)≤p.cellsOf e * count:=Nat.mul_le_mul_left _ (by omega)
    rw [Nat.mul_comm count]; omega
theorem has_le {W:World} {base:Nat} {a:Addr} {cap:Nat} (h:W.has Tryd.prog .any base a 5 cap):a.spot=none∧∃ C t fr,W.heap[a.block]?=some (.cells C t fr)∧a.off≤C.size:=by
 obtain ⟨_,hs,row,cells,hsh,hl⟩:=h
 refine ⟨hs,?_⟩
 unfold World.shape? at hsh
 split at hsh
 ·rename_i C t fr hh
  cases hsh
  refine ⟨C,row,fr,hh,?_⟩
  generalize Tryd.prog.depth=D at hl
  cases D with
  | zero=>simp [liesAt] at hl
  | succ D =>
   unfold liesAt at hl
   rw [Bool.or_eq_true,u5] at hl
   rcases hl with hl | hl
   ·have:=rowAt_le _ hl
    have h2:=Nat.div_mul_le_self C.size (Tryd.prog.cellsOf row)
    omega
   ·cases hl
 ·cases hsh
set_option maxRecDepth 100000 in
theorem row_law {H:Type} {enc:TypeId × Value→H} {W:World} {base:Nat} {held:Bool} {ao:Option Addr} {n cap:Nat} {d:DataW H} {ps:List MemPlace} (he:U.EofOk W) (hv:Value.okWide Tryd.prog W .any base 22 (.slice ao n cap))
    (h:DataW.Trod enc Tryd.prog W 0 (fun _=>true) held 22 (.slice ao n cap) d ps) (hsz:∀ elems spare,d=.slice elems spare→(elems.length + spare.length) * Tryd.prog.bytesOf 5≤reachBytes) :
    Calls Tryd.prog 3 #[.slice ao n cap] W fun e w'=>e=.returned (.bool true)∧Below W.heap.size W w':=by
 obtain ⟨fuel,hf⟩:=h
 rcases open_ints u22 u5 c5 hf with ⟨hcs,_⟩ | ⟨x,len,cap',zs,hcs,_,hl,_,hz,hx,hcell,hwf⟩
 ·simp [Value.cells] at hcs
  obtain ⟨rfl,rfl,rfl⟩:=hcs
  exact U.law_nil he
 ·simp [Value.cells] at hcs
  obtain ⟨rfl,rfl,rfl⟩:=hcs
  rw [if_pos rfl] at hz
  have hh:W.has Tryd.prog .any base x 5 cap:=by
   have:=hv
   simp only [Value.okWide,u22,Cell.okWide,Cell.ok] at this
   exact this.2.2
  obtain ⟨hs,C,t,fr,hb,hoff⟩:=has_le hh
  simp only [Prod.mk.injEq] at hx
  have hbig:=hsz _ _ hx.1
  rw [b5] at hbig
  have hlits:∀ (l:List Int),(lits (H:=H) IntKind.u8 l).length=l.length:=fun l=>by simp [lits]
  rw [hlits,hlits,List.length_take,List.length_drop] at hbig
  have hr:reachBytes=140737488351232:=rfl
  rw [hr] at hbig
  obtain ⟨b,off,sp⟩:=x
  have hs:sp=none:=hs
  subst hs
  have hoff:off≤C.size:=hoff
  have hb:W.heap[b]?=some (.cells C t fr):=hb
  have hzn:∀ i,i < cap→C[off + i]?=some (.int .u8 (zs.getD i 0)):=by
   intro i hi
   have h1:=hcell i (by omega)
   unfold Addr.add at h1
   unfold World.cell? at h1
   by_cases hi0:i=0
   ·subst hi0
    rw [if_pos rfl] at h1
    simp only [hb] at h1
    simpa using h1
   ·rw [if_neg hi0] at h1
    simp only [hb] at h1
    simpa using h1
  have hrng:∀ i,i < cap→0≤zs.getD i 0∧zs.getD i 0≤255:=by
   intro i hi
   have hi':i < zs.length:=by omega
   have:=hwf (zs.getD i 0) (by rw [List.getD_eq_getElem?_getD,List.getElem?_eq_getElem hi']; exact List.getElem_mem hi')
   simp [Lit.wf,IntKind.min,IntKind.max,IntKind.signed,IntKind.bits] at this
   simp only [List.getD_eq_getElem?_getD]
   omega
  refine U.law_text he hb (bs:=(zs.take n).map fun z=>UInt8.ofNat z.toNat) (by simp; omega) ?_ hoff hl (by omega)
  intro i hi
  rw [hzn i (by omega)]
  have:=hrng i (by omega)
  congr 2
  have hi':i < zs.length:=by omega
  simp only [List.getD_eq_getElem?_getD,List.getElem?_map,List.getElem?_take_of_lt hi,List.getElem?_eq_getElem hi',Option.map_some,Option.getD_some] at this ⊢
  rw [UInt8.toNat_ofNat',Nat.mod_eq_of_lt (by omega)]
  omega
noncomputable def low:Nat:=(World.holding Tryd.prog default ⟨#[],#[],[]⟩).heap.size
noncomputable def laidWorld (os:Os):World :=
 let w0:=World.holding Tryd.prog os ⟨#[.cells #[.string ⟨#[69,79,70]⟩] 124],#[],[]⟩
 { w0 with heap:=w0.heap.modify 0 fun
     | .cells _ t frozen=>.cells #[.iface 89 (.pointer (some ⟨low,0,none⟩))] t frozen
     | o=>o }
theorem laidWorld_met (os:Os) (args:Array Value):laidMet Tryd.prog Rows.fnDecodesRow.laid ((laidWorld os).forCall (fun _ _=>0) ⟨#[],args,[]⟩).memory :=
 laidMet_of_run (ps:=[.cell 0 0,.cell low 0]) 8 (by kernel_rfl) (by kernel_rfl) (by kernel_rfl)
set_option maxRecDepth 100000 in
theorem lifted (os:Os) (started:os.Started) (H:Type) (enc:TypeId × Value→H) :
    ReturnsInHanded {} Tryd.checked os 3 .any (fun w args=>(Rows.fnDecodesSpec.pre enc Tryd.prog Tryd.f3 [] false w args∧laidMet Tryd.prog Rows.fnDecodesRow.laid w)∧sizedMet enc Tryd.prog Tryd.f3 (OpenSpec.ofChange Rows.fnDecodesSpec) false w args)
     (Rows.fnDecodesSpec.post enc Tryd.prog Tryd.f3 false true false false):=by
 refine returnsInHanded_of_change_and (C:=Tryd.checked) (X:=fun w _=>laidMet Tryd.prog Rows.fnDecodesRow.laid w) (fun _ _ _ hh h=>h.of_heap hh) own started (by kernel_rfl) Tryd.func3
  (ChangeSpec.witness_at (enc:=enc) (C:=Tryd.checked) (os:=os) (X:=fun w _=>laidMet Tryd.prog Rows.fnDecodesRow.laid w) false (laidWorld os) #[.slice none 0 0] 8 rfl (by kernel_rfl) (by kernel_rfl) (by kernel_rfl) (by kernel_rfl) (by kernel_rfl) (laidWorld_met os _)) ?_
 intro W base args ds gs before hval0 hW hcnd hsz0 hL _
 have hval:∀ (j:Nat) t v,Tryd.f3.params[j]?=some t→args[j]?=some v→Value.okWide Tryd.prog W .any base t v:=hval0
 have hW':=hW
 obtain ⟨p,q,hA0,hV,rfl,hfz,hnd⟩:=hW
 have hA:DataW.TrodAll enc Tryd.prog W 0 (fun _=>true) true Tryd.f3.params.toList args.toList ds p:=hA0
 have hsz:(DataW.weightsEach Tryd.prog (Tryd.f3.params.toList++Rows.fnDecodesSpec.plain.varTypes Tryd.prog) (ds++gs)).all (·≤reachBytes)=true:=hsz0
 rw [Tryd.params3] at hA hval hsz
 obtain ⟨v0,vs0,d0,ds0,p0,q0,hargs,rfl,rfl,h0,r0⟩:=trodAll_cons hA
 obtain ⟨rfl,rfl,rfl⟩:=trodAll_nil r0
 obtain rfl:args=#[v0]:=by cases args; simp_all
 obtain ⟨rfl,rfl⟩:=trodVars_none hV
 obtain ⟨ao,n,cap,rfl⟩:=okWide_slice u22 (hval 0 22 v0 rfl rfl)
 have hlt1:∀ x ∈ p0,x.block < W.heap.size:=fun x hx=>hW'.lt x (by simp [hx])
 have hv0:=hval 0 22 _ rfl rfl
 clear hA0 hval0 hsz0
 refine (row_law (eof hL) hv0 h0 (fun el sp hd=>sized_slice hsz (j:=0) rfl (by rw [hd]; rfl) u22)).mono fun e W' ⟨he,bel⟩=>?_
 subst he
 exact ⟨_,rfl,_,_,_,[],_,[],hW',trodAll_mk1 (shut_bool u4 _),(trodAll_cons_mk (Below.trod laidOut (by kernel_rfl) (of_decide_eq_true (by kernel_rfl)) h0 bel hlt1) trodAll_mk0),rfl,bel.frame _,fun h=>by cases h⟩
theorem over:Rows.FnDecodesSaid :=
 OpenClaim.holds_of_wide 3 Tryd.f3 rfl rfl rfl rfl rfl rfl rfl ⟨rfl,rfl,rfl,rfl,rfl⟩ rfl rfl rfl rfl rfl (by kernel_rfl) Tryd.func3 (by kernel_rfl)
  (of_decide_eq_true (by kernel_rfl)) (by unfold Func.isWrapper; first | (rw [if_pos (by decide +kernel)]; kernel_rfl) | (rw [if_neg (by decide +kernel)]; exact ⟨rfl,rfl⟩))
  (fun os started H enc _=>lifted os started H enc)
theorem card (h:Rows.FnDecodesSaid):Rows.FnDecodesCardSaid :=
 Claim7.holds_tied_plain_at .later [] [.sentinel] true (true, "fed96fcf776f3b50c970c72058ad889b5a201393eb40f656c42cf9ff657d9b56") true
  h (fun _ h=>by cases h) (by kernel_rfl) (fun _ h=>by cases h) fnDecodes_row_tie rfl ⟨rfl,rfl⟩ (by kernel_rfl) rfl
  (fun f fn hf hfn=>by
   obtain rfl : f = 3 := Option.some.inj ((show Tryd.prog.funcNamed "given.example/pub-quincunx/laws.FnDecodes" = some 3 by kernel_rfl).symm.trans hf) |>.symm
   obtain rfl:fn=Tryd.f3:=(Option.some.inj (Tryd.func3.symm.trans hfn)).symm
   exact ⟨by kernel_rfl,fun j t ht=>by
    rw [Tryd.params3] at ht
    rcases j with _ | j
    ·obtain rfl:t=22:=by simpa using ht.symm
     exact (show Tryd.prog.wantsStandIn 22=false by kernel_rfl)
    ·simp at ht⟩)
  (by kernel_rfl)
end Go.Proofs.YtoamgocecoiggaaDoor.fnDecodesRow
namespace Go.Proofs.YtoamgocecoiggaaDoor
theorem fnDecodes_holds:Rows.FnDecodesCardSaid:=fnDecodesRow.card fnDecodesRow.over
#print axioms fnDecodes_holds
end Go.Proofs.YtoamgocecoiggaaDoor
