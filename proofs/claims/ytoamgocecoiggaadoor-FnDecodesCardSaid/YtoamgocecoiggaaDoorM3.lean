-- the statement of this claim: see YtoamgocecoiggaaDoorRw
import Derived.Lib.ConvBytes
import Derived.Laws.BytesString
import Derived.Test.YtoamgocecoiggaaDoorM2
set_option linter.unusedVariables false
set_option linter.unusedSimpArgs false
namespace Go.SM
noncomputable section
def acopy (P:Program) (H:AS) (ts:Array TypeId) (d x:Value):Option (Value × AS) :=
 match ts[0]? with
 | none=>none
 | some t =>
  match P.underlying t,d with
  | some (.slice e),.slice b dl _ =>
   match P.info? e with
   | none=>none
   | some i =>
    match asrc H i.size (some dl) x with
    | none=>none
    | some (n,l) =>
     match b with
     | none=>some (goInt n,H)
     | some ⟨B,o,_⟩=>if l.all aone then (astores B l o H).map fun H'=>(goInt n,H') else none
  | _,_=>none
theorem HR.copyOp {P:Program} {w0:W0} {β:Ren} {H H':AS} {w:World} (h:HR w0 β H w) {ts:Array TypeId} {ty:TypeId} {d d' x x' v:Value} (hd:VR β d d') (hx:VR β x x') (ha:acopy P H ts d x=some (v,H')) :
    Made P w0 β H' w (Builtin.copy_ ts ty #[d',x']) v:=by
 unfold acopy at ha
 split at ha
 ·cases ha
 rename_i t h0
 split at ha
 rotate_left
 ·cases ha
 rename_i e b dl dc hu
 split at ha
 ·cases ha
 rename_i i hi
 split at ha
 ·cases ha
 rename_i n l hsrc
 obtain ⟨N,us,hN,hm,hus,hvn,hln⟩:=asrc_sound (P:=P) h hx hsrc
 simp only [Option.map_some,Option.getD_some] at hm
 have hmin:Nat.min N dl=n:=by rw [hm]
 split at ha
 ·simp only [Option.some.injEq,Prod.mk.injEq] at ha
  obtain ⟨rfl,rfl⟩:=ha
  cases hd
  refine ⟨[],goInt n,w,?_,by rw [List.append_nil]; exact h,by exact .int _ _⟩
  simp only [Builtin.copy_,h0,List.getElem?_toArray,List.getElem?_cons_zero,List.getElem?_cons_succ,Sem.run_bind,run_underlying hu,Result.andThen_ok,hN,run_size hi,hmin,hus,Sem.run_pure]
 ·rename_i B o sp
  split at ha
  rotate_left
  ·cases ha
  rename_i hone
  simp only [Option.map_eq_some_iff,Prod.mk.injEq] at ha
  obtain ⟨H2,hst,rfl,rfl⟩:=ha
  cases hd with
  | sl B o b s n' c hβ =>
   obtain ⟨w',hrun,hr⟩:=HR.storeFrom (P:=P) hβ o l us 0 H H2 w h hst hvn
   refine ⟨[],goInt n,w',?_,by rw [List.append_nil]; exact hr,by exact .int _ _⟩
   simp only [Builtin.copy_,h0,List.getElem?_toArray,List.getElem?_cons_zero,List.getElem?_cons_succ,Sem.run_bind,run_underlying hu,Result.andThen_ok,hN,run_size hi,hmin,hus,Sem.run_pure,hrun]
  | slL B o n' c c' zz q hβ hcc htop =>
   obtain ⟨w',hrun,hr⟩:=HR.storeFrom (P:=P) (hm_of hβ) o l us 0 H H2 w h hst hvn
   refine ⟨[],goInt n,w',?_,by rw [List.append_nil]; exact hr,by exact .int _ _⟩
   simp only [Builtin.copy_,h0,List.getElem?_toArray,List.getElem?_cons_zero,List.getElem?_cons_succ,Sem.run_bind,run_underlying hu,Result.andThen_ok,hN,run_size hi,hmin,hus,Sem.run_pure,hrun]
def bytesOf:List Value→Option (List Int)
 | []=>some []
 | .int .u8 n::l=>(bytesOf l).map (n::·)
 | _=>none
theorem bytesOf_eq:∀ {l:List Value} {ns:List Int},bytesOf l=some ns→l=ns.map (Value.int .u8)
 | [],ns,h=>by simp only [bytesOf,Option.some.injEq] at h; subst h; rfl
 | v::l,ns,h=>by
  cases v <;> try (simp [bytesOf] at h; done)
  rename_i k n
  cases k <;> try (simp [bytesOf] at h; done)
  simp only [bytesOf,Option.map_eq_some_iff] at h
  obtain ⟨r,hr,rfl⟩:=h
  rw [bytesOf_eq hr]; rfl
theorem VRs.bytes {β:Ren} {l us:List Value} {ns:List Int} (h:VRs β l us) (hl:l=ns.map (Value.int .u8)):us=ns.map (Value.int .u8):=by
 subst hl
 apply List.ext_getElem?
 intro k
 rcases Nat.lt_or_ge k us.length with hk | hk
 ·have hk':k < (ns.map (Value.int .u8)).length:=by rw [← h.1]; exact hk
  have:=h.2 k _ _ (List.getElem?_eq_getElem hk') (List.getElem?_eq_getElem hk)
  rw [List.getElem?_eq_getElem hk',List.getElem?_eq_getElem hk]
  congr 1
  apply VR.eq_of_ground this
  simp [ground]
 ·rw [List.getElem?_eq_none hk,List.getElem?_eq_none (by rw [← h.1]; exact hk)]
theorem foldl_push (ns:List Int):∀ (s:ByteArray),(ns.foldl (fun r n=>r.push (UInt8.ofNat n.toNat)) s)=⟨(s.data.toList++ns.map fun n=>UInt8.ofNat n.toNat).toArray⟩:=by
 induction ns with
 | nil=>intro s; simp
 | cons n ns ih =>
  intro s
  rw [List.foldl_cons,ih]
  simp [ByteArray.push]
def strOf (ns:List Int):ByteArray:=⟨(ns.map fun n=>UInt8.ofNat n.toNat).toArray⟩
def abytesStr (H:AS) (x:Value):Option Value :=
 match x with
 | .slice none _ _=>some (.string .empty)
 | .slice (some ⟨B,o,_⟩) n _ =>
  match aloads H B o n with
  | some l=>(bytesOf l).map fun ns=>.string (strOf ns)
  | none=>none
 | _=>none
theorem HR.bytesStr {P:Program} {w0:W0} {β:Ren} {H:AS} {w:World} (h:HR w0 β H w) {x x' v:Value} (hx:VR β x x') (ha:abytesStr H x=some v):(Conv.bytesToString x').run P w=.ok v w∧∃ s,v=.string s:=by
 unfold abytesStr at ha
 split at ha
 ·simp only [Option.some.injEq] at ha
  subst ha
  cases hx
  exact ⟨rfl,_,rfl⟩
 ·rename_i B o sp n c
  split at ha
  ·rename_i l hl
   simp only [Option.map_eq_some_iff] at ha
   obtain ⟨ns,hns,rfl⟩:=ha
   have hle:=bytesOf_eq hns
   cases hx with
   | sl B o b s n c hβ =>
    obtain ⟨us,h1,h2⟩:=h.loads (P:=P) hl hβ
    rw [h2.bytes hle] at h1
    refine ⟨?_,_,rfl⟩
    rw [run_bytesToString w _ _ _ ns h1,foldl_push]
    rfl
   | slL B o n c c' z q hβ hcc htop =>
    obtain ⟨us,h1,h2⟩:=h.loads (P:=P) hl (hm_of hβ)
    rw [h2.bytes hle] at h1
    refine ⟨?_,_,rfl⟩
    rw [run_bytesToString w _ _ _ ns h1,foldl_push]
    rfl
  ·cases ha
 ·cases ha
def astrBytes (H:AS) (e:TypeId) (s:ByteArray):Option (Value × AS) :=
 (anew H (abytes s) e).map fun (B,H')=>(.slice (some ⟨B,0,some 1⟩) s.size s.size,H')
theorem HR.strBytes {P:Program} {w0:W0} {β:Ren} {H H':AS} {w:World} (h:HR w0 β H w) {src dst e:TypeId} {s:ByteArray} {u:TypeDesc} {v:Value}
    (hs:P.underlying src=some u) (hd:P.underlying dst=some (.slice e)) (he:P.underlying e=some (.int .u8)) (ha:astrBytes H e s=some (v,H')):Made P w0 β H' w (convert src dst (.string s)) v:=by
 unfold astrBytes at ha
 simp only [Option.map_eq_some_iff,Prod.mk.injEq] at ha
 obtain ⟨⟨B,H1⟩,hn,rfl,rfl⟩:=ha
 have hcap:s.size≤grownCap w s.size 0 e:=by
  unfold grownCap; simp only [Question.cut]; omega
 have hsz:(Lib.bytesCells w e s).size=grownCap w s.size 0 e:=by
  simp only [Lib.bytesCells,Array.size_append,Array.size_map,Array.size_replicate]
  have:s.data.size=s.size:=rfl
  omega
 have hbel:Kept w0 (Lib.bytesWorld w e s):=by
  have h1:=(h.below.drew.alloc (.cells (Lib.bytesCells w e s) e))
  refine ⟨h1.os,h1.tape,h1.output,by rw [Lib.bytesWorld_size]; have:=h.below.size; omega,?_⟩
  intro b hb
  rw [Lib.bytesWorld_at_old w e s b (by have:=h.below.size; have:=w0.lt b hb; omega)]
  exact h.below.block b hb
 have hheap:(Lib.bytesWorld w e s).heap=w.heap.push (.cells (Lib.bytesCells w e s) e ((Lib.bytesCells w e s).size,(Lib.bytesCells w e s).size + 1)):=by
  apply Array.ext_getElem?
  intro i
  rw [Array.getElem?_push]
  split
  ·rename_i hi; subst hi; rw [Lib.bytesWorld_at_new]
  ·rename_i hi
   rcases Nat.lt_or_ge i w.heap.size with hlt | hge
   ·exact Lib.bytesWorld_at_old w e s i hlt
   ·rw [Array.getElem?_eq_none (by rw [Lib.bytesWorld_size]; omega),Array.getElem?_eq_none hge]
 obtain ⟨g1,g2,g3⟩:=h.allocG hn hheap hbel (by rw [hsz]; simp only [abytes,List.length_map,Array.length_toList]; exact hcap) (fun i hi hc=>by omega) (by
  intro i x hx
  have hi:i < s.size:=by
   rcases Nat.lt_or_ge i (abytes s).length with hl | hl
   ·simpa [abytes] using hl
   ·rw [List.getElem?_eq_none hl] at hx; cases hx
  refine ⟨x,?_,VR.of_ground (List.all_eq_true.1 (by have:=abytes_ground s (abytes s).length; rwa [List.take_length] at this) x (List.mem_of_getElem? hx))⟩
  unfold Lib.bytesCells
  rw [Array.getElem?_append_left (by simpa using hi),← Array.getElem?_toList,Array.toList_map]
  exact hx)
 refine ⟨⟨_,_,_,Lib.run_convert_string_bytes w src dst e s hs hd he,g1,?_⟩⟩
 have:=VR.slL (β:=β++[⟨w.heap.size,0,(Lib.bytesCells w e s).size,undef,noPr⟩]) B 0 s.size s.size (grownCap w s.size 0 e) 1 _ g3 hcap (by rw [hsz]; simp)
 exact this
end
end Go.SM
namespace Go.SM
noncomputable section
def anilEq (P:Program) (t:TypeId) (a b:Value):Option Bool :=
 match P.underlying t,a,b with
 | some (.pointer _),.pointer none,.pointer (some _)=>some false
 | some (.pointer _),.pointer (some _),.pointer none=>some false
 | some (.pointer e),.pointer (some ⟨B,o,none⟩),.pointer (some ⟨B',o',none⟩) =>
  match P.info? e with
  | some i=>if B=B'∧i.size≠0 then some (decide (o=o')) else none
  | none=>none
 | some (.slice _),.slice none _ _,.slice (some _) _ _=>some false
 | some (.slice _),.slice (some _) _ _,.slice none _ _=>some false
 | some (.interface _),.nilIface,.iface _ _=>some false
 | some (.interface _),.iface _ _,.nilIface=>some false
 | some (.interface _),.iface tx (.pointer (some ⟨B,o,none⟩)),.iface ty (.pointer (some ⟨B',o',none⟩)) =>
  if tx=ty then
   match P.info? tx,P.underlying tx with
   | some j,some (.pointer e) =>
    match P.info? e with
    | some i=>if j.comparable=true∧B=B'∧i.size≠0 then some (decide (o=o')) else none
    | none=>none
   | _,_=>none
  else some false
 | some (.func _ _ _),.nilFunc,.func fn _ _=>if noY fn then some false else none
 | some (.func _ _ _),.func fn _ _,.nilFunc=>if noY fn then some false else none
 | _,_,_=>none
theorem same_at (b o o' s:Nat):((⟨b,o + s,none⟩:Addr) == ⟨b,o' + s,none⟩)=decide (o=o'):=by
 by_cases h:o=o'
 ·subst h; simp
 ·rw [decide_eq_false h,beq_eq_false_iff_ne]
  intro hc
  simp only [Addr.mk.injEq,and_true,true_and] at hc
  omega
theorem run_sameAddr {P:Program} {w:World} (b o o' s:Nat):(sameAddr ⟨b,o + s,none⟩ ⟨b,o' + s,none⟩).run P w=.ok (decide (o=o')) w:=by
 unfold sameAddr
 simp only [beq_self_eq_true,if_true,same_at]
 rfl
theorem eqIn_ptr {P:Program} {w:World} {t e:TypeId} {i:TypeInfo} (d b o o' s:Nat) (ht:P.underlying t=some (.pointer e)) (hi:P.info? e=some i) (h0:i.size≠0) :
    (Op.equalIn (d + 1) t (.pointer (some ⟨b,o + s,none⟩)) (.pointer (some ⟨b,o' + s,none⟩))).run P w=.ok (decide (o=o')) w:=by
 rw [Op.equalIn]
 simp only [Sem.run_bind,run_underlying ht,Result.andThen_ok,run_size hi,ne_eq,h0,not_false_eq_true,if_true,run_sameAddr]
theorem nilEqIn_sound {P:Program} {w:World} {β:Ren} {t:TypeId} {a b a' b':Value} {r:Bool} (d:Nat) (ha:VR β a a') (hb:VR β b b') (h:anilEq P t a b=some r) :
    (Op.equalIn (d + 1 + 1) t a' b').run P w=.ok r w:=by
 unfold anilEq at h
 split at h <;> rename_i ht
 ·cases h; cases ha; cases hb
  rw [Op.equalIn]; simp only [Sem.run_bind,run_underlying ht,Result.andThen_ok]; rfl
 ·cases h; cases ha; cases hb
  rw [Op.equalIn]; simp only [Sem.run_bind,run_underlying ht,Result.andThen_ok]; rfl
 ·rename_i B o B' o'
  split at h
  ·rename_i i hi
   split at h
   ·rename_i hc
    obtain ⟨rfl,h0⟩:=hc
    cases h
    cases ha with
    | ptr B o b s h1 =>
     cases hb with
     | ptr B o' b' s' h2 =>
      rw [h1] at h2; cases h2
      exact eqIn_ptr _ b o o' s ht hi h0
   ·cases h
  ·cases h
 ·cases h; cases ha; cases hb <;> (rw [Op.equalIn]; simp only [Sem.run_bind,run_underlying ht,Result.andThen_ok]; rfl)
 ·cases h; cases hb; cases ha <;> (rw [Op.equalIn]; simp only [Sem.run_bind,run_underlying ht,Result.andThen_ok]; rfl)
 ·cases h; cases ha; cases hb
  rw [Op.equalIn]; simp only [Sem.run_bind,run_underlying ht,Result.andThen_ok]; rfl
 ·cases h; cases ha; cases hb
  rw [Op.equalIn]; simp only [Sem.run_bind,run_underlying ht,Result.andThen_ok]; rfl
 ·rename_i tx B o ty B' o'
  split at h
  ·rename_i hty
   subst hty
   split at h
   ·rename_i j e hj hte
    split at h
    ·rename_i i hi
     split at h
     ·rename_i hc
      obtain ⟨hcmp,rfl,h0⟩:=hc
      cases h
      cases ha with
      | iface _ _ _ ha =>
       cases hb with
       | iface _ _ _ hb =>
        cases ha with
        | ptr B o b s h1 =>
         cases hb with
         | ptr B o' b' s' h2 =>
          rw [h1] at h2; cases h2
          have:=eqIn_ptr (P:=P) (w:=w) d b o o' s hte hi h0
          rw [Op.equalIn]
          simp only [Sem.run_bind,run_underlying ht,Result.andThen_ok,run_info hj,hcmp,ne_eq,not_true_eq_false,if_false,Bool.not_true,Bool.false_eq_true,this]
     ·cases h
    ·cases h
   ·cases h
  ·rename_i hty
   cases h
   cases ha with
   | iface _ _ _ ha =>
    cases hb with
    | iface _ _ _ hb =>
     rw [Op.equalIn]
     simp only [Sem.run_bind,run_underlying ht,Result.andThen_ok,ne_eq,hty,not_false_eq_true,if_true]
     rfl
 ·split at h
  ·rename_i hy
   cases h; cases ha; cases hb <;> first | (cases hy; done) | (rw [Op.equalIn]; simp only [Sem.run_bind,run_underlying ht,Result.andThen_ok]; rfl)
  ·cases h
 ·split at h
  ·rename_i hy
   cases h; cases hb; cases ha <;> first | (cases hy; done) | (rw [Op.equalIn]; simp only [Sem.run_bind,run_underlying ht,Result.andThen_ok]; rfl)
  ·cases h
 ·cases h
theorem nilEq_sound {P:Program} {w:World} {β:Ren} {t:TypeId} {a b a' b':Value} {r:Bool} (ha:VR β a a') (hb:VR β b b') (h:anilEq P t a b=some r) :
    (Op.equal t a' b').run P w=.ok r w:=nilEqIn_sound 9998 ha hb h
end
end Go.SM
namespace Go.SM
noncomputable section
def astr (op:BinOp) (s u:ByteArray):Option Value :=
 match op with
 | .add=>if ((s.size + u.size:Nat):Int)≤IntKind.i64.max then some (.string (s++u)) else none
 | .eql=>some (.bool (decide (s.data.toList=u.data.toList)))
 | .neq=>some (.bool (!decide (s.data.toList=u.data.toList)))
 | .lss=>some (.bool (Op.bytesLess s.data.toList u.data.toList))
 | .geq=>some (.bool (!Op.bytesLess s.data.toList u.data.toList))
 | .leq=>some (.bool (Op.bytesLess s.data.toList u.data.toList || decide (s.data.toList=u.data.toList)))
 | .gtr=>some (.bool (!(Op.bytesLess s.data.toList u.data.toList || decide (s.data.toList=u.data.toList))))
 | _=>none
theorem list_beq (l m:List UInt8):(l == m)=decide (l=m):=by
 by_cases h:l=m
 ·subst h; simp
 ·rw [decide_eq_false h,beq_eq_false_iff_ne]; exact h
theorem astr_run {P:Program} {w:World} {op:BinOp} {s u:ByteArray} {v:Value} (h:astr op s u=some v):(Op.stringOp op s u).run P w=.ok v w∧ground v=true:=by
 unfold astr at h
 split at h <;> try (cases h; done)
 ·split at h
  ·rename_i hle
   cases h
   refine ⟨?_,rfl⟩
   simp only [Op.stringOp]
   rw [if_neg (by omega)]
   rfl
  ·cases h
 all_goals
  cases h
  refine ⟨?_,rfl⟩
  simp only [Op.stringOp,Lib.toList_data,list_beq]
  rfl
def arng (op:BinOp) (lo hi c:Int):Option Bool :=
 match op with
 | .eql=>if c < lo∨hi < c then some false else if lo=hi∧c=lo then some true else none
 | .neq=>if c < lo∨hi < c then some true else if lo=hi∧c=lo then some false else none
 | .lss=>if hi < c then some true else if c≤lo then some false else none
 | .leq=>if hi≤c then some true else if c < lo then some false else none
 | .gtr=>if c < lo then some true else if hi≤c then some false else none
 | .geq=>if c≤lo then some true else if hi < c then some false else none
 | _=>none
theorem arng_run {P:Program} {w:World} {op:BinOp} {lo hi c n:Int} {r:Bool} {t:TypeId} {k:IntKind} (h:arng op lo hi c=some r) (h1:lo≤n) (h2:n≤hi):(binOp op t (.int k n) (.int k c)).run P w=.ok (.bool r) w:=by
 have key:∀ (p q:Bool),p=q→Sem.run P (pure (Value.bool p)) w=.ok (.bool q) w:=by rintro p _ rfl; rfl
 unfold arng at h
 split at h <;> try (cases h; done)
 all_goals
  simp only [binOp,ne_eq,not_true_eq_false,if_false,Op.intCmp]
  split at h
  ·cases h
   refine key _ _ ?_
   first
    | exact decide_eq_true (by omega)
    | exact decide_eq_false (by omega)
    | exact beq_eq_false_iff_ne.2 (by omega)
    | exact bne_iff_ne.2 (by omega)
  ·split at h
   ·cases h
    refine key _ _ ?_
    first
     | exact decide_eq_true (by omega)
     | exact decide_eq_false (by omega)
     | exact beq_iff_eq.2 (by omega)
     | (rw [bne_eq_false_iff_eq]; omega)
   ·cases h
def arng0 (op:BinOp) (c:Int):Option Bool :=
 match op with
 | .eql=>if c=0 then some false else none
 | .neq=>if c=0 then some true else none
 | _=>none
theorem arng0_run {P:Program} {w:World} {op:BinOp} {c n:Int} {r:Bool} {t:TypeId} (h:arng0 op c=some r) (hn:n≠0):(binOp op t (.int .u32 n) (.int .u32 c)).run P w=.ok (.bool r) w:=by
 have key:∀ (p q:Bool),p=q→Sem.run P (pure (Value.bool p)) w=.ok (.bool q) w:=by rintro p _ rfl; rfl
 unfold arng0 at h
 split at h <;> try (cases h; done)
 all_goals
  simp only [binOp,ne_eq,not_true_eq_false,if_false,Op.intCmp]
  split at h
  ·rename_i hc
   subst hc
   cases h
   refine key _ _ ?_
   first
    | exact beq_eq_false_iff_ne.2 hn
    | exact bne_iff_ne.2 hn
  ·cases h
theorem and63:∀ m:Fin 64,IntKind.i64.wrap (((BitVec.ofInt 64 (m.val:Int)) &&& (BitVec.ofInt 64 63)).toNat:Int)=(m.val:Int):=by decide
theorem and63_run {P:Program} {w:World} {t:TypeId} (m:Nat) (hm:m≤63):(binOp .and t (.int .i64 (m:Int)) (.int .i64 63)).run P w=.ok (.int .i64 (m:Int)) w:=by
 simp only [binOp,ne_eq,not_true_eq_false,if_false,Op.intBits]
 exact congrArg (fun z=>Result.ok (Value.int .i64 z) w) (and63 ⟨m,by omega⟩)
theorem cat_run {P:Program} {w:World} {t:TypeId} (q r:ByteArray) (h:q.size + r.size≤9223372036854775807):(binOp .add t (.string q) (.string r)).run P w=.ok (.string (q++r)) w:=by
 have:binOp .add t (.string q) (.string r)=Op.stringOp .add q r:=rfl
 rw [this]
 simp only [Op.stringOp]
 rw [if_neg (by show ¬ ((q.size + r.size : Nat) : Int) > IntKind.i64.max; have : IntKind.i64.max = 9223372036854775807 := by decide
                omega)]
 rfl
def aisS (a:Nat):Bool:=Nat.beq (a % 12) 2 || Nat.beq (a % 12) 5
def astrl (op:BinOp) (a:Nat):Option Value :=
 match op with
 | .add=>if aisS a && Nat.ble (a / 12) 1000 then some (.map (some a)) else none
 | .eql=>if Nat.beq (a % 12) 5 then some (.bool false) else none
 | .neq=>if Nat.beq (a % 12) 5 then some (.bool true) else none
 | _=>none
def aconcat (op:BinOp) (a b:Nat):Option Value :=
 match op with
 | .add=>if aisS a && aisS b && Nat.ble (a / 12 + b / 12) 1000 then
     some (.map (some (12 * (a / 12 + b / 12 + 1) + (if Nat.beq (a % 12) 5 || Nat.beq (b % 12) 5 then 5 else 2))))
  else none
 | _=>none
theorem VR.str_inv {β:Ren} {a:Nat} {u:Value} (h:VR β (.map (some a)) u) (ha:aisS a=true):∃ s:ByteArray,u=.string s∧s.size≤(a / 12 + 1) * 2147483648∧(a % 12=5→s.size≠0):=by
 have ha':a % 12=2∨a % 12=5:=by
  unfold aisS at ha
  rw [Bool.or_eq_true] at ha
  exact ha.imp Nat.eq_of_beq_eq_true Nat.eq_of_beq_eq_true
 generalize hz:(Value.map (some a))=z at h
 cases h <;> try cases hz
 ·exfalso; omega
 ·exfalso; omega
 ·rename_i j s hs
  exact ⟨s,rfl,by rw [show (12 * j + 2) / 12=j from by omega]; exact hs,fun h=>by omega⟩
 ·rename_i j s hs hs'
  exact ⟨s,rfl,by rw [show (12 * j + 5) / 12=j from by omega]; exact hs,fun _=>hs'⟩
 ·exfalso; omega
theorem VR.unz_inv {β:Ren} {u:Value} (h:VR β (.map (some 8)) u):∃ n:Int,u=.int .u32 n∧n≠0:=by
 generalize hz:(Value.map (some 8))=z at h
 cases h <;> try cases hz
 ·exfalso; have e:=Option.some.inj (Value.map.inj hz); omega
 ·exfalso; have e:=Option.some.inj (Value.map.inj hz); omega
 ·exfalso; have e:=Option.some.inj (Value.map.inj hz); omega
 ·exfalso; have e:=Option.some.inj (Value.map.inj hz); omega
 ·rename_i n hn; exact ⟨n,rfl,hn⟩
theorem VR.str_mk {β:Ren} {j:Nat} {s:ByteArray} (b:Bool) (h:s.size≤(j + 1) * 2147483648) (hb:b=true→s.size≠0):VR β (.map (some (12 * j + (if b then 5 else 2)))) (.string s):=by
 cases b with
 | true=>exact .sNe j s h (hb rfl)
 | false=>exact .sAny j s h
theorem str_back {β:Ren} {a:Nat} {s:ByteArray} (ha:aisS a=true) (h1:s.size≤(a / 12 + 1) * 2147483648) (h2:a % 12=5→s.size≠0):VR β (.map (some a)) (.string s):=by
 have ha':a % 12=2∨a % 12=5:=by
  unfold aisS at ha
  rw [Bool.or_eq_true] at ha
  exact ha.imp Nat.eq_of_beq_eq_true Nat.eq_of_beq_eq_true
 rcases ha' with h | h
 ·have e:a=12 * (a / 12) + 2:=by omega
  rw [e]; exact .sAny _ s h1
 ·have e:a=12 * (a / 12) + 5:=by omega
  rw [e]; exact .sNe _ s h1 (h2 h)
theorem size0 {s:ByteArray} (h:Nat.beq s.size 0=true):s=ByteArray.empty:=by
 have h:=Nat.eq_of_beq_eq_true h
 cases s with
 | mk d =>
  have:d=#[]:=Array.eq_empty_of_size_eq_zero h
  subst this; rfl
theorem cat_left {P:Program} {w:World} {t:TypeId} (q:ByteArray) (h:q.size≤9223372036854775807):(binOp .add t (.string ByteArray.empty) (.string q)).run P w=.ok (.string q) w:=by
 rw [cat_run ByteArray.empty q (by simpa using h)]
 rw [ByteArray.empty_append]
theorem cat_right {P:Program} {w:World} {t:TypeId} (q:ByteArray) (h:q.size≤9223372036854775807):(binOp .add t (.string q) (.string ByteArray.empty)).run P w=.ok (.string q) w:=by
 rw [cat_run q ByteArray.empty (by simpa using h)]
 rw [ByteArray.append_empty]
theorem ne_empty {P:Program} {w:World} {t:TypeId} (q:ByteArray) (h:q.size≠0):(binOp .eql t (.string q) (.string ByteArray.empty)).run P w=.ok (.bool false) w∧(binOp .neq t (.string q) (.string ByteArray.empty)).run P w=.ok (.bool true) w:=by
 have hd:decide (q.data.toList=ByteArray.empty.data.toList)=false:=by
  refine decide_eq_false fun e=>h ?_
  have e1:q.data.toList.length=0:=by rw [e]; rfl
  rw [Array.length_toList] at e1
  exact e1
 have h1:=(astr_run (P:=P) (w:=w) (op:=.eql) (s:=q) (u:=ByteArray.empty) rfl).1
 have h2:=(astr_run (P:=P) (w:=w) (op:=.neq) (s:=q) (u:=ByteArray.empty) rfl).1
 rw [hd] at h1 h2
 exact ⟨h1,h2⟩
def abin0 (P:Program) (op:BinOp) (t:TypeId) (x y:Operand) (a b:Value):Option Value :=
 match a,b with
 | .string s,.string u=>astr op s u
 | _,_ =>
  if ground a && ground b then agr P (do eqGuard op t x y a b; binOp op t a b)
  else
   match a,b with
   | .complex .f32 lo hi,.int .u8 c=>(arng op lo hi c).map .bool
   | .complex .f64 lo hi,.int .i64 c =>
    match op with
    | .and=>if c=63∧Nat.ble hi 63=true then some (.complex .f64 lo hi) else none
    | _=>(arng op lo hi c).map .bool
   | .map (some 8),.int .u32 c=>(arng0 op c).map .bool
   | .map (some a),.string s=>if Nat.beq s.size 0 then astrl op a else none
   | .string s,.map (some b)=>if Nat.beq s.size 0 then (match op with
    | .add=>if aisS b && Nat.ble (b / 12) 1000 then some (.map (some b)) else none
    | _=>none) else none
   | .map (some a),.map (some b)=>aconcat op a b
   | .chan (some b),.int .i64 c =>
    match op with
    | .add=>if b % 2=0∧0≤c∧b / 2 + c.toNat≤2 ^ 40 then some (.chan (some (2 * (b / 2 + c.toNat)))) else none
    | _=>none
   | a,b =>
    match op with
    | .eql=>(anilEq P t a b).map .bool
    | .neq=>(anilEq P t a b).map fun r=>.bool (!r)
    | _=>none
theorem eqGuard_skip {P:Program} {w:World} {op:BinOp} {t:TypeId} {x y:Operand} {a b:Value} (h:∀ c d,¬ (a=.agg c∧b=.agg d)) (h2:¬ (a=.nilIface∧b=.nilIface)):(eqGuard op t x y a b).run P w=.ok () w:=by
 unfold eqGuard
 cases op <;> first
  | rfl
  | (cases a <;> cases b <;> first | rfl | exact (h2 ⟨rfl,rfl⟩).elim | exact (h _ _ ⟨rfl,rfl⟩).elim)
theorem anilEq_form {P:Program} {t:TypeId} {a b:Value} {r:Bool} (h:anilEq P t a b=some r):(∀ c d,¬ (a=.agg c∧b=.agg d))∧¬ (a=.nilIface∧b=.nilIface) ∧
    (∀ c d,¬ (a=.tuple c∧b=d))∧(∀ c d,¬ (a=d∧b=.tuple c)):=by
 unfold anilEq at h
 refine ⟨?_,?_,?_,?_⟩ <;> (intros; rintro ⟨rfl,rfl⟩; split at h <;> simp_all)
theorem binOp_eq {P:Program} {w:World} {t:TypeId} {a b:Value} {r:Bool} (h:(Op.equal t a b).run P w=.ok r w)
    (hf:(∃ p,a=.pointer p)∨(∃ p n c,a=.slice p n c)∨a=.nilIface∨(∃ t v,a=.iface t v)∨a=.nilFunc∨(∃ f x c,a=.func f x c)) :
    (binOp .eql t a b).run P w=.ok (.bool r) w∧(binOp .neq t a b).run P w=.ok (.bool (!r)) w:=by
 have e1:binOp .eql t a b=(do pure (.bool (← Op.equal t a b))):=by
  rcases hf with ⟨p,rfl⟩ | ⟨p,n,c,rfl⟩ | rfl | ⟨t,v,rfl⟩ | rfl | ⟨f,x,c,rfl⟩ <;> (unfold binOp; cases b <;> rfl)
 have e2:binOp .neq t a b=(do pure (.bool (!(← Op.equal t a b)))):=by
  rcases hf with ⟨p,rfl⟩ | ⟨p,n,c,rfl⟩ | rfl | ⟨t,v,rfl⟩ | rfl | ⟨f,x,c,rfl⟩ <;> (unfold binOp; cases b <;> rfl)
 rw [e1,e2]
 simp only [Sem.run_bind,h,Result.andThen_ok]
 exact ⟨rfl,rfl⟩
theorem bin0_sound {P:Program} {w:World} {β:Ren} {op:BinOp} {t:TypeId} {x y:Operand} {a b a' b' v:Value} (ha:VR β a a') (hb:VR β b b') (h:abin0 P op t x y a b=some v) :
    ∃ u,(do eqGuard op t x y a' b'; binOp op t a' b':Sem Value).run P w=.ok u w∧VR β v u:=by
 unfold abin0 at h
 split at h
 ·rename_i s u
  cases ha; cases hb
  obtain ⟨h1,h2⟩:=astr_run (P:=P) (w:=w) h
  refine ⟨v,?_,VR.of_ground h2⟩
  rw [Sem.run_bind,eqGuard_skip (by rintro c d ⟨h,_⟩; cases h) (by rintro ⟨h,_⟩; cases h),Result.andThen_ok]
  have:binOp op t (.string s) (.string u)=Op.stringOp op s u:=by cases op <;> rfl
  rw [this]; exact h1
 ·split at h
  ·rename_i hg
   simp only [Bool.and_eq_true] at hg
   have e1:=ha.eq_of_ground hg.1
   have e2:=hb.eq_of_ground hg.2
   subst e1 e2
   exact ⟨v,(agr_run h w).1,VR.of_ground (agr_run h w).2⟩
  ·have main : ∀ r, anilEq P t a b = some r → (eqGuard op t x y a' b').run P w = .ok () w ∧ (binOp .eql t a' b').run P w = .ok (.bool r) w ∧ (binOp .neq t a' b').run P w = .ok (.bool (!r)) w := by
     intro r hr
     have hE:=nilEq_sound (w:=w) ha hb hr
     have hform:(∃ p,a=.pointer p)∨(∃ p n c,a=.slice p n c)∨a=.nilIface∨(∃ t v,a=.iface t v)∨a=.nilFunc∨(∃ f x c,a=.func f x c∧noY f=true):=by
      unfold anilEq at hr
      split at hr <;> simp_all
     have hform':(∃ p,a'=.pointer p)∨(∃ p n c,a'=.slice p n c)∨a'=.nilIface∨(∃ t v,a'=.iface t v)∨a'=.nilFunc∨(∃ f x c,a'=.func f x c):=by
      rcases hform with ⟨p,rfl⟩ | ⟨p,n,c,rfl⟩ | rfl | ⟨t,v,rfl⟩ | rfl | ⟨f,x,c,rfl,hy⟩ <;> cases ha <;> first | (simp; done) | (simp [noY] at hy; done)
     obtain ⟨b1,b2⟩:=binOp_eq hE hform'
     refine ⟨eqGuard_skip ?_ ?_,b1,b2⟩
     ·rintro c d ⟨rfl,rfl⟩
      rcases hform' with ⟨p,h⟩ | ⟨p,n,c,h⟩ | h | ⟨t,v,h⟩ | h | ⟨f,x,c,h⟩ <;> cases h
     ·rintro ⟨rfl,rfl⟩
      have hformb:(∃ p,b=.pointer p)∨(∃ p n c,b=.slice p n c)∨b=.nilIface∨(∃ t v,b=.iface t v)∨b=.nilFunc∨(∃ f x c,b=.func f x c∧noY f=true):=by
       unfold anilEq at hr
       split at hr <;> simp_all
      have f1:a=.nilIface∨∃ u,a=.tuple u:=by
       rcases hform with ⟨p,rfl⟩ | ⟨p,n,c,rfl⟩ | rfl | ⟨t,v,rfl⟩ | rfl | ⟨f,x,c,rfl,hy⟩ <;> first | exact .inl rfl | cases ha
      have f2:b=.nilIface∨∃ u,b=.tuple u:=by
       rcases hformb with ⟨p,rfl⟩ | ⟨p,n,c,rfl⟩ | rfl | ⟨t,v,rfl⟩ | rfl | ⟨f,x,c,rfl,hy⟩ <;> first | exact .inl rfl | cases hb
      obtain ⟨_,g2,g3,g4⟩:=anilEq_form hr
      rcases f1 with rfl | ⟨u,rfl⟩
      ·rcases f2 with rfl | ⟨u,rfl⟩
       ·exact g2 ⟨rfl,rfl⟩
       ·exact g4 _ _ ⟨rfl,rfl⟩
      ·exact g3 _ _ ⟨rfl,rfl⟩
   split at h
   ·rename_i lo hi c
    simp only [Option.map_eq_some_iff] at h
    obtain ⟨r,hr,rfl⟩:=h
    cases ha with
    | rng8 _ _ n h1 h2 =>
     cases hb
     refine ⟨_,?_,.bool _⟩
     rw [Sem.run_bind,eqGuard_skip (by rintro _ _ ⟨h,_⟩; cases h) (by rintro ⟨h,_⟩; cases h),Result.andThen_ok]
     exact arng_run hr h1 h2
   ·rename_i lo hi c
    split at h
    ·split at h
     ·rename_i hc
      obtain ⟨rfl,hhi⟩:=hc
      have hh:=Nat.le_of_ble_eq_true hhi
      cases h
      cases ha with
      | rng64 _ _ n h1 h2 =>
       cases hb
       refine ⟨.int .i64 n,?_,.rng64 _ _ n h1 h2⟩
       rw [Sem.run_bind,eqGuard_skip (by rintro _ _ ⟨h,_⟩; cases h) (by rintro ⟨h,_⟩; cases h),Result.andThen_ok]
       obtain ⟨m,rfl⟩:∃ m:Nat,n=m:=⟨n.toNat,by omega⟩
       exact and63_run m (by omega)
     ·cases h
    ·simp only [Option.map_eq_some_iff] at h
     obtain ⟨r,hr,rfl⟩:=h
     cases ha with
     | rng64 _ _ n h1 h2 =>
      cases hb
      refine ⟨_,?_,.bool _⟩
      rw [Sem.run_bind,eqGuard_skip (by rintro _ _ ⟨h,_⟩; cases h) (by rintro ⟨h,_⟩; cases h),Result.andThen_ok]
      exact arng_run hr h1 h2
   ·rename_i c _
    simp only [Option.map_eq_some_iff] at h
    obtain ⟨r,hr,rfl⟩:=h
    obtain ⟨n,rfl,hn⟩:=ha.unz_inv
    cases hb
    refine ⟨_,?_,.bool _⟩
    rw [Sem.run_bind,eqGuard_skip (by rintro _ _ ⟨h,_⟩; cases h) (by rintro ⟨h,_⟩; cases h),Result.andThen_ok]
    exact arng0_run hr hn
   ·rename_i a s _ _
    split at h
    rotate_left
    ·cases h
    rename_i hs
    have hs:=size0 hs
    subst hs
    cases hb
    unfold astrl at h
    split at h
    ·split at h
     ·rename_i hA
      rw [Bool.and_eq_true] at hA
      obtain ⟨hA,hA3⟩:=hA
      have hA3:=Nat.le_of_ble_eq_true hA3
      cases h
      obtain ⟨q,rfl,q1,q2⟩:=ha.str_inv hA
      refine ⟨.string q,?_,str_back hA q1 q2⟩
      rw [Sem.run_bind,eqGuard_skip (by rintro _ _ ⟨h,_⟩; cases h) (by rintro ⟨h,_⟩; cases h),Result.andThen_ok]
      exact cat_right q (by omega)
     ·cases h
    ·split at h
     ·rename_i hA
      cases h
      have hA5:=Nat.eq_of_beq_eq_true hA
      obtain ⟨q,rfl,q1,q2⟩:=ha.str_inv (by unfold aisS; rw [hA,Bool.or_true])
      refine ⟨.bool false,?_,.bool _⟩
      rw [Sem.run_bind,eqGuard_skip (by rintro _ _ ⟨h,_⟩; cases h) (by rintro ⟨h,_⟩; cases h),Result.andThen_ok]
      exact (ne_empty q (q2 hA5)).1
     ·cases h
    ·split at h
     ·rename_i hA
      cases h
      have hA5:=Nat.eq_of_beq_eq_true hA
      obtain ⟨q,rfl,q1,q2⟩:=ha.str_inv (by unfold aisS; rw [hA,Bool.or_true])
      refine ⟨.bool true,?_,.bool _⟩
      rw [Sem.run_bind,eqGuard_skip (by rintro _ _ ⟨h,_⟩; cases h) (by rintro ⟨h,_⟩; cases h),Result.andThen_ok]
      exact (ne_empty q (q2 hA5)).2
     ·cases h
    ·cases h
   ·rename_i s b _ _
    split at h
    rotate_left
    ·cases h
    rename_i hs
    have hs:=size0 hs
    subst hs
    cases ha
    split at h
    rotate_left
    ·cases h
    split at h
    rotate_left
    ·cases h
    rename_i hA
    rw [Bool.and_eq_true] at hA
    obtain ⟨hA,hA3⟩:=hA
    have hA3:=Nat.le_of_ble_eq_true hA3
    cases h
    obtain ⟨q,rfl,q1,q2⟩:=hb.str_inv hA
    refine ⟨.string q,?_,str_back hA q1 q2⟩
    rw [Sem.run_bind,eqGuard_skip (by rintro _ _ ⟨h,_⟩; cases h) (by rintro ⟨h,_⟩; cases h),Result.andThen_ok]
    exact cat_left q (by omega)
   ·rename_i a b _ _
    unfold aconcat at h
    split at h
    rotate_left
    ·cases h
    split at h
    rotate_left
    ·cases h
    rename_i hA
    simp only [Bool.and_eq_true] at hA
    obtain ⟨⟨hA1,hA2⟩,hA3⟩:=hA
    have hA3:=Nat.le_of_ble_eq_true hA3
    cases h
    obtain ⟨q,rfl,q1,q2⟩:=ha.str_inv hA1
    obtain ⟨r,rfl,r1,r2⟩:=hb.str_inv hA2
    refine ⟨.string (q++r),?_,VR.str_mk _ (by rw [ByteArray.size_append]; omega) ?_⟩
    ·rw [Sem.run_bind,eqGuard_skip (by rintro _ _ ⟨h,_⟩; cases h) (by rintro ⟨h,_⟩; cases h),Result.andThen_ok]
     exact cat_run q r (by omega)
    ·intro hh
     rw [Bool.or_eq_true] at hh
     rw [ByteArray.size_append]
     rcases hh with hh | hh
     ·have:=q2 (Nat.eq_of_beq_eq_true hh); omega
     ·have:=r2 (Nat.eq_of_beq_eq_true hh); omega
   ·rename_i m c _ _
    split at h
    ·split at h
     ·rename_i hc
      obtain ⟨hc1,hc2,hc3⟩:=hc
      cases h
      cases hb
      cases ha with
      | rsl=>exfalso; omega
      | rint k q h1 h2 h3 =>
       have e1:2 * k / 2=k:=by omega
       rw [e1] at hc3 ⊢
       refine ⟨.int .i64 ((q.b + (k + c.toNat):Nat):Int),?_,.rint _ q h1 hc3 h3⟩
       rw [Sem.run_bind,eqGuard_skip (by rintro _ _ ⟨h,_⟩; cases h) (by rintro ⟨h,_⟩; cases h),Result.andThen_ok]
       have e2:IntKind.i64.wrap (((q.b + k:Nat):Int) + c)=((q.b + (k + c.toNat):Nat):Int):=by
        rw [IntWalk.i64_in _ (by omega)]; omega
       simp only [binOp,ne_eq,not_true_eq_false,if_false,Op.intArith]
       rw [e2]; rfl
     ·cases h
    ·cases h
   split at h
   ·simp only [Option.map_eq_some_iff] at h
    obtain ⟨r,hr,rfl⟩:=h
    obtain ⟨m1,m2,m3⟩:=main r hr
    exact ⟨_,by rw [Sem.run_bind,m1,Result.andThen_ok]; exact m2,.bool _⟩
   ·simp only [Option.map_eq_some_iff] at h
    obtain ⟨r,hr,rfl⟩:=h
    obtain ⟨m1,m2,m3⟩:=main r hr
    exact ⟨_,by rw [Sem.run_bind,m1,Result.andThen_ok]; exact m3,.bool _⟩
   ·cases h
end
end Go.SM
