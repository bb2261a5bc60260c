/- The statement FnClasses, proved: the frame round its walk (YtafogjbbnfdjmaaC7.C1.law_row). -/
import Derived.Test.YtafogjbbnfdjmaaRows
import Derived.Test.YtafogjbbnfdjmaaC7
import Derived.WalkKit
import Derived.ProofKit
import Derived.OpenShut
import Derived.ShutString
import Derived.ChangeOld
import Derived.Below
import Derived.SizedLaws
import Derived.Carry
import Derived.ChangeSlices
namespace Go.Proofs.Ytafogjbbnfdjmaa.fnClassesRow
open Go.ChangeShapes Go.WideShapes Go.ChangeAt Go.RowKit
open Go.ChangeMaps (open_string shut_string)
set_option linter.unusedVariables false
theorem own : ownKnob Try.prog.godebug = none := by kernel_rfl
theorem cells5 : Try.prog.cellsOf 5 = 1 := by kernel_rfl
theorem laidOut : laidOutB Try.prog = true := by kernel_rfl
theorem open_bytes {H : Type} {enc : TypeId × Value → H} {P : Program} {w : World} {base : Nat} {spare : Nat → Bool} {held : Bool} {t e : TypeId} {a : Option Addr} {n cap : Nat} {d : DataW H} {ps : List MemPlace} (ht : P.underlying t = some (.slice e)) (he : P.underlying e = some (.int .u8)) (hc : P.cellsOf e = 1)
    (h : DataW.Trod enc P w base spare held t (.slice a n cap) d ps) : ∃ ts : List Int, n = ts.length ∧ (∀ m ∈ ts, 0 ≤ m ∧ m ≤ 255) ∧ ∀ i, i < ts.length → ∃ x, a = some x ∧ w.cell? (x.add i) = some (.int .u8 (ts.getD i 0)) := by
  obtain ⟨fuel, hf⟩ := h
  rcases open_ints ht he hc hf with ⟨hcs, _⟩ | ⟨x, len, cap', zs, hcs, _, hl, _, hz, _, hcell, hwf⟩
  · simp [Value.cells] at hcs
    obtain ⟨_, rfl, _⟩ := hcs
    exact ⟨[], rfl, by simp, by simp⟩
  · simp [Value.cells] at hcs
    obtain ⟨rfl, rfl, rfl⟩ := hcs
    have hlen : n ≤ zs.length := by rw [hz]; split <;> omega
    refine ⟨zs.take n, by simp; omega, fun m hm => ?_, fun i hi => ⟨x, rfl, ?_⟩⟩
    · have := hwf m (List.mem_of_mem_take hm)
      simp [Lit.wf, IntKind.min, IntKind.max, IntKind.signed, IntKind.bits] at this
      omega
    · have hi' : i < n := by simp at hi; omega
      rw [hcell i (by omega)]
      simp [List.getD_eq_getElem?_getD, hi']
set_option maxRecDepth 100000 in
theorem lifted (os : Os) (started : os.Started) (H : Type) (enc : TypeId × Value → H) :
    ReturnsInHanded {} Try.checked os 4 .any (Rows.fnClassesSpec.pre6 enc Try.prog Try.f4 Rows.fnClassesRow.domain false) (Rows.fnClassesSpec.post enc Try.prog Try.f4 false true false false) := by
  refine returnsInHanded_of_change_sized (C := Try.checked) own started (by kernel_rfl) Try.func4
    (ChangeSpec.witness6 (enc := enc) (C := Try.checked) false ⟨#[], #[.int .i64 0, .slice none 0 0, .int .i64 0], []⟩ 8 (by kernel_rfl) (by kernel_rfl) (by kernel_rfl) (by kernel_rfl)) ?_
  intro W base args ds gs before hval0 hW hcnd hsz0 _
  have hsz : (DataW.weightsEach Try.prog (Try.f4.params.toList ++ Rows.fnClassesSpec.plain.varTypes Try.prog) (ds ++ gs)).all (· ≤ reachBytes) = true := hsz0
  have hval : ∀ (j : Nat) t v, Try.f4.params[j]? = some t → args[j]? = some v → Value.okWide Try.prog W .any base t v := hval0
  have hW' := hW
  obtain ⟨p, q, hA0, hV, rfl, hfz, hnd⟩ := hW
  have hA : DataW.TrodAll enc Try.prog W 0 (fun _ => true) true Try.f4.params.toList args.toList ds p := hA0
  rw [Try.params4] at hA hval hsz
  obtain ⟨v0, vs0, d0, ds0, p0, q0, hargs, rfl, rfl, h0, r0⟩ := trodAll_cons hA
  obtain ⟨v1, vs1, d1, ds1, p1, q1, rfl, rfl, rfl, h1, r1⟩ := trodAll_cons r0
  obtain ⟨v2, vs2, d2, ds2, p2, q2, rfl, rfl, rfl, h2, r2⟩ := trodAll_cons r1
  obtain ⟨rfl, rfl, rfl⟩ := trodAll_nil r2
  obtain rfl : args = #[v0, v1, v2] := by cases args; simp_all
  obtain ⟨rfl, rfl⟩ := trodVars_none hV
  obtain ⟨a0, rfl, rfl, rfl, w0⟩ := open_int Try.underlying3 (hval 0 3 v0 rfl rfl) h0
  obtain ⟨ao1, n1, cap1, rfl⟩ := okWide_slice Try.underlying29 (hval 1 29 v1 rfl rfl)
  obtain ⟨ts1, hn1, ht1⟩ := open_bytes Try.underlying29 Try.underlying5 cells5 h1
  have hlt1 : ∀ x ∈ p1, x.block < W.heap.size := fun x hx => hW'.lt x (by simp [hx])
  obtain ⟨a2, rfl, rfl, rfl, w2⟩ := open_int Try.underlying3 (hval 2 3 v2 rfl rfl) h2
  clear hA0 hval0 hsz0 hsz
  refine (C1.law_row a0 ao1 n1 cap1 ts1 a2 W w0 hn1 ht1 w2).mono fun e W' ⟨he, bel⟩ => ?_
  subst he
  exact ⟨_, rfl, _, _, _, [], _, [], hW', trodAll_mk1 (shut_bool Try.underlying4 _), (trodAll_cons_mk (shut_int Try.underlying3 w0) (trodAll_cons_mk (Below.trod laidOut (by kernel_rfl) (of_decide_eq_true (by kernel_rfl)) h1 bel hlt1) (trodAll_cons_mk (shut_int Try.underlying3 w2) trodAll_mk0))), rfl, bel.frame _, fun h => by cases h⟩
theorem over : Rows.fnClassesRow.holds Try.pinned (OpenSpec.ofChange Rows.fnClassesSpec) :=
  OpenClaim.holds_of_wide 4 Try.f4 rfl rfl rfl rfl rfl rfl rfl ⟨rfl, rfl, rfl, rfl, rfl⟩ rfl rfl rfl rfl rfl (by kernel_rfl) Try.func4 (by kernel_rfl)
    (of_decide_eq_true (by kernel_rfl)) (by unfold Func.isWrapper; first | (rw [if_pos (by decide +kernel)]; kernel_rfl) | (rw [if_neg (by decide +kernel)]; exact ⟨rfl, rfl⟩))
    (fun os started H enc _ => lifted os started H enc)
end Go.Proofs.Ytafogjbbnfdjmaa.fnClassesRow
namespace Go.Proofs.Ytafogjbbnfdjmaa
theorem fnClasses_holds : Rows.FnClassesSaid := fnClassesRow.over
#print axioms fnClasses_holds
end Go.Proofs.Ytafogjbbnfdjmaa
