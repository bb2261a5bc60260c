/- A part of the proof: what functions of the program answer, for all arguments that meet the conditions named in each theorem. -/
import Derived.Test.YtlmcimelkklanaaDoorRows
import Derived.Test.YtlmcimelkklanaaDoorCards
import Derived.Test.YtlmcimelkklanaaDoorTie
import Derived.Test.YtlmcimelkklanaaDoorNd
import Derived.WalkKit
import Derived.ProofKit
import Derived.OpenShut
import Derived.ChangeSame
import Derived.ChangeVars
import Derived.JoinedOf
import Derived.RowKit
import Derived.RowKitTokens
import Derived.LaidLaws
import Derived.Stop.LaidErr
import Derived.Stop.Joined
import Derived.Below
import Derived.SevenTiedAt
namespace Go.Proofs.YtlmcimelkklanaaDoor.fnAnchorsNoneRow
open Go.ChangeShapes Go.WideShapes Go.ChangeAt Go.RowKit
set_option linter.unusedVariables false
theorem own : ownKnob Tryd.prog.godebug = none := by kernel_rfl
theorem gO : Tryd.prog.globalNamed "io.EOF" = some 0 := by kernel_rfl
theorem gOType : (Tryd.prog.globals[0]?).map (·.type) = some 88 := by kernel_rfl
theorem u88 : Tryd.prog.underlying 88 = some (.interface #[("Error", 90)]) := by kernel_rfl
theorem u91 : Tryd.prog.underlying 91 = some (.pointer 121) := by kernel_rfl
theorem u9 : Tryd.prog.underlying 9 = some .string := by kernel_rfl
theorem u4 : Tryd.prog.underlying 4 = some .bool := by kernel_rfl
theorem u5 : Tryd.prog.underlying 5 = some (.int .u8) := by kernel_rfl
theorem u121 : (Tryd.prog.underlying 121).map (fun t => match t with | .struct a => a.toList.map (fun f => (f.name, f.type, f.offset)) | _ => []) = some [("s", 9, 0)] := by kernel_rfl
theorem c121 : Tryd.prog.cellsOf 121 = 1 := by kernel_rfl
theorem c9 : Tryd.prog.cellsOf 9 = 1 := by kernel_rfl
theorem star : "*" ++ "errors.errorString" = "*errors.errorString" := by decide
theorem row91 (u : TypeId) (h : Tryd.prog.typeName? 3 u = some "*errors.errorString") : u = 91 :=
  typeName_ptr_named (nm := "errors.errorString") (by rw [star]; kernel_rfl) (by kernel_rfl) (by decide) u (by rw [star]; exact h)
theorem su121 : ∃ f : Field, Tryd.prog.underlying 121 = some (.struct #[f]) ∧ f.type = 9 ∧ f.offset = 0 := by
  have h := u121
  generalize Tryd.prog.underlying 121 = o at h ⊢
  cases o with
  | none => cases h
  | some t =>
    cases t with
    | struct a =>
      simp only [Option.map_some, Option.some.injEq] at h
      obtain ⟨l⟩ := a
      rcases l with _ | ⟨f, _ | ⟨g, l⟩⟩
      · simp at h
      · simp only [List.map_cons, List.map_nil, List.cons.injEq, Prod.mk.injEq, and_true] at h
        exact ⟨f, rfl, h.2.1, h.2.2⟩
      · simp at h
    | _ => simp at h
theorem eof {W : World} (h : laidMet Tryd.prog Rows.fnAnchorsNoneRow.laid W) : N1.EofOk W := by
  obtain ⟨f, hf, ht, ho⟩ := su121
  obtain ⟨a, s, hv, hc, _, _⟩ := laid_sentinel h gO gOType u88 row91 u91 hf ht ho u9 c121 c9
  obtain ⟨b, o, sp⟩ := a
  have hsp : sp = none := by
    cases sp with
    | none => rfl
    | some x =>
      unfold World.cell? at hc
      split at hc
      · simp at hc
      · cases hc
  subst hsp
  unfold World.var? at hv
  rw [gO] at hv
  simp only [Option.bind_some] at hv
  split at hv
  · rename_i cs e fr hh
    cases hv
    exact ⟨b, o, _, fr, e, rfl, hh⟩
  · cases hv

/-! One start that fits. -/
noncomputable def low : Nat := (World.holding Tryd.prog default ⟨#[], #[], []⟩).heap.size
noncomputable def laidWorld (os : Os) : World :=
  let w0 := World.holding Tryd.prog os ⟨#[.cells #[.string ⟨#[69, 79, 70]⟩] 121], #[], []⟩
  { w0 with heap := w0.heap.modify 0 fun
      | .cells _ t frozen => .cells #[.iface 91 (.pointer (some ⟨low, 0, none⟩))] t frozen
      | o => o }
theorem laidWorld_met (os : Os) (args : Array Value) : laidMet Tryd.prog Rows.fnAnchorsNoneRow.laid ((laidWorld os).forCall (fun _ _ => 0) ⟨#[], args, []⟩).memory :=
  laidMet_of_run (ps := [.cell 0 0, .cell low 0]) 8 (by kernel_rfl) (by kernel_rfl) (by kernel_rfl)
set_option maxRecDepth 100000 in
theorem lifted (law : ∀ (w : World) (al : Bool) (n : Int), 0 ≤ n → n ≤ 255 → N1.EofOk w → Calls Tryd.prog 3 #[.bool al, .int .u8 n] w fun e w' => e = .returned (.bool true) ∧ Below w.heap.size w w') (os : Os) (started : os.Started) (H : Type) (enc : TypeId × Value → H) :
    ReturnsInHanded {} Tryd.checked os 3 .any (fun w args => (Rows.fnAnchorsNoneSpec.pre enc Tryd.prog Tryd.f3 [] false w args ∧ laidMet Tryd.prog Rows.fnAnchorsNoneRow.laid w) ∧ sizedMet enc Tryd.prog Tryd.f3 (OpenSpec.ofChange Rows.fnAnchorsNoneSpec) false w args)
      (Rows.fnAnchorsNoneSpec.post enc Tryd.prog Tryd.f3 false true false false) := by
  refine returnsInHanded_of_change_and (C := Tryd.checked) (X := fun w _ => laidMet Tryd.prog Rows.fnAnchorsNoneRow.laid w) (fun _ _ _ hh h => h.of_heap hh) own started (by kernel_rfl) Tryd.func3
    (ChangeSpec.witness_at (enc := enc) (C := Tryd.checked) (os := os) (X := fun w _ => laidMet Tryd.prog Rows.fnAnchorsNoneRow.laid w) false (laidWorld os) #[.bool false, .int .u8 0] 8 rfl (by kernel_rfl) (by kernel_rfl) (by kernel_rfl) (by kernel_rfl) (by kernel_rfl) (laidWorld_met os _)) ?_
  intro W base args ds gs before hval0 hW _ _ hL _
  have hval : ∀ (j : Nat) t v, Tryd.f3.params[j]? = some t → args[j]? = some v → Value.okWide Tryd.prog W .any base t v := hval0
  have hW' := hW
  obtain ⟨p, q, hA0, hV, rfl, hfz, hnd⟩ := hW
  have hA : DataW.TrodAll enc Tryd.prog W 0 (fun _ => true) true Tryd.f3.params.toList args.toList ds p := hA0
  rw [Tryd.params3] at hA hval
  obtain ⟨v0, vs0, d0, ds0, p0, q0, hargs, rfl, rfl, h0, r0⟩ := trodAll_cons hA
  obtain ⟨v1, vs1, d1, ds1, p1, q1, rfl, rfl, rfl, h1, r1⟩ := trodAll_cons r0
  obtain ⟨rfl, rfl, rfl⟩ := trodAll_nil r1
  obtain rfl : args = #[v0, v1] := by cases args; simp_all
  obtain ⟨rfl, rfl⟩ := trodVars_none hV
  obtain ⟨a0, rfl, rfl, rfl⟩ := open_bool u4 (hval 0 4 v0 rfl rfl) h0
  obtain ⟨n, rfl, rfl, rfl, wn⟩ := open_int u5 (hval 1 5 v1 rfl rfl) h1
  clear hA0 hval0
  have hn : 0 ≤ n ∧ n ≤ 255 := by
    have := wn
    simp [Lit.wf, IntKind.min, IntKind.max, IntKind.signed, IntKind.bits] at this
    omega
  refine (law W a0 n hn.1 hn.2 (eof hL)).mono fun e W' ⟨he, bel⟩ => ?_
  subst he
  exact ⟨_, rfl, _, _, _, [], _, [], hW', trodAll_mk1 (shut_bool u4 _), (trodAll_cons_mk (shut_bool u4 a0) (trodAll_cons_mk (shut_int u5 wn) trodAll_mk0)), rfl, bel.frame _, fun h => by cases h⟩
theorem over (law : ∀ (w : World) (al : Bool) (n : Int), 0 ≤ n → n ≤ 255 → N1.EofOk w → Calls Tryd.prog 3 #[.bool al, .int .u8 n] w fun e w' => e = .returned (.bool true) ∧ Below w.heap.size w w') : Rows.FnAnchorsNoneSaid :=
  OpenClaim.holds_of_wide 3 Tryd.f3 rfl rfl rfl rfl rfl rfl rfl ⟨rfl, rfl, rfl, rfl, rfl⟩ rfl rfl rfl rfl rfl (by kernel_rfl) Tryd.func3 (by kernel_rfl)
    (of_decide_eq_true (by kernel_rfl)) (by unfold Func.isWrapper; first | (rw [if_pos (by decide +kernel)]; kernel_rfl) | (rw [if_neg (by decide +kernel)]; exact ⟨rfl, rfl⟩))
    (fun os started H enc _ => lifted law os started H enc)
theorem card (h : Rows.FnAnchorsNoneSaid) : Rows.FnAnchorsNoneCardSaid :=
  Claim7.holds_tied_plain_at .later [] [.sentinel] true (true, "cc677d5b36c9ca8702d3f681413c81657b03092f9a35733fc6c18dcb71c4f70d") true
    h (fun _ h => by cases h) (by kernel_rfl) (fun _ h => by cases h) fnAnchorsNone_row_tie rfl ⟨rfl, rfl⟩ (by kernel_rfl) rfl
    (fun f fn hf hfn => by
      obtain rfl : f = 3 := Option.some.inj ((show Tryd.prog.funcNamed "given.example/pub-quincunx/laws.FnAnchorsNone" = some 3 by kernel_rfl).symm.trans hf) |>.symm
      obtain rfl : fn = Tryd.f3 := (Option.some.inj (Tryd.func3.symm.trans hfn)).symm
      exact ⟨by kernel_rfl, fun j t ht => by
        rw [Tryd.params3] at ht
        rcases j with _ | _ | j
        · obtain rfl : t = 4 := by simpa using ht.symm
          exact (show Tryd.prog.wantsStandIn 4 = false by kernel_rfl)
        · obtain rfl : t = 5 := by simpa using ht.symm
          exact (show Tryd.prog.wantsStandIn 5 = false by kernel_rfl)
        · simp at ht⟩)
    (by kernel_rfl)
end Go.Proofs.YtlmcimelkklanaaDoor.fnAnchorsNoneRow
