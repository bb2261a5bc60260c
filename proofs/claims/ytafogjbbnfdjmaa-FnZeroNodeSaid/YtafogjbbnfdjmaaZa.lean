/- A part of the proof: what functions of the program answer, for all arguments that meet the conditions named in each theorem. -/
import Derived.Test.YtafogjbbnfdjmaaZ9
import Derived.WideShapes
namespace Go.Proofs.Z1
open Go.RowKit Go.AM Go.WideShapes
set_option linter.unusedVariables false
theorem ct24 : Try.prog.cellTypes Try.prog.depth 24 = some [3, 3, 9, 9, 9, 9, 9, 9, 3, 3, 3, 22] := by kernel_rfl
theorem cells24 : Try.prog.cellsOf 24 = 12 := by kernel_rfl
theorem okw {P : Program} {W : World} {base : Nat} {t : TypeId} {v : Value} (h : Cell.okWide P W .any base t v) (hs : ∀ fs, P.underlying t ≠ some (.struct fs)) (ha : ∀ n e, P.underlying t ≠ some (.array n e)) : Value.okWide P W .any base t v := by
  unfold Value.okWide
  split
  · rename_i fs hh; exact absurd hh (hs fs)
  · rename_i n e hh; exact absurd hh (ha n e)
  · exact h
theorem okI {P : Program} {W : World} {base : Nat} {t : TypeId} {v : Value} (hu : P.underlying t = some (.int .i64)) (h : Cell.okWide P W .any base t v) : ∃ n, v = .int .i64 n :=
  okWide_int hu (okw h (fun fs e => by rw [hu] at e; cases e) (fun n e' e => by rw [hu] at e; cases e))
theorem okS {P : Program} {W : World} {base : Nat} {t : TypeId} {v : Value} (hu : P.underlying t = some .string) (h : Cell.okWide P W .any base t v) : ∃ s, v = .string s :=
  okWide_string hu (okw h (fun fs e => by rw [hu] at e; cases e) (fun n e' e => by rw [hu] at e; cases e))
theorem okL {P : Program} {W : World} {base : Nat} {t e : TypeId} {v : Value} (hu : P.underlying t = some (.slice e)) (h : Cell.okWide P W .any base t v) : ∃ a n c, v = .slice a n c :=
  okWide_slice hu (okw h (fun fs e => by rw [hu] at e; cases e) (fun n e' e => by rw [hu] at e; cases e))
theorem row_of {P : Program} {W : World} {base : Nat} {t : TypeId} {v : Value} {fs : Array Field} {ts : List TypeId} (ht : P.underlying t = some (.struct fs)) (hts : P.cellTypes P.depth t = some ts) (hv : Value.okWide P W .any base t v) :
    ∃ cs, v = .agg cs ∧ cs.size = P.cellsOf t ∧ ∀ i v, cs[i]? = some v → ∃ u, ts[i % ts.length]? = some u ∧ Cell.okWide P W .any base u v := by
  simp only [Value.okWide, ht] at hv
  obtain ⟨cs, h1, h2, ts', h3, _, h4⟩ := hv
  rw [hts] at h3
  cases h3
  exact ⟨cs, h1, h2, h4⟩
set_option maxRecDepth 100000 in
theorem node_form {W : World} {base : Nat} {v : Value} (hv : Value.okWide Try.prog W .any base 24 v) : ∃ k s t x a h l f r c al ka kn kc, v = NodeV k s t x a h l f r c al (.slice ka kn kc) := by
  obtain ⟨cs, rfl, hsz, hcell⟩ := row_of Try.underlying24 ct24 hv
  rw [cells24] at hsz
  obtain ⟨l⟩ := cs
  match l, hsz with
  | [x0, x1, x2, x3, x4, x5, x6, x7, x8, x9, x10, x11], _ =>
    obtain ⟨u0, e0, h0⟩ := hcell 0 x0 rfl
    obtain ⟨u1, e1, h1⟩ := hcell 1 x1 rfl
    obtain ⟨u2, e2, h2⟩ := hcell 2 x2 rfl
    obtain ⟨u3, e3, h3⟩ := hcell 3 x3 rfl
    obtain ⟨u4, e4, h4⟩ := hcell 4 x4 rfl
    obtain ⟨u5, e5, h5⟩ := hcell 5 x5 rfl
    obtain ⟨u6, e6, h6⟩ := hcell 6 x6 rfl
    obtain ⟨u7, e7, h7⟩ := hcell 7 x7 rfl
    obtain ⟨u8, e8, h8⟩ := hcell 8 x8 rfl
    obtain ⟨u9, e9, h9⟩ := hcell 9 x9 rfl
    obtain ⟨u10, e10, h10⟩ := hcell 10 x10 rfl
    obtain ⟨u11, e11, h11⟩ := hcell 11 x11 rfl
    cases e0; cases e1; cases e2; cases e3; cases e4; cases e5; cases e6; cases e7; cases e8; cases e9; cases e10; cases e11
    obtain ⟨k, rfl⟩ := okI Try.underlying3 h0
    obtain ⟨s, rfl⟩ := okI Try.underlying3 h1
    obtain ⟨t, rfl⟩ := okS Try.underlying9 h2
    obtain ⟨x, rfl⟩ := okS Try.underlying9 h3
    obtain ⟨a, rfl⟩ := okS Try.underlying9 h4
    obtain ⟨h, rfl⟩ := okS Try.underlying9 h5
    obtain ⟨l, rfl⟩ := okS Try.underlying9 h6
    obtain ⟨f, rfl⟩ := okS Try.underlying9 h7
    obtain ⟨r, rfl⟩ := okI Try.underlying3 h8
    obtain ⟨c, rfl⟩ := okI Try.underlying3 h9
    obtain ⟨al, rfl⟩ := okI Try.underlying3 h10
    obtain ⟨ka, kn, kc, rfl⟩ := okL Try.underlying22 h11
    exact ⟨k, s, t, x, a, h, l, f, r, c, al, ka, kn, kc, rfl⟩
theorem law_row (v : Value) (kid : Bool) (w : World) (h : ∃ k s t x a h l f r c al ka kn kc, v = NodeV k s t x a h l f r c al (.slice ka kn kc)) :
    Calls Try.prog 3 #[v, .bool kid] w fun e w' => e = .returned (.bool true) ∧ Below w.heap.size w w' := by
  obtain ⟨k, s, t, x, a, h, l, f, r, c, al, ka, kn, kc, rfl⟩ := h
  exact law_some w k s t x a h l f r c al ka kn kc kid
end Go.Proofs.Z1
