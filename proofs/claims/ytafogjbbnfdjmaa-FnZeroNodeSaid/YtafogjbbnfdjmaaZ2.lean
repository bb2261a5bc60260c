/- A part of the proof: what functions of the program answer, for all arguments that meet the conditions named in each theorem. -/
import Derived.Test.YtafogjbbnfdjmaaProg
import Derived.Test.YtafogjbbnfdjmaaAMv
namespace Go.Proofs.Z1
open Go.AM Go.RowKit
set_option linter.unusedVariables false
noncomputable section
def okZ (f : Nat) : Bool := Nat.beq f 7 || Nat.beq f 12 || Nat.beq f 13 || Nat.beq f 35 || Nat.beq f 36 || Nat.beq f 37
set_option maxRecDepth 100000 in
theorem fnsZ : FnsOk Try.prog (fun _ => false) okZ := fnsOk_of (by kernel_rfl)
theorem noNum : NoNum Try.prog := noNum_of (by kernel_rfl)
theorem follows : Try.prog.follows .mixedOrders = true := by kernel_rfl
/-- What is known of a node's fields. -/
structure Pat where
  k : Value
  s : Value
  t : Value
  v : Value
  a : Value
  h : Value
  l : Value
  f : Value
  r : Value
  c : Value
  kid : Bool
  z : Bool
def e0 : Value := .string ByteArray.empty
def sA : Value := .map (some 2)
def sN : Value := .map (some 5)
def kidCells : List Value := [.int .i64 8, .int .i64 0, e0, e0, e0, e0, e0, e0, .int .i64 0, .int .i64 0, .int .i64 (-1), .slice none 0 0]
def kidsOf (b : Bool) : Value := if b then .slice (some ⟨0, 0, none⟩) 1 1 else .slice none 0 0
def Pat.node (p : Pat) : Value := .agg #[p.k, p.s, p.t, p.v, p.a, p.h, p.l, p.f, p.r, p.c, .int .i64 (-1), kidsOf p.kid]
def Pat.mem (p : Pat) : AS := if p.kid then oneH kidCells 24 else emptyH
def Pat.cells (p : Pat) : List Value := [p.k, p.s, p.t, p.v, p.a, p.h, p.l, p.f, p.r, p.c, .int .i64 (-1), .tuple #[]]
noncomputable def findR (k : Nat) : Code → Option Code
  | .region id ops d => if Nat.beq id k then some (.region id ops d) else none
  | .seq x y => match findR k x with | some c => some c | none => findR k y
  | .cond _ x y => match findR k x with | some c => some c | none => findR k y
  | .block _ c => findR k c
  | .loop c => findR k c
  | .scope c => findR k c
  | _ => none
noncomputable def c9 : Code := (Try.f3.body.bind (findR 9)).getD .skip
def D9 : List (Nat × Nat) := [(5, 5), (37, 78)]
/-- The call, and the law's own reckoning, both give what the pattern says. -/
noncomputable def Pat.ok (p : Pat) : Bool :=
  (match acall Try.prog (fun _ => none) (fun _ => false) okZ noprim 100000 30 7 [p.node] p.mem with
    | some (.bool b, _) => b == p.z
    | _ => false) &&
  chkCB Try.prog nocall 87 1000 c9 [(1, .bool p.kid), (2, .pointer (some ⟨87, 0, none⟩))] D9 [(5, .bool p.z)] p.cells 24
def p0 : Pat := ⟨.int .i64 1, .complex .f64 0 63, sA, sA, sA, sA, sA, sA, .complex .f64 0 999, .complex .f64 0 999, false, false⟩
def p1 : Pat := ⟨.int .i64 2, .complex .f64 0 63, sA, sA, sA, sA, sA, sA, .complex .f64 0 999, .complex .f64 0 999, false, false⟩
def p2 : Pat := ⟨.int .i64 4, .complex .f64 0 63, sA, sA, sA, sA, sA, sA, .complex .f64 0 999, .complex .f64 0 999, false, false⟩
def p3 : Pat := ⟨.int .i64 8, .complex .f64 0 63, sA, sA, sA, sA, sA, sA, .complex .f64 0 999, .complex .f64 0 999, false, false⟩
def p4 : Pat := ⟨.int .i64 0, .complex .f64 1 63, sA, sA, sA, sA, sA, sA, .complex .f64 0 999, .complex .f64 0 999, false, false⟩
def p5 : Pat := ⟨.int .i64 0, .int .i64 0, sN, sA, sA, sA, sA, sA, .complex .f64 0 999, .complex .f64 0 999, false, false⟩
def p6 : Pat := ⟨.int .i64 0, .int .i64 0, e0, sN, sA, sA, sA, sA, .complex .f64 0 999, .complex .f64 0 999, false, false⟩
def p7 : Pat := ⟨.int .i64 0, .int .i64 0, e0, e0, sN, sA, sA, sA, .complex .f64 0 999, .complex .f64 0 999, false, false⟩
def p8 : Pat := ⟨.int .i64 0, .int .i64 0, e0, e0, e0, sN, sA, sA, .complex .f64 0 999, .complex .f64 0 999, false, false⟩
def p9 : Pat := ⟨.int .i64 0, .int .i64 0, e0, e0, e0, e0, sN, sA, .complex .f64 0 999, .complex .f64 0 999, false, false⟩
def p10 : Pat := ⟨.int .i64 0, .int .i64 0, e0, e0, e0, e0, e0, sN, .complex .f64 0 999, .complex .f64 0 999, false, false⟩
def p11 : Pat := ⟨.int .i64 0, .int .i64 0, e0, e0, e0, e0, e0, e0, .complex .f64 1 999, .complex .f64 0 999, false, false⟩
def p12 : Pat := ⟨.int .i64 0, .int .i64 0, e0, e0, e0, e0, e0, e0, .int .i64 0, .complex .f64 1 999, false, false⟩
def p13 : Pat := ⟨.int .i64 0, .int .i64 0, e0, e0, e0, e0, e0, e0, .int .i64 0, .int .i64 0, false, true⟩
def p14 : Pat := ⟨.int .i64 1, .complex .f64 0 63, sA, sA, sA, sA, sA, sA, .complex .f64 0 999, .complex .f64 0 999, true, false⟩
def p15 : Pat := ⟨.int .i64 2, .complex .f64 0 63, sA, sA, sA, sA, sA, sA, .complex .f64 0 999, .complex .f64 0 999, true, false⟩
def p16 : Pat := ⟨.int .i64 4, .complex .f64 0 63, sA, sA, sA, sA, sA, sA, .complex .f64 0 999, .complex .f64 0 999, true, false⟩
def p17 : Pat := ⟨.int .i64 8, .complex .f64 0 63, sA, sA, sA, sA, sA, sA, .complex .f64 0 999, .complex .f64 0 999, true, false⟩
def p18 : Pat := ⟨.int .i64 0, .complex .f64 1 63, sA, sA, sA, sA, sA, sA, .complex .f64 0 999, .complex .f64 0 999, true, false⟩
def p19 : Pat := ⟨.int .i64 0, .int .i64 0, sN, sA, sA, sA, sA, sA, .complex .f64 0 999, .complex .f64 0 999, true, false⟩
def p20 : Pat := ⟨.int .i64 0, .int .i64 0, e0, sN, sA, sA, sA, sA, .complex .f64 0 999, .complex .f64 0 999, true, false⟩
def p21 : Pat := ⟨.int .i64 0, .int .i64 0, e0, e0, sN, sA, sA, sA, .complex .f64 0 999, .complex .f64 0 999, true, false⟩
def p22 : Pat := ⟨.int .i64 0, .int .i64 0, e0, e0, e0, sN, sA, sA, .complex .f64 0 999, .complex .f64 0 999, true, false⟩
def p23 : Pat := ⟨.int .i64 0, .int .i64 0, e0, e0, e0, e0, sN, sA, .complex .f64 0 999, .complex .f64 0 999, true, false⟩
def p24 : Pat := ⟨.int .i64 0, .int .i64 0, e0, e0, e0, e0, e0, sN, .complex .f64 0 999, .complex .f64 0 999, true, false⟩
def p25 : Pat := ⟨.int .i64 0, .int .i64 0, e0, e0, e0, e0, e0, e0, .complex .f64 1 999, .complex .f64 0 999, true, false⟩
def p26 : Pat := ⟨.int .i64 0, .int .i64 0, e0, e0, e0, e0, e0, e0, .int .i64 0, .complex .f64 1 999, true, false⟩
def p27 : Pat := ⟨.int .i64 0, .int .i64 0, e0, e0, e0, e0, e0, e0, .int .i64 0, .int .i64 0, true, false⟩
end
/-- A node's fields match a pattern. -/
structure Mat (p : Pat) (k s : Int) (t v a h l f : ByteArray) (r c : Int) (kid : Bool) : Prop where
  k : VR [] p.k (.int .i64 k)
  s : VR [] p.s (.int .i64 s)
  t : VR [] p.t (.string t)
  v : VR [] p.v (.string v)
  a : VR [] p.a (.string a)
  h : VR [] p.h (.string h)
  l : VR [] p.l (.string l)
  f : VR [] p.f (.string f)
  r : VR [] p.r (.int .i64 r)
  c : VR [] p.c (.int .i64 c)
  kid : p.kid = kid
theorem vS (s : ByteArray) (h : s.size ≤ 2147483647) : VR [] sA (.string s) := .sAny 0 s (by omega)
theorem vN (s : ByteArray) (h : s.size ≤ 2147483647) (h0 : s.size ≠ 0) : VR [] sN (.string s) := .sNe 0 s (by omega) h0
theorem vE (s : ByteArray) (h0 : s.size = 0) : VR [] e0 (.string s) := by
  have : s = ByteArray.empty := size0 (by rw [h0]; rfl)
  rw [this]; exact .string _
theorem vI (n m : Int) (h : n = m) : VR [] (.int .i64 m) (.int .i64 n) := by rw [h]; exact .int _ _
theorem vR (n : Int) (lo hi : Nat) (h1 : lo ≤ n) (h2 : n ≤ hi) : VR [] (.complex .f64 lo hi) (.int .i64 n) := .rng64 lo hi n h1 h2
theorem mat_any (k s : Int) (t v a h l f : ByteArray) (r c : Int) (kid : Bool) (hk : k = 0 ∨ k = 1 ∨ k = 2 ∨ k = 4 ∨ k = 8) (hs : 0 ≤ s ∧ s ≤ 63) (ht : t.size ≤ 2147483647) (hv : v.size ≤ 2147483647) (ha : a.size ≤ 2147483647) (hh : h.size ≤ 2147483647) (hl : l.size ≤ 2147483647) (hf : f.size ≤ 2147483647)
    (hr : 0 ≤ r ∧ r ≤ 999) (hc : 0 ≤ c ∧ c ≤ 999) (Q : Prop) (hQ : ∀ p, p.ok = true → Mat p k s t v a h l f r c kid → Q)
    (G : p0.ok = true ∧ p1.ok = true ∧ p2.ok = true ∧ p3.ok = true ∧ p4.ok = true ∧ p5.ok = true ∧ p6.ok = true ∧ p7.ok = true ∧ p8.ok = true ∧ p9.ok = true ∧ p10.ok = true ∧ p11.ok = true ∧ p12.ok = true ∧ p13.ok = true ∧ p14.ok = true ∧ p15.ok = true ∧ p16.ok = true ∧ p17.ok = true ∧ p18.ok = true ∧ p19.ok = true ∧ p20.ok = true ∧ p21.ok = true ∧ p22.ok = true ∧ p23.ok = true ∧ p24.ok = true ∧ p25.ok = true ∧ p26.ok = true ∧ p27.ok = true) : Q := by
  obtain ⟨g0, g1, g2, g3, g4, g5, g6, g7, g8, g9, g10, g11, g12, g13, g14, g15, g16, g17, g18, g19, g20, g21, g22, g23, g24, g25, g26, g27⟩ := G
  have S := fun s h => vS s h
  cases kid with
  | false =>
    rcases hk with hk | hk | hk | hk | hk
    ·
      by_cases hs0 : s = 0
      ·
        by_cases zt : t.size = 0
        rotate_left
        · have nt := zt; exact hQ p5 g5 ⟨vI k 0 hk, vI s 0 hs0, vN t ht nt, vS v hv, vS a ha, vS h hh, vS l hl, vS f hf, vR r 0 999 (by omega) (by omega), vR c 0 999 (by omega) (by omega), rfl⟩
        by_cases zv : v.size = 0
        rotate_left
        · have nv := zv; exact hQ p6 g6 ⟨vI k 0 hk, vI s 0 hs0, vE t zt, vN v hv nv, vS a ha, vS h hh, vS l hl, vS f hf, vR r 0 999 (by omega) (by omega), vR c 0 999 (by omega) (by omega), rfl⟩
        by_cases za : a.size = 0
        rotate_left
        · have na := za; exact hQ p7 g7 ⟨vI k 0 hk, vI s 0 hs0, vE t zt, vE v zv, vN a ha na, vS h hh, vS l hl, vS f hf, vR r 0 999 (by omega) (by omega), vR c 0 999 (by omega) (by omega), rfl⟩
        by_cases zh : h.size = 0
        rotate_left
        · have nh := zh; exact hQ p8 g8 ⟨vI k 0 hk, vI s 0 hs0, vE t zt, vE v zv, vE a za, vN h hh nh, vS l hl, vS f hf, vR r 0 999 (by omega) (by omega), vR c 0 999 (by omega) (by omega), rfl⟩
        by_cases zl : l.size = 0
        rotate_left
        · have nl := zl; exact hQ p9 g9 ⟨vI k 0 hk, vI s 0 hs0, vE t zt, vE v zv, vE a za, vE h zh, vN l hl nl, vS f hf, vR r 0 999 (by omega) (by omega), vR c 0 999 (by omega) (by omega), rfl⟩
        by_cases zf : f.size = 0
        rotate_left
        · have nf := zf; exact hQ p10 g10 ⟨vI k 0 hk, vI s 0 hs0, vE t zt, vE v zv, vE a za, vE h zh, vE l zl, vN f hf nf, vR r 0 999 (by omega) (by omega), vR c 0 999 (by omega) (by omega), rfl⟩
        by_cases r0 : r = 0
        rotate_left
        · exact hQ p11 g11 ⟨vI k 0 hk, vI s 0 hs0, vE t zt, vE v zv, vE a za, vE h zh, vE l zl, vE f zf, vR r 1 999 (by omega) (by omega), vR c 0 999 (by omega) (by omega), rfl⟩
        by_cases c0 : c = 0
        rotate_left
        · exact hQ p12 g12 ⟨vI k 0 hk, vI s 0 hs0, vE t zt, vE v zv, vE a za, vE h zh, vE l zl, vE f zf, vI r 0 r0, vR c 1 999 (by omega) (by omega), rfl⟩
        exact hQ p13 g13 ⟨vI k 0 hk, vI s 0 hs0, vE t zt, vE v zv, vE a za, vE h zh, vE l zl, vE f zf, vI r 0 r0, vI c 0 c0, rfl⟩
      · exact hQ p4 g4 ⟨vI k 0 hk, vR s 1 63 (by omega) (by omega), vS t ht, vS v hv, vS a ha, vS h hh, vS l hl, vS f hf, vR r 0 999 (by omega) (by omega), vR c 0 999 (by omega) (by omega), rfl⟩
    · exact hQ p0 g0 ⟨vI k 1 hk, vR s 0 63 (by omega) (by omega), vS t ht, vS v hv, vS a ha, vS h hh, vS l hl, vS f hf, vR r 0 999 (by omega) (by omega), vR c 0 999 (by omega) (by omega), rfl⟩
    · exact hQ p1 g1 ⟨vI k 2 hk, vR s 0 63 (by omega) (by omega), vS t ht, vS v hv, vS a ha, vS h hh, vS l hl, vS f hf, vR r 0 999 (by omega) (by omega), vR c 0 999 (by omega) (by omega), rfl⟩
    · exact hQ p2 g2 ⟨vI k 4 hk, vR s 0 63 (by omega) (by omega), vS t ht, vS v hv, vS a ha, vS h hh, vS l hl, vS f hf, vR r 0 999 (by omega) (by omega), vR c 0 999 (by omega) (by omega), rfl⟩
    · exact hQ p3 g3 ⟨vI k 8 hk, vR s 0 63 (by omega) (by omega), vS t ht, vS v hv, vS a ha, vS h hh, vS l hl, vS f hf, vR r 0 999 (by omega) (by omega), vR c 0 999 (by omega) (by omega), rfl⟩
  | true =>
    rcases hk with hk | hk | hk | hk | hk
    ·
      by_cases hs0 : s = 0
      ·
        by_cases zt : t.size = 0
        rotate_left
        · have nt := zt; exact hQ p19 g19 ⟨vI k 0 hk, vI s 0 hs0, vN t ht nt, vS v hv, vS a ha, vS h hh, vS l hl, vS f hf, vR r 0 999 (by omega) (by omega), vR c 0 999 (by omega) (by omega), rfl⟩
        by_cases zv : v.size = 0
        rotate_left
        · have nv := zv; exact hQ p20 g20 ⟨vI k 0 hk, vI s 0 hs0, vE t zt, vN v hv nv, vS a ha, vS h hh, vS l hl, vS f hf, vR r 0 999 (by omega) (by omega), vR c 0 999 (by omega) (by omega), rfl⟩
        by_cases za : a.size = 0
        rotate_left
        · have na := za; exact hQ p21 g21 ⟨vI k 0 hk, vI s 0 hs0, vE t zt, vE v zv, vN a ha na, vS h hh, vS l hl, vS f hf, vR r 0 999 (by omega) (by omega), vR c 0 999 (by omega) (by omega), rfl⟩
        by_cases zh : h.size = 0
        rotate_left
        · have nh := zh; exact hQ p22 g22 ⟨vI k 0 hk, vI s 0 hs0, vE t zt, vE v zv, vE a za, vN h hh nh, vS l hl, vS f hf, vR r 0 999 (by omega) (by omega), vR c 0 999 (by omega) (by omega), rfl⟩
        by_cases zl : l.size = 0
        rotate_left
        · have nl := zl; exact hQ p23 g23 ⟨vI k 0 hk, vI s 0 hs0, vE t zt, vE v zv, vE a za, vE h zh, vN l hl nl, vS f hf, vR r 0 999 (by omega) (by omega), vR c 0 999 (by omega) (by omega), rfl⟩
        by_cases zf : f.size = 0
        rotate_left
        · have nf := zf; exact hQ p24 g24 ⟨vI k 0 hk, vI s 0 hs0, vE t zt, vE v zv, vE a za, vE h zh, vE l zl, vN f hf nf, vR r 0 999 (by omega) (by omega), vR c 0 999 (by omega) (by omega), rfl⟩
        by_cases r0 : r = 0
        rotate_left
        · exact hQ p25 g25 ⟨vI k 0 hk, vI s 0 hs0, vE t zt, vE v zv, vE a za, vE h zh, vE l zl, vE f zf, vR r 1 999 (by omega) (by omega), vR c 0 999 (by omega) (by omega), rfl⟩
        by_cases c0 : c = 0
        rotate_left
        · exact hQ p26 g26 ⟨vI k 0 hk, vI s 0 hs0, vE t zt, vE v zv, vE a za, vE h zh, vE l zl, vE f zf, vI r 0 r0, vR c 1 999 (by omega) (by omega), rfl⟩
        exact hQ p27 g27 ⟨vI k 0 hk, vI s 0 hs0, vE t zt, vE v zv, vE a za, vE h zh, vE l zl, vE f zf, vI r 0 r0, vI c 0 c0, rfl⟩
      · exact hQ p18 g18 ⟨vI k 0 hk, vR s 1 63 (by omega) (by omega), vS t ht, vS v hv, vS a ha, vS h hh, vS l hl, vS f hf, vR r 0 999 (by omega) (by omega), vR c 0 999 (by omega) (by omega), rfl⟩
    · exact hQ p14 g14 ⟨vI k 1 hk, vR s 0 63 (by omega) (by omega), vS t ht, vS v hv, vS a ha, vS h hh, vS l hl, vS f hf, vR r 0 999 (by omega) (by omega), vR c 0 999 (by omega) (by omega), rfl⟩
    · exact hQ p15 g15 ⟨vI k 2 hk, vR s 0 63 (by omega) (by omega), vS t ht, vS v hv, vS a ha, vS h hh, vS l hl, vS f hf, vR r 0 999 (by omega) (by omega), vR c 0 999 (by omega) (by omega), rfl⟩
    · exact hQ p16 g16 ⟨vI k 4 hk, vR s 0 63 (by omega) (by omega), vS t ht, vS v hv, vS a ha, vS h hh, vS l hl, vS f hf, vR r 0 999 (by omega) (by omega), vR c 0 999 (by omega) (by omega), rfl⟩
    · exact hQ p17 g17 ⟨vI k 8 hk, vR s 0 63 (by omega) (by omega), vS t ht, vS v hv, vS a ha, vS h hh, vS l hl, vS f hf, vR r 0 999 (by omega) (by omega), vR c 0 999 (by omega) (by omega), rfl⟩
end Go.Proofs.Z1
