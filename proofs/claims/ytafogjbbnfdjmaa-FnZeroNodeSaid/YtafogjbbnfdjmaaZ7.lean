/- A part of the proof: what functions of the program answer, for all arguments that meet the conditions named in each theorem. -/
import Derived.Test.YtafogjbbnfdjmaaZ3
import Derived.Test.YtafogjbbnfdjmaaZ4
import Derived.Test.YtafogjbbnfdjmaaZ5
import Derived.Test.YtafogjbbnfdjmaaZ6
import Derived.WalkKit
import Derived.KernelRfl
import Derived.Below
import Derived.Lib.Hide
import Derived.LoopTactic
import Derived.Outline
import Derived.Deep.DeepCutAuto
import Derived.WalkSpells
namespace Go.Proofs.Z1
open Go.RowKit Go.AM
set_option linter.unusedVariables false
/-- A node's value. -/
def NodeV (k s : Int) (t v a h l f : ByteArray) (r c al : Int) (kids : Value) : Value := .agg #[.int .i64 k, .int .i64 s, .string t, .string v, .string a, .string h, .string l, .string f, .int .i64 r, .int .i64 c, .int .i64 al, kids]
theorem fits (w : World) (k s : Int) (t v a h l f : ByteArray) (r c al : Int) (ka : Option Addr) (kn kc : Nat) :
    Calls Try.prog 6 #[NodeV k s t v a h l f r c al (.slice ka kn kc)] w fun e w' => ∃ b, e = .returned (.bool b) ∧ (b = true → t.size ≤ 2147483647 ∧ v.size ≤ 2147483647 ∧ a.size ≤ 2147483647 ∧ h.size ≤ 2147483647 ∧ l.size ≤ 2147483647 ∧ f.size ≤ 2147483647) ∧ Below w.heap.size w w' := by
  unfold NodeV
  go_enter Try.func6, Try.ntmps6
  go_wp2
  all_goals
    go_ret
    first
      | (refine ⟨_, rfl, fun _ => ?_, (Below.refl _ _).alloc (Nat.le_refl _) _⟩; omega)
      | exact ⟨_, rfl, fun h => (by cases h), (Below.refl _ _).alloc (Nat.le_refl _) _⟩
theorem heap_set {w : World} {g j : Nat} {C : Array Value} {e : TypeId} {fr : Nat × Nat} (v : Value) (hw : w.heap[g]? = some (.cells C e fr)) : (w.setCell ⟨g, j, none⟩ v).heap[g]? = some (.cells (C.setIfInBounds j v) e fr) := by
  have hl : g < w.heap.size := by
    rcases Nat.lt_or_ge g w.heap.size with h | h
    · exact h
    · rw [Array.getElem?_eq_none h] at hw; cases hw
  have hw' : w.heap[g] = .cells C e fr := by
    rw [Array.getElem?_eq_getElem hl] at hw; exact Option.some.inj hw
  have : (w.setCell ⟨g, j, none⟩ v).heap[g]? = some ((w.setCell ⟨g, j, none⟩ v).heap[g]'(by simp [World.setCell, hl])) := Array.getElem?_eq_getElem _
  rw [this]
  congr 1
  simp only [World.setCell]
  rw [Array.getElem_modify]
  simp [hw']
/-- The law's own copy of a node. -/
def BX (w : World) (g : Nat) (k s : Int) (t v a h l f : ByteArray) (r c al : Int) (kids : Value) : Prop := w.heap[g]? = some (.cells #[.int .i64 k, .int .i64 s, .string t, .string v, .string a, .string h, .string l, .string f, .int .i64 r, .int .i64 c, .int .i64 al, kids] 24 (0, 0))
theorem BX.cell {w : World} {g : Nat} {k s : Int} {t v a h l f : ByteArray} {r c al : Int} {kids : Value} (hb : BX w g k s t v a h l f r c al kids) (j : Nat) (x : Value) (hx : (#[.int .i64 k, .int .i64 s, .string t, .string v, .string a, .string h, .string l, .string f, .int .i64 r, .int .i64 c, .int .i64 al, kids] : Array Value)[j]? = some x) : w.cell? ⟨g, j, none⟩ = some x ∧ w.frozen? ⟨g, j, none⟩ = false :=
  ⟨by rw [cell_of_row _ _ _ _ _ _ hb]; exact hx, by simp [World.frozen?, show w.heap[g]? = _ from hb]⟩
theorem BX.later {w w' : World} {g : Nat} {k s : Int} {t v a h l f : ByteArray} {r c al : Int} {kids : Value} (hb : BX w g k s t v a h l f r c al kids) (hw : Below w.heap.size w w') : BX w' g k s t v a h l f r c al kids := by
  unfold BX at *
  have hl : g < w.heap.size := by
    rcases Nat.lt_or_ge g w.heap.size with h1 | h1
    · exact h1
    · rw [Array.getElem?_eq_none h1] at hb; cases hb
  rw [hw.block g hl]; exact hb
theorem BX.lt {w : World} {g : Nat} {k s : Int} {t v a h l f : ByteArray} {r c al : Int} {kids : Value} (hb : BX w g k s t v a h l f r c al kids) : g < w.heap.size := by
  unfold BX at hb
  rcases Nat.lt_or_ge g w.heap.size with h1 | h1
  · exact h1
  · rw [Array.getElem?_eq_none h1] at hb; cases hb
theorem i64_and63 (n : Int) : bits .and .i64 n 63 = n % 64 := by
  have h63 : (BitVec.ofInt 64 63).toNat = 2 ^ 6 - 1 := by decide
  have key : (BitVec.ofInt 64 n &&& BitVec.ofInt 64 63).toNat = (n % ((2 ^ 64 : Nat) : Int)).toNat % 2 ^ 6 := by
    rw [BitVec.toNat_and, BitVec.toNat_ofInt, h63, Nat.and_two_pow_sub_one_eq_mod]
  show IntKind.i64.wrap ((BitVec.ofInt 64 n &&& BitVec.ofInt 64 63).toNat : Nat) = n % 64
  rw [key, IntKind.wrap_i64]
  omega

def kidArr : Array Value := #[.int .i64 8, .int .i64 0, .string ByteArray.empty, .string ByteArray.empty, .string ByteArray.empty, .string ByteArray.empty, .string ByteArray.empty, .string ByteArray.empty, .int .i64 0, .int .i64 0, .int .i64 (-1), .slice none 0 0]
/-- The kids that are handed in: none, or one in a block. -/
def KidsOk (w : World) (kid : Bool) (kids : Value) : Prop := (kid = false ∧ kids = .slice none 0 0) ∨ (kid = true ∧ ∃ b, kids = .slice (some ⟨b, 0, none⟩) 1 1 ∧ w.heap[b]? = some (.cells kidArr 24 (0, 0)))
theorem vr12 {β : Ren} {x0 x1 x2 x3 x4 x5 x6 x7 x8 x9 x10 x11 y0 y1 y2 y3 y4 y5 y6 y7 y8 y9 y10 y11 : Value} (h0 : VR β x0 y0) (h1 : VR β x1 y1) (h2 : VR β x2 y2) (h3 : VR β x3 y3) (h4 : VR β x4 y4) (h5 : VR β x5 y5) (h6 : VR β x6 y6) (h7 : VR β x7 y7) (h8 : VR β x8 y8) (h9 : VR β x9 y9) (h10 : VR β x10 y10) (h11 : VR β x11 y11) :
    VRs β [x0, x1, x2, x3, x4, x5, x6, x7, x8, x9, x10, x11] [y0, y1, y2, y3, y4, y5, y6, y7, y8, y9, y10, y11] :=
  .cons h0 (.cons h1 (.cons h2 (.cons h3 (.cons h4 (.cons h5 (.cons h6 (.cons h7 (.cons h8 (.cons h9 (.cons h10 (.cons h11 (.nil _))))))))))))
theorem vr_agg {β : Ren} {l m : List Value} (h : VRs β l m) : VR β (.agg l.toArray) (.agg m.toArray) :=
  .agg _ _ (by simp [h.1]) (fun i v u hv hu => h.2 i v u (by simpa using hv) (by simpa using hu))
theorem zcall {p : Pat} {k s : Int} {t v a h l f : ByteArray} {r c : Int} {kid : Bool} (hp : p.ok = true) (m : Mat p k s t v a h l f r c kid) (w : World) (kids : Value) (hk : KidsOk w kid kids) :
    Calls Try.prog 7 #[NodeV k s t v a h l f r c (-1) kids] w fun e w' => e = .returned (.bool p.z) ∧ Below w.heap.size w w' := by
  unfold Pat.ok at hp
  rw [Bool.and_eq_true] at hp
  have h1 := hp.1
  split at h1
  rotate_left
  · cases h1
  rename_i b H' hr
  rw [beq_iff_eq] at h1
  subst h1
  rcases hk with ⟨hkid, rfl⟩ | ⟨hkid, b, rfl, hb⟩
  · have hpk : p.kid = false := m.kid.trans hkid
    have hn : p.node = .agg [p.k, p.s, p.t, p.v, p.a, p.h, p.l, p.f, p.r, p.c, .int .i64 (-1), .slice none 0 0].toArray := by unfold Pat.node kidsOf; rw [hpk]; rfl
    have hm : p.mem = emptyH := by unfold Pat.mem; rw [hpk]; rfl
    rw [hn, hm] at hr
    refine (acall_sound noNum follows fnsZ (fun _ _ _ _ _ h => by cases h) (noprim_ok _ _) 30 w [] emptyH w 7 _ _ _ H' (emptyH_HR w) (fun _ _ h => by cases h) (VRs.cons (vr_agg (vr12 m.k m.s m.t m.v m.a m.h m.l m.f m.r m.c (.int _ _) (.sl0 _ _))) (VRs.nil _)) hr).mono ?_
    rintro e w' ⟨γ, u, rfl, q1, q2⟩
    rw [q2.eq_of_ground rfl]
    exact ⟨rfl, q1.below⟩
  · have hpk : p.kid = true := m.kid.trans hkid
    have hn : p.node = .agg [p.k, p.s, p.t, p.v, p.a, p.h, p.l, p.f, p.r, p.c, .int .i64 (-1), .slice (some ⟨0, 0, none⟩) 1 1].toArray := by unfold Pat.node kidsOf; rw [hpk]; rfl
    have hm : p.mem = oneH kidCells 24 := by unfold Pat.mem; rw [hpk]; rfl
    rw [hn, hm] at hr
    have up : ∀ {x y : Value}, VR [] x y → VR [⟨b, 0, kidArr.size, undef⟩] x y := fun h => VR.mono (γ := [⟨b, 0, kidArr.size, undef⟩]) h
    have hHR : HR w [⟨b, 0, kidArr.size, undef⟩] (oneH kidCells 24) w := oneH_HR hb (Nat.le_refl _) (by
      intro j x hx
      match j, hx with
      | 0, hx => cases hx; exact ⟨rfl, rfl⟩
      | 1, hx => cases hx; exact ⟨rfl, rfl⟩
      | 2, hx => cases hx; exact ⟨rfl, rfl⟩
      | 3, hx => cases hx; exact ⟨rfl, rfl⟩
      | 4, hx => cases hx; exact ⟨rfl, rfl⟩
      | 5, hx => cases hx; exact ⟨rfl, rfl⟩
      | 6, hx => cases hx; exact ⟨rfl, rfl⟩
      | 7, hx => cases hx; exact ⟨rfl, rfl⟩
      | 8, hx => cases hx; exact ⟨rfl, rfl⟩
      | 9, hx => cases hx; exact ⟨rfl, rfl⟩
      | 10, hx => cases hx; exact ⟨rfl, rfl⟩
      | 11, hx => cases hx; exact ⟨rfl, rfl⟩)
    refine (acall_sound noNum follows fnsZ (fun _ _ _ _ _ h => by cases h) (noprim_ok _ _) 30 w _ (oneH kidCells 24) w 7 _ _ _ H' hHR (fun _ _ h => by cases h) (VRs.cons (vr_agg (vr12 (up m.k) (up m.s) (up m.t) (up m.v) (up m.a) (up m.h) (up m.l) (up m.f) (up m.r) (up m.c) (.int _ _) (.sl 0 0 b 0 1 1 rfl))) (VRs.nil _)) hr).mono ?_
    rintro e w' ⟨γ, u, rfl, q1, q2⟩
    rw [q2.eq_of_ground rfl]
    exact ⟨rfl, q1.below⟩
theorem zzero (w : World) : Calls Try.prog 7 #[NodeV 0 0 ByteArray.empty ByteArray.empty ByteArray.empty ByteArray.empty ByteArray.empty ByteArray.empty 0 0 (-1) (.slice none 0 0)] w fun e w' => e = .returned (.bool true) ∧ Below w.heap.size w w' :=
  zcall g13 ⟨.int _ _, .int _ _, .string _, .string _, .string _, .string _, .string _, .string _, .int _ _, .int _ _, rfl⟩ w _ (.inl ⟨rfl, rfl⟩)
end Go.Proofs.Z1
