-- the statement of this claim: see YtoamgocecoiggaaDoorRw
import Derived.Orders
import Derived.Test.YtoamgocecoiggaaDoorM10
set_option linter.unusedVariables false
set_option linter.unusedSimpArgs false
namespace Go.SM
noncomputable section
def iopOf:Nat→Option IOp
 | 0=>some .add | 1=>some .sub | 2=>some .mul | 3=>some .and | 4=>some .or | 5=>some .xor | 6=>some .andNot | 7=>some .shl | 8=>some .shr | 9=>some .quo | 10=>some .rem | 11=>some .fdiv
 | _=>none
theorem iopOf_eq {n:Nat} {o:IOp} (h:iopOf n=some o):o.code=n:=by
 unfold iopOf at h
 split at h <;> first | (cases h; rfl) | (cases h; done)
mutual
def wfI:Nat→Nat→Value→Bool
 | 0,_,_=>false
 | k + 1,n,e =>
  match e with
  | .int .i64 _=>true
  | .map (some i)=>decide (i < n)
  | .func (.yield 10) ⟨[.int _ z,a]⟩ ⟨[]⟩=>decide (z=0) && wfI k n a
  | .func (.yield 11) ⟨[l]⟩ ⟨[]⟩=>wfL k n l
  | .func (.yield 12) ⟨[l,i]⟩ ⟨[]⟩=>wfL k n l && wfI k n i
  | .func (.yield 13) ⟨[c,a,b]⟩ ⟨[]⟩=>wfB k n c && (wfI k n a && wfI k n b)
  | .func (.yield 14) ⟨[l]⟩ ⟨[]⟩=>wfN k n l
  | .func (.yield 15) ⟨[l,i]⟩ ⟨[]⟩=>wfN k n l && wfI k n i
  | .func (.yield m) ⟨[a,b]⟩ ⟨[]⟩=>Nat.ble 100 m && ((iopOf (m - 100)).isSome && (wfI k n a && wfI k n b))
  | _=>false
def wfN:Nat→Nat→Value→Bool
 | 0,_,_=>false
 | k + 1,n,e =>
  match e with
  | .bool false=>true
  | .map (some i)=>decide (i < n)
  | .func (.yield 25) ⟨[v]⟩ ⟨[]⟩=>wfI k n v
  | .func (.yield 26) ⟨[l,m]⟩ ⟨[]⟩=>wfN k n l && wfN k n m
  | .func (.yield 27) ⟨[l,a,b]⟩ ⟨[]⟩=>wfN k n l && (wfI k n a && wfI k n b)
  | _=>false
def wfL:Nat→Nat→Value→Bool
 | 0,_,_=>false
 | k + 1,n,e =>
  match e with
  | .string _=>true
  | .map (some i)=>decide (i < n)
  | .func (.yield 20) ⟨[l,i,v]⟩ ⟨[]⟩=>wfL k n l && (wfI k n i && wfI k n v)
  | .func (.yield 21) ⟨[l,m]⟩ ⟨[]⟩=>wfL k n l && wfL k n m
  | .func (.yield 22) ⟨[v]⟩ ⟨[]⟩=>wfI k n v
  | .func (.yield 23) ⟨[l,a,b]⟩ ⟨[]⟩=>wfL k n l && (wfI k n a && wfI k n b)
  | .func (.yield 24) ⟨[l,a,b]⟩ ⟨[]⟩=>wfL k n l && (wfI k n a && wfL k n b)
  | _=>false
def wfB:Nat→Nat→Value→Bool
 | 0,_,_=>false
 | k + 1,n,e =>
  match e with
  | .bool _=>true
  | .map (some i)=>decide (i < n)
  | .func (.yield 31) ⟨[a,b]⟩ ⟨[]⟩=>wfI k n a && wfI k n b
  | .func (.yield 32) ⟨[a,b]⟩ ⟨[]⟩=>wfI k n a && wfI k n b
  | .func (.yield 33) ⟨[a,b]⟩ ⟨[]⟩=>wfI k n a && wfI k n b
  | .func (.yield 34) ⟨[a,b]⟩ ⟨[]⟩=>wfL k n a && wfL k n b
  | .func (.yield 35) ⟨[a]⟩ ⟨[]⟩=>wfB k n a
  | .func (.yield 36) ⟨[a,b]⟩ ⟨[]⟩=>wfB k n a && wfB k n b
  | .func (.yield 37) ⟨[a,b]⟩ ⟨[]⟩=>wfB k n a && wfB k n b
  | .func (.yield 38) ⟨[c,a,b]⟩ ⟨[]⟩=>wfB k n c && (wfB k n a && wfB k n b)
  | _=>false
end
theorem wf_soundN:∀ (k n:Nat) (e:Value),(wfI k n e=true→∃ t:TI,e=t.enc∧t.ok n=true)∧(wfL k n e=true→∃ t:TL,e=t.enc∧t.ok n=true)∧(wfB k n e=true→∃ t:TB,e=t.enc∧t.ok n=true)∧(wfN k n e=true→∃ t:TN,e=t.enc∧t.ok n=true):=by
 intro k
 induction k with
 | zero=>intro n e; exact ⟨fun h=>by simp [wfI] at h,fun h=>by simp [wfL] at h,fun h=>by simp [wfB] at h,fun h=>by simp [wfN] at h⟩
 | succ k ih =>
  intro n e
  have I:=fun e=>(ih n e).1
  have L:=fun e=>(ih n e).2.1
  have B:=fun e=>(ih n e).2.2.1
  have N:=fun e=>(ih n e).2.2.2
  refine ⟨fun h=>?_,fun h=>?_,fun h=>?_,fun h=>?_⟩
  ·unfold wfI at h
   split at h
   ·exact ⟨.lit _,rfl,rfl⟩
   ·exact ⟨.var _,rfl,h⟩
   ·simp only [Bool.and_eq_true,decide_eq_true_eq] at h
    obtain ⟨rfl,h⟩:=h
    obtain ⟨t,rfl,ht⟩:=I _ h
    exact ⟨.wrap _ t,rfl,by simpa [TI.ok] using ht⟩
   ·obtain ⟨t,rfl,ht⟩:=L _ h
    exact ⟨.len t,rfl,by simpa [TI.ok] using ht⟩
   ·rw [Bool.and_eq_true] at h
    obtain ⟨t,rfl,ht⟩:=L _ h.1
    obtain ⟨i,rfl,hi⟩:=I _ h.2
    exact ⟨.sel t i,rfl,by simp [TI.ok,ht,hi]⟩
   ·simp only [Bool.and_eq_true] at h
    obtain ⟨c,rfl,hc⟩:=B _ h.1
    obtain ⟨a,rfl,ha⟩:=I _ h.2.1
    obtain ⟨b,rfl,hb⟩:=I _ h.2.2
    exact ⟨.ite c a b,rfl,by simp [TI.ok,hc,ha,hb]⟩
   ·obtain ⟨t,rfl,ht⟩:=N _ h
    exact ⟨.lenN t,rfl,by simpa [TI.ok] using ht⟩
   ·rw [Bool.and_eq_true] at h
    obtain ⟨t,rfl,ht⟩:=N _ h.1
    obtain ⟨i,rfl,hi⟩:=I _ h.2
    exact ⟨.selN t i,rfl,by simp [TI.ok,ht,hi]⟩
   ·simp only [Bool.and_eq_true] at h
    obtain ⟨h1,h2,h3,h4⟩:=h
    obtain ⟨o,ho⟩:=Option.isSome_iff_exists.1 h2
    have hc:=iopOf_eq ho
    have h100:=Nat.le_of_ble_eq_true h1
    obtain ⟨a,rfl,ha⟩:=I _ h3
    obtain ⟨b,rfl,hb⟩:=I _ h4
    refine ⟨.op o a b,?_,by simp [TI.ok,ha,hb]⟩
    simp only [TI.enc,nd2,hc]
    rw [Nat.add_sub_cancel' h100]
   ·cases h
  ·unfold wfL at h
   split at h
   ·rename_i s; exact ⟨.lit s.data.toList,by simp [TL.enc],rfl⟩
   ·exact ⟨.var _,rfl,h⟩
   ·simp only [Bool.and_eq_true] at h
    obtain ⟨l,rfl,hl⟩:=L _ h.1
    obtain ⟨a,rfl,ha⟩:=I _ h.2.1
    obtain ⟨b,rfl,hb⟩:=I _ h.2.2
    exact ⟨.set l a b,rfl,by simp [TL.ok,hl,ha,hb]⟩
   ·simp only [Bool.and_eq_true] at h
    obtain ⟨l,rfl,hl⟩:=L _ h.1
    obtain ⟨a,rfl,ha⟩:=L _ h.2
    exact ⟨.app l a,rfl,by simp [TL.ok,hl,ha]⟩
   ·obtain ⟨l,rfl,hl⟩:=I _ h
    exact ⟨.one l,rfl,by simpa [TL.ok] using hl⟩
   ·simp only [Bool.and_eq_true] at h
    obtain ⟨l,rfl,hl⟩:=L _ h.1
    obtain ⟨a,rfl,ha⟩:=I _ h.2.1
    obtain ⟨b,rfl,hb⟩:=I _ h.2.2
    exact ⟨.sub l a b,rfl,by simp [TL.ok,hl,ha,hb]⟩
   ·simp only [Bool.and_eq_true] at h
    obtain ⟨l,rfl,hl⟩:=L _ h.1
    obtain ⟨a,rfl,ha⟩:=I _ h.2.1
    obtain ⟨b,rfl,hb⟩:=L _ h.2.2
    exact ⟨.put l a b,rfl,by simp [TL.ok,hl,ha,hb]⟩
   ·cases h
  ·unfold wfB at h
   split at h
   ·exact ⟨.lit _,rfl,rfl⟩
   ·exact ⟨.var _,rfl,h⟩
   ·rw [Bool.and_eq_true] at h
    obtain ⟨a,rfl,ha⟩:=I _ h.1
    obtain ⟨b,rfl,hb⟩:=I _ h.2
    exact ⟨.lt a b,rfl,by simp [TB.ok,ha,hb]⟩
   ·rw [Bool.and_eq_true] at h
    obtain ⟨a,rfl,ha⟩:=I _ h.1
    obtain ⟨b,rfl,hb⟩:=I _ h.2
    exact ⟨.le a b,rfl,by simp [TB.ok,ha,hb]⟩
   ·rw [Bool.and_eq_true] at h
    obtain ⟨a,rfl,ha⟩:=I _ h.1
    obtain ⟨b,rfl,hb⟩:=I _ h.2
    exact ⟨.eq a b,rfl,by simp [TB.ok,ha,hb]⟩
   ·rw [Bool.and_eq_true] at h
    obtain ⟨a,rfl,ha⟩:=L _ h.1
    obtain ⟨b,rfl,hb⟩:=L _ h.2
    exact ⟨.eqL a b,rfl,by simp [TB.ok,ha,hb]⟩
   ·obtain ⟨a,rfl,ha⟩:=B _ h
    exact ⟨.not a,rfl,by simpa [TB.ok] using ha⟩
   ·rw [Bool.and_eq_true] at h
    obtain ⟨a,rfl,ha⟩:=B _ h.1
    obtain ⟨b,rfl,hb⟩:=B _ h.2
    exact ⟨.and a b,rfl,by simp [TB.ok,ha,hb]⟩
   ·rw [Bool.and_eq_true] at h
    obtain ⟨a,rfl,ha⟩:=B _ h.1
    obtain ⟨b,rfl,hb⟩:=B _ h.2
    exact ⟨.or a b,rfl,by simp [TB.ok,ha,hb]⟩
   ·simp only [Bool.and_eq_true] at h
    obtain ⟨c,rfl,hc⟩:=B _ h.1
    obtain ⟨a,rfl,ha⟩:=B _ h.2.1
    obtain ⟨b,rfl,hb⟩:=B _ h.2.2
    exact ⟨.ite c a b,rfl,by simp [TB.ok,hc,ha,hb]⟩
   ·cases h
  ·unfold wfN at h
   split at h
   ·exact ⟨.nil,rfl,rfl⟩
   ·exact ⟨.var _,rfl,h⟩
   ·obtain ⟨l,rfl,hl⟩:=I _ h
    exact ⟨.one l,rfl,by simpa [TN.ok] using hl⟩
   ·simp only [Bool.and_eq_true] at h
    obtain ⟨l,rfl,hl⟩:=N _ h.1
    obtain ⟨a,rfl,ha⟩:=N _ h.2
    exact ⟨.app l a,rfl,by simp [TN.ok,hl,ha]⟩
   ·simp only [Bool.and_eq_true] at h
    obtain ⟨l,rfl,hl⟩:=N _ h.1
    obtain ⟨a,rfl,ha⟩:=I _ h.2.1
    obtain ⟨b,rfl,hb⟩:=I _ h.2.2
    exact ⟨.sub l a b,rfl,by simp [TN.ok,hl,ha,hb]⟩
   ·cases h
theorem wf_sound (k n:Nat) (e:Value):(wfI k n e=true→∃ t:TI,e=t.enc∧t.ok n=true)∧(wfL k n e=true→∃ t:TL,e=t.enc∧t.ok n=true)∧(wfB k n e=true→∃ t:TB,e=t.enc∧t.ok n=true) :=
 ⟨(wf_soundN k n e).1,(wf_soundN k n e).2.1,(wf_soundN k n e).2.2.1⟩
end
end Go.SM
