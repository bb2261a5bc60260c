-- the statement of this claim: see YtoamgocecoiggaaDoorRs
import Derived.WalkKit
import Derived.Below
import Derived.IntWalk
import Derived.KernelRfl
set_option linter.unusedVariables false
set_option linter.unusedSimpArgs false
set_option maxRecDepth 100000
noncomputable section
namespace Go.SM
abbrev yD:List Int->List (List UInt8)->Prop:=fun _ _=>True
structure Hm where
 b:Nat
 s:Nat
 top:Nat
 v:Value:=undef
 pr:List Int->List (List UInt8)->Prop:=yD
abbrev Ren:=List Hm
def kR:Value->Int
 | .int _ n=>n
 |_=>0
def auN:Value->Bool
 | .bool b=>b
 |_=>false
def pG:Value->List UInt8
 | .string s=>s.data.toList
 |_=>[]
def as3:Value->List Int
 | .tuple a=>a.toList.map kR
 |_=>[]
inductive IOp where
 |add|sub|mul|and|or|xor|andNot|shl|shr|quo|rem|fdiv
 deriving DecidableEq
def IOp.fn:IOp->Int->Int->Int
 | .add,a,b=>a+b
 | .sub,a,b=>a-b
 | .mul,a,b=>a*b
 | .and,a,b=>(Nat.land a.toNat b.toNat:Nat)
 | .or,a,b=>(Nat.lor a.toNat b.toNat:Nat)
 | .xor,a,b=>(Nat.xor a.toNat b.toNat:Nat)
 | .andNot,a,b=>a-(Nat.land a.toNat b.toNat:Nat)
 | .shl,a,b=>a*2 ^ b.toNat
 | .shr,a,b=>a.fdiv (2 ^ b.toNat)
 | .quo,a,b=>a.tdiv b
 | .rem,a,b=>a.tmod b
 | .fdiv,a,b=>a.fdiv b
mutual
inductive TI where
 |lit (n:Int)
 |var (i:Nat)
 |op (o:IOp) (a b:TI)
 |wrap (k:IntKind) (a:TI)
 |len (l:TL)
 |sel (l:TL) (i:TI)
 |ite (c:TB) (a b:TI)
 |lenN (l:TN)
 |selN (l:TN) (i:TI)
inductive TN where
 |var (i:Nat)
 |nil
 |one (v:TI)
 |app (l m:TN)
 |sub (l:TN) (a b:TI)
inductive TL where
 |lit (l:List UInt8)
 |var (i:Nat)
 |set (l:TL) (i v:TI)
 |app (l m:TL)
 |one (v:TI)
 |sub (l:TL) (a b:TI)
 |put (l:TL) (i:TI) (m:TL)
inductive TB where
 |lit (b:Bool)
 |var (i:Nat)
 |lt (a b:TI)
 |le (a b:TI)
 |eq (a b:TI)
 |eqL (a b:TL)
 |not (a:TB)
 |and (a b:TB)
 |or (a b:TB)
 |ite (c a b:TB)
 |pred (i:Nat) (x y z:TI) (l m:TL)
end
def putAt(l:List UInt8)(i:Nat)(m:List UInt8):List UInt8:=l.take i++m++l.drop (i+m.length)
open Classical in
def ahE(h:Option Hm)(a:List Int)(b:List (List UInt8)):Bool:=match h with
 |some h=>decide (h.pr a b)
 |none=>false
mutual
def TI.den(V:Ren):TI->Int
 | .lit n=>n
 | .var i=>match V[i]? with
  |some h=>kR h.v
  |none=>0
 | .op o a b=>o.fn (a.den V) (b.den V)
 | .wrap k a=>k.wrap (a.den V)
 | .len l=>((l.den V).length:Int)
 | .sel l i=>(((l.den V).getD (i.den V).toNat 0).toNat:Int)
 | .ite c a b=>if c.den V then a.den V else b.den V
 | .lenN l=>((l.den V).length:Int)
 | .selN l i=>(l.den V).getD (i.den V).toNat 0
def TN.den(V:Ren):TN->List Int
 | .var i=>match V[i]? with
  |some h=>as3 h.v
  |none=>[]
 | .nil=>[]
 | .one v=>[v.den V]
 | .app l m=>l.den V++m.den V
 | .sub l a b=>((l.den V).take (b.den V).toNat).drop (a.den V).toNat
def TL.den(V:Ren):TL->List UInt8
 | .lit l=>l
 | .var i=>match V[i]? with
  |some h=>pG h.v
  |none=>[]
 | .set l i v=>(l.den V).set (i.den V).toNat (UInt8.ofNat (v.den V).toNat)
 | .app l m=>l.den V++m.den V
 | .one v=>[UInt8.ofNat (v.den V).toNat]
 | .sub l a b=>((l.den V).take (b.den V).toNat).drop (a.den V).toNat
 | .put l i m=>putAt (l.den V) (i.den V).toNat (m.den V)
def TB.den(V:Ren):TB->Bool
 | .lit b=>b
 | .var i=>match V[i]? with
  |some h=>auN h.v
  |none=>false
 | .lt a b=>decide (a.den V<b.den V)
 | .le a b=>decide (a.den V<=b.den V)
 | .eq a b=>decide (a.den V=b.den V)
 | .eqL a b=>decide (a.den V=b.den V)
 | .not a=>!(a.den V)
 | .and a b=>a.den V&&b.den V
 | .or a b=>a.den V || b.den V
 | .ite c a b=>if c.den V then a.den V else b.den V
 | .pred i x y z l m=>ahE V[i]? [x.den V,y.den V,z.den V] [l.den V,m.den V]
end
mutual
def TI.ok(n:Nat):TI->Bool
 | .lit _=>true
 | .var i=>decide (i<n)
 | .op _ a b=>a.ok n&&b.ok n
 | .wrap _ a=>a.ok n
 | .len l=>l.ok n
 | .sel l i=>l.ok n&&i.ok n
 | .ite c a b=>c.ok n&&a.ok n&&b.ok n
 | .lenN l=>l.ok n
 | .selN l i=>l.ok n&&i.ok n
def TN.ok(n:Nat):TN->Bool
 | .var i=>decide (i<n)
 | .nil=>true
 | .one v=>v.ok n
 | .app l m=>l.ok n&&m.ok n
 | .sub l a b=>l.ok n&&a.ok n&&b.ok n
def TL.ok(n:Nat):TL->Bool
 | .lit _=>true
 | .var i=>decide (i<n)
 | .set l i v=>l.ok n&&i.ok n&&v.ok n
 | .app l m=>l.ok n&&m.ok n
 | .one v=>v.ok n
 | .sub l a b=>l.ok n&&a.ok n&&b.ok n
 | .put l i m=>l.ok n&&i.ok n&&m.ok n
def TB.ok(n:Nat):TB->Bool
 | .lit _=>true
 | .var i=>decide (i<n)
 | .lt a b=>a.ok n&&b.ok n
 | .le a b=>a.ok n&&b.ok n
 | .eq a b=>a.ok n&&b.ok n
 | .eqL a b=>a.ok n&&b.ok n
 | .not a=>a.ok n
 | .and a b=>a.ok n&&b.ok n
 | .or a b=>a.ok n&&b.ok n
 | .ite c a b=>c.ok n&&a.ok n&&b.ok n
 | .pred i x y z l m=>decide (i<n)&&x.ok n&&y.ok n&&z.ok n&&l.ok n&&m.ok n
end
theorem get_append{V γ:Ren}{B:Nat}{h:Hm}(hp:V[B]?=some h):(V++γ)[B]?=some h:=by
 rw[List.getElem?_append_left (by
  rcases Nat.lt_or_ge B V.length with hl|hl
  .exact hl
  .rw[List.getElem?_eq_none hl]at hp;cases hp)]
 exact hp
theorem tY{V:Ren}(γ:Ren){i:Nat}(h:i<V.length):(V++γ)[i]?=V[i]?:=List.getElem?_append_left h
mutual
theorem TI.den_app(V γ:Ren):∀(t:TI),t.ok V.length=true->t.den (V++γ)=t.den V
 | .lit n,_=>rfl
 | .var i,h=>by simp only[TI.ok,decide_eq_true_eq]at h;simp only[TI.den,tY γ h]
 | .op o a b,h=>by simp only[TI.ok,Bool.and_eq_true]at h;simp only[TI.den,TI.den_app V γ a h.1,TI.den_app V γ b h.2]
 | .wrap k a,h=>by simp only[TI.ok]at h;simp only[TI.den,TI.den_app V γ a h]
 | .len l,h=>by simp only[TI.ok]at h;simp only[TI.den,TL.den_app V γ l h]
 | .sel l i,h=>by simp only[TI.ok,Bool.and_eq_true]at h;simp only[TI.den,TL.den_app V γ l h.1,TI.den_app V γ i h.2]
 | .ite c a b,h=>by simp only[TI.ok,Bool.and_eq_true]at h;simp only[TI.den,TB.den_app V γ c h.1.1,TI.den_app V γ a h.1.2,TI.den_app V γ b h.2]
 | .lenN l,h=>by simp only[TI.ok]at h;simp only[TI.den,TN.den_app V γ l h]
 | .selN l i,h=>by simp only[TI.ok,Bool.and_eq_true]at h;simp only[TI.den,TN.den_app V γ l h.1,TI.den_app V γ i h.2]
theorem TN.den_app(V γ:Ren):∀(t:TN),t.ok V.length=true->t.den (V++γ)=t.den V
 | .var i,h=>by simp only[TN.ok,decide_eq_true_eq]at h;simp only[TN.den,tY γ h]
 | .nil,_=>rfl
 | .one v,h=>by simp only[TN.ok]at h;simp only[TN.den,TI.den_app V γ v h]
 | .app l m,h=>by simp only[TN.ok,Bool.and_eq_true]at h;simp only[TN.den,TN.den_app V γ l h.1,TN.den_app V γ m h.2]
 | .sub l a b,h=>by simp only[TN.ok,Bool.and_eq_true]at h;simp only[TN.den,TN.den_app V γ l h.1.1,TI.den_app V γ a h.1.2,TI.den_app V γ b h.2]
theorem TL.den_app(V γ:Ren):∀(t:TL),t.ok V.length=true->t.den (V++γ)=t.den V
 | .lit n,_=>rfl
 | .var i,h=>by simp only[TL.ok,decide_eq_true_eq]at h;simp only[TL.den,tY γ h]
 | .set l i v,h=>by simp only[TL.ok,Bool.and_eq_true]at h;simp only[TL.den,TL.den_app V γ l h.1.1,TI.den_app V γ i h.1.2,TI.den_app V γ v h.2]
 | .app l m,h=>by simp only[TL.ok,Bool.and_eq_true]at h;simp only[TL.den,TL.den_app V γ l h.1,TL.den_app V γ m h.2]
 | .one v,h=>by simp only[TL.ok]at h;simp only[TL.den,TI.den_app V γ v h]
 | .sub l a b,h=>by simp only[TL.ok,Bool.and_eq_true]at h;simp only[TL.den,TL.den_app V γ l h.1.1,TI.den_app V γ a h.1.2,TI.den_app V γ b h.2]
 | .put l i m,h=>by simp only[TL.ok,Bool.and_eq_true]at h;simp only[TL.den,TL.den_app V γ l h.1.1,TI.den_app V γ i h.1.2,TL.den_app V γ m h.2]
theorem TB.den_app(V γ:Ren):∀(t:TB),t.ok V.length=true->t.den (V++γ)=t.den V
 | .lit n,_=>rfl
 | .var i,h=>by simp only[TB.ok,decide_eq_true_eq]at h;simp only[TB.den,tY γ h]
 | .lt a b,h=>by simp only[TB.ok,Bool.and_eq_true]at h;simp only[TB.den,TI.den_app V γ a h.1,TI.den_app V γ b h.2]
 | .le a b,h=>by simp only[TB.ok,Bool.and_eq_true]at h;simp only[TB.den,TI.den_app V γ a h.1,TI.den_app V γ b h.2]
 | .eq a b,h=>by simp only[TB.ok,Bool.and_eq_true]at h;simp only[TB.den,TI.den_app V γ a h.1,TI.den_app V γ b h.2]
 | .eqL a b,h=>by simp only[TB.ok,Bool.and_eq_true]at h;simp only[TB.den,TL.den_app V γ a h.1,TL.den_app V γ b h.2]
 | .not a,h=>by simp only[TB.ok]at h;simp only[TB.den,TB.den_app V γ a h]
 | .and a b,h=>by simp only[TB.ok,Bool.and_eq_true]at h;simp only[TB.den,TB.den_app V γ a h.1,TB.den_app V γ b h.2]
 | .or a b,h=>by simp only[TB.ok,Bool.and_eq_true]at h;simp only[TB.den,TB.den_app V γ a h.1,TB.den_app V γ b h.2]
 | .ite c a b,h=>by simp only[TB.ok,Bool.and_eq_true]at h;simp only[TB.den,TB.den_app V γ c h.1.1,TB.den_app V γ a h.1.2,TB.den_app V γ b h.2]
 | .pred i x y z l m,h=>by
  simp only[TB.ok,Bool.and_eq_true,decide_eq_true_eq]at h;obtain⟨⟨⟨⟨⟨h1,h2⟩,h3⟩,h4⟩,h5⟩,h6⟩:=h;simp only[TB.den,tY γ h1,TI.den_app V γ x h2,TI.den_app V γ y h3,TI.den_app V γ z h4,TL.den_app V γ l h5,TL.den_app V γ m h6]
end
mutual
theorem TI.ok_app(n m:Nat)(hnm:n<=m):∀(t:TI),t.ok n=true->t.ok m=true
 | .lit _,_=>rfl
 | .var i,h=>by simp only[TI.ok,decide_eq_true_eq]at h ⊢;omega
 | .op o a b,h=>by simp only[TI.ok,Bool.and_eq_true]at h ⊢;exact⟨TI.ok_app n m hnm a h.1,TI.ok_app n m hnm b h.2⟩
 | .wrap k a,h=>by simp only[TI.ok]at h ⊢;exact TI.ok_app n m hnm a h
 | .len l,h=>by simp only[TI.ok]at h ⊢;exact TL.ok_app n m hnm l h
 | .sel l i,h=>by simp only[TI.ok,Bool.and_eq_true]at h ⊢;exact⟨TL.ok_app n m hnm l h.1,TI.ok_app n m hnm i h.2⟩
 | .ite c a b,h=>by simp only[TI.ok,Bool.and_eq_true]at h ⊢;exact⟨⟨TB.ok_app n m hnm c h.1.1,TI.ok_app n m hnm a h.1.2⟩,TI.ok_app n m hnm b h.2⟩
 | .lenN l,h=>by simp only[TI.ok]at h ⊢;exact TN.ok_app n m hnm l h
 | .selN l i,h=>by simp only[TI.ok,Bool.and_eq_true]at h ⊢;exact⟨TN.ok_app n m hnm l h.1,TI.ok_app n m hnm i h.2⟩
theorem TN.ok_app(n m:Nat)(hnm:n<=m):∀(t:TN),t.ok n=true->t.ok m=true
 | .var i,h=>by simp only[TN.ok,decide_eq_true_eq]at h ⊢;omega
 | .nil,_=>rfl
 | .one v,h=>by simp only[TN.ok]at h ⊢;exact TI.ok_app n m hnm v h
 | .app a b,h=>by simp only[TN.ok,Bool.and_eq_true]at h ⊢;exact⟨TN.ok_app n m hnm a h.1,TN.ok_app n m hnm b h.2⟩
 | .sub l a b,h=>by simp only[TN.ok,Bool.and_eq_true]at h ⊢;exact⟨⟨TN.ok_app n m hnm l h.1.1,TI.ok_app n m hnm a h.1.2⟩,TI.ok_app n m hnm b h.2⟩
theorem TL.ok_app(n m:Nat)(hnm:n<=m):∀(t:TL),t.ok n=true->t.ok m=true
 | .lit _,_=>rfl
 | .var i,h=>by simp only[TL.ok,decide_eq_true_eq]at h ⊢;omega
 | .set l i v,h=>by simp only[TL.ok,Bool.and_eq_true]at h ⊢;exact⟨⟨TL.ok_app n m hnm l h.1.1,TI.ok_app n m hnm i h.1.2⟩,TI.ok_app n m hnm v h.2⟩
 | .app a b,h=>by simp only[TL.ok,Bool.and_eq_true]at h ⊢;exact⟨TL.ok_app n m hnm a h.1,TL.ok_app n m hnm b h.2⟩
 | .one v,h=>by simp only[TL.ok]at h ⊢;exact TI.ok_app n m hnm v h
 | .sub l a b,h=>by simp only[TL.ok,Bool.and_eq_true]at h ⊢;exact⟨⟨TL.ok_app n m hnm l h.1.1,TI.ok_app n m hnm a h.1.2⟩,TI.ok_app n m hnm b h.2⟩
 | .put l i q,h=>by simp only[TL.ok,Bool.and_eq_true]at h ⊢;exact⟨⟨TL.ok_app n m hnm l h.1.1,TI.ok_app n m hnm i h.1.2⟩,TL.ok_app n m hnm q h.2⟩
theorem TB.ok_app(n m:Nat)(hnm:n<=m):∀(t:TB),t.ok n=true->t.ok m=true
 | .lit _,_=>rfl
 | .var i,h=>by simp only[TB.ok,decide_eq_true_eq]at h ⊢;omega
 | .lt a b,h=>by simp only[TB.ok,Bool.and_eq_true]at h ⊢;exact⟨TI.ok_app n m hnm a h.1,TI.ok_app n m hnm b h.2⟩
 | .le a b,h=>by simp only[TB.ok,Bool.and_eq_true]at h ⊢;exact⟨TI.ok_app n m hnm a h.1,TI.ok_app n m hnm b h.2⟩
 | .eq a b,h=>by simp only[TB.ok,Bool.and_eq_true]at h ⊢;exact⟨TI.ok_app n m hnm a h.1,TI.ok_app n m hnm b h.2⟩
 | .eqL a b,h=>by simp only[TB.ok,Bool.and_eq_true]at h ⊢;exact⟨TL.ok_app n m hnm a h.1,TL.ok_app n m hnm b h.2⟩
 | .not a,h=>by simp only[TB.ok]at h ⊢;exact TB.ok_app n m hnm a h
 | .and a b,h=>by simp only[TB.ok,Bool.and_eq_true]at h ⊢;exact⟨TB.ok_app n m hnm a h.1,TB.ok_app n m hnm b h.2⟩
 | .or a b,h=>by simp only[TB.ok,Bool.and_eq_true]at h ⊢;exact⟨TB.ok_app n m hnm a h.1,TB.ok_app n m hnm b h.2⟩
 | .ite c a b,h=>by simp only[TB.ok,Bool.and_eq_true]at h ⊢;exact⟨⟨TB.ok_app n m hnm c h.1.1,TB.ok_app n m hnm a h.1.2⟩,TB.ok_app n m hnm b h.2⟩
 | .pred i x y z l q,h=>by
  simp only[TB.ok,Bool.and_eq_true,decide_eq_true_eq]at h ⊢;obtain⟨⟨⟨⟨⟨h1,h2⟩,h3⟩,h4⟩,h5⟩,h6⟩:=h;exact⟨⟨⟨⟨⟨by omega,TI.ok_app n m hnm x h2⟩,TI.ok_app n m hnm y h3⟩,TI.ok_app n m hnm z h4⟩,TL.ok_app n m hnm l h5⟩,TL.ok_app n m hnm q h6⟩
end
def IOp.code:IOp->Nat
 | .add=>0 | .sub=>1 | .mul=>2 | .and=>3 | .or=>4 | .xor=>5 | .andNot=>6 | .shl=>7 | .shr=>8 | .quo=>9 | .rem=>10 | .fdiv=>11
def nd1(n:Nat)(a:Value):Value:=.func (.yield n) #[a] #[]
def nd2(n:Nat)(a b:Value):Value:=.func (.yield n) #[a,b] #[]
def nd3(n:Nat)(a b c:Value):Value:=.func (.yield n) #[a,b,c] #[]
mutual
def TI.enc:TI->Value
 | .lit n=>.int .i64 n
 | .var i=>.map (some i)
 | .op o a b=>nd2 (100+o.code) a.enc b.enc
 | .wrap k a=>nd2 10 (.int k 0) a.enc
 | .len l=>nd1 11 l.enc
 | .sel l i=>nd2 12 l.enc i.enc
 | .ite c a b=>nd3 13 c.enc a.enc b.enc
 | .lenN l=>nd1 14 l.enc
 | .selN l i=>nd2 15 l.enc i.enc
def TN.enc:TN->Value
 | .var i=>.map (some i)
 | .nil=>.bool false
 | .one v=>nd1 25 v.enc
 | .app l m=>nd2 26 l.enc m.enc
 | .sub l a b=>nd3 27 l.enc a.enc b.enc
def TL.enc:TL->Value
 | .lit l=>.string ⟨l.toArray⟩
 | .var i=>.map (some i)
 | .set l i v=>nd3 20 l.enc i.enc v.enc
 | .app l m=>nd2 21 l.enc m.enc
 | .one v=>nd1 22 v.enc
 | .sub l a b=>nd3 23 l.enc a.enc b.enc
 | .put l i m=>nd3 24 l.enc i.enc m.enc
def TB.enc:TB->Value
 | .lit b=>.bool b
 | .var i=>.map (some i)
 | .lt a b=>nd2 31 a.enc b.enc
 | .le a b=>nd2 32 a.enc b.enc
 | .eq a b=>nd2 33 a.enc b.enc
 | .eqL a b=>nd2 34 a.enc b.enc
 | .not a=>nd1 35 a.enc
 | .and a b=>nd2 36 a.enc b.enc
 | .or a b=>nd2 37 a.enc b.enc
 | .ite c a b=>nd3 38 c.enc a.enc b.enc
 | .pred i x y z l m=>nd3 39 (.int .i64 i) (nd3 40 x.enc y.enc z.enc) (nd2 41 l.enc m.enc)
end
abbrev sI(k:IntKind)(e:Value)(lo hi:Int):Value:=.func (.yield 0) #[.int k 0,e,.int .i64 lo,.int .i64 hi] #[]
abbrev sB(e:Value):Value:=.func (.yield 1) #[e] #[]
abbrev sS(e:Value)(hi:Int):Value:=.func (.yield 2) #[e,.int .i64 hi] #[]
abbrev sP(B:Nat)(e:Value):Value:=.func (.yield 3) #[.int .i64 B,e] #[]
abbrev sL(B:Nat)(o n c:Value):Value:=.func (.yield 4) #[.int .i64 B,o,n,c] #[]
def noY:Fn->Bool
 | .yield _=>false
 |_=>true
end Go.SM
