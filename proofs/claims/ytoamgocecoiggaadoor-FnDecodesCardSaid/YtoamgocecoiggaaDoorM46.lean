-- the statement of this claim: see YtoamgocecoiggaaDoorRw
import Derived.Test.YtoamgocecoiggaaDoorM45
set_option linter.unusedVariables false
set_option linter.unusedSimpArgs false
open Go Go.SM Go.Proofs
namespace U
set_option maxRecDepth 100000
def sp9C:CSpec:={ j:=9,n:=2,tin:=tDe,outs:=[(.tuple #[.slice none 0 0,fv (Z 0)],tYsN,[]),(.tuple #[.tuple #[],fv (Z 1)],tYe,[]),(.tuple #[sOut,fv (Z 0)],tYs,[])] }
theorem law9C {G:Goal} (hCL:∀ β,G.CL 9 β→PT β) (h0:∀ β β1,G.CL 9 β→Ln β1→FSu (T0 β) []→G.CO 9 0 β β1) (h1:∀ β β1,G.CL 9 β→Ln β1→FE (T0 β)→G.CO 9 1 β β1) (h2:∀ β β1,G.CL 9 β→Ln β1→J9 (T0 β) β1→G.CO 9 2 β β1):CLaw Tryd.prog G 9 sp9C:=by
 intro w0 β args w hH hF hcl
 have p:=hCL β hcl
 by_cases hf:FSu (T0 β) []
 ·refine ((law9A (G:={ G with CL:=fun _ b=>b=β,CO:=fun _ _ _ b1=>Ln b1 }) (fun b h=>by subst h; exact ⟨p,hf⟩) (fun b b1 _ h=>h)) w0 β args w hH hF rfl).mono ?_
  rintro e w' ⟨i,v,tp,sm,β2,u,g1,g2,g3,g4,g5,g6⟩
  match i,g1 with
  | 0,g1 =>
   cases g1
   exact ⟨0,_,_,_,β2,u,rfl,g2,g3,g4,h0 β β2 hcl g5 hf,fun x hx=>by cases hx⟩
 ·refine ((law9B (G:={ G with CL:=fun _ b=>b=β,CO:=fun _ i _ b1=>Ln b1∧match i with | 0=>FE (T0 β) | _=>J9 (T0 β) b1 }) (fun b h=>by subst h; exact ⟨p,hf⟩) (fun b b1 hb a c=>by subst hb; exact ⟨a,c⟩) (fun b b1 hb a c=>by subst hb; exact ⟨a,c⟩)) w0 β args w hH hF rfl).mono ?_
  rintro e w' ⟨i,v,tp,sm,β2,u,g1,g2,g3,g4,g5,g6⟩
  match i,g1,g5 with
  | 0,g1,g5 =>
   cases g1
   exact ⟨1,_,_,_,β2,u,rfl,g2,g3,g4,h1 β β2 hcl g5.1 g5.2,fun x hx=>by cases hx⟩
  | 1,g1,g5 =>
   cases g1
   exact ⟨2,_,_,_,β2,u,rfl,g2,g3,g4,h2 β β2 hcl g5.1 g5.2,fun x hx=>by cases hx⟩
noncomputable def tref3C:Tre:=tref3 sp9C
def MkW (T:List UInt8) (e w:Int):Prop:=0≤w∧w≤T.length∧Mk 0 T e (T.drop w.toNat)
theorem mk_of {T:List UInt8} {n:Nat} {b:List UInt8} {e:Int} (hb:T.take n=b) (hl:b.length=n) (h:(b=[255,254]∧e=2)∨(b=[254,255]∧e=3)∨(b=[239,187,191]∧e=1)):MkW T e n:=by
 have hlen:n≤T.length:=by rw [← hb,List.length_take] at hl; omega
 refine ⟨by omega,by omega,.inr ⟨rfl,b,?_,?_⟩⟩
 ·rw [← hb]; exact (List.take_append_drop n T).symm
 ·rcases h with h | h | h
  ·exact .inl h
  ·exact .inr (.inl h)
  ·exact .inr (.inr (.inl h))
theorem pre_getD {T p:List UInt8} (h:p <+: T):p.length≤T.length∧∀ k,k < p.length→T.getD k 0=p.getD k 0:=by
 obtain ⟨r,rfl⟩:=h
 refine ⟨by simp,fun k hk=>?_⟩
 rw [List.getD_eq_getElem?_getD,List.getD_eq_getElem?_getD,List.getElem?_append_left hk]
theorem mk_none {T:List UInt8} (h1:¬ (2≤T.length∧T.getD 0 0=255∧T.getD 1 0=254)) (h2:¬ (2≤T.length∧T.getD 0 0=254∧T.getD 1 0=255)) (h3:¬ (3≤T.length∧T.getD 0 0=239∧T.getD 1 0=187∧T.getD 2 0=191)):MkW T 1 0:=by
 refine ⟨by omega,by omega,.inr ⟨rfl,[],rfl,.inr (.inr (.inr ⟨rfl,rfl,fun h=>h1 ?_,fun h=>h2 ?_,fun h=>h3 ?_⟩))⟩⟩
 ·obtain ⟨a,b⟩:=pre_getD h; exact ⟨a,b 0 (by decide),b 1 (by decide)⟩
 ·obtain ⟨a,b⟩:=pre_getD h; exact ⟨a,b 0 (by decide),b 1 (by decide)⟩
 ·obtain ⟨a,b⟩:=pre_getD h; exact ⟨a,b 0 (by decide),b 1 (by decide),b 2 (by decide)⟩
theorem take2 {T:List UInt8} {a b:UInt8} (h:2≤T.length) (h0:T.getD 0 0=a) (h1:T.getD 1 0=b):T.take 2=[a,b]:=by
 match T,h with
 | x::y::r,_=>simp at h0 h1; subst h0; subst h1; rfl
theorem take3 {T:List UInt8} {a b c:UInt8} (h:3≤T.length) (h0:T.getD 0 0=a) (h1:T.getD 1 0=b) (h2:T.getD 2 0=c):T.take 3=[a,b,c]:=by
 match T,h with
 | x::y::z::r,_=>simp at h0 h1 h2; subst h0; subst h1; subst h2; rfl
theorem T0_getD {β:Ren} (p:PT β) {k:Nat} (h:(k:Int) < gI β 18):(T0 β).getD k 0=(gL β 17).getD k 0:=by
 have:=p.i18; have:=p.l17
 unfold T0
 simp only [List.getD_eq_getElem?_getD]
 rw [List.getElem?_take,if_pos (by omega)]
theorem u8_of {b:UInt8} {n:Nat} (h:((b.toNat:Nat):Int)=n) (hn:n < 256):b=UInt8.ofNat n:=by
 apply UInt8.toNat_inj.1
 rw [UInt8.toNat_ofNat',Nat.mod_eq_of_lt hn]; omega
def Prs (v:Int):Prop:=Prn v∧v≠65279
noncomputable abbrev tb (β:Ren) (k:Int):Int:=(((gL β 17).getD (Int.toNat k) 0).toNat:Int)
theorem tb_eq {β:Ren} (p:PT β) {k n:Nat} (hk:(k:Int) < gI β 18) (hn:n < 256) (h:tb β k=n):(T0 β).getD k 0=UInt8.ofNat n:=by
 rw [T0_getD p hk]; exact u8_of h hn
theorem tb_ne {β:Ren} (p:PT β) {k n:Nat} (hk:(k:Int) < gI β 18) (hn:n < 256) (h:(T0 β).getD k 0=UInt8.ofNat n):tb β k=n:=by
 rw [T0_getD p hk] at h
 show ((((gL β 17).getD k 0).toNat:Nat):Int)=n
 rw [h,UInt8.toNat_ofNat',Nat.mod_eq_of_lt hn]
theorem mk5a {β:Ren} (p:PT β) (h:¬ gI β 18 < 2) (h0:tb β 0=255) (h1:tb β 1=254):MkW (T0 β) 2 2:=by
 have hl:=T0_len p
 exact mk_of (n:=2) (take2 (by omega) (tb_eq p (k:=0) (n:=255) (by omega) (by decide) h0) (tb_eq p (k:=1) (n:=254) (by omega) (by decide) h1)) rfl (.inl ⟨rfl,rfl⟩)
theorem mk5b {β:Ren} (p:PT β) (h:¬ gI β 18 < 2) (h0:tb β 0=254) (h1:tb β 1=255):MkW (T0 β) 3 2:=by
 have hl:=T0_len p
 exact mk_of (n:=2) (take2 (by omega) (tb_eq p (k:=0) (n:=254) (by omega) (by decide) h0) (tb_eq p (k:=1) (n:=255) (by omega) (by decide) h1)) rfl (.inr (.inl ⟨rfl,rfl⟩))
theorem mk5c {β:Ren} (p:PT β) (h:¬ gI β 18 < 3) (h0:tb β 0=239) (h1:tb β 1=187) (h2:tb β 2=191):MkW (T0 β) 1 3:=by
 have hl:=T0_len p
 exact mk_of (n:=3) (take3 (by omega) (tb_eq p (k:=0) (n:=239) (by omega) (by decide) h0) (tb_eq p (k:=1) (n:=187) (by omega) (by decide) h1) (tb_eq p (k:=2) (n:=191) (by omega) (by decide) h2)) rfl (.inr (.inr ⟨rfl,rfl⟩))
theorem mk5d {β:Ren} (p:PT β) (h1:¬ ((¬ gI β 18 < 2∧tb β 0=255)∧tb β 1=254)) (h2:¬ ((¬ gI β 18 < 2∧tb β 0=254)∧tb β 1=255)) (h3:¬ (((¬ gI β 18 < 3∧tb β 0=239)∧tb β 1=187)∧tb β 2=191)):MkW (T0 β) 1 0:=by
 have hl:=T0_len p
 refine mk_none ?_ ?_ ?_
 ·rintro ⟨a,b,c⟩; exact h1 ⟨⟨by omega,tb_ne p (k:=0) (n:=255) (by omega) (by decide) b⟩,tb_ne p (k:=1) (n:=254) (by omega) (by decide) c⟩
 ·rintro ⟨a,b,c⟩; exact h2 ⟨⟨by omega,tb_ne p (k:=0) (n:=254) (by omega) (by decide) b⟩,tb_ne p (k:=1) (n:=255) (by omega) (by decide) c⟩
 ·rintro ⟨a,b,c,d⟩; exact h3 ⟨⟨⟨by omega,tb_ne p (k:=0) (n:=239) (by omega) (by decide) b⟩,tb_ne p (k:=1) (n:=187) (by omega) (by decide) c⟩,tb_ne p (k:=2) (n:=191) (by omega) (by decide) d⟩
def SmT (β γ:Ren):Prop:=γ[73]?=β[73]?∧γ[16]?=β[16]?∧gL γ 17=gL β 17∧gI γ 18=gI β 18∧gI γ 72=gI β 72
def GF5 (β:Ren):Goal where
 J:=fun _ γ=>Ln γ∧SmT β γ∧MkW (T0 β) (gI γ 87) (gI γ 88)
 L:=fun _ _=>False
 O:=fun _ _ _ _=>False
 W:=fun _ _=>False
def GL3 (β:Ren):Goal where
 J:=fun j γ=>match j with
  | 0=>SmT β γ∧SmE β γ∧gI γ 32=gI β 32∧gI β 23 < gI β 31∧vE β≠65279∧(gB γ 84=true↔gB β 84=true∧Prs (vE β))∧gI γ 23=gI β 23 + 1
  | 1=>SmT β γ∧SmE β γ∧gI γ 32=gI β 32∧¬ gI β 23 < gI β 31∧gB γ 84=gB β 84
  | 2=>γ[73]?=β[73]?∧gI β 23 < gI β 31∧vE β=65279
  | _=>False
 L:=fun _ _=>False
 O:=fun _ _ _ _=>False
 W:=fun _ _=>False
set_option maxRecDepth 100000
theorem dc_dr {e:Int} {R R':List UInt8} {cs ds:List Int} (h:DR e R ds R'):DC e R cs []→∃ rest,cs=ds++rest∧DC e R' rest []:=by
 induction h generalizing cs with
 | nil R=>intro g; exact ⟨cs,rfl,g⟩
 | cons h1 h2 h3 h4 _ ih =>
  intro g
  cases g with
  | nil=>simp at h3; omega
  | cons g1 g2 g3 g4 =>
   rw [h1] at g1
   cases g1
   obtain ⟨rest,a,b⟩:=ih g4
   exact ⟨rest,by rw [a]; rfl,b⟩
theorem dr_dc {e:Int} {R R':List UInt8} {cs ds:List Int} (h:DC e R cs R'):DR e R ds []→∃ rest,ds=cs++rest∧DR e R' rest []:=by
 induction h generalizing ds with
 | nil R=>intro g; exact ⟨ds,rfl,g⟩
 | cons h1 h2 h3 _ ih =>
  intro g
  cases g with
  | nil=>simp at h3; omega
  | cons g1 g2 g3 g4 g5 =>
   rw [h1] at g1
   cases g1
   obtain ⟨rest,a,b⟩:=ih g5
   exact ⟨rest,by rw [a]; rfl,b⟩
theorem dc_nil {e:Int} {cs:List Int} (h:DC e [] cs []):cs=[]:=by
 cases h with
 | nil=>rfl
 | cons g1 g2 g3 g4=>simp at g3; omega
theorem dr_prn {e:Int} {R R':List UInt8} {cs:List Int} (h:DR e R cs R'):∀ c ∈ cs,Prn c:=by
 induction h with
 | nil R=>intro c hc; cases hc
 | cons h1 h2 h3 h4 _ ih =>
  intro c hc
  rcases List.mem_cons.1 hc with rfl | hc
  ·exact h4
  ·exact ih c hc
theorem if_ok {c:Prop} [Decidable c] {a b:Dc} {P:Prop} (h1:a=b→P) {d:Dc} (h2:d=b→P):(if c then a else d)=b→P:=by
 intro h; split at h
 ·exact h1 h
 ·exact h2 h
theorem no_more {v w:Int} {P:Prop}:Dc.more=Dc.ok v w→P:=fun h=>by cases h
theorem no_bad {v w:Int} {P:Prop}:Dc.bad=Dc.ok v w→P:=fun h=>by cases h
theorem in_ok {x k v w:Int} (h:0≤x∧x≤1114111):Dc.ok x k=Dc.ok v w→0≤v∧v≤1114111:=fun e=>by
 have:=(Dc.ok.inj e).1; omega
theorem dcd8_rng {n:Int} {b:Int→Int} {v w:Int} (hb:Byt b):dcd8 n b=.ok v w→0≤v∧v≤1114111:=by
 obtain ⟨a1,a2,a3,a4,a5,a6,a7,a8,a9⟩:=cl (hb 0)
 obtain ⟨_,_,_,_,_,_,_,_,b9⟩:=cl (hb 1)
 obtain ⟨_,_,_,_,_,_,_,_,c9⟩:=cl (hb 2)
 have r1:0≤sl (ia (b 0) 31) 6 + ia (b 1) 63∧sl (ia (b 0) 31) 6 + ia (b 1) 63≤1114111:=by rw [sl6,a6,b9]; omega
 have r2:0≤sl (sl (ia (b 0) 15) 6 + ia (b 1) 63) 6 + ia (b 2) 63∧sl (sl (ia (b 0) 15) 6 + ia (b 1) 63) 6 + ia (b 2) 63≤1114111:=by rw [sl6,sl6,a7,b9,c9]; omega
 have r3:0≤sl (sl (sl (ia (b 0) 7) 6 + ia (b 1) 63) 6 + ia (b 2) 63) 6 + ia (b 3) 63:=by
  obtain ⟨_,_,_,_,_,_,_,_,d9⟩:=cl (hb 3)
  rw [sl6,sl6,sl6,a8,b9,c9,d9]; omega
 by_cases h0:b 0 < 128
 ·have:0≤ia (b 0) 127∧ia (b 0) 127≤1114111:=by rw [a5 h0]; have:=hb 0; omega
  unfold dcd8; rw [if_pos (a1.2 h0)]
  exact if_ok no_more (in_ok this)
 by_cases h1:b 0 < 192
 ·unfold dcd8
  rw [if_neg (fun h=>h0 (a1.1 h)),if_neg (fun h=>by have:=a2.1 h; omega),if_neg (fun h=>by have:=a3.1 h; omega),if_neg (fun h=>by have:=a4.1 h; omega)]
  exact no_bad
 by_cases h2:b 0 < 224
 ·rw [dcd8_2 hb (by omega) h2]
  exact if_ok no_more (if_ok (if_ok no_bad (in_ok r1)) no_bad)
 by_cases h3:b 0 < 240
 ·rw [dcd8_3 hb (by omega) h3]
  exact if_ok no_more (if_ok (if_ok (if_ok no_bad (if_ok no_bad (in_ok r2))) no_bad) no_bad)
 by_cases h4:b 0 < 248
 ·rw [dcd8_4 hb (by omega) h4]
  refine if_ok no_more (if_ok (if_ok (if_ok (if_ok no_bad ?_) no_bad) no_bad) no_bad)
  intro h
  split at h
  ·cases h
  ·rename_i hc
   exact in_ok ⟨r3,by omega⟩ h
 ·unfold dcd8
  rw [if_neg (fun h=>h0 (a1.1 h)),if_neg (fun h=>by have:=a2.1 h; omega),if_neg (fun h=>by have:=a3.1 h; omega),if_neg (fun h=>by have:=a4.1 h; omega)]
  exact no_bad
theorem bt_byt (R:List UInt8):Byt (bt R):=fun k=>⟨Int.natCast_nonneg _,by have:=UInt8.toNat_lt (R.getD k.toNat 0); unfold bt; omega⟩
theorem d16_rng {n u v c w:Int} (hu:0≤u∧u≤65535) (hv:0≤v∧v≤65535) (h:dcd16 n u v=.ok c w):0≤c∧c≤1114111:=by
 obtain ⟨a1,a2⟩:=ia_hi hu
 obtain ⟨b1,b2⟩:=ia_hi hv
 unfold dcd16 at h
 split at h
 ·cases h
 split at h
 ·cases h
 split at h
 ·split at h
  ·cases h
  split at h
  ·cases h
   rw [a2,b2]
   show 0≤u % 1024 * 2 ^ 10 + 65536 + v % 1024∧u % 1024 * 2 ^ 10 + 65536 + v % 1024≤1114111
   omega
  ·cases h
 ·cases h; omega
theorem d1_rng {e:Int} {R:List UInt8} {v w:Int} (h:d1 e R=.ok v w):0≤v∧v≤1114111:=by
 have hb:=bt_byt R
 have s8:∀ a,sl a 8=a * 256:=fun a=>rfl
 have h0:=hb 0; have h1:=hb 1; have h2:=hb 2; have h3:=hb 3
 unfold d1 dcd at h
 split at h
 ·exact dcd8_rng hb h
 split at h
 ·exact d16_rng (by rw [s8]; omega) (by rw [s8]; omega) h
 ·exact d16_rng (by rw [s8]; omega) (by rw [s8]; omega) h
theorem dc_rng {e:Int} {R R':List UInt8} {cs:List Int} (h:DC e R cs R'):(∀ c ∈ cs,0≤c∧c≤1114111)∧R'.length + cs.length≤R.length:=by
 induction h with
 | nil R=>exact ⟨fun c hc=>(by cases hc),(by simp)⟩
 | cons h1 h2 h3 _ ih =>
  refine ⟨fun c hc=>?_,?_⟩
  ·rcases List.mem_cons.1 hc with rfl | hc
   ·exact d1_rng h1
   ·exact ih.1 c hc
  ·have:=ih.2; rw [List.length_drop] at this; simp only [List.length_cons]; omega
def DecT (T:List UInt8) (cs:List Int):Prop:=∃ e w,MkW T e w∧DC e (T.drop w.toNat) cs []
def BadT (T:List UInt8):Prop:=∃ e w,MkW T e w∧BadC e (T.drop w.toNat)
theorem dec_fsu {T:List UInt8} {cs ds:List Int} (h:DecT T cs) (g:FSu T ds):cs=ds:=by
 obtain ⟨e,w,⟨_,_,hm⟩,hd⟩:=h
 obtain ⟨e',R1,hm',hd'⟩:=g
 obtain ⟨rfl,rfl⟩:=mk_unique hm hm'
 obtain ⟨rest,a,b⟩:=dc_dr hd' hd
 rw [dc_nil b,List.append_nil] at a
 exact a
theorem bad_fsu {T:List UInt8} {ds:List Int} (h:BadT T) (g:FSu T ds):False:=by
 obtain ⟨e,w,⟨_,_,hm⟩,cs,R',hd,hne,hk⟩:=h
 obtain ⟨e',R1,hm',hd'⟩:=g
 obtain ⟨rfl,rfl⟩:=mk_unique hm hm'
 obtain ⟨rest,a,b⟩:=dr_dc hd hd'
 cases b with
 | nil=>exact hne rfl
 | cons g1 _ _ _ _=>exact hk _ _ g1
theorem dec_fe {T:List UInt8} {cs:List Int} (h:DecT T cs) (hp:∀ c ∈ cs,Prn c) (g:FE T):False:=by
 obtain ⟨e,w,⟨_,_,hm⟩,hd⟩:=h
 obtain ⟨e',R1,ds,R,hm',hd',hb⟩:=g
 obtain ⟨rfl,rfl⟩:=mk_unique hm hm'
 obtain ⟨rest,a,b⟩:=dc_dr hd' hd
 obtain ⟨hne,hb⟩:=hb
 cases b with
 | nil=>exact hne rfl
 | cons g1 g2 g3 g4 =>
  rename_i v w' cs'
  rcases hb with hb | hb | ⟨v',w'',hb,hn⟩
  ·rw [hb] at g1; cases g1
  ·rw [hb] at g1; cases g1
  ·rw [hb] at g1; cases g1
   exact hn (hp _ (by rw [a]; simp))
theorem fsu_prn {T:List UInt8} {ds:List Int} (g:FSu T ds):∀ c ∈ ds,Prn c:=by
 obtain ⟨e',R1,hm',hd'⟩:=g
 exact dr_prn hd'
def NilR (T:List UInt8) (b:Bool):Prop:=(b=true∧DecT T [])∨(b=false∧BadT T)
def SomeR (T:List UInt8) (γ:Ren):Prop:=∃ cs,DecT T cs∧cs≠[]∧Num6 cs γ
theorem nr6 {T:List UInt8} {e w:Int} {γ γ1:Ren} (hm:MkW T e w) (he:e=1) (hA:A6 γ=T.drop w.toNat) (z:Z6 1 γ γ1 0):NilR T (gB γ1 84):=by
 subst he
 have z:gB γ1 84=true∧A6 γ=[]∨gB γ1 84=false∧BadC 1 (A6 γ):=z
 rw [hA] at z
 rcases z with ⟨a,b⟩ | ⟨a,b⟩
 ·exact .inl ⟨a,1,w,hm,by rw [b]; exact .nil _⟩
 ·exact .inr ⟨a,1,w,hm,b⟩
theorem sr6 {T:List UInt8} {e w:Int} {γ γ1:Ren} (hm:MkW T e w) (he:e=1) (hA:A6 γ=T.drop w.toNat) (z:Z6 1 γ γ1 1):SomeR T γ1:=by
 subst he
 obtain ⟨cs,a,b,c⟩:=(z:∃ cs,DC 1 (A6 γ) cs []∧cs≠[]∧Num6 cs γ1)
 rw [hA] at a
 exact ⟨cs,⟨1,w,hm,a⟩,b,c⟩
theorem eb_of {e:Int} {b:Bool} (h1:1 < e) (h3:e≤3) (hb:b=true↔e=3):eb b=e:=by
 unfold eb
 cases b
 ·have:e≠3:=fun h=>by have:=hb.2 h; cases this
  show (2:Int)=e; omega
 ·have:=hb.1 rfl
  show (3:Int)=e; omega
theorem nr7 {T:List UInt8} {e w:Int} {γ γ1:Ren} (hm:MkW T e w) (h1:1 < e) (h3:e≤3) (hb:gB γ 85=true↔e=3) (hA:A6 γ=T.drop w.toNat) (z:Z6 (eb (gB γ 85)) γ γ1 0):NilR T (gB γ1 84):=by
 rw [eb_of h1 h3 hb] at z
 have z:gB γ1 84=true∧A6 γ=[]∨gB γ1 84=false∧BadC e (A6 γ):=z
 rw [hA] at z
 rcases z with ⟨a,b⟩ | ⟨a,b⟩
 ·exact .inl ⟨a,e,w,hm,by rw [b]; exact .nil _⟩
 ·exact .inr ⟨a,e,w,hm,b⟩
theorem sr7 {T:List UInt8} {e w:Int} {γ γ1:Ren} (hm:MkW T e w) (h1:1 < e) (h3:e≤3) (hb:gB γ 85=true↔e=3) (hA:A6 γ=T.drop w.toNat) (z:Z6 (eb (gB γ 85)) γ γ1 1):SomeR T γ1:=by
 rw [eb_of h1 h3 hb] at z
 obtain ⟨cs,a,b,c⟩:=(z:∃ cs,DC e (A6 γ) cs []∧cs≠[]∧Num6 cs γ1)
 rw [hA] at a
 exact ⟨cs,⟨e,w,hm,a⟩,b,c⟩
structure P3 (β:Ren):Prop where
 n:Ln β
 i18:0≤gI β 18
 i72:gI β 18≤gI β 72
 l17:gI β 18≤(gL β 17).length
theorem P3.pt {β γ:Ren} (p:P3 β) (hn:Ln γ) (h17:gL γ 17=gL β 17) (h18:gI γ 18=gI β 18) (h:¬ 1048576 < gI β 18):PT γ∧T0 γ=T0 β:=by
 have:=p.i18; have:=p.l17
 exact ⟨⟨hn,by omega,by rw [h17,h18]; exact p.l17⟩,by unfold T0; rw [h17,h18]⟩
theorem P3.pa {β γ:Ren} {e w:Int} (p:P3 β) (hn:Ln γ) (hm:MkW (T0 β) e w) (h17:gL γ 17=gL β 17) (h20:gI γ 20=if gI β 72=w then 0 else w) (h21:gI γ 21=gI β 18 - w) (h:¬ 1048576 < gI β 18):PA γ∧A6 γ=(T0 β).drop w.toNat:=by
 have h18:=p.i18; have hl:=p.l17; have h72:=p.i72
 obtain ⟨m1,m2,_⟩:=hm
 have hT:((T0 β).length:Int)=gI β 18:=by unfold T0; rw [List.length_take]; omega
 by_cases hc:gI β 72=w
 ·rw [if_pos hc] at h20
  refine ⟨⟨hn,by omega,by omega,by rw [h17]; omega⟩,?_⟩
  have e1:(T0 β).drop w.toNat=[]:=by rw [List.drop_eq_nil_iff]; omega
  rw [e1]
  unfold A6; rw [List.drop_eq_nil_iff,List.length_take]; omega
 ·rw [if_neg hc] at h20
  refine ⟨⟨hn,by omega,by omega,by rw [h17]; omega⟩,?_⟩
  unfold A6 T0
  rw [h17,h20,h21,show w + (gI β 18 - w)=gI β 18 from by omega]
theorem pe3_next {β γ:Ren} (p:PE β) (hn:γ.length=90) (s:SmE β γ) (hl:gI β 23 < gI β 31) (h:gI γ 23=gI β 23 + 1):PE γ:=pe_next8 p hn s (by omega) h (by have:=s.2.2.2; omega)
theorem SmT.trans {a b c:Ren} (h:SmT a b) (g:SmT b c):SmT a c:=⟨g.1.trans h.1,g.2.1.trans h.2.1,g.2.2.1.trans h.2.2.1,g.2.2.2.1.trans h.2.2.2.1,g.2.2.2.2.trans h.2.2.2.2⟩
def GF3 (β:Ren):Goal where
 J:=fun _ γ=>gB γ 86=true
 L:=fun _ γ=>PE γ∧PT γ∧T0 γ=T0 β∧gI γ 23=0∧gB γ 84=true∧DecT (T0 β) (restN γ)∧restN γ≠[]
 O:=fun _ i γ γ1=>Ln γ1∧match i with
  | 0=>SmT γ γ1∧SmE γ γ1∧(∀ c ∈ restN γ,c≠65279)∧(gB γ1 84=true↔gB γ 84=true∧∀ c ∈ restN γ,Prs c)
  | _=>True
 W:=fun _ c=>c=.loop loop3
 CL:=fun j γ=>match j with
  | 5=>PT γ
  | 6=>PA γ
  | 7=>PA γ
  | 9=>PT γ
  | 11=>PL γ
  | _=>False
 CO:=fun j i γ γ1=>Ln γ1∧match j with
  | 5=>MkW (T0 γ) (gI γ1 87) (gI γ1 88)
  | 6=>Z6 1 γ γ1 i
  | 7=>Z6 (eb (gB γ 85)) γ γ1 i
  | 9=>(match i with
   | 0=>FSu (T0 γ) []
   | 1=>FE (T0 γ)
   | 2=>J9 (T0 γ) γ1
   | _=>False)
  | 11=>(match i with
   | 0=>NL γ=[]
   | 1=>OutE (encs (NL γ)) γ1∧NL γ≠[]
   | _=>False)
  | _=>False
noncomputable abbrev loopD3:Code:=.loop loop3
theorem dec_rng {T:List UInt8} {cs:List Int} (h:DecT T cs):(∀ c ∈ cs,0≤c∧c≤1114111)∧cs.length≤T.length:=by
 obtain ⟨e,w,_,hd⟩:=h
 obtain ⟨a,b⟩:=dc_rng hd
 refine ⟨a,?_⟩
 rw [List.length_drop] at b; simp at b; omega
theorem someR_L {T:List UInt8} {γ1 γ:Ren} (r:SomeR T γ1) (hT:T.length≤1048576) (hn:Ln γ) (h33:gN γ 33=gN γ1 33) (h31:gI γ 31=gI γ1 31) (h23:gI γ 23=0):PE γ∧DecT T (restN γ)∧restN γ≠[]:=by
 obtain ⟨cs,d,hne,o1,o2,o3,o4⟩:=r
 have e:restN γ=cs:=by unfold restN; rw [h33,h31,h23]; exact o1
 obtain ⟨r1,r2⟩:=dec_rng d
 refine ⟨⟨hn,by omega,by omega,by rw [h33,h31]; omega,fun k h0 hk=>r1 _ ?_⟩,by rw [e]; exact d,by rw [e]; exact hne⟩
 have hk':k.toNat < ((gN γ 33).take (gI γ 31).toNat).length:=by rw [List.length_take,h33]; omega
 have e2:(gN γ 33).getD k.toNat 0=((gN γ 33).take (gI γ 31).toNat)[k.toNat]:=by
  rw [List.getElem_take,List.getD_eq_getElem?_getD,List.getElem?_eq_getElem (by rw [List.length_take] at hk'; omega)]; rfl
 rw [e2,← e]
 have e3:restN γ=(gN γ 33).take (gI γ 31).toNat:=by unfold restN; rw [h23]; rfl
 rw [e3]; exact List.getElem_mem hk'
end U
