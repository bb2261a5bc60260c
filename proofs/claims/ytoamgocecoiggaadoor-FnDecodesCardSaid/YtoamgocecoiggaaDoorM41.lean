-- the statement of this claim: see YtoamgocecoiggaaDoorRw
import Derived.Test.YtoamgocecoiggaaDoorM39
set_option linter.unusedVariables false
set_option linter.unusedSimpArgs false
open Go Go.SM Go.Proofs
namespace U
def numC:Blk:={ cells:=[],elem:=3,ro:=false,live:=true,seq:=some (nd1 28 (x 37)) }
def sNum2:Value:=sL 34 (Z 0) (x 35) (x 36)
def i23:Value:=I 23 0 1125899906842624
def t7N:Tpl:={ m:=90,F:=[(0,sArg),(1,sB (x 85)),(6,.slice none 0 0),(7,i23)],H:=[(16,txtB),(73,eofB)],G:=[73] }
def t7S:Tpl:={ m:=90,F:=[(0,sArg),(1,sB (x 85)),(6,sNum),(7,i23)],H:=[(16,txtB),(73,eofB),(30,numB)],G:=[73] }
def ft7 (t:Tpl):AExit→Option (Nat × Tpl):=fun e=>match e with
 | .normal=>some (0,t7S)
 | .exit 0=>some (1,t)
 | _=>none
noncomputable def loop7:Code:=(findLoop 5 100 (body 7)).getD .skip
noncomputable def E7 (t:Tpl):Env:=EG 7 (fun _=>none) (fun _=>false) (fun _=>none) (fun _=>none) (ft7 t) (fun _=>none)
noncomputable def tre7 (t:Tpl) (A:List TB):Tre:=tre (E7 t) 2000 loop7 [] (A.map TB.enc) t.frame t.heap
def t7cN:Tpl:={ m:=90,F:=[(0,sArg),(6,sNum),(10,.slice none 0 0),(11,i23)],H:=[(16,txtB),(73,eofB),(30,numB)],G:=[73] }
def t7cS:Tpl:={ m:=90,F:=[(0,sArg),(6,sNum),(10,sNum2),(11,i23)],H:=[(16,txtB),(73,eofB),(30,numB),(34,numC)],G:=[73] }
def t7f:Tpl:={ m:=90,F:=[(0,sArg),(4,.slice none 0 0),(5,.bool false)],H:=[(16,txtB),(73,eofB)],G:=[73] }
def ft7c (t:Tpl):AExit→Option (Nat × Tpl):=fun e=>match e with
 | .normal=>some (0,t7cS)
 | .exit 2=>some (1,t)
 | .ret=>some (2,t7f)
 | _=>none
noncomputable def loop7c:Code:=(findLoop 13 100 (body 7)).getD .skip
noncomputable def E7c (t:Tpl):Env:=EG 7 (fun _=>none) (fun _=>false) (fun _=>none) (fun _=>none) (ft7c t) (fun _=>none)
noncomputable def tre7c (t:Tpl) (A:List TB):Tre:=tre (E7c t) 2000 loop7c [] (A.map TB.enc) t.frame t.heap
set_option maxRecDepth 100000
theorem cl_all:∀ n:Fin 256,(ia ((n.1:Nat):Int) 128=0↔n.1 < 128)∧(ia ((n.1:Nat):Int) 224=192↔192≤n.1∧n.1 < 224)∧(ia ((n.1:Nat):Int) 240=224↔224≤n.1∧n.1 < 240)∧(ia ((n.1:Nat):Int) 248=240↔240≤n.1∧n.1 < 248)∧(n.1 < 128→ia ((n.1:Nat):Int) 127=n.1) ∧
    ia ((n.1:Nat):Int) 31=n.1 % 32∧ia ((n.1:Nat):Int) 15=n.1 % 16∧ia ((n.1:Nat):Int) 7=n.1 % 8∧ia ((n.1:Nat):Int) 63=n.1 % 64:=by decide
theorem cl {x:Int} (h:0≤x∧x≤255):(ia x 128=0↔x < 128)∧(ia x 224=192↔192≤x∧x < 224)∧(ia x 240=224↔224≤x∧x < 240)∧(ia x 248=240↔240≤x∧x < 248)∧(x < 128→ia x 127=x)∧ia x 31=x % 32∧ia x 15=x % 16∧ia x 7=x % 8∧ia x 63=x % 64:=by
 obtain ⟨n,rfl⟩:=Int.eq_ofNat_of_zero_le h.1
 have hn:n < 256:=by omega
 obtain ⟨a,b,c,d,e,f,g,i,j⟩:=cl_all ⟨n,hn⟩
 refine ⟨a.trans ?_,b.trans ?_,c.trans ?_,d.trans ?_,fun h=>e ?_,f,g,i,j⟩ <;> (simp only []; omega)
theorem or_sl {a c:Int} (h:0≤a):IOp.fn .or (sl a 6) (ia c 63)=sl a 6 + ia c 63:=by
 obtain ⟨n,rfl⟩:=Int.eq_ofNat_of_zero_le h
 have h2:Nat.land c.toNat (63:Int).toNat < 2 ^ 6:=Nat.lt_of_le_of_lt Nat.and_le_right (by decide)
 show ((Nat.lor (((n:Int) * 2 ^ (6:Int).toNat)).toNat ((Nat.land c.toNat (63:Int).toNat:Nat):Int).toNat:Nat):Int)=(n:Int) * 2 ^ (6:Int).toNat + ((Nat.land c.toNat (63:Int).toNat:Nat):Int)
 generalize Nat.land c.toNat (63:Int).toNat=m at h2
 have e1:((n:Int) * 2 ^ (6:Int).toNat).toNat=n <<< 6:=by
  rw [Nat.shiftLeft_eq]; show ((n:Int) * 64).toNat=n * 64; omega
 rw [e1,Int.toNat_natCast]
 have:=Nat.shiftLeft_add_eq_or_of_lt h2 n
 show ((n <<< 6 ||| m:Nat):Int)=_
 rw [← this,Nat.shiftLeft_eq]
 show ((n * 64 + m:Nat):Int)=(n:Int) * 64 + m
 omega
theorem ia0 (a b:Int):0≤ia a b:=Int.natCast_nonneg _
theorem sl0 {a:Int} (b:Int) (h:0≤a):0≤sl a b:=Int.mul_nonneg h (by have:=Int.pow_pos (n:=2) (m:=b.toNat) (by omega); omega)
theorem sl6 (a:Int):sl a 6=a * 64:=rfl
def Byt (b:Int→Int):Prop:=∀ k,0≤b k∧b k≤255
abbrev oi (a b:Int):Int:=IOp.fn .or a b
theorem st1 {n:Int} {b:Int→Int} (hb:Byt b) (h:b 0 < 128) (hn:1≤n):dcd8 n b=.ok (b 0) 1:=by
 obtain ⟨a1,a2,a3,a4,a5,_⟩:=cl (hb 0)
 unfold dcd8
 rw [if_pos (a1.2 h),if_neg (by omega),a5 h]
theorem v2 {b:Int→Int} (hb:Byt b):oi (sl (ia (b 0) 31) 6) (ia (b 1) 63)=sl (ia (b 0) 31) 6 + ia (b 1) 63:=or_sl (ia0 _ _)
theorem v3 {b:Int→Int} (hb:Byt b):oi (sl (oi (sl (ia (b 0) 15) 6) (ia (b 1) 63)) 6) (ia (b 2) 63)=sl (sl (ia (b 0) 15) 6 + ia (b 1) 63) 6 + ia (b 2) 63:=by
 unfold oi
 rw [or_sl (ia0 (b 0) 15),or_sl]
 have:=sl0 6 (ia0 (b 0) 15); have:=ia0 (b 1) 63; omega
theorem v4 {b:Int→Int} (hb:Byt b):oi (sl (oi (sl (oi (sl (ia (b 0) 7) 6) (ia (b 1) 63)) 6) (ia (b 2) 63)) 6) (ia (b 3) 63)=sl (sl (sl (ia (b 0) 7) 6 + ia (b 1) 63) 6 + ia (b 2) 63) 6 + ia (b 3) 63:=by
 unfold oi
 have h1:=sl0 6 (ia0 (b 0) 7); have h2:=ia0 (b 1) 63
 have h3:0≤sl (ia (b 0) 7) 6 + ia (b 1) 63:=by omega
 have h4:=sl0 6 h3; have h5:=ia0 (b 2) 63
 rw [or_sl (ia0 (b 0) 7),or_sl h3,or_sl]
 omega
theorem dcd8_2 {n:Int} {b:Int→Int} (hb:Byt b) (h1:192≤b 0) (h2:b 0 < 224):dcd8 n b=(if n < 2 then .more
    else if ia (b 1) 192=128 then if sl (ia (b 0) 31) 6 + ia (b 1) 63 < 128 then .bad else .ok (sl (ia (b 0) 31) 6 + ia (b 1) 63) 2
    else .bad):=by
 obtain ⟨a1,a2,a3,a4,a5,_⟩:=cl (hb 0)
 unfold dcd8
 rw [if_neg (fun h=>by have:=a1.1 h; omega),if_pos (a2.2 ⟨h1,h2⟩)]
theorem dcd8_3 {n:Int} {b:Int→Int} (hb:Byt b) (h1:224≤b 0) (h2:b 0 < 240):dcd8 n b=(if n < 3 then .more
    else if ia (b 1) 192=128 then
     if ia (b 2) 192=128 then
      if sl (sl (ia (b 0) 15) 6 + ia (b 1) 63) 6 + ia (b 2) 63 < 2048 then .bad
      else if ¬ sl (sl (ia (b 0) 15) 6 + ia (b 1) 63) 6 + ia (b 2) 63 < 55296∧¬ 57343 < sl (sl (ia (b 0) 15) 6 + ia (b 1) 63) 6 + ia (b 2) 63 then .bad
      else .ok (sl (sl (ia (b 0) 15) 6 + ia (b 1) 63) 6 + ia (b 2) 63) 3
     else .bad
    else .bad):=by
 obtain ⟨a1,a2,a3,a4,a5,_⟩:=cl (hb 0)
 unfold dcd8
 rw [if_neg (fun h=>by have:=a1.1 h; omega),if_neg (fun h=>by have:=a2.1 h; omega),if_pos (a3.2 ⟨h1,h2⟩)]
theorem dcd8_4 {n:Int} {b:Int→Int} (hb:Byt b) (h1:240≤b 0) (h2:b 0 < 248):dcd8 n b=(if n < 4 then .more
    else if ia (b 1) 192=128 then
     if ia (b 2) 192=128 then
      if ia (b 3) 192=128 then
       if sl (sl (sl (ia (b 0) 7) 6 + ia (b 1) 63) 6 + ia (b 2) 63) 6 + ia (b 3) 63 < 65536 then .bad
       else if (¬ sl (sl (sl (ia (b 0) 7) 6 + ia (b 1) 63) 6 + ia (b 2) 63) 6 + ia (b 3) 63 < 55296∧¬ 57343 < sl (sl (sl (ia (b 0) 7) 6 + ia (b 1) 63) 6 + ia (b 2) 63) 6 + ia (b 3) 63)∨1114111 < sl (sl (sl (ia (b 0) 7) 6 + ia (b 1) 63) 6 + ia (b 2) 63) 6 + ia (b 3) 63 then .bad
       else .ok (sl (sl (sl (ia (b 0) 7) 6 + ia (b 1) 63) 6 + ia (b 2) 63) 6 + ia (b 3) 63) 4
      else .bad
     else .bad
    else .bad):=by
 obtain ⟨a1,a2,a3,a4,a5,_⟩:=cl (hb 0)
 unfold dcd8
 rw [if_neg (fun h=>by have:=a1.1 h; omega),if_neg (fun h=>by have:=a2.1 h; omega),if_neg (fun h=>by have:=a3.1 h; omega),if_pos (a4.2 ⟨h1,h2⟩)]
theorem st2 {n:Int} {b:Int→Int} (hb:Byt b) (h1:194≤b 0) (h2:b 0 < 224) (hn:2≤n) (c1:ia (b 1) 192=128):dcd8 n b=.ok (oi (sl (ia (b 0) 31) 6) (ia (b 1) 63)) 2:=by
 rw [dcd8_2 hb (by omega) h2,v2 hb,if_neg (by omega),if_pos c1,if_neg]
 have:=ia0 (b 1) 63
 obtain ⟨_,_,_,_,_,a6,_⟩:=cl (hb 0)
 rw [sl6,a6]; omega
theorem st3 {n:Int} {b:Int→Int} (hb:Byt b) (h1:224≤b 0) (h2:b 0 < 240) (hn:3≤n) (c1:ia (b 1) 192=128) (c2:ia (b 2) 192=128)
    (h:¬ oi (sl (oi (sl (ia (b 0) 15) 6) (ia (b 1) 63)) 6) (ia (b 2) 63) < 2048∧¬ (¬ oi (sl (oi (sl (ia (b 0) 15) 6) (ia (b 1) 63)) 6) (ia (b 2) 63) < 55296∧oi (sl (oi (sl (ia (b 0) 15) 6) (ia (b 1) 63)) 6) (ia (b 2) 63) < 57344)) :
    dcd8 n b=.ok (oi (sl (oi (sl (ia (b 0) 15) 6) (ia (b 1) 63)) 6) (ia (b 2) 63)) 3:=by
 rw [v3 hb] at h ⊢
 rw [dcd8_3 hb h1 h2,if_neg (by omega),if_pos c1,if_pos c2,if_neg h.1,if_neg (fun g=>h.2 ⟨g.1,by omega⟩)]
theorem st4 {n:Int} {b:Int→Int} (hb:Byt b) (h1:240≤b 0) (h2:b 0 < 245) (hn:4≤n) (c1:ia (b 1) 192=128) (c2:ia (b 2) 192=128) (c3:ia (b 3) 192=128)
    (h:¬ oi (sl (oi (sl (oi (sl (ia (b 0) 7) 6) (ia (b 1) 63)) 6) (ia (b 2) 63)) 6) (ia (b 3) 63) < 65536∧¬ 1114111 < oi (sl (oi (sl (oi (sl (ia (b 0) 7) 6) (ia (b 1) 63)) 6) (ia (b 2) 63)) 6) (ia (b 3) 63)) :
    dcd8 n b=.ok (oi (sl (oi (sl (oi (sl (ia (b 0) 7) 6) (ia (b 1) 63)) 6) (ia (b 2) 63)) 6) (ia (b 3) 63)) 4:=by
 rw [v4 hb] at h ⊢
 rw [dcd8_4 hb h1 (by omega),if_neg (by omega),if_pos c1,if_pos c2,if_pos c3,if_neg h.1,if_neg (fun g=>by omega)]
def Nok (d:Dc):Prop:=∀ v w,d≠.ok v w
theorem Nok.more:Nok .more:=fun _ _ h=>by cases h
theorem Nok.bad:Nok .bad:=fun _ _ h=>by cases h
theorem nk2 {n:Int} {b:Int→Int} (hb:Byt b) (h1:192≤b 0) (h2:b 0 < 224) (h:n < 2∨¬ ia (b 1) 192=128∨b 0 < 194):Nok (dcd8 n b):=by
 rw [dcd8_2 hb h1 h2]
 split
 ·exact .more
 ·split
  ·split
   ·exact .bad
   ·rename_i h3
    exfalso
    obtain ⟨_,_,_,_,_,a6,_⟩:=cl (hb 0)
    obtain ⟨_,_,_,_,_,_,_,_,a9⟩:=cl (hb 1)
    rw [sl6,a6,a9] at h3
    rcases h with h | h | h
    ·omega
    ·exact h (by assumption)
    ·omega
  ·exact .bad
theorem nk3 {n:Int} {b:Int→Int} (hb:Byt b) (h1:224≤b 0) (h2:b 0 < 240)
    (h:n < 3∨¬ ia (b 1) 192=128∨¬ ia (b 2) 192=128∨oi (sl (oi (sl (ia (b 0) 15) 6) (ia (b 1) 63)) 6) (ia (b 2) 63) < 2048∨(¬ oi (sl (oi (sl (ia (b 0) 15) 6) (ia (b 1) 63)) 6) (ia (b 2) 63) < 55296∧oi (sl (oi (sl (ia (b 0) 15) 6) (ia (b 1) 63)) 6) (ia (b 2) 63) < 57344)):Nok (dcd8 n b):=by
 rw [v3 hb] at h
 rw [dcd8_3 hb h1 h2]
 split
 ·exact .more
 ·split
  ·split
   ·split
    ·exact .bad
    ·split
     ·exact .bad
     ·rename_i g1 g2 g3 g4 g5
      exfalso
      rcases h with h | h | h | h | h
      ·exact g1 h
      ·exact h g2
      ·exact h g3
      ·exact g4 h
      ·exact g5 ⟨h.1,by omega⟩
   ·exact .bad
  ·exact .bad
theorem nk4 {n:Int} {b:Int→Int} (hb:Byt b) (h1:240≤b 0) (h2:b 0 < 248)
    (h:n < 4∨¬ ia (b 1) 192=128∨¬ ia (b 2) 192=128∨¬ ia (b 3) 192=128∨oi (sl (oi (sl (oi (sl (ia (b 0) 7) 6) (ia (b 1) 63)) 6) (ia (b 2) 63)) 6) (ia (b 3) 63) < 65536∨1114111 < oi (sl (oi (sl (oi (sl (ia (b 0) 7) 6) (ia (b 1) 63)) 6) (ia (b 2) 63)) 6) (ia (b 3) 63)):Nok (dcd8 n b):=by
 rw [v4 hb] at h
 rw [dcd8_4 hb h1 h2]
 split
 ·exact .more
 ·split
  ·split
   ·split
    ·split
     ·exact .bad
     ·split
      ·exact .bad
      ·rename_i g1 g2 g3 g4 g5 g6
       exfalso
       rcases h with h | h | h | h | h | h
       ·exact g1 h
       ·exact h g2
       ·exact h g3
       ·exact h g4
       ·exact g5 h
       ·exact g6 (.inr h)
    ·exact .bad
   ·exact .bad
  ·exact .bad
theorem nk0 {n:Int} {b:Int→Int} (hb:Byt b) (h1:¬ b 0 < 128) (h:b 0 < 194∨245≤b 0):Nok (dcd8 n b):=by
 obtain ⟨a1,a2,a3,a4,a5,a6,a7,a8,a9⟩:=cl (hb 0)
 by_cases h3:192≤b 0∧b 0 < 224
 ·exact nk2 hb h3.1 h3.2 (.inr (.inr (by omega)))
 by_cases h4:245≤b 0∧b 0 < 248
 ·by_cases g:ia (b 1) 192=128∧ia (b 2) 192=128∧ia (b 3) 192=128
  ·refine nk4 hb (by omega) h4.2 (.inr (.inr (.inr (.inr (.inr ?_)))))
   rw [v4 hb,sl6,sl6,sl6,a8]
   have:=ia0 (b 1) 63; have:=ia0 (b 2) 63; have:=ia0 (b 3) 63
   omega
  ·refine nk4 hb (by omega) h4.2 (.inr ?_)
   by_cases g1:ia (b 1) 192=128
   ·by_cases g2:ia (b 2) 192=128
    ·exact .inr (.inr (.inl fun g3=>g ⟨g1,g2,g3⟩))
    ·exact .inr (.inl g2)
   ·exact .inl g1
 unfold dcd8
 rw [if_neg (fun h=>h1 (a1.1 h)),if_neg (fun h=>h3 (a2.1 h)),if_neg (fun h=>by have:=a3.1 h; omega),if_neg (fun h=>by have:=a4.1 h; omega)]
 exact .bad
theorem nk1 {n:Int} {b:Int→Int} (hb:Byt b) (h1:b 0 < 128) (h:n < 1):Nok (dcd8 n b):=by
 obtain ⟨a1,_⟩:=cl (hb 0)
 unfold dcd8
 rw [if_pos (a1.2 h1),if_pos h]; exact .more
structure P6 (β:Ren):Prop where
 n:Ln β
 i20:0≤gI β 20
 i21:0≤gI β 21∧gI β 21≤1048576
 le:gI β 20 + gI β 21≤(gL β 17).length
 i23:0≤gI β 23∧gI β 23≤gI β 21
structure K6 (β:Ren):Prop where
 a:0≤gI β 31∧gI β 31≤gI β 32
 b:gI β 32≤(gN β 33).length
 c:gI β 31≤gI β 23
noncomputable def R6 (β:Ren):List UInt8:=((gL β 17).take (gI β 20 + gI β 21).toNat).drop (gI β 20 + gI β 23).toNat
noncomputable def ub (β:Ren) (k:Int):Int:=(((gL β 17).getD (gI β 20 + (gI β 23 + k)).toNat 0).toNat:Int)
theorem ub0 (β:Ren):(((gL β 17).getD (gI β 20 + gI β 23).toNat 0).toNat:Int)=ub β 0:=by unfold ub; rw [Int.add_zero]
theorem ubk (β:Ren) (k:Int):(((gL β 17).getD (gI β 20 + (gI β 23 + k)).toNat 0).toNat:Int)=ub β k:=rfl
theorem ub_byt (β:Ren):Byt (ub β):=fun k=>⟨Int.natCast_nonneg _,by have:=UInt8.toNat_lt ((gL β 17).getD (gI β 20 + (gI β 23 + k)).toNat 0); unfold ub; omega⟩
theorem R6_len {β:Ren} (p:P6 β):((R6 β).length:Int)=gI β 21 - gI β 23:=by
 have:=p.i20; have:=p.i21; have:=p.le; have:=p.i23
 unfold R6; rw [List.length_drop,List.length_take]; omega
theorem d1_ub {β:Ren} (p:P6 β) (h:gI β 23 < gI β 21):d1 1 (R6 β)=dcd8 (gI β 21 - gI β 23) (ub β):=by
 have:=p.i20; have:=p.i21; have:=p.le; have:=p.i23
 unfold d1
 rw [R6_len p,dcd_congr (b:=ub β) (by omega)]
 ·rfl
 ·intro k h0 hk
  unfold bt ub R6
  simp only [List.getD_eq_getElem?_getD]
  rw [List.getElem?_drop,List.getElem?_take,if_pos (by omega),show (gI β 20 + gI β 23).toNat + k.toNat=(gI β 20 + (gI β 23 + k)).toNat from by omega]
def SmD (β γ:Ren):Prop:=γ[73]?=β[73]?∧γ[16]?=β[16]?∧gL γ 17=gL β 17∧gI γ 20=gI β 20∧gI γ 21=gI β 21∧gI γ 22=gI β 22
theorem SmD.trans {a b c:Ren} (h:SmD a b) (g:SmD b c):SmD a c:=⟨g.1.trans h.1,g.2.1.trans h.2.1,g.2.2.1.trans h.2.2.1,g.2.2.2.1.trans h.2.2.2.1,g.2.2.2.2.1.trans h.2.2.2.2.1,g.2.2.2.2.2.trans h.2.2.2.2.2⟩
noncomputable def O6 (γ:Ren):List Int:=(gN γ 33).take (gI γ 31).toNat
def NumEq (β γ:Ren):Prop:=γ[30]?=β[30]?∧gN γ 33=gN β 33∧gI γ 31=gI β 31∧gI γ 32=gI β 32
def Gd6 (O:Ren→List Int) (E:Ren→Ren→Prop) (β:Ren):Goal where
 J:=fun j γ=>match j with
  | 0=>SmD β γ∧gI β 23 < gI β 21∧∃ v w,d1 1 (R6 β)=.ok v w∧gI γ 23=gI β 23 + w∧1≤w∧w≤gI β 21 - gI β 23∧O6 γ=O β++[v]∧gI γ 31=((O β++[v]).length:Int)∧gI γ 31≤gI γ 32∧gI γ 32≤(gN γ 33).length
  | 1=>SmD β γ∧¬ gI β 23 < gI β 21∧E β γ
  | 2=>SmD β γ∧gI β 23 < gI β 21∧Nok (d1 1 (R6 β))
  | _=>False
 L:=fun _ _=>False
 O:=fun _ _ _ _=>False
 W:=fun _ _=>False
theorem finD {O Z:List Int} {v w:Int} {β γ:Ren} (p:P6 β) (s:SmD β γ) (hl:gI β 23 < gI β 21) (hd:dcd8 (gI β 21 - gI β 23) (ub β)=.ok v w) (h23:gI γ 23=gI β 23 + w) (hw:1≤w∧w≤gI β 21 - gI β 23) (h33:gN γ 33=O++([v]++Z)) (h31:gI γ 31=((O++[v]).length:Int)) (h32:gI γ 32≤(gN γ 33).length∧gI γ 31≤gI γ 32) :
    SmD β γ∧gI β 23 < gI β 21∧∃ v w,d1 1 (R6 β)=.ok v w∧gI γ 23=gI β 23 + w∧1≤w∧w≤gI β 21 - gI β 23∧O6 γ=O++[v]∧gI γ 31=((O++[v]).length:Int)∧gI γ 31≤gI γ 32∧gI γ 32≤(gN γ 33).length:=by
 refine ⟨s,hl,v,w,by rw [d1_ub p hl]; exact hd,h23,hw.1,hw.2,?_,h31,h32.2,h32.1⟩
 unfold O6
 rw [h33,h31,Int.toNat_natCast,← List.append_assoc,List.take_left]
theorem failD {β γ:Ren} (p:P6 β) (s:SmD β γ) (hl:gI β 23 < gI β 21) (h:Nok (dcd8 (gI β 21 - gI β 23) (ub β))):SmD β γ∧gI β 23 < gI β 21∧Nok (d1 1 (R6 β)):=⟨s,hl,by rw [d1_ub p hl]; exact h⟩
end U
