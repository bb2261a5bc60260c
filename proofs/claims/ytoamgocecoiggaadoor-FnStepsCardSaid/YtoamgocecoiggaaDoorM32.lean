-- the statement of this claim: see YtoamgocecoiggaaDoorRs
import Derived.Test.YtoamgocecoiggaaDoorM31
set_option linter.unusedVariables false
set_option linter.unusedSimpArgs false
set_option maxRecDepth 100000
noncomputable section
open Go Go.SM Go.Proofs
namespace U
def dK:CSpec:={ j:=13,n:=2,tin:=t13,outs:=[(.tuple #[.slice none 0 0,.slice none 0 0,fv (Z 0)],uI false false,smT),(.tuple #[xE,rZ,fv (Z 0)],uI true true,smT)] }
def dC:CSpec:={ j:=13,n:=2,tin:=t13,outs:=[(.tuple #[.slice none 0 0,.slice none 0 0,fv (Z 0)],uI false false,smT),(.tuple #[.slice none 0 0,rZ,fv (Z 0)],uI false true,smT)] }
def t4a:Tpl:={ m:=90,F:=[(0,nR),(1,U6)],H:=[(16,vM),(84,kN),(73,xB)],G:=[73] }
def t4o:Tpl:={ m:=90,F:=[(4,sB (x 29))],H:=[(73,xB)],G:=[73] }
def aP1(o:Bool):LSpec:={ j:=10,tin:=t4L o false,outs:=if o then [(.exit 0,t4X true false,[]),(.exit 0,t4X true true,[])] else [(.exit 0,t4X false false,[])] }
def lt4(o:Bool):Nat->Option LSpec:=fun n=>if n=10 then some (aP1 o) else none
def ct4(o:Bool):FuncId->Option CSpec:=fun f=>if f=12 then some fX else if f=13 then some (if o then dK else dC) else if f=11 then some asF else none
def aX2:Nat->Bool:=fun n=>Nat.beq n 3 || (Nat.beq n 6 || Nat.beq n 30)
def E4(o:Bool):Env:=EGL 4 (ct4 o) aX2 (fun _=>none) (lt4 o) (rG t4o 0) (fun _=>none)
def atS(o:Bool):Tre:=tre (E4 o) 4000 (body 4) [] [] t4a.frame t4a.heap
def nJ:Tpl:={ m:=90,F:=[(4,.slice none 0 0),(5,.slice none 0 0),(6,pt 83)],H:=[(83,aq5 (Z 0))],G:=[73] }
def mG:Value:=.tuple #[.slice none 0 0,.slice none 0 0,fv (Z 0)]
def aO6:Tpl:={ m:=90,F:=[(0,nR),(1,abI)],H:=[(16,vM),(73,xB)],G:=[73] }
def iG:CSpec:={ j:=13,n:=2,tin:=aO6,outs:=[(mG,nJ,[])] }
def aQJ:Env:=EG 13 (ctI 14 jX) (fun n=>Nat.beq n 1) (fun _=>none) (fun _=>none) (rG nJ 0) (fun _=>none)
def akT:Tre:=tre aQJ 2000 (body 13) [] [] aO6.frame aO6.heap
def t4n:Tpl:={ m:=90,F:=[(0,nR),(1,abI)],H:=[(16,vM),(73,xB)],G:=[73] }
def aP8:FuncId->Option CSpec:=fun f=>if f=12 then some fX else if f=13 then some iG else none
def E4n:Env:=EGL 4 aP8 aX2 (fun _=>none) (fun _=>none) (rG t4o 0) (fun _=>none)
def amT:Tre:=tre E4n 4000 (body 4) [] [] t4n.frame t4n.heap
def aaL:Tpl:={ m:=90,F:=[(0,abI),(1,U6)],H:=[(84,kN),(73,xB)],G:=[73] }
def S7:CSpec:={ j:=13,n:=2,tin:=aaL,outs:=[(mG,nJ,[])] }
def awT:Env:=EGZ 13 (ctI 14 lE) (fun n=>Nat.beq n 1) (rG nJ 0)
def atE:Tre:=tre awT 4000 (body 13) [] [] aaL.frame aaL.heap
def aTK:FuncId->Bool:=fun f=>Nat.ble 3 f&&(Nat.ble f 50 && !([13,14,28,40].contains f))
def acZ:yN:=rD Tryd.prog g0 puG aTK o6 20000 30
def aTI(f:Nat)(ct:FuncId->Option CSpec)(rc:Nat->Bool)(ft:AExit->Option (Nat × Tpl)):Env:={ EG f ct rc (fun _=>none) (fun _=>none) ft (fun _=>none) with call:=acZ,orc:=oY Tryd.prog puG g0 acZ (ntmps f) }
def E4z:Env:=aTI 4 (ctI 13 S7) (fun n=>Nat.beq n 6) (rG t4o 0)
def arE:Tre:=tre E4z 4000 (body 4) [] [] aaL.frame aaL.heap
def Y0:Tpl:={ m:=90,F:=[(0,abI),(1,abI)],H:=[(73,xB)],G:=[73] }
def Q5:CSpec:={ j:=13,n:=2,tin:=Y0,outs:=[(mG,nJ,[])] }
def aPC:Env:=EGZ 13 (ctI 14 lE) (fun n=>Nat.beq n 1) (rG nJ 0)
def aoT:Tre:=tre aPC 4000 (body 13) [] [] Y0.frame Y0.heap
def E4w:Env:=aTI 4 (ctI 13 Q5) (fun n=>Nat.beq n 6) (rG t4o 0)
def apB:Tre:=tre E4w 4000 (body 4) [] [] Y0.frame Y0.heap
abbrev auQ:SgT:=[bm 74,lm 17,im 72,im 18,bm 16,bm 73]
abbrev awI:SgT:=[bj 83 90,bm 73]
def jP:Tre:=(.call 14 90 91 (rgs jX.n jX.tin) (SgT.enc auQ) (List.map TB.enc []) (.cons (rgs 0 ad9++rgV (pt 0)) (lf 0 90 181 (rgs aQJ.n nJ) awI [])
 .nil))
theorem P9:akT=jP:=by kernel_rfl
abbrev ai1:List TB:=[(nl 2147483647 (v 18))]
abbrev aTW:=.var 174::nl 4096 (v 121)::ai1
abbrev M1:SgT:=[bm 74,(29,.btm (.lit true)),bm 73]
def cK:Tre:=(.fork (lf 0 90 90 (rgs E4n.n t4o) M1 [(.lt 2147483647 (v 18))])
 (.call 12 90 90 (rgs fX.n fX.tin) (SgT.enc auQ) (List.map TB.enc ai1) (.cons (rgs 0 T9++rgV (.tuple #[.slice none 0 0,sB (x 84)])) (.fork (lf 0 90 180 (rgs E4n.n t4o) M1 ((.not (.var 174))::ai1))
 (.call 13 90 180 (rgs iG.n iG.tin) (SgT.enc auQ) (List.map TB.enc ((.var 174)::ai1)) (.cons (rgs 0 nJ++rgV (mG)) (lf 0 90 271 (rgs E4n.n t4o) M1 ((.var 174)::ai1))
 .nil)))
 (.cons (rgs 0 aeS++rgV (.tuple #[wF,sB (x 84)])) (.fork (lf 0 90 180 (rgs E4n.n t4o) M1 ((.or (.not (.var 174)) (.lt 4096 (v 121)))::ai1))
 (.call 13 90 180 (rgs iG.n iG.tin) (SgT.enc auQ) (List.map TB.enc aTW) (.cons (rgs 0 nJ++rgV (mG)) (lf 0 90 271 (rgs E4n.n t4o) M1 aTW)
 .nil)))
 .nil))))
theorem acE:amT=cK:=by kernel_rfl
abbrev aUW:List TB:=[(.lt 0 (v 86))]
abbrev aP3:SgT:=[bm 74,bm 73]
def fR:Tre:=(.call 14 90 91 (rgs lE.n lE.tin) (SgT.enc aP3) (List.map TB.enc []) (.cons (rgs 0 U7++rgV (pt 0)) (.fork (nd 181 aUW ((.lt 0 (ln 85)))
 (lf 0 90 181 (rgs awT.n nJ) awI ((.lt 0 (ln 85))::aUW)))
 (lf 0 90 181 (rgs awT.n nJ) awI [(nl 0 (v 86))]))
 .nil))
theorem aaW:atE=fR:=by kernel_rfl
abbrev aSU:List TB:=[(nl 2147483647 (v 86))]
abbrev aYH:=nl 4096 (v 86)::aSU
def cV:Tre:=(.fork (lf 0 90 90 (rgs E4z.n t4o) M1 [(.lt 2147483647 (v 86))])
 (.fork (lf 0 90 90 (rgs E4z.n t4o) M1 ((.lt 4096 (v 86))::aSU))
 (.call 13 90 90 (rgs S7.n S7.tin) (SgT.enc [bm 74,nm 85,im 87,im 86,bm 84,bm 73]) (List.map TB.enc aYH) (.cons (rgs 0 nJ++rgV (mG)) (lf 0 90 181 (rgs E4z.n t4o) M1 aYH)
 .nil))))
theorem abT:arE=cV:=by kernel_rfl
def gX:Tre:=(.call 14 90 91 (rgs lE.n lE.tin) (SgT.enc aP3) (List.map TB.enc []) (.cons (rgs 0 U7++rgV (pt 0)) (lf 0 90 181 (rgs aPC.n nJ) awI [])
 .nil))
theorem Q8:aoT=gX:=by kernel_rfl
def bG:Tre:=(.call 13 90 90 (rgs Q5.n Q5.tin) (SgT.enc aP3) (List.map TB.enc []) (.cons (rgs 0 nJ++rgV (mG)) (lf 0 90 181 (rgs E4w.n t4o) M1 [])
 .nil))
theorem aeY:apB=bG:=by kernel_rfl
abbrev ag7:Code:=.loop qP
abbrev aSL:List TB:=[(nl 8192 (v 86))]
abbrev aUY:SgT:=[bm 74,lm 17,im 72,im 18,bm 16,bm 73]
abbrev aUK:SgT:=[nm 85,bm 74,lm 17,lj 4 95,lj 3 94,(71,.val (.pointer none)),(70,.val (.slice none 0 0)),(69,.val (.slice none 0 0)),(68,.val (.slice none 0 0)),(67,.val (.slice none 0 0)),(66,.val (.int .i64 0)),(64,.val (.slice none 0 0)),(63,.val (.bool false)),(62,.val (.slice none 0 0)),(61,.val (.int .i64 0)),(60,.val (.bool false)),(59,.val (.int .i64 0)),(58,.val (.int .i64 0)),(57,.val (.slice none 0 0)),(56,.val (.int .i64 0)),(55,.val (.bool false)),(54,.val (.bool false)),(53,.val (.int .i64 0)),(52,.val (.slice none 0 0)),(51,.val (.slice none 0 0)),(50,.val (.slice none 0 0)),(49,.val (.slice none 0 0)),(48,.val (.slice none 0 0)),(47,.val (.slice none 0 0)),ik 78 0,ik 45 0,ik 77 0,ik 9 0,ik 10 0,ik 7 0,ik 6 0,bj 2 93,ik 39 0,ik 8 0,ik 76 0,ik 75 0,bj 1 92,(11,.btm (.lit false)),ik 19 0,im 72,im 18,bm 16,(32,.val .nilIface),(30,.val (.int .i64 0)),(29,.val (.int .i64 0)),(28,.val (.int .i64 0)),(27,.val (.string ⟨#[]⟩)),(26,.val (.int .i64 0)),(25,.val (.int .i64 0)),(24,.val (.int .i64 0)),(23,.val (.int .i64 0)),(22,.val (.int .i64 0)),(21,.val (.string ⟨#[]⟩)),(20,.val (.int .i64 0)),ik 36 0,im 87,im 86,bm 84,bj 0 91,bj 83 90,bm 73]
def gY:Tre:=(.call 14 90 91 (rgs jX.n jX.tin) (SgT.enc aUY) (List.map TB.enc []) (.cons (rgs 0 ad9++rgV (pt 0)) (nd 181 [] ((nl 8192 (v 86)))
 (.loop 5 90 181 (rgs anS.n (amJ true).tin) ag7 (SgT.enc aUK) (List.map TB.enc aSL) (.cons (rgs anS.n (tZx false false)) (lf 0 90 90 (rgs anS.n (uI false false)) [nm 85,im 87,im 86,bm 84,bm 83,bm 73] [])
 .nil)))
 .nil))
theorem aaA:anZ=gY:=by kernel_rfl
def iH:Tre:=(.call 14 90 91 (rgs jX.n jX.tin) (SgT.enc aUY) (List.map TB.enc []) (.cons (rgs 0 ad9++rgV (pt 0)) (nd 181 [] ((nl 8192 (v 86)))
 (.loop 5 90 181 (rgs ad8.n (amJ false).tin) ag7 (SgT.enc aUK) (List.map TB.enc aSL) (.cons (rgs ad8.n (tZx false true)) (lf 0 90 90 (rgs ad8.n (uI false true)) [nm 89,nm 85,im 87,im 86,bm 84,bm 83,im 15,im 14,bm 88,bm 73] [])
 (.cons (rgs ad8.n (tZx true true)) (lf 1 90 90 (rgs ad8.n (uI true true)) [nm 89,lm 82,nm 85,im 87,im 86,bm 84,bm 83,im 15,im 14,bm 88,im 81,im 80,bm 79,bm 73] [])
 .nil))))
 .nil))
theorem aaZ:aqW=iH:=by kernel_rfl
abbrev axE:List TB:=[(.lt (v 36) (v 86))]
abbrev eF:=.lt (v 36) (ln 85)::axE
abbrev axJ:=.lt (v 166) (v 165)::eF
abbrev aT7:=.lt (v 166) (lb 93)::axJ
abbrev aNP:=.eq (sb 93 (v 166)) 0::aT7
abbrev aXE:=nq (sb 93 (v 166)) 0::aT7
abbrev O3:=.eq (sn 85 (v 36)) 0::aXE
abbrev aSK:=nq (sn 85 (v 36)) 0::aXE
abbrev Y7:=.eq (sn 85 (v 36)) 1::aSK
abbrev aWL:=nq (sn 85 (v 36)) 1::aSK
abbrev lL:=.eq (sn 85 (v 36)) 2::aWL
abbrev aHQ:=nq (sn 85 (v 36)) 2::aWL
abbrev oD:=.eq (sn 85 (v 36)) 3::aHQ
abbrev aEE:=nl 8192 (v 36+1)::oD
abbrev X0:=nq (sn 85 (v 36)) 3::aHQ
abbrev anH:List TB:=[(nl (v 36) (v 86))]
abbrev aNR:SgT:=[bm 0,bm 73]
abbrev aOR:SgT:=bm 74::lm 17::lm 4::lm 3::(ids (dn 71 6++dn 64 18)++((46,.val (rv 78 0 4194303))::(45,.val (rv 45 0 4194303))::(44,.val (rv 77 0 4194303))::im 9::im 10::im 7::im 6::bm 2::(39,.val (rv 39 0 8000000))::im 8::im 76::im 75::bm 1::(11,.btm (.var 11))::im 19::im 72::im 18::bm 16::(ids ([32]++dn 30 11)++(ik 12 2::aNR))))
abbrev eA:SgT:=[bm 83,bm 73]
abbrev aYR:SgT:=nm 85::im 87::im 86::bm 84::eA
abbrev eE:SgT:=bm 74::lj 3 93::(ids (dn 71 6++dn 64 18)++(im 78::im 45::im 77::(43,.val (rv 99 0 10000000))::(42,.val (rv 100 0 3))::(41,.val (rv 97 0 512))::(40,.val (.func (.yield 4) #[(.int .i64 2),(.int .i64 0),(.map (some 96)),(.int .i64 512)] #[]))::im 39::ij 8 98::ij 76 166::ij 75 165::bm 1::(35,.val (.func (.yield 1) #[(.map (some 101))] #[]))::(34,.val (rv 109 0 2000000))::(33,.val (.func (.yield 4) #[(.int .i64 16),(.int .i64 0),(.map (some 18)),(.map (some 72))] #[]))::(32,.idn)::(31,.val (.func (.func 47) #[] #[]))::(ids (dn 30 11)++aNR)))
abbrev aWR:SgT:=(88,.new 273)::bm 0::eA
abbrev aNE:SgT:=(89,.ntm (.app (.app (.one (v 257)) (.app (.one (v 225)) (.one (v 258)))) (.var 272)))::nm 85::bm 74::lm 17::lj 4 94::lj 3 93::(ids (dn 71 6++dn 64 18)++(ij 78 258::ij 45 225::ij 77 257::ij 9 99::ij 10 100::ij 7 97::ij 6 96::bm 2::ij 39 219::ij 8 188::ij 76 256::ij 75 165::bm 1::(11,.btm (.var 101))::ij 19 109::im 72::im 18::bm 16::(ids ([32]++dn 30 11)++((36,.itm (v 36+1))::im 87::im 86::bm 84::(15,.itm (.op .quo (ln 272) 3+1))::ik 14 1::aWR))))
abbrev aSI:SgT:=(88,.new 273)::ij 81 261::ij 80 260::bj 79 259::bm 0::eA
abbrev aX1:SgT:=(89,.ntm (.app (.app (.one (v 257)) (.app (.one (v 225)) (.one (v 258)))) (.var 272)))::lj 82 262::nm 85::bm 74::lm 17::lj 4 94::lj 3 93::(ids (dn 71 6++dn 64 18)++(ij 78 258::ij 45 225::ij 77 257::ij 9 99::ij 10 100::ij 7 97::ij 6 96::bm 2::ij 39 219::ij 8 188::ij 76 256::ij 75 165::bm 1::(11,.btm (.var 101))::ij 19 109::im 72::im 18::bm 16::(ids ([32]++dn 30 11)++((36,.itm (v 36+1))::im 87::im 86::bm 84::(15,.itm (.op .quo (ln 272) 3+1))::ik 14 1::aSI))))
abbrev aVA:SgT:=(88,.new 183)::bm 0::eA
def M8:Tre:=(.fork (nd 90 axE ((.lt (v 36) (ln 85)))
 (.call 17 90 90 (rgs (spC 17).n (spC 17).tin) (SgT.enc aOR) (List.map TB.enc eF) (.cons (rgs 0 tUo++rgV (.bool true)) (nd 180 eF ((.lt (v 166) (v 165)))
 (nd 180 axJ ((.lt (v 166) (lb 93)))
 (.fork (lf 2 90 180 (rgs (EZ false false).n (tZx false false)) aYR aNP)
 (.fork (.call 23 90 180 (rgs (spS 23).n (spS 23).tin) (SgT.enc eE) (List.map TB.enc O3) (.cons (rgs 0 tS0++rgV (.tuple #[])) (nd 274 O3 ((nl 8192 (v 36+1)))
 (lf 0 90 274 (rgs (EZ false false).n (tZ false true)) aNE ((nl 8192 (v 36+1))::O3)))
 .nil))
 (.fork (.call 24 90 180 (rgs (spS 24).n (spS 24).tin) (SgT.enc eE) (List.map TB.enc Y7) (.cons (rgs 0 tS0++rgV (.tuple #[])) (nd 274 Y7 ((nl 8192 (v 36+1)))
 (lf 0 90 274 (rgs (EZ false false).n (tZ false true)) aNE ((nl 8192 (v 36+1))::Y7)))
 .nil))
 (.fork (.call 20 90 180 (rgs (pC 20).n (pC 20).tin) (SgT.enc eE) (List.map TB.enc lL) (.cons (rgs 0 (tSo 4)++rgV xE) (nd 274 lL ((nl 8192 (v 36+1)))
 (lf 3 90 274 (rgs (EZ false false).n (tZ true true)) aX1 ((nl 8192 (v 36+1))::lL)))
 .nil))
 (.fork (.call 25 90 180 (rgs (pV 25).n (pV 25).tin) (SgT.enc eE) (List.map TB.enc oD) (.cons (rgs 0 (tSo 4)++rgV xE) (nd 274 oD ((nl 8192 (v 36+1)))
 (lf 3 90 274 (rgs (EZ false false).n (tZ true true)) aX1 aEE))
 (.cons (rgs 0 (tSn 4)++rgV (.slice none 0 0)) (nd 274 oD ((nl 8192 (v 36+1)))
 (lf 0 90 274 (rgs (EZ false false).n (tZ false true)) aNE aEE))
 .nil)))
 (nd 184 X0 ((nl 8192 (v 36+1)))
 (lf 0 90 184 (rgs (EZ false false).n (tZ false true)) ((89,.ntm (.app (.app (.one (v 77)) (.app (.one (v 45)) (.one (v 78)))) (.var 182)))::nm 85::bm 74::lm 17::lj 4 94::lj 3 93::(ids (dn 71 6++dn 64 18)++(im 78::im 45::im 77::ij 9 99::ij 10 100::ij 7 97::ij 6 96::bm 2::im 39::ij 8 98::ij 76 166::ij 75 165::bm 1::(11,.btm (.var 101))::ij 19 109::im 72::im 18::bm 16::(ids ([32]++dn 30 11)++((36,.itm (v 36+1))::im 87::im 86::bm 84::(15,.itm (.op .quo (ln 182) 3+1))::ik 14 1::aVA))))) ((nl 8192 (v 36+1))::X0))))))))))
 (.cons (rgs 0 tEw++rgV (.bool false)) (lf 1 90 185 (rgs (EZ false false).n tZe) eA eF)
 .nil))))
 (lf 2 90 90 (rgs (EZ false false).n (tZx false false)) aYR anH))
theorem ac8:au9 false false=M8:=by kernel_rfl
abbrev akA:=nl (ln 89) (v 15*3)::O3
abbrev akD:=nl 1099511627776 (v 14+1)::akA
abbrev ayX:=nl 8192 (v 36+1)::akD
abbrev akM:=nl (ln 89) (v 15*3)::Y7
abbrev aoW:=nl 1099511627776 (v 14+1)::akM
abbrev aEM:=nl 8192 (v 36+1)::aoW
abbrev auH:=nl (ln 89) (v 15*3)::lL
abbrev amA:=nl 1099511627776 (v 14+1)::auH
abbrev aJV:=nl 8192 (v 36+1)::amA
abbrev af6:=nl (ln 89) (v 15*3)::oD
abbrev ag1:=nl 1099511627776 (v 14+1)::af6
abbrev aj6:=nl 8192 (v 36+1)::ag1
abbrev arM:=nl (ln 89) (v 15*3)::X0
abbrev amQ:=nl 1099511627776 (v 14+1)::arM
abbrev aG8:=nl 8192 (v 36+1)::amQ
abbrev aGY:SgT:=nm 89::nm 85::im 87::im 86::bm 84::im 15::im 14::bm 88::eA
abbrev am8:SgT:=(89,.ntm (.app (.app (.sub (.var 89) 0 (v 14*3)) (.app (.one (v 257)) (.app (.one (v 225)) (.one (v 258))))) (.var 272)))::nm 85::bm 74::lm 17::lj 4 94::lj 3 93::(ids (dn 71 6++dn 64 18)++(ij 78 258::ij 45 225::ij 77 257::ij 9 99::ij 10 100::ij 7 97::ij 6 96::bm 2::ij 39 219::ij 8 188::ij 76 256::ij 75 165::bm 1::(11,.btm (.var 101))::ij 19 109::im 72::im 18::bm 16::(ids ([32]++dn 30 11)++((36,.itm (v 36+1))::im 87::im 86::bm 84::(15,.itm (v 14+1+.op .quo (ln 272) 3))::(14,.itm (v 14+1))::aWR))))
abbrev afP:SgT:=(89,.ntm (.app (.app (.sub (.var 89) 0 (v 14*3)) (.app (.one (v 257)) (.app (.one (v 225)) (.one (v 258))))) (.var 272)))::lj 82 262::nm 85::bm 74::lm 17::lj 4 94::lj 3 93::(ids (dn 71 6++dn 64 18)++(ij 78 258::ij 45 225::ij 77 257::ij 9 99::ij 10 100::ij 7 97::ij 6 96::bm 2::ij 39 219::ij 8 188::ij 76 256::ij 75 165::bm 1::(11,.btm (.var 101))::ij 19 109::im 72::im 18::bm 16::(ids ([32]++dn 30 11)++((36,.itm (v 36+1))::im 87::im 86::bm 84::(15,.itm (v 14+1+.op .quo (ln 272) 3))::(14,.itm (v 14+1))::aSI))))
def N7:Tre:=(.fork (nd 90 axE ((.lt (v 36) (ln 85)))
 (.call 17 90 90 (rgs (spC 17).n (spC 17).tin) (SgT.enc aOR) (List.map TB.enc eF) (.cons (rgs 0 tUo++rgV (.bool true)) (nd 180 eF ((.lt (v 166) (v 165)))
 (nd 180 axJ ((.lt (v 166) (lb 93)))
 (.fork (lf 2 90 180 (rgs (EZ false true).n (tZx false true)) aGY aNP)
 (.fork (.call 23 90 180 (rgs (spS 23).n (spS 23).tin) (SgT.enc eE) (List.map TB.enc O3) (.cons (rgs 0 tS0++rgV (.tuple #[])) (nd 270 O3 ((nl (ln 89) (v 15*3)))
 (nd 270 akA ((nl 1099511627776 (v 14+1)))
 (nd 274 akD ((nl 8192 (v 36+1)))
 (lf 0 90 274 (rgs (EZ false true).n (tZ false true)) am8 ayX))))
 .nil))
 (.fork (.call 24 90 180 (rgs (spS 24).n (spS 24).tin) (SgT.enc eE) (List.map TB.enc Y7) (.cons (rgs 0 tS0++rgV (.tuple #[])) (nd 270 Y7 ((nl (ln 89) (v 15*3)))
 (nd 270 akM ((nl 1099511627776 (v 14+1)))
 (nd 274 aoW ((nl 8192 (v 36+1)))
 (lf 0 90 274 (rgs (EZ false true).n (tZ false true)) am8 aEM))))
 .nil))
 (.fork (.call 20 90 180 (rgs (pC 20).n (pC 20).tin) (SgT.enc eE) (List.map TB.enc lL) (.cons (rgs 0 (tSo 4)++rgV xE) (nd 270 lL ((nl (ln 89) (v 15*3)))
 (nd 270 auH ((nl 1099511627776 (v 14+1)))
 (nd 274 amA ((nl 8192 (v 36+1)))
 (lf 3 90 274 (rgs (EZ false true).n (tZ true true)) afP aJV))))
 .nil))
 (.fork (.call 25 90 180 (rgs (pV 25).n (pV 25).tin) (SgT.enc eE) (List.map TB.enc oD) (.cons (rgs 0 (tSo 4)++rgV xE) (nd 270 oD ((nl (ln 89) (v 15*3)))
 (nd 270 af6 ((nl 1099511627776 (v 14+1)))
 (nd 274 ag1 ((nl 8192 (v 36+1)))
 (lf 3 90 274 (rgs (EZ false true).n (tZ true true)) afP aj6))))
 (.cons (rgs 0 (tSn 4)++rgV (.slice none 0 0)) (nd 270 oD ((nl (ln 89) (v 15*3)))
 (nd 270 af6 ((nl 1099511627776 (v 14+1)))
 (nd 274 ag1 ((nl 8192 (v 36+1)))
 (lf 0 90 274 (rgs (EZ false true).n (tZ false true)) am8 aj6))))
 .nil)))
 (nd 180 X0 ((nl (ln 89) (v 15*3)))
 (nd 180 arM ((nl 1099511627776 (v 14+1)))
 (nd 184 amQ ((nl 8192 (v 36+1)))
 (lf 0 90 184 (rgs (EZ false true).n (tZ false true)) ((89,.ntm (.app (.app (.sub (.var 89) 0 (v 14*3)) (.app (.one (v 77)) (.app (.one (v 45)) (.one (v 78))))) (.var 182)))::nm 85::bm 74::lm 17::lj 4 94::lj 3 93::(ids (dn 71 6++dn 64 18)++(im 78::im 45::im 77::ij 9 99::ij 10 100::ij 7 97::ij 6 96::bm 2::im 39::ij 8 98::ij 76 166::ij 75 165::bm 1::(11,.btm (.var 101))::ij 19 109::im 72::im 18::bm 16::(ids ([32]++dn 30 11)++((36,.itm (v 36+1))::im 87::im 86::bm 84::(15,.itm (v 14+1+.op .quo (ln 182) 3))::(14,.itm (v 14+1))::aVA))))) aG8)))))))))))
 (.cons (rgs 0 tEw++rgV (.bool false)) (lf 1 90 185 (rgs (EZ false true).n tZe) eA eF)
 .nil))))
 (lf 2 90 90 (rgs (EZ false true).n (tZx false true)) aGY anH))
theorem iL:au9 false true=N7:=by kernel_rfl
abbrev aDQ:SgT:=nm 89::lm 82::nm 85::im 87::im 86::bm 84::im 15::im 14::bm 88::im 81::im 80::bm 79::eA
abbrev azP:SgT:=im 81::im 80::bm 79::bm 0::eA
abbrev aI0:SgT:=(89,.ntm (.app (.app (.sub (.var 89) 0 (v 14*3)) (.app (.one (v 257)) (.app (.one (v 225)) (.one (v 258))))) (.var 272)))::lm 82::nm 85::bm 74::lm 17::lj 4 94::lj 3 93::(ids (dn 71 6++dn 64 18)++(ij 78 258::ij 45 225::ij 77 257::ij 9 99::ij 10 100::ij 7 97::ij 6 96::bm 2::ij 39 219::ij 8 188::ij 76 256::ij 75 165::bm 1::(11,.btm (.var 101))::ij 19 109::im 72::im 18::bm 16::(ids ([32]++dn 30 11)++((36,.itm (v 36+1))::im 87::im 86::bm 84::(15,.itm (v 14+1+.op .quo (ln 272) 3))::(14,.itm (v 14+1))::(88,.new 273)::azP))))
abbrev azK:SgT:=lm 82::bm 74::lj 3 93::(ids (dn 71 6++dn 64 18)++(im 78::im 45::im 77::(43,.val (rv 99 0 10000000))::(42,.val (rv 100 0 3))::(41,.val (rv 97 0 512))::(40,.val (.func (.yield 4) #[(.int .i64 2),(.int .i64 0),(.map (some 96)),(.int .i64 512)] #[]))::im 39::ij 8 98::ij 76 166::ij 75 165::bm 1::(35,.val (.func (.yield 1) #[(.map (some 101))] #[]))::(34,.val (rv 109 0 2000000))::(33,.val (.func (.yield 4) #[(.int .i64 16),(.int .i64 0),(.map (some 18)),(.map (some 72))] #[]))::(32,.idn)::(31,.val (.func (.func 47) #[] #[]))::(ids (dn 30 11)++(im 81::im 80::bm 79::aNR))))
def M5:Tre:=(.fork (nd 90 axE ((.lt (v 36) (ln 85)))
 (.call 17 90 90 (rgs (spC 17).n (spC 17).tin) (SgT.enc aOR) (List.map TB.enc eF) (.cons (rgs 0 tUo++rgV (.bool true)) (nd 180 eF ((.lt (v 166) (v 165)))
 (nd 180 axJ ((.lt (v 166) (lb 93)))
 (.fork (lf 2 90 180 (rgs (EZ true true).n (tZx true true)) aDQ aNP)
 (.fork (.call 23 90 180 (rgs (spS 23).n (spS 23).tin) (SgT.enc eE) (List.map TB.enc O3) (.cons (rgs 0 tS0++rgV (.tuple #[])) (nd 270 O3 ((nl (ln 89) (v 15*3)))
 (nd 270 akA ((nl 1099511627776 (v 14+1)))
 (nd 274 akD ((nl 8192 (v 36+1)))
 (lf 0 90 274 (rgs (EZ true true).n (tZ true true)) aI0 ayX))))
 .nil))
 (.fork (.call 24 90 180 (rgs (spS 24).n (spS 24).tin) (SgT.enc eE) (List.map TB.enc Y7) (.cons (rgs 0 tS0++rgV (.tuple #[])) (nd 270 Y7 ((nl (ln 89) (v 15*3)))
 (nd 270 akM ((nl 1099511627776 (v 14+1)))
 (nd 274 aoW ((nl 8192 (v 36+1)))
 (lf 0 90 274 (rgs (EZ true true).n (tZ true true)) aI0 aEM))))
 .nil))
 (.fork (.call 20 90 180 (rgs (oJ 20).n (oJ 20).tin) (SgT.enc azK) (List.map TB.enc lL) (.cons (rgs 0 (tSo 4)++rgV xE) (nd 270 lL ((nl (ln 89) (v 15*3)))
 (nd 270 auH ((nl 1099511627776 (v 14+1)))
 (nd 274 amA ((nl 8192 (v 36+1)))
 (lf 0 90 274 (rgs (EZ true true).n (tZ true true)) afP aJV))))
 .nil))
 (.fork (.call 25 90 180 (rgs (mN 25).n (mN 25).tin) (SgT.enc azK) (List.map TB.enc oD) (.cons (rgs 0 (tSo 4)++rgV xE) (nd 270 oD ((nl (ln 89) (v 15*3)))
 (nd 270 af6 ((nl 1099511627776 (v 14+1)))
 (nd 274 ag1 ((nl 8192 (v 36+1)))
 (lf 0 90 274 (rgs (EZ true true).n (tZ true true)) afP aj6))))
 .nil))
 (nd 180 X0 ((nl (ln 89) (v 15*3)))
 (nd 180 arM ((nl 1099511627776 (v 14+1)))
 (nd 184 amQ ((nl 8192 (v 36+1)))
 (lf 0 90 184 (rgs (EZ true true).n (tZ true true)) ((89,.ntm (.app (.app (.sub (.var 89) 0 (v 14*3)) (.app (.one (v 77)) (.app (.one (v 45)) (.one (v 78))))) (.var 182)))::lm 82::nm 85::bm 74::lm 17::lj 4 94::lj 3 93::(ids (dn 71 6++dn 64 18)++(im 78::im 45::im 77::ij 9 99::ij 10 100::ij 7 97::ij 6 96::bm 2::im 39::ij 8 98::ij 76 166::ij 75 165::bm 1::(11,.btm (.var 101))::ij 19 109::im 72::im 18::bm 16::(ids ([32]++dn 30 11)++((36,.itm (v 36+1))::im 87::im 86::bm 84::(15,.itm (v 14+1+.op .quo (ln 182) 3))::(14,.itm (v 14+1))::(88,.new 183)::azP))))) aG8)))))))))))
 (.cons (rgs 0 tEw++rgV (.bool false)) (lf 1 90 185 (rgs (EZ true true).n tZe) eA eF)
 .nil))))
 (lf 2 90 90 (rgs (EZ true true).n (tZx true true)) aDQ anH))
theorem fP:au9 true true=M5:=by kernel_rfl
def opQ:List Nat:=[20,21,22,23,24,25,26,27,28,29,30,32,47,48,49,50,51,52,53,54,55,56,57,58,59,60,61,62,63,64,66,67,68,69,70,71]
def kK:List Nat:=[20,21,22,23,24,25,26,27,28,29,30,32,47,48,49,50,51,52,53,54,55,56,57,58,59,60,61,62,63,64,66,67,68,69,70,71]
end U
