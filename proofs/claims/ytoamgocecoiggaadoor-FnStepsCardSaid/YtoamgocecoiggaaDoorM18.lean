-- the statement of this claim: see YtoamgocecoiggaaDoorRs
import Derived.Test.YtoamgocecoiggaaDoorM17
set_option linter.unusedVariables false
set_option linter.unusedSimpArgs false
set_option maxRecDepth 100000
noncomputable section
open Go Go.SM Go.Proofs
namespace U
abbrev aWZ:List TB:=[(nq (v 13) 9)]
abbrev aYK:=nq (v 13) 10::aWZ
abbrev aWT:=nq (v 13) 13::aYK
abbrev aRM:=.not (.and (nl (v 13) 32) (nl 126 (v 13)))::aWT
abbrev aRF:=nq (v 13) 133::aRM
abbrev aYG:=.not (.and (nl (v 13) 160) (nl 55295 (v 13)))::aRF
abbrev aRO:=.not (.and (nl (v 13) 57344) (nl 65533 (v 13)))::aYG
abbrev aQ7:SgT:=[bm 0,bm 73]
abbrev atM:SgT:=im 12::aQ7
abbrev gP:SgT:=im 5::atM
abbrev cQ:SgT:=bm 74::lm 17::lm 4::lm 3::(ids (dn 71 6++dn 64 21)++(im 9::im 10::im 7::im 6::bm 2::(39,.idn)::im 8::(37,.idn)::bm 1::(11,.btm (.var 11))::im 19::im 72::im 18::bm 16::(ids ([32]++dn 30 11)++(im 14::im 13::gP))))
abbrev v6:SgT:=bm 74::lm 17::lm 4::lm 3::(ids (dn 71 6++dn 64 21)++(im 9::im 10::im 7::im 6::bm 2::(39,.idn)::im 8::(37,.idn)::bm 1::(11,.btm (.var 11))::im 19::im 72::im 18::bm 16::(ids ([32]++dn 30 7)++aQ7)))
def amM:Tre:=(.fork (lf 0 90 90 (rgs (ntmps 42) tV) cQ [(.eq (v 13) 9)])
 (.fork (lf 0 90 90 (rgs (ntmps 42) tV) cQ ((.eq (v 13) 10)::aWZ))
 (.fork (lf 0 90 90 (rgs (ntmps 42) tV) cQ ((.eq (v 13) 13)::aYK))
 (.fork (lf 0 90 90 (rgs (ntmps 42) tV) cQ ((nl (v 13) 32)::(nl 126 (v 13))::aWT))
 (.fork (lf 0 90 90 (rgs (ntmps 42) tV) cQ ((.eq (v 13) 133)::aRM))
 (.fork (lf 0 90 90 (rgs (ntmps 42) tV) cQ ((nl (v 13) 160)::(nl 55295 (v 13))::aRF))
 (.fork (lf 0 90 90 (rgs (ntmps 42) tV) cQ ((nl (v 13) 57344)::(nl 65533 (v 13))::aYG))
 (.fork (lf 0 90 90 (rgs (ntmps 42) tV) cQ ((nl (v 13) 65536)::aRO))
 (lf 2 90 90 (rgs (ntmps 42) tE) v6 ((.lt (v 13) 65536)::aRO))))))))))
theorem auB:aVB=amM:=by kernel_rfl
abbrev aW9:List TB:=[(nq (v 7) (v 6))]
abbrev aV6:=nl (v 6-v 7) 0::aW9
abbrev aVQ:List TB:=[(nl 127 (v 13))]
abbrev aHO:=.lt (v 5) 1536::aVQ
abbrev aMY:=.lt (v 5) (lb 3)::aHO
abbrev aKM:=nl 1536 (v 5+1)::aMY
abbrev aLK:=nl 2000 (v 8+1)::aKM
abbrev aA6:=nl 512 (v 7+v 14)::aLK
abbrev aC2:List TB:=[(.lt 127 (v 13))]
abbrev aMO:=nl 2047 (v 13)::aC2
abbrev aKL:=.lt (v 5) 1536::aMO
abbrev aI4:=.lt (v 5) (lb 3)::aKL
abbrev aAN:=.lt (v 5+1) 1536::aI4
abbrev aAL:=.lt (v 5+1) (lb 3)::aAN
abbrev ayH:=nl 1536 (v 5+2)::aAL
abbrev aMX:=nl 2000 (v 8+1)::ayH
abbrev aHA:=nl 512 (v 7+v 14)::aMX
abbrev aE9:=.lt 2047 (v 13)::aC2
abbrev ayB:=nl 65535 (v 13)::aE9
abbrev aMV:=.lt (v 5) 1536::ayB
abbrev aLQ:=.lt (v 5) (lb 3)::aMV
abbrev aHZ:=.lt (v 5+1) 1536::aLQ
abbrev aB6:=.lt (v 5+1) (lb 3)::aHZ
abbrev aK2:=.lt (v 5+2) 1536::aB6
abbrev aE3:=.lt (v 5+2) (lb 3)::aK2
abbrev aLG:=nl 1536 (v 5+3)::aE3
abbrev aFD:=nl 2000 (v 8+1)::aLG
abbrev aMM:=nl 512 (v 7+v 14)::aFD
abbrev aME:=.lt 65535 (v 13)::aE9
abbrev aMQ:=.lt (v 5) 1536::aME
abbrev aAI:=.lt (v 5) (lb 3)::aMQ
abbrev aLV:=.lt (v 5+1) 1536::aAI
abbrev aK3:=.lt (v 5+1) (lb 3)::aLV
abbrev aJ4:=.lt (v 5+2) 1536::aK3
abbrev aKZ:=.lt (v 5+2) (lb 3)::aJ4
abbrev azC:=.lt (v 5+3) 1536::aKZ
abbrev aA9:=.lt (v 5+3) (lb 3)::azC
abbrev aBD:=nl 1536 (v 5+4)::aA9
abbrev aCM:=nl 2000 (v 8+1)::aBD
abbrev aI1:=nl 512 (v 7+v 14)::aCM
abbrev eG:SgT:=bm 74::lm 17::lm 4::lm 3::(ids (dn 71 6++dn 64 21)++(im 9::im 10::im 7::im 6::bm 2::(39,.idn)::im 8::(37,.idn)::bm 1::(11,.btm (.var 11))::im 19::im 72::im 18::bm 16::(ids ([32]++dn 30 11)++gP)))
def aNN:Tre:=(.fork (nd 90 aW9 ((nl (v 6-v 7) 0))
 (nd 90 aV6 ((nl 512 (v 6-v 7)))
 (.loop 4 90 90 (rgs (ntmps 42) sp4.tin) blk4 (SgT.enc (bm 74::lm 17::lm 4::lm 3::(ids (dn 71 6++dn 64 21)++(im 9::im 7::im 6::bm 2::(39,.idn)::im 8::(37,.idn)::bm 1::(11,.btm (.var 11))::im 19::im 72::im 18::bm 16::(ids ([32]++dn 30 11)++(im 10::(15,.itm (v 6-v 7))::gP)))))) (List.map TB.enc ((nl 512 (v 6-v 7))::aV6)) (.cons (rgs (ntmps 42) tV) (.loop 10 90 90 (rgs (ntmps 42) aiV.tin) V9 (SgT.enc cQ) (List.map TB.enc []) (.cons (rgs (ntmps 42) tV) (.fork (nd 90 aVQ ((.lt (v 5) 1536))
 (nd 90 aHO ((.lt (v 5) (lb 3)))
 (nd 90 aMY ((nl 1536 (v 5+1)))
 (nd 90 aKM ((nl 2000 (v 8+1)))
 (nd 90 aLK ((nl 512 (v 7+v 14)))
 (nd 90 aA6 ((nl 10000000 (v 9+v 14)))
 (lf 0 90 90 (rgs (ntmps 42) tA) (bm 74::lm 17::lm 4::(3,.ltm (.set (.var 3) (v 5) (.wrap .u8 (v 13))))::(ids (dn 71 6++dn 64 21)++((9,.itm (v 9+v 14))::im 10::(7,.itm (v 7+v 14))::im 6::bm 2::(39,.idn)::(8,.itm (v 8+1))::(37,.idn)::bm 1::(11,.btm (.var 11))::im 19::im 72::im 18::bm 16::(ids ([32]++dn 30 11)++((5,.itm (v 5+1))::atM))))) ((nl 10000000 (v 9+v 14))::aA6))))))))
 (.fork (nd 90 aMO ((.lt (v 5) 1536))
 (nd 90 aKL ((.lt (v 5) (lb 3)))
 (nd 90 aI4 ((.lt (v 5+1) 1536))
 (nd 90 aAN ((.lt (v 5+1) (lb 3)))
 (nd 90 aAL ((nl 1536 (v 5+2)))
 (nd 90 ayH ((nl 2000 (v 8+1)))
 (nd 90 aMX ((nl 512 (v 7+v 14)))
 (nd 90 aHA ((nl 10000000 (v 9+v 14)))
 (lf 0 90 90 (rgs (ntmps 42) tA) (bm 74::lm 17::lm 4::(3,.ltm (.set (.set (.var 3) (v 5) (.wrap .u8 (.op .shr (v 13) 6+192))) (v 5+1) (.op .and (v 13) 63+128)))::(ids (dn 71 6++dn 64 21)++((9,.itm (v 9+v 14))::im 10::(7,.itm (v 7+v 14))::im 6::bm 2::(39,.idn)::(8,.itm (v 8+1))::(37,.idn)::bm 1::(11,.btm (.var 11))::im 19::im 72::im 18::bm 16::(ids ([32]++dn 30 11)++((5,.itm (v 5+2))::atM))))) ((nl 10000000 (v 9+v 14))::aHA))))))))))
 (.fork (nd 90 ayB ((.lt (v 5) 1536))
 (nd 90 aMV ((.lt (v 5) (lb 3)))
 (nd 90 aLQ ((.lt (v 5+1) 1536))
 (nd 90 aHZ ((.lt (v 5+1) (lb 3)))
 (nd 90 aB6 ((.lt (v 5+2) 1536))
 (nd 90 aK2 ((.lt (v 5+2) (lb 3)))
 (nd 90 aE3 ((nl 1536 (v 5+3)))
 (nd 90 aLG ((nl 2000 (v 8+1)))
 (nd 90 aFD ((nl 512 (v 7+v 14)))
 (nd 90 aMM ((nl 10000000 (v 9+v 14)))
 (lf 0 90 90 (rgs (ntmps 42) tA) (bm 74::lm 17::lm 4::(3,.ltm (.set (.set (.set (.var 3) (v 5) (.wrap .u8 (.op .shr (v 13) 12+224))) (v 5+1) (.op .and (.op .shr (v 13) 6) 63+128)) (v 5+2) (.op .and (v 13) 63+128)))::(ids (dn 71 6++dn 64 21)++((9,.itm (v 9+v 14))::im 10::(7,.itm (v 7+v 14))::im 6::bm 2::(39,.idn)::(8,.itm (v 8+1))::(37,.idn)::bm 1::(11,.btm (.var 11))::im 19::im 72::im 18::bm 16::(ids ([32]++dn 30 11)++((5,.itm (v 5+3))::atM))))) ((nl 10000000 (v 9+v 14))::aMM))))))))))))
 (nd 90 aME ((.lt (v 5) 1536))
 (nd 90 aMQ ((.lt (v 5) (lb 3)))
 (nd 90 aAI ((.lt (v 5+1) 1536))
 (nd 90 aLV ((.lt (v 5+1) (lb 3)))
 (nd 90 aK3 ((.lt (v 5+2) 1536))
 (nd 90 aJ4 ((.lt (v 5+2) (lb 3)))
 (nd 90 aKZ ((.lt (v 5+3) 1536))
 (nd 90 azC ((.lt (v 5+3) (lb 3)))
 (nd 90 aA9 ((nl 1536 (v 5+4)))
 (nd 90 aBD ((nl 2000 (v 8+1)))
 (nd 90 aCM ((nl 512 (v 7+v 14)))
 (nd 90 aI1 ((nl 10000000 (v 9+v 14)))
 (lf 0 90 90 (rgs (ntmps 42) tA) (bm 74::lm 17::lm 4::(3,.ltm (.set (.set (.set (.set (.var 3) (v 5) (.op .shr (v 13) 18+240)) (v 5+1) (.op .and (.op .shr (v 13) 12) 63+128)) (v 5+2) (.op .and (.op .shr (v 13) 6) 63+128)) (v 5+3) (.op .and (v 13) 63+128)))::(ids (dn 71 6++dn 64 21)++((9,.itm (v 9+v 14))::im 10::(7,.itm (v 7+v 14))::im 6::bm 2::(39,.idn)::(8,.itm (v 8+1))::(37,.idn)::bm 1::(11,.btm (.var 11))::im 19::im 72::im 18::bm 16::(ids ([32]++dn 30 11)++((5,.itm (v 5+4))::atM))))) ((nl 10000000 (v 9+v 14))::aI1)))))))))))))))))
 (.cons (rgs (ntmps 42) tE) (lf 2 90 90 (rgs (ntmps 42) tE) v6 [])
 .nil)))
 (.cons (rgs (ntmps 42) tA) (lf 1 90 90 (rgs (ntmps 42) tA) eG [])
 (.cons (rgs (ntmps 42) tE) (lf 2 90 90 (rgs (ntmps 42) tE) v6 [])
 .nil))))))
 (lf 1 90 90 (rgs (ntmps 42) tA) eG [(.eq (v 7) (v 6))]))
theorem au5:aZ9=aNN:=by kernel_rfl
abbrev aIR:List TB:=[(.eq (v 10) 1)]
abbrev aMI:=.lt (v 7) (v 6)::aIR
abbrev aKJ:=.lt (v 7) (lb 4)::aMI
abbrev aG2:=.eq (.op .and (sb 4 (v 7)) 128) 0::aKJ
abbrev aBR:=.lt (v 15) 1::aG2
abbrev ax5:=nq (.op .and (sb 4 (v 7)) 128) 0::aKJ
abbrev aB7:=.eq (.op .and (sb 4 (v 7)) 224) 192::ax5
abbrev aJU:=.lt (v 15) 2::aB7
abbrev aC5:=nl (v 15) 2::aB7
abbrev aJC:=.lt (v 7+1) (v 6)::aC5
abbrev aAY:=.lt (v 7+1) (lb 4)::aJC
abbrev aKE:=.eq (.op .and (sb 4 (v 7+1)) 192) 128::aAY
abbrev azU:=nq (.op .and (sb 4 (v 7)) 224) 192::ax5
abbrev aHX:=.eq (.op .and (sb 4 (v 7)) 240) 224::azU
abbrev ayD:=.lt (v 15) 3::aHX
abbrev aLR:=nl (v 15) 3::aHX
abbrev aEL:=.lt (v 7+1) (v 6)::aLR
abbrev axM:=.lt (v 7+1) (lb 4)::aEL
abbrev aI8:=.eq (.op .and (sb 4 (v 7+1)) 192) 128::axM
abbrev ayK:=.lt (v 7+2) (v 6)::aI8
abbrev aM3:=.lt (v 7+2) (lb 4)::ayK
abbrev aHB:=.eq (.op .and (sb 4 (v 7+2)) 192) 128::aM3
abbrev aM7:=nl (.op .shl (.op .shl (.op .and (sb 4 (v 7)) 15) 6+.op .and (sb 4 (v 7+1)) 63) 6+.op .and (sb 4 (v 7+2)) 63) 2048::aHB
abbrev aGI:=nq (.op .and (sb 4 (v 7)) 240) 224::azU
abbrev aKI:=.eq (.op .and (sb 4 (v 7)) 248) 240::aGI
abbrev aCY:=.lt (v 15) 4::aKI
abbrev aA7:=nl (v 15) 4::aKI
abbrev aK7:=.lt (v 7+1) (v 6)::aA7
abbrev aAT:=.lt (v 7+1) (lb 4)::aK7
abbrev axU:=.eq (.op .and (sb 4 (v 7+1)) 192) 128::aAT
abbrev aEN:=.lt (v 7+2) (v 6)::axU
abbrev aDK:=.lt (v 7+2) (lb 4)::aEN
abbrev aM8:=.eq (.op .and (sb 4 (v 7+2)) 192) 128::aDK
abbrev ax9:=.lt (v 7+3) (v 6)::aM8
abbrev ayV:=.lt (v 7+3) (lb 4)::ax9
abbrev aHU:=.eq (.op .and (sb 4 (v 7+3)) 192) 128::ayV
abbrev aGL:=nl (.op .shl (.op .shl (.op .shl (.op .and (sb 4 (v 7)) 7) 6+.op .and (sb 4 (v 7+1)) 63) 6+.op .and (sb 4 (v 7+2)) 63) 6+.op .and (sb 4 (v 7+3)) 63) 65536::aHU
def apL:Tre:=(nd 90 aIR ((.lt (v 7) (v 6)))
 (nd 90 aMI ((.lt (v 7) (lb 4)))
 (.fork (.fork (.fork (lf 2 90 90 (rgs (ntmps 42) tE) v6 ((.var 11)::aBR))
 (lf 1 90 90 (rgs (ntmps 42) tA) eG ((.not (.var 11))::aBR)))
 (lf 0 90 90 (rgs (ntmps 42) tV) (bm 74::lm 17::lm 4::lm 3::(ids (dn 71 6++dn 64 21)++(im 9::im 10::im 7::im 6::bm 2::(39,.idn)::im 8::(37,.idn)::bm 1::(11,.btm (.var 11))::im 19::im 72::im 18::bm 16::(ids ([32]++dn 30 11)++(ik 14 1::(13,.itm (.op .and (sb 4 (v 7)) 127))::gP))))) ((nl (v 15) 1)::aG2)))
 (.fork (.fork (.fork (lf 2 90 90 (rgs (ntmps 42) tE) v6 ((.var 11)::aJU))
 (lf 1 90 90 (rgs (ntmps 42) tA) eG ((.not (.var 11))::aJU)))
 (nd 90 aC5 ((.lt (v 7+1) (v 6)))
 (nd 90 aJC ((.lt (v 7+1) (lb 4)))
 (.fork (lf 2 90 90 (rgs (ntmps 42) tE) v6 ((nq (.op .and (sb 4 (v 7+1)) 192) 128)::aAY))
 (.fork (lf 0 90 90 (rgs (ntmps 42) tV) (bm 74::lm 17::lm 4::lm 3::(ids (dn 71 6++dn 64 21)++(im 9::im 10::im 7::im 6::bm 2::(39,.idn)::im 8::(37,.idn)::bm 1::(11,.btm (.var 11))::im 19::im 72::im 18::bm 16::(ids ([32]++dn 30 11)++(ik 14 2::(13,.itm (.op .shl (.op .and (sb 4 (v 7)) 31) 6+.op .and (sb 4 (v 7+1)) 63))::gP))))) ((nl (.op .shl (.op .and (sb 4 (v 7)) 31) 6+.op .and (sb 4 (v 7+1)) 63) 128)::aKE))
 (lf 2 90 90 (rgs (ntmps 42) tE) v6 ((.lt (.op .shl (.op .and (sb 4 (v 7)) 31) 6+.op .and (sb 4 (v 7+1)) 63) 128)::aKE)))))))
 (.fork (.fork (.fork (lf 2 90 90 (rgs (ntmps 42) tE) v6 ((.var 11)::ayD))
 (lf 1 90 90 (rgs (ntmps 42) tA) eG ((.not (.var 11))::ayD)))
 (nd 90 aLR ((.lt (v 7+1) (v 6)))
 (nd 90 aEL ((.lt (v 7+1) (lb 4)))
 (.fork (lf 2 90 90 (rgs (ntmps 42) tE) v6 ((nq (.op .and (sb 4 (v 7+1)) 192) 128)::axM))
 (nd 90 aI8 ((.lt (v 7+2) (v 6)))
 (nd 90 ayK ((.lt (v 7+2) (lb 4)))
 (.fork (lf 2 90 90 (rgs (ntmps 42) tE) v6 ((nq (.op .and (sb 4 (v 7+2)) 192) 128)::aM3))
 (.fork (.fork (lf 2 90 90 (rgs (ntmps 42) tE) v6 ((nl (.op .shl (.op .shl (.op .and (sb 4 (v 7)) 15) 6+.op .and (sb 4 (v 7+1)) 63) 6+.op .and (sb 4 (v 7+2)) 63) 55296)::(nl 57343 (.op .shl (.op .shl (.op .and (sb 4 (v 7)) 15) 6+.op .and (sb 4 (v 7+1)) 63) 6+.op .and (sb 4 (v 7+2)) 63))::aM7))
 (lf 0 90 90 (rgs (ntmps 42) tV) (bm 74::lm 17::lm 4::lm 3::(ids (dn 71 6++dn 64 21)++(im 9::im 10::im 7::im 6::bm 2::(39,.idn)::im 8::(37,.idn)::bm 1::(11,.btm (.var 11))::im 19::im 72::im 18::bm 16::(ids ([32]++dn 30 11)++(ik 14 3::(13,.itm (.op .shl (.op .shl (.op .and (sb 4 (v 7)) 15) 6+.op .and (sb 4 (v 7+1)) 63) 6+.op .and (sb 4 (v 7+2)) 63))::gP))))) ((.not (.and (nl (.op .shl (.op .shl (.op .and (sb 4 (v 7)) 15) 6+.op .and (sb 4 (v 7+1)) 63) 6+.op .and (sb 4 (v 7+2)) 63) 55296) (nl 57343 (.op .shl (.op .shl (.op .and (sb 4 (v 7)) 15) 6+.op .and (sb 4 (v 7+1)) 63) 6+.op .and (sb 4 (v 7+2)) 63))))::aM7)))
 (lf 2 90 90 (rgs (ntmps 42) tE) v6 ((.lt (.op .shl (.op .shl (.op .and (sb 4 (v 7)) 15) 6+.op .and (sb 4 (v 7+1)) 63) 6+.op .and (sb 4 (v 7+2)) 63) 2048)::aHB))))))))))
 (.fork (.fork (.fork (lf 2 90 90 (rgs (ntmps 42) tE) v6 ((.var 11)::aCY))
 (lf 1 90 90 (rgs (ntmps 42) tA) eG ((.not (.var 11))::aCY)))
 (nd 90 aA7 ((.lt (v 7+1) (v 6)))
 (nd 90 aK7 ((.lt (v 7+1) (lb 4)))
 (.fork (lf 2 90 90 (rgs (ntmps 42) tE) v6 ((nq (.op .and (sb 4 (v 7+1)) 192) 128)::aAT))
 (nd 90 axU ((.lt (v 7+2) (v 6)))
 (nd 90 aEN ((.lt (v 7+2) (lb 4)))
 (.fork (lf 2 90 90 (rgs (ntmps 42) tE) v6 ((nq (.op .and (sb 4 (v 7+2)) 192) 128)::aDK))
 (nd 90 aM8 ((.lt (v 7+3) (v 6)))
 (nd 90 ax9 ((.lt (v 7+3) (lb 4)))
 (.fork (lf 2 90 90 (rgs (ntmps 42) tE) v6 ((nq (.op .and (sb 4 (v 7+3)) 192) 128)::ayV))
 (.fork (.fork (lf 2 90 90 (rgs (ntmps 42) tE) v6 ((.or (.and (nl (.op .shl (.op .shl (.op .shl (.op .and (sb 4 (v 7)) 7) 6+.op .and (sb 4 (v 7+1)) 63) 6+.op .and (sb 4 (v 7+2)) 63) 6+.op .and (sb 4 (v 7+3)) 63) 55296) (nl 57343 (.op .shl (.op .shl (.op .shl (.op .and (sb 4 (v 7)) 7) 6+.op .and (sb 4 (v 7+1)) 63) 6+.op .and (sb 4 (v 7+2)) 63) 6+.op .and (sb 4 (v 7+3)) 63))) (.lt 1114111 (.op .shl (.op .shl (.op .shl (.op .and (sb 4 (v 7)) 7) 6+.op .and (sb 4 (v 7+1)) 63) 6+.op .and (sb 4 (v 7+2)) 63) 6+.op .and (sb 4 (v 7+3)) 63)))::aGL))
 (lf 0 90 90 (rgs (ntmps 42) tV) (bm 74::lm 17::lm 4::lm 3::(ids (dn 71 6++dn 64 21)++(im 9::im 10::im 7::im 6::bm 2::(39,.idn)::im 8::(37,.idn)::bm 1::(11,.btm (.var 11))::im 19::im 72::im 18::bm 16::(ids ([32]++dn 30 11)++(ik 14 4::(13,.itm (.op .shl (.op .shl (.op .shl (.op .and (sb 4 (v 7)) 7) 6+.op .and (sb 4 (v 7+1)) 63) 6+.op .and (sb 4 (v 7+2)) 63) 6+.op .and (sb 4 (v 7+3)) 63))::gP))))) ((.not (.and (nl (.op .shl (.op .shl (.op .shl (.op .and (sb 4 (v 7)) 7) 6+.op .and (sb 4 (v 7+1)) 63) 6+.op .and (sb 4 (v 7+2)) 63) 6+.op .and (sb 4 (v 7+3)) 63) 55296) (nl 57343 (.op .shl (.op .shl (.op .shl (.op .and (sb 4 (v 7)) 7) 6+.op .and (sb 4 (v 7+1)) 63) 6+.op .and (sb 4 (v 7+2)) 63) 6+.op .and (sb 4 (v 7+3)) 63))))::(nl 1114111 (.op .shl (.op .shl (.op .shl (.op .and (sb 4 (v 7)) 7) 6+.op .and (sb 4 (v 7+1)) 63) 6+.op .and (sb 4 (v 7+2)) 63) 6+.op .and (sb 4 (v 7+3)) 63))::aGL)))
 (lf 2 90 90 (rgs (ntmps 42) tE) v6 ((.lt (.op .shl (.op .shl (.op .shl (.op .and (sb 4 (v 7)) 7) 6+.op .and (sb 4 (v 7+1)) 63) 6+.op .and (sb 4 (v 7+2)) 63) 6+.op .and (sb 4 (v 7+3)) 63) 65536)::aHU)))))))))))))
 (lf 2 90 90 (rgs (ntmps 42) tE) v6 ((nq (.op .and (sb 4 (v 7)) 248) 240)::aGI))))))))
theorem akR:auU fA1=apL:=by kernel_rfl
abbrev azA:List TB:=[(nq (v 10) 1),(.eq (v 10) 2)]
abbrev aB3:=.lt (v 15) 2::azA
abbrev aBH:=nl (v 15) 2::azA
abbrev aF8:=.lt (v 7) (v 6)::aBH
abbrev aEU:=.lt (v 7) (lb 4)::aF8
abbrev aH7:=.lt (v 7+1) (v 6)::aEU
abbrev aBP:=.lt (v 7+1) (lb 4)::aH7
abbrev axR:=nq (.op .and (sb 4 (v 7)+.op .shl (sb 4 (v 7+1)) 8) 64512) 56320::aBP
abbrev aHD:=.eq (.op .and (sb 4 (v 7)+.op .shl (sb 4 (v 7+1)) 8) 64512) 55296::axR
abbrev aIB:=.lt (v 15) 4::aHD
abbrev aHT:=nl (v 15) 4::aHD
abbrev aJT:=.lt (v 7+2) (v 6)::aHT
abbrev aJO:=.lt (v 7+2) (lb 4)::aJT
abbrev axL:=.lt (v 7+3) (v 6)::aJO
abbrev aFK:=.lt (v 7+3) (lb 4)::axL
def anQ:Tre:=(.fork (.fork (lf 2 90 90 (rgs (ntmps 42) tE) v6 ((.var 11)::aB3))
 (lf 1 90 90 (rgs (ntmps 42) tA) eG ((.not (.var 11))::aB3)))
 (nd 90 aBH ((.lt (v 7) (v 6)))
 (nd 90 aF8 ((.lt (v 7) (lb 4)))
 (nd 90 aEU ((.lt (v 7+1) (v 6)))
 (nd 90 aH7 ((.lt (v 7+1) (lb 4)))
 (.fork (lf 2 90 90 (rgs (ntmps 42) tE) v6 ((.eq (.op .and (sb 4 (v 7)+.op .shl (sb 4 (v 7+1)) 8) 64512) 56320)::aBP))
 (.fork (.fork (.fork (lf 2 90 90 (rgs (ntmps 42) tE) v6 ((.var 11)::aIB))
 (lf 1 90 90 (rgs (ntmps 42) tA) eG ((.not (.var 11))::aIB)))
 (nd 90 aHT ((.lt (v 7+2) (v 6)))
 (nd 90 aJT ((.lt (v 7+2) (lb 4)))
 (nd 90 aJO ((.lt (v 7+3) (v 6)))
 (nd 90 axL ((.lt (v 7+3) (lb 4)))
 (.fork (lf 2 90 90 (rgs (ntmps 42) tE) v6 ((nq (.op .and (sb 4 (v 7+2)+.op .shl (sb 4 (v 7+3)) 8) 64512) 56320)::aFK))
 (lf 0 90 90 (rgs (ntmps 42) tV) (bm 74::lm 17::lm 4::lm 3::(ids (dn 71 6++dn 64 21)++(im 9::im 10::im 7::im 6::bm 2::(39,.idn)::im 8::(37,.idn)::bm 1::(11,.btm (.var 11))::im 19::im 72::im 18::bm 16::(ids ([32]++dn 30 11)++(ik 14 4::(13,.itm (.op .shl (.op .and (sb 4 (v 7)+.op .shl (sb 4 (v 7+1)) 8) 1023) 10+65536+.op .and (sb 4 (v 7+2)+.op .shl (sb 4 (v 7+3)) 8) 1023))::gP))))) ((.eq (.op .and (sb 4 (v 7+2)+.op .shl (sb 4 (v 7+3)) 8) 64512) 56320)::aFK))))))))
 (lf 0 90 90 (rgs (ntmps 42) tV) (bm 74::lm 17::lm 4::lm 3::(ids (dn 71 6++dn 64 21)++(im 9::im 10::im 7::im 6::bm 2::(39,.idn)::im 8::(37,.idn)::bm 1::(11,.btm (.var 11))::im 19::im 72::im 18::bm 16::(ids ([32]++dn 30 11)++(ik 14 2::(13,.itm (sb 4 (v 7)+.op .shl (sb 4 (v 7+1)) 8))::gP))))) ((nq (.op .and (sb 4 (v 7)+.op .shl (sb 4 (v 7+1)) 8) 64512) 55296)::axR)))))))))
theorem ajN:auU fA2=anQ:=by kernel_rfl
abbrev aBT:List TB:=[(nq (v 10) 1),(nq (v 10) 2),(.eq (v 10) 3)]
abbrev asT:=.lt (v 15) 2::aBT
abbrev anL:=nl (v 15) 2::aBT
abbrev apV:=.lt (v 7+1) (v 6)::anL
abbrev asA:=.lt (v 7+1) (lb 4)::apV
abbrev arB:=.lt (v 7) (v 6)::asA
abbrev ak7:=.lt (v 7) (lb 4)::arB
abbrev atB:=nq (.op .and (sb 4 (v 7+1)+.op .shl (sb 4 (v 7)) 8) 64512) 56320::ak7
abbrev alS:=.eq (.op .and (sb 4 (v 7+1)+.op .shl (sb 4 (v 7)) 8) 64512) 55296::atB
abbrev alP:=.lt (v 15) 4::alS
abbrev arN:=nl (v 15) 4::alS
abbrev arP:=.lt (v 7+3) (v 6)::arN
abbrev apP:=.lt (v 7+3) (lb 4)::arP
abbrev ao5:=.lt (v 7+2) (v 6)::apP
abbrev alV:=.lt (v 7+2) (lb 4)::ao5
def ajQ:Tre:=(.fork (.fork (lf 2 90 90 (rgs (ntmps 42) tE) v6 ((.var 11)::asT))
 (lf 1 90 90 (rgs (ntmps 42) tA) eG ((.not (.var 11))::asT)))
 (nd 90 anL ((.lt (v 7+1) (v 6)))
 (nd 90 apV ((.lt (v 7+1) (lb 4)))
 (nd 90 asA ((.lt (v 7) (v 6)))
 (nd 90 arB ((.lt (v 7) (lb 4)))
 (.fork (lf 2 90 90 (rgs (ntmps 42) tE) v6 ((.eq (.op .and (sb 4 (v 7+1)+.op .shl (sb 4 (v 7)) 8) 64512) 56320)::ak7))
 (.fork (.fork (.fork (lf 2 90 90 (rgs (ntmps 42) tE) v6 ((.var 11)::alP))
 (lf 1 90 90 (rgs (ntmps 42) tA) eG ((.not (.var 11))::alP)))
 (nd 90 arN ((.lt (v 7+3) (v 6)))
 (nd 90 arP ((.lt (v 7+3) (lb 4)))
 (nd 90 apP ((.lt (v 7+2) (v 6)))
 (nd 90 ao5 ((.lt (v 7+2) (lb 4)))
 (.fork (lf 2 90 90 (rgs (ntmps 42) tE) v6 ((nq (.op .and (sb 4 (v 7+3)+.op .shl (sb 4 (v 7+2)) 8) 64512) 56320)::alV))
 (lf 0 90 90 (rgs (ntmps 42) tV) (bm 74::lm 17::lm 4::lm 3::(ids (dn 71 6++dn 64 21)++(im 9::im 10::im 7::im 6::bm 2::(39,.idn)::im 8::(37,.idn)::bm 1::(11,.btm (.var 11))::im 19::im 72::im 18::bm 16::(ids ([32]++dn 30 11)++(ik 14 4::(13,.itm (.op .shl (.op .and (sb 4 (v 7+1)+.op .shl (sb 4 (v 7)) 8) 1023) 10+65536+.op .and (sb 4 (v 7+3)+.op .shl (sb 4 (v 7+2)) 8) 1023))::gP))))) ((.eq (.op .and (sb 4 (v 7+3)+.op .shl (sb 4 (v 7+2)) 8) 64512) 56320)::alV))))))))
 (lf 0 90 90 (rgs (ntmps 42) tV) (bm 74::lm 17::lm 4::lm 3::(ids (dn 71 6++dn 64 21)++(im 9::im 10::im 7::im 6::bm 2::(39,.idn)::im 8::(37,.idn)::bm 1::(11,.btm (.var 11))::im 19::im 72::im 18::bm 16::(ids ([32]++dn 30 11)++(ik 14 2::(13,.itm (sb 4 (v 7+1)+.op .shl (sb 4 (v 7)) 8))::gP))))) ((nq (.op .and (sb 4 (v 7+1)+.op .shl (sb 4 (v 7)) 8) 64512) 55296)::atB)))))))))
theorem ak9:auU fA3=ajQ:=by kernel_rfl
theorem aZW:lF Tryd.prog pu0 okU:=rC (by kernel_rfl)
theorem zQ:vJ Tryd.prog:=anY (by kernel_rfl)
theorem follows:Tryd.prog.follows .mixedOrders=true:=by kernel_rfl
theorem qB:xH Tryd.prog { g:=g0,A:=[],pu:=pu0 } abA:=wY zQ follows aZW (tJ _ _) 5
def opA:List Nat:=(List.range 52).filterMap fun i=>if [15,20,21,18,22,23,16,45,11,13,14].contains i then none else some (20+i)
structure Fx(V V1:Ren):Prop where
 h0:V1[0]?=V[0]?
 h1:V1[1]?=V[1]?
 h2:V1[2]?=V[2]?
 l4:gL V1 4=gL V 4
 i6:gI V1 6=gI V 6
 i10:gI V1 10=gI V 10
 i12:gI V1 12=gI V 12
 b11:gB V1 11=gB V 11
 h16:V1[16]?=V[16]?
 h73:V1[73]?=V[73]?
 h74:V1[74]?=V[74]?
 l17:gL V1 17=gL V 17
 i18:gI V1 18=gI V 18
 i19:gI V1 19=gI V 19
 i72:gI V1 72=gI V 72
 op:∀ i∈opA,gV V1 i=gV V i
structure Sm(V V1:Ren):Prop extends Fx V V1 where
 l3:gL V1 3=gL V 3
 i5:gI V1 5=gI V 5
 i7:gI V1 7=gI V 7
 i8:gI V1 8=gI V 8
 i9:gI V1 9=gI V 9
def Prn(v:Int):Prop:=v=9\/v=10\/v=13\/(32<=v/\v<=126)\/v=133\/(160<=v/\v<=55295)\/(57344<=v/\v<=65533)\/(65536<=v/\v<=1114111)
structure RA(V:Ren):Prop where
 i12:0<=gI V 12/\gI V 12<=100
 i5:0<=gI V 5/\gI V 5<=1536
 i8:0<=gI V 8/\gI V 8<=2000
 i6:0<=gI V 6/\gI V 6<=512
 i7:0<=gI V 7/\gI V 7<=512
 i10:1<=gI V 10/\gI V 10<=3
 i9:0<=gI V 9/\gI V 9<=10000000
 i18:0<=gI V 18/\gI V 18<=gI V 72
 i19:0<=gI V 19/\gI V 19<=2000000
def Er(V V1:Ren):Prop:=V1[0]?=V[0]?/\V1[73]?=V[73]?
def Ln(V:Ren):Prop:=V.length=90/\wV g0 V
structure RV(V:Ren):Prop extends RA V where
 i13:0<=gI V 13/\gI V 13<=1114111
 i14:1<=gI V 14/\gI V 14<=4
def vO(i:Nat)(a b:Int):List TB:=[.le (.lit a) (.var i),.le (.var i) (.lit b)]
def kY:List TB:=[.le (.lit 0) (.lit 0),.le (.lit 0) (.lit 1536),.le (.lit 1536) (.lit 1536)]
def d6:List TB:=[.le (.lit 0) (.lit 0),.le (.lit 0) (.var 18),.le (.var 18) (.var 72)]++(vO 19 0 2000000++kY)++(vO 8 0 2000++([.le (.lit 0) (.lit 0)]++(vO 6 0 512++(vO 7 0 512++(vO 10 1 3++vO 9 0 10000000)))))
theorem aVX:rgs (ntmps 42) tA=vO 12 0 100++(vO 5 0 1536++d6):=by kernel_rfl
theorem aRQ:rgs (ntmps 42) tV=vO 12 0 100++(vO 5 0 1536++(vO 13 0 1114111++(vO 14 1 4++d6))):=by kernel_rfl
theorem aUZ:rgs (ntmps 42) sp4.tin=vO 12 0 100++(vO 5 0 1536++(vO 15 0 512++(vO 10 1 3++d6))):=by kernel_rfl
theorem aWG{V:Ren}(h:zF V (rgs (ntmps 42) sp4.tin)):RA V:=by
 rw[aUZ]at h;simp only[vO,d6,kY,List.cons_append,List.nil_append,zF,TB.P,xW,xT]at h;obtain⟨a1,a2,a3,a4,_,_,_,_,_,c1,c2,c3,c4,_,_,_,a5,a6,_,a7,a8,a9,a10,a11,a12,a13,a14,_⟩:=h;exact⟨⟨a1,a2⟩,⟨a3,a4⟩,⟨a5,a6⟩,⟨a7,a8⟩,⟨a9,a10⟩,⟨a11,a12⟩,⟨a13,a14⟩,⟨c1,c2⟩,⟨c3,c4⟩⟩
theorem xZ{V:Ren}(h:zF V (rgs (ntmps 42) tA)):RA V:=by
 rw[aVX]at h;simp only[vO,d6,kY,List.cons_append,List.nil_append,zF,TB.P,xW,xT]at h;obtain⟨a1,a2,a3,a4,_,c1,c2,c3,c4,_,_,_,a5,a6,_,a7,a8,a9,a10,a11,a12,a13,a14,_⟩:=h;exact⟨⟨a1,a2⟩,⟨a3,a4⟩,⟨a5,a6⟩,⟨a7,a8⟩,⟨a9,a10⟩,⟨a11,a12⟩,⟨a13,a14⟩,⟨c1,c2⟩,⟨c3,c4⟩⟩
theorem azX{V:Ren}(h:zF V (rgs (ntmps 42) tV)):RV V:=by
 rw[aRQ]at h;simp only[vO,d6,kY,List.cons_append,List.nil_append,zF,TB.P,xW,xT]at h;obtain⟨a1,a2,a3,a4,b1,b2,b3,b4,_,c1,c2,c3,c4,_,_,_,a5,a6,_,a7,a8,a9,a10,a11,a12,a13,a14,_⟩:=h;exact⟨⟨⟨a1,a2⟩,⟨a3,a4⟩,⟨a5,a6⟩,⟨a7,a8⟩,⟨a9,a10⟩,⟨a11,a12⟩,⟨a13,a14⟩,⟨c1,c2⟩,⟨c3,c4⟩⟩,⟨b1,b2⟩,⟨b3,b4⟩⟩
def G10(V:Ren):Goal where
 J:=fun j V1=>match j with
  |0=>Sm V V1/\gI V1 13=gI V 13/\gI V1 14=gI V 14/\Prn (gI V 13)
  |2=>Er V V1/\¬ Prn (gI V 13)
  |_=>False
 L:=fun _ _=>False
 O:=fun _ _ _ _=>False
 W:=fun _ _=>False
inductive Dc where
 |ok (v w:Int)
 |more
 |bad
abbrev ia(a b:Int):Int:=IOp.fn .and a b
abbrev sl(a b:Int):Int:=IOp.fn .shl a b
def yE(n:Int)(b:Int->Int):Dc :=
 if ia (b 0) 128=0 then if n<1 then .more else .ok (ia (b 0) 127) 1
 else if ia (b 0) 224=192 then
  if n<2 then .more
  else if ia (b 1) 192=128 then if sl (ia (b 0) 31) 6+ia (b 1) 63<128 then .bad else .ok (sl (ia (b 0) 31) 6+ia (b 1) 63) 2
  else .bad
 else if ia (b 0) 240=224 then
  if n<3 then .more
  else if ia (b 1) 192=128 then
   if ia (b 2) 192=128 then
    if sl (sl (ia (b 0) 15) 6+ia (b 1) 63) 6+ia (b 2) 63<2048 then .bad
    else if ¬ sl (sl (ia (b 0) 15) 6+ia (b 1) 63) 6+ia (b 2) 63<55296/\¬ 57343<sl (sl (ia (b 0) 15) 6+ia (b 1) 63) 6+ia (b 2) 63 then .bad
    else .ok (sl (sl (ia (b 0) 15) 6+ia (b 1) 63) 6+ia (b 2) 63) 3
   else .bad
  else .bad
 else if ia (b 0) 248=240 then
  if n<4 then .more
  else if ia (b 1) 192=128 then
   if ia (b 2) 192=128 then
    if ia (b 3) 192=128 then
     if sl (sl (sl (ia (b 0) 7) 6+ia (b 1) 63) 6+ia (b 2) 63) 6+ia (b 3) 63<65536 then .bad
     else if (¬ sl (sl (sl (ia (b 0) 7) 6+ia (b 1) 63) 6+ia (b 2) 63) 6+ia (b 3) 63<55296/\¬ 57343<sl (sl (sl (ia (b 0) 7) 6+ia (b 1) 63) 6+ia (b 2) 63) 6+ia (b 3) 63)\/1114111<sl (sl (sl (ia (b 0) 7) 6+ia (b 1) 63) 6+ia (b 2) 63) 6+ia (b 3) 63 then .bad
     else .ok (sl (sl (sl (ia (b 0) 7) 6+ia (b 1) 63) 6+ia (b 2) 63) 6+ia (b 3) 63) 4
    else .bad
   else .bad
  else .bad
 else .bad
def zW(n u v:Int):Dc :=
 if n<2 then .more
 else if ia u 64512=56320 then .bad
 else if ia u 64512=55296 then
  if n<4 then .more
  else if ia v 64512=56320 then .ok (sl (ia u 1023) 10+65536+ia v 1023) 4 else .bad
 else .ok u 2
def dcd(e n:Int)(b:Int->Int):Dc :=
 if e=1 then yE n b else if e=2 then zW n (b 0+sl (b 1) 8) (b 2+sl (b 3) 8) else zW n (b 1+sl (b 0) 8) (b 3+sl (b 2) 8)
def rb(V:Ren)(k:Int):Int:=(((gL V 4).getD (gI V 7+k).toNat 0).toNat:Int)
def dcs(V:Ren):Dc:=dcd (gI V 10) (gI V 15) (rb V)
def G4(V:Ren):Goal where
 J:=fun j V1=>match j with
  |0=>Sm V V1/\dcs V=.ok (gI V1 13) (gI V1 14)
  |1=>Sm V V1/\dcs V=.more/\gB V 11=false
  |2=>Er V V1/\(dcs V=.bad\/dcs V=.more/\gB V 11=true)
  |_=>False
 L:=fun _ _=>False
 O:=fun _ _ _ _=>False
 W:=fun _ _=>False
theorem rb0(V:Ren):(((gL V 4).getD (gI V 7).toNat 0).toNat:Int)=rb V 0:=by unfold rb;rw[Int.add_zero]
theorem rbk(V:Ren)(k:Int):(((gL V 4).getD (gI V 7+k).toNat 0).toNat:Int)=rb V k:=rfl
theorem zA(a b:Int):IOp.fn .add a b=a+b:=rfl
theorem fn_sub(a b:Int):IOp.fn .sub a b=a-b:=rfl
structure Look(V:Ren):Prop where
 n:gI V 15=gI V 6-gI V 7
 lt:gI V 7<gI V 6
 len:(gL V 4).length=512
set_option maxHeartbeats 0
theorem aOA{V:Ren}(hβ:V.length=90)(hv:RA V)(hL:Look V):apL.Holds (G4 V) V:=by
 unfold apL;obtain⟨r12,r5,r8,r6,r7,r10,r9,r18,r19⟩:=hv;obtain⟨ln,ll,lr⟩:=hL;refine (nO hβ ?_ (nO hβ ?_ (fO (fO (fO (lO [] hβ ?_) (lO opA hβ ?_)) (lO opA hβ ?_)) (fO (fO (fO (lO [] hβ ?_) (lO opA hβ ?_)) (nO hβ ?_ (nO hβ ?_ (fO (lO [] hβ ?_) (fO (lO opA hβ ?_) (lO [] hβ ?_)))))) (fO (fO (fO (lO [] hβ ?_) (lO opA hβ ?_)) (nO hβ ?_ (nO hβ ?_ (fO (lO [] hβ ?_) (nO hβ ?_ (nO hβ ?_ (fO (lO [] hβ ?_) (fO (fO (lO [] hβ ?_) (lO opA hβ ?_)) (lO [] hβ ?_))))))))) (fO (fO (fO (lO [] hβ ?_) (lO opA hβ ?_)) (nO hβ ?_ (nO hβ ?_ (fO (lO [] hβ ?_) (nO hβ ?_ (nO hβ ?_ (fO (lO [] hβ ?_) (nO hβ ?_ (nO hβ ?_ (fO (lO [] hβ ?_) (fO (fO (lO [] hβ ?_) (lO opA hβ ?_)) (lO [] hβ ?_)))))))))))) (lO [] hβ ?_)))))));iterate 2 (focus (intro hA;simp only[DD]at hA ⊢;omega))
 .intro J0 hl0 hA hr0 hid0 hI;simp only[DD]at hA hI;obtain⟨a0,a1,a2,a3,a4,a5⟩:=hA;obtain⟨_,_,_,_,_,_,_,_,_,_,_,_,_,_,_,_,i0,i73⟩:=hI;try simp only[zA,fn_sub,rb0,rbk]at a0 a1 a2 a3 a4 a5
  refine⟨⟨i0,i73⟩,.inr ⟨?_,a0⟩⟩;simp[dcs,dcd,yE,zW,zA,a0,a1,a2,a3,a4,a5]<;>(simp only[sl,ia];omega)
 .intro J0 hl0 hA hr0 hid0 hI;simp only[DD]at hA hI;obtain⟨a0,a1,a2,a3,a4,a5⟩:=hA;obtain⟨i74,i17,i4,i3,i9,i10,i7,i6,i2,i8,i1,i11,i19,i72,i18,i16,i5,i12,i0,i73⟩:=hI;try simp only[zA,fn_sub,rb0,rbk]at a0 a1 a2 a3 a4 a5
  refine⟨⟨⟨i0,i1,i2,i4,i6,i10,i12,Bool.eq_iff_iff.2 i11,i16,i73,i74,i17,i18,i19,i72,hid0⟩,i3,i5,i7,i8,i9⟩,?_,by simpa using a0⟩;simp[dcs,dcd,yE,zW,zA,a0,a1,a2,a3,a4,a5]<;>(simp only[sl,ia];omega)
 .intro J0 hl0 hA hr0 hid0 hI;simp only[DD]at hA hI;obtain⟨a0,a1,a2,a3,a4⟩:=hA;obtain⟨i74,i17,i4,i3,i9,i10,i7,i6,i2,i8,i1,i11,i19,i72,i18,i16,i14,i13,i5,i12,i0,i73⟩:=hI;try simp only[zA,rb0,rbk]at a0 a1 a2 a3 a4 i13 i14
  refine⟨⟨⟨i0,i1,i2,i4,i6,i10,i12,Bool.eq_iff_iff.2 i11,i16,i73,i74,i17,i18,i19,i72,hid0⟩,i3,i5,i7,i8,i9⟩,?_⟩;rw[i13,i14];simp[dcs,dcd,yE,zW,zA,a0,a1,a2,a3,a4]<;>(simp only[sl,ia];omega)
 .intro J0 hl0 hA hr0 hid0 hI;simp only[DD]at hA hI;obtain⟨a0,a1,a2,a3,a4,a5,a6⟩:=hA;obtain⟨_,_,_,_,_,_,_,_,_,_,_,_,_,_,_,_,i0,i73⟩:=hI;try simp only[zA,fn_sub,rb0,rbk]at a0 a1 a2 a3 a4 a5 a6
  refine⟨⟨i0,i73⟩,.inr ⟨?_,a0⟩⟩;simp[dcs,dcd,yE,zW,zA,a0,a1,a2,a3,a4,a5,a6]<;>(simp only[sl,ia];omega)
 .intro J0 hl0 hA hr0 hid0 hI;simp only[DD]at hA hI;obtain⟨a0,a1,a2,a3,a4,a5,a6⟩:=hA;obtain⟨i74,i17,i4,i3,i9,i10,i7,i6,i2,i8,i1,i11,i19,i72,i18,i16,i5,i12,i0,i73⟩:=hI;try simp only[zA,fn_sub,rb0,rbk]at a0 a1 a2 a3 a4 a5 a6
  refine⟨⟨⟨i0,i1,i2,i4,i6,i10,i12,Bool.eq_iff_iff.2 i11,i16,i73,i74,i17,i18,i19,i72,hid0⟩,i3,i5,i7,i8,i9⟩,?_,by simpa using a0⟩;simp[dcs,dcd,yE,zW,zA,a0,a1,a2,a3,a4,a5,a6]<;>(simp only[sl,ia];omega)
 iterate 2 (focus (intro hA;simp only[DD]at hA ⊢;omega))
 .intro J0 hl0 hA hr0 hid0 hI;simp only[DD]at hA hI;obtain⟨a0,a1,a2,a3,a4,a5,a6,a7,a8⟩:=hA;obtain⟨_,_,_,_,_,_,_,_,_,_,_,_,_,_,_,_,i0,i73⟩:=hI;try simp only[zA,fn_sub,rb0,rbk]at a0 a1 a2 a3 a4 a5 a6 a7 a8
  refine⟨⟨i0,i73⟩,.inl ?_⟩;simp[dcs,dcd,yE,zW,zA,a0,a1,a2,a3,a4,a5,a6,a7,a8]<;>(simp only[sl,ia];omega)
 .intro J0 hl0 hA hr0 hid0 hI;simp only[DD]at hA hI;obtain⟨a0,a1,a2,a3,a4,a5,a6,a7,a8,a9⟩:=hA;obtain⟨i74,i17,i4,i3,i9,i10,i7,i6,i2,i8,i1,i11,i19,i72,i18,i16,i14,i13,i5,i12,i0,i73⟩:=hI;try simp only[zA,rb0,rbk]at a0 a1 a2 a3 a4 a5 a6 a7 a8 a9 i13 i14
  refine⟨⟨⟨i0,i1,i2,i4,i6,i10,i12,Bool.eq_iff_iff.2 i11,i16,i73,i74,i17,i18,i19,i72,hid0⟩,i3,i5,i7,i8,i9⟩,?_⟩;rw[i13,i14];simp[dcs,dcd,yE,zW,zA,a0,a1,a2,a3,a4,a5,a6,a7,a8,a9]<;>(simp only[sl,ia];omega)
 .intro J0 hl0 hA hr0 hid0 hI;simp only[DD]at hA hI;obtain⟨a0,a1,a2,a3,a4,a5,a6,a7,a8,a9⟩:=hA;obtain⟨_,_,_,_,_,_,_,_,_,_,_,_,_,_,_,_,i0,i73⟩:=hI;try simp only[zA,fn_sub,rb0,rbk]at a0 a1 a2 a3 a4 a5 a6 a7 a8 a9
  refine⟨⟨i0,i73⟩,.inl ?_⟩;simp[dcs,dcd,yE,zW,zA,a0,a1,a2,a3,a4,a5,a6,a7,a8,a9]<;>(simp only[sl,ia];omega)
 .intro J0 hl0 hA hr0 hid0 hI;simp only[DD]at hA hI;obtain⟨a0,a1,a2,a3,a4,a5,a6,a7⟩:=hA;obtain⟨_,_,_,_,_,_,_,_,_,_,_,_,_,_,_,_,i0,i73⟩:=hI;try simp only[zA,fn_sub,rb0,rbk]at a0 a1 a2 a3 a4 a5 a6 a7
  refine⟨⟨i0,i73⟩,.inr ⟨?_,a0⟩⟩;simp[dcs,dcd,yE,zW,zA,a0,a1,a2,a3,a4,a5,a6,a7]<;>(simp only[sl,ia];omega)
 .intro J0 hl0 hA hr0 hid0 hI;simp only[DD]at hA hI;obtain⟨a0,a1,a2,a3,a4,a5,a6,a7⟩:=hA;obtain⟨i74,i17,i4,i3,i9,i10,i7,i6,i2,i8,i1,i11,i19,i72,i18,i16,i5,i12,i0,i73⟩:=hI;try simp only[zA,fn_sub,rb0,rbk]at a0 a1 a2 a3 a4 a5 a6 a7
  refine⟨⟨⟨i0,i1,i2,i4,i6,i10,i12,Bool.eq_iff_iff.2 i11,i16,i73,i74,i17,i18,i19,i72,hid0⟩,i3,i5,i7,i8,i9⟩,?_,by simpa using a0⟩;simp[dcs,dcd,yE,zW,zA,a0,a1,a2,a3,a4,a5,a6,a7]<;>(simp only[sl,ia];omega)
 iterate 2 (focus (intro hA;simp only[DD]at hA ⊢;omega))
 .intro J0 hl0 hA hr0 hid0 hI;simp only[DD]at hA hI;obtain⟨a0,a1,a2,a3,a4,a5,a6,a7,a8,a9⟩:=hA;obtain⟨_,_,_,_,_,_,_,_,_,_,_,_,_,_,_,_,i0,i73⟩:=hI;try simp only[zA,fn_sub,rb0,rbk]at a0 a1 a2 a3 a4 a5 a6 a7 a8 a9
  refine⟨⟨i0,i73⟩,.inl ?_⟩;simp[dcs,dcd,yE,zW,zA,a0,a1,a2,a3,a4,a5,a6,a7,a8,a9]<;>(simp only[sl,ia];omega)
 iterate 2 (focus (intro hA;simp only[DD]at hA ⊢;omega))
 .intro J0 hl0 hA hr0 hid0 hI;simp only[DD]at hA hI;obtain⟨a0,a1,a2,a3,a4,a5,a6,a7,a8,a9,a10,a11,a12⟩:=hA;obtain⟨_,_,_,_,_,_,_,_,_,_,_,_,_,_,_,_,i0,i73⟩:=hI;try simp only[zA,fn_sub,rb0,rbk]at a0 a1 a2 a3 a4 a5 a6 a7 a8 a9 a10 a11 a12
  refine⟨⟨i0,i73⟩,.inl ?_⟩;simp[dcs,dcd,yE,zW,zA,a0,a1,a2,a3,a4,a5,a6,a7,a8,a9,a10,a11,a12]<;>(simp only[sl,ia];omega)
 .intro J0 hl0 hA hr0 hid0 hI;simp only[DD]at hA hI;obtain⟨a0,a1,a2,a3,a4,a5,a6,a7,a8,a9,a10,a11,a12,a13,a14,a15⟩:=hA;obtain⟨_,_,_,_,_,_,_,_,_,_,_,_,_,_,_,_,i0,i73⟩:=hI;try simp only[zA,fn_sub,rb0,rbk]at a0 a1 a2 a3 a4 a5 a6 a7 a8 a9 a10 a11 a12 a13 a14 a15
  refine⟨⟨i0,i73⟩,.inl ?_⟩;simp[dcs,dcd,yE,zW,zA,a0,a1,a2,a3,a4,a5,a6,a7,a8,a9,a10,a11,a12,a13,a14,a15]<;>(simp only[sl,ia];omega)
 .intro J0 hl0 hA hr0 hid0 hI;simp only[DD]at hA hI;obtain⟨a0,a1,a2,a3,a4,a5,a6,a7,a8,a9,a10,a11,a12,a13,a14⟩:=hA;obtain⟨i74,i17,i4,i3,i9,i10,i7,i6,i2,i8,i1,i11,i19,i72,i18,i16,i14,i13,i5,i12,i0,i73⟩:=hI;try simp only[zA,rb0,rbk]at a0 a1 a2 a3 a4 a5 a6 a7 a8 a9 a10 a11 a12 a13 a14 i13 i14
  refine⟨⟨⟨i0,i1,i2,i4,i6,i10,i12,Bool.eq_iff_iff.2 i11,i16,i73,i74,i17,i18,i19,i72,hid0⟩,i3,i5,i7,i8,i9⟩,?_⟩;rw[i13,i14];simp[dcs,dcd,yE,zW,zA,a0,a1,a2,a3,a4,a5,a6,a7,a8,a9,a10,a11,a12,a13,a14]<;>(simp only[sl,ia];omega)
 .intro J0 hl0 hA hr0 hid0 hI;simp only[DD]at hA hI;obtain⟨a0,a1,a2,a3,a4,a5,a6,a7,a8,a9,a10,a11,a12,a13⟩:=hA;obtain⟨_,_,_,_,_,_,_,_,_,_,_,_,_,_,_,_,i0,i73⟩:=hI;try simp only[zA,fn_sub,rb0,rbk]at a0 a1 a2 a3 a4 a5 a6 a7 a8 a9 a10 a11 a12 a13
  refine⟨⟨i0,i73⟩,.inl ?_⟩;simp[dcs,dcd,yE,zW,zA,a0,a1,a2,a3,a4,a5,a6,a7,a8,a9,a10,a11,a12,a13]<;>(simp only[sl,ia];omega)
 .intro J0 hl0 hA hr0 hid0 hI;simp only[DD]at hA hI;obtain⟨a0,a1,a2,a3,a4,a5,a6,a7,a8⟩:=hA;obtain⟨_,_,_,_,_,_,_,_,_,_,_,_,_,_,_,_,i0,i73⟩:=hI;try simp only[zA,fn_sub,rb0,rbk]at a0 a1 a2 a3 a4 a5 a6 a7 a8
  refine⟨⟨i0,i73⟩,.inr ⟨?_,a0⟩⟩;simp[dcs,dcd,yE,zW,zA,a0,a1,a2,a3,a4,a5,a6,a7,a8]<;>(simp only[sl,ia];omega)
 .intro J0 hl0 hA hr0 hid0 hI;simp only[DD]at hA hI;obtain⟨a0,a1,a2,a3,a4,a5,a6,a7,a8⟩:=hA;obtain⟨i74,i17,i4,i3,i9,i10,i7,i6,i2,i8,i1,i11,i19,i72,i18,i16,i5,i12,i0,i73⟩:=hI;try simp only[zA,fn_sub,rb0,rbk]at a0 a1 a2 a3 a4 a5 a6 a7 a8
  refine⟨⟨⟨i0,i1,i2,i4,i6,i10,i12,Bool.eq_iff_iff.2 i11,i16,i73,i74,i17,i18,i19,i72,hid0⟩,i3,i5,i7,i8,i9⟩,?_,by simpa using a0⟩;simp[dcs,dcd,yE,zW,zA,a0,a1,a2,a3,a4,a5,a6,a7,a8]<;>(simp only[sl,ia];omega)
 iterate 2 (focus (intro hA;simp only[DD]at hA ⊢;omega))
 .intro J0 hl0 hA hr0 hid0 hI;simp only[DD]at hA hI;obtain⟨a0,a1,a2,a3,a4,a5,a6,a7,a8,a9,a10⟩:=hA;obtain⟨_,_,_,_,_,_,_,_,_,_,_,_,_,_,_,_,i0,i73⟩:=hI;try simp only[zA,fn_sub,rb0,rbk]at a0 a1 a2 a3 a4 a5 a6 a7 a8 a9 a10
  refine⟨⟨i0,i73⟩,.inl ?_⟩;simp[dcs,dcd,yE,zW,zA,a0,a1,a2,a3,a4,a5,a6,a7,a8,a9,a10]<;>(simp only[sl,ia];omega)
 iterate 2 (focus (intro hA;simp only[DD]at hA ⊢;omega))
 .intro J0 hl0 hA hr0 hid0 hI;simp only[DD]at hA hI;obtain⟨a0,a1,a2,a3,a4,a5,a6,a7,a8,a9,a10,a11,a12,a13⟩:=hA;obtain⟨_,_,_,_,_,_,_,_,_,_,_,_,_,_,_,_,i0,i73⟩:=hI;try simp only[zA,fn_sub,rb0,rbk]at a0 a1 a2 a3 a4 a5 a6 a7 a8 a9 a10 a11 a12 a13
  refine⟨⟨i0,i73⟩,.inl ?_⟩;simp[dcs,dcd,yE,zW,zA,a0,a1,a2,a3,a4,a5,a6,a7,a8,a9,a10,a11,a12,a13]<;>(simp only[sl,ia];omega)
 iterate 2 (focus (intro hA;simp only[DD]at hA ⊢;omega))
 .intro J0 hl0 hA hr0 hid0 hI;simp only[DD]at hA hI;obtain⟨a0,a1,a2,a3,a4,a5,a6,a7,a8,a9,a10,a11,a12,a13,a14,a15,a16⟩:=hA;obtain⟨_,_,_,_,_,_,_,_,_,_,_,_,_,_,_,_,i0,i73⟩:=hI;try simp only[zA,fn_sub,rb0,rbk]at a0 a1 a2 a3 a4 a5 a6 a7 a8 a9 a10 a11 a12 a13 a14 a15 a16
  refine⟨⟨i0,i73⟩,.inl ?_⟩;simp[dcs,dcd,yE,zW,zA,a0,a1,a2,a3,a4,a5,a6,a7,a8,a9,a10,a11,a12,a13,a14,a15,a16]<;>(simp only[sl,ia];omega)
 .intro J0 hl0 hA hr0 hid0 hI;simp only[DD]at hA hI;obtain⟨a0,a1,a2,a3,a4,a5,a6,a7,a8,a9,a10,a11,a12,a13,a14,a15,a16,a17,a18⟩:=hA;obtain⟨_,_,_,_,_,_,_,_,_,_,_,_,_,_,_,_,i0,i73⟩:=hI;try simp only[zA,fn_sub,rb0,rbk]at a0 a1 a2 a3 a4 a5 a6 a7 a8 a9 a10 a11 a12 a13 a14 a15 a16 a17 a18
  refine⟨⟨i0,i73⟩,.inl ?_⟩;simp[dcs,dcd,yE,zW,zA,a0,a1,a2,a3,a4,a5,a6,a7,a8,a9,a10,a11,a12,a13,a14,a15,a16,a17,a18]<;>(simp only[sl,ia];omega)
 .intro J0 hl0 hA hr0 hid0 hI;simp only[DD]at hA hI;obtain⟨a0,a1,a2,a3,a4,a5,a6,a7,a8,a9,a10,a11,a12,a13,a14,a15,a16,a17,a18,a19⟩:=hA;obtain⟨i74,i17,i4,i3,i9,i10,i7,i6,i2,i8,i1,i11,i19,i72,i18,i16,i14,i13,i5,i12,i0,i73⟩:=hI;try simp only[zA,rb0,rbk]at a0 a1 a2 a3 a4 a5 a6 a7 a8 a9 a10 a11 a12 a13 a14 a15 a16 a17 a18 a19 i13 i14
  refine⟨⟨⟨i0,i1,i2,i4,i6,i10,i12,Bool.eq_iff_iff.2 i11,i16,i73,i74,i17,i18,i19,i72,hid0⟩,i3,i5,i7,i8,i9⟩,?_⟩;rw[i13,i14];simp[dcs,dcd,yE,zW,zA,a0,a1,a2,a3,a4,a5,a6,a7,a8,a9,a10,a11,a12,a13,a14,a15,a16,a17,a18,a19]<;>(simp only[sl,ia];omega)
 .intro J0 hl0 hA hr0 hid0 hI;simp only[DD]at hA hI;obtain⟨a0,a1,a2,a3,a4,a5,a6,a7,a8,a9,a10,a11,a12,a13,a14,a15,a16,a17⟩:=hA;obtain⟨_,_,_,_,_,_,_,_,_,_,_,_,_,_,_,_,i0,i73⟩:=hI;try simp only[zA,fn_sub,rb0,rbk]at a0 a1 a2 a3 a4 a5 a6 a7 a8 a9 a10 a11 a12 a13 a14 a15 a16 a17
  refine⟨⟨i0,i73⟩,.inl ?_⟩;simp[dcs,dcd,yE,zW,zA,a0,a1,a2,a3,a4,a5,a6,a7,a8,a9,a10,a11,a12,a13,a14,a15,a16,a17]<;>(simp only[sl,ia];omega)
 .intro J0 hl0 hA hr0 hid0 hI;simp only[DD]at hA hI;obtain⟨a0,a1,a2,a3,a4,a5,a6⟩:=hA;obtain⟨_,_,_,_,_,_,_,_,_,_,_,_,_,_,_,_,i0,i73⟩:=hI;try simp only[zA,fn_sub,rb0,rbk]at a0 a1 a2 a3 a4 a5 a6
  refine⟨⟨i0,i73⟩,.inl ?_⟩;simp[dcs,dcd,yE,zW,zA,a0,a1,a2,a3,a4,a5,a6]<;>(simp only[sl,ia];omega)
set_option maxHeartbeats 0
theorem aNO{V:Ren}(hβ:V.length=90)(hv:RA V)(hL:Look V):anQ.Holds (G4 V) V:=by
 unfold anQ;obtain⟨r12,r5,r8,r6,r7,r10,r9,r18,r19⟩:=hv;obtain⟨ln,ll,lr⟩:=hL;refine (fO (fO (lO [] hβ ?_) (lO opA hβ ?_)) (nO hβ ?_ (nO hβ ?_ (nO hβ ?_ (nO hβ ?_ (fO (lO [] hβ ?_) (fO (fO (fO (lO [] hβ ?_) (lO opA hβ ?_)) (nO hβ ?_ (nO hβ ?_ (nO hβ ?_ (nO hβ ?_ (fO (lO [] hβ ?_) (lO opA hβ ?_))))))) (lO opA hβ ?_))))))))
 .intro J0 hl0 hA hr0 hid0 hI;simp only[DD]at hA hI;obtain⟨a0,a1,a2,a3⟩:=hA;obtain⟨_,_,_,_,_,_,_,_,_,_,_,_,_,_,_,_,i0,i73⟩:=hI;try simp only[zA,fn_sub,rb0,rbk]at a0 a1 a2 a3
  refine⟨⟨i0,i73⟩,.inr ⟨?_,a0⟩⟩;simp[dcs,dcd,yE,zW,zA,a0,a1,a2,a3]<;>(simp only[sl,ia];omega)
 .intro J0 hl0 hA hr0 hid0 hI;simp only[DD]at hA hI;obtain⟨a0,a1,a2,a3⟩:=hA;obtain⟨i74,i17,i4,i3,i9,i10,i7,i6,i2,i8,i1,i11,i19,i72,i18,i16,i5,i12,i0,i73⟩:=hI;try simp only[zA,fn_sub,rb0,rbk]at a0 a1 a2 a3
  refine⟨⟨⟨i0,i1,i2,i4,i6,i10,i12,Bool.eq_iff_iff.2 i11,i16,i73,i74,i17,i18,i19,i72,hid0⟩,i3,i5,i7,i8,i9⟩,?_,by simpa using a0⟩;simp[dcs,dcd,yE,zW,zA,a0,a1,a2,a3]<;>(simp only[sl,ia];omega)
 iterate 4 (focus (intro hA;simp only[DD]at hA ⊢;omega))
 .intro J0 hl0 hA hr0 hid0 hI;simp only[DD]at hA hI;obtain⟨a0,a1,a2,a3,a4,a5,a6,a7⟩:=hA;obtain⟨_,_,_,_,_,_,_,_,_,_,_,_,_,_,_,_,i0,i73⟩:=hI;try simp only[zA,fn_sub,rb0,rbk]at a0 a1 a2 a3 a4 a5 a6 a7
  refine⟨⟨i0,i73⟩,.inl ?_⟩;simp[dcs,dcd,yE,zW,zA,a0,a1,a2,a3,a4,a5,a6,a7]<;>(simp only[sl,ia];omega)
 .intro J0 hl0 hA hr0 hid0 hI;simp only[DD]at hA hI;obtain⟨a0,a1,a2,a3,a4,a5,a6,a7,a8,a9,a10⟩:=hA;obtain⟨_,_,_,_,_,_,_,_,_,_,_,_,_,_,_,_,i0,i73⟩:=hI;try simp only[zA,fn_sub,rb0,rbk]at a0 a1 a2 a3 a4 a5 a6 a7 a8 a9 a10
  refine⟨⟨i0,i73⟩,.inr ⟨?_,a0⟩⟩;simp[dcs,dcd,yE,zW,zA,a0,a1,a2,a3,a4,a5,a6,a7,a8,a9,a10]<;>(simp only[sl,ia];omega)
 .intro J0 hl0 hA hr0 hid0 hI;simp only[DD]at hA hI;obtain⟨a0,a1,a2,a3,a4,a5,a6,a7,a8,a9,a10⟩:=hA;obtain⟨i74,i17,i4,i3,i9,i10,i7,i6,i2,i8,i1,i11,i19,i72,i18,i16,i5,i12,i0,i73⟩:=hI;try simp only[zA,fn_sub,rb0,rbk]at a0 a1 a2 a3 a4 a5 a6 a7 a8 a9 a10
  refine⟨⟨⟨i0,i1,i2,i4,i6,i10,i12,Bool.eq_iff_iff.2 i11,i16,i73,i74,i17,i18,i19,i72,hid0⟩,i3,i5,i7,i8,i9⟩,?_,by simpa using a0⟩;simp[dcs,dcd,yE,zW,zA,a0,a1,a2,a3,a4,a5,a6,a7,a8,a9,a10]<;>(simp only[sl,ia];omega)
 iterate 4 (focus (intro hA;simp only[DD]at hA ⊢;omega))
 .intro J0 hl0 hA hr0 hid0 hI;simp only[DD]at hA hI;obtain⟨a0,a1,a2,a3,a4,a5,a6,a7,a8,a9,a10,a11,a12,a13,a14⟩:=hA;obtain⟨_,_,_,_,_,_,_,_,_,_,_,_,_,_,_,_,i0,i73⟩:=hI;try simp only[zA,fn_sub,rb0,rbk]at a0 a1 a2 a3 a4 a5 a6 a7 a8 a9 a10 a11 a12 a13 a14
  refine⟨⟨i0,i73⟩,.inl ?_⟩;simp[dcs,dcd,yE,zW,zA,a0,a1,a2,a3,a4,a5,a6,a7,a8,a9,a10,a11,a12,a13,a14]<;>(simp only[sl,ia];omega)
 .intro J0 hl0 hA hr0 hid0 hI;simp only[DD]at hA hI;obtain⟨a0,a1,a2,a3,a4,a5,a6,a7,a8,a9,a10,a11,a12,a13,a14⟩:=hA;obtain⟨i74,i17,i4,i3,i9,i10,i7,i6,i2,i8,i1,i11,i19,i72,i18,i16,i14,i13,i5,i12,i0,i73⟩:=hI;try simp only[zA,rb0,rbk]at a0 a1 a2 a3 a4 a5 a6 a7 a8 a9 a10 a11 a12 a13 a14 i13 i14
  refine⟨⟨⟨i0,i1,i2,i4,i6,i10,i12,Bool.eq_iff_iff.2 i11,i16,i73,i74,i17,i18,i19,i72,hid0⟩,i3,i5,i7,i8,i9⟩,?_⟩;rw[i13,i14];simp[dcs,dcd,yE,zW,zA,a0,a1,a2,a3,a4,a5,a6,a7,a8,a9,a10,a11,a12,a13,a14]<;>(simp only[sl,ia];omega)
 .intro J0 hl0 hA hr0 hid0 hI;simp only[DD]at hA hI;obtain⟨a0,a1,a2,a3,a4,a5,a6,a7,a8⟩:=hA;obtain⟨i74,i17,i4,i3,i9,i10,i7,i6,i2,i8,i1,i11,i19,i72,i18,i16,i14,i13,i5,i12,i0,i73⟩:=hI;try simp only[zA,rb0,rbk]at a0 a1 a2 a3 a4 a5 a6 a7 a8 i13 i14
  refine⟨⟨⟨i0,i1,i2,i4,i6,i10,i12,Bool.eq_iff_iff.2 i11,i16,i73,i74,i17,i18,i19,i72,hid0⟩,i3,i5,i7,i8,i9⟩,?_⟩;rw[i13,i14];simp[dcs,dcd,yE,zW,zA,a0,a1,a2,a3,a4,a5,a6,a7,a8]<;>(simp only[sl,ia];omega)
set_option maxHeartbeats 0
theorem aPK{V:Ren}(hβ:V.length=90)(hv:RA V)(hL:Look V):ajQ.Holds (G4 V) V:=by
 unfold ajQ;obtain⟨r12,r5,r8,r6,r7,r10,r9,r18,r19⟩:=hv;obtain⟨ln,ll,lr⟩:=hL;refine (fO (fO (lO [] hβ ?_) (lO opA hβ ?_)) (nO hβ ?_ (nO hβ ?_ (nO hβ ?_ (nO hβ ?_ (fO (lO [] hβ ?_) (fO (fO (fO (lO [] hβ ?_) (lO opA hβ ?_)) (nO hβ ?_ (nO hβ ?_ (nO hβ ?_ (nO hβ ?_ (fO (lO [] hβ ?_) (lO opA hβ ?_))))))) (lO opA hβ ?_))))))))
 .intro J0 hl0 hA hr0 hid0 hI;simp only[DD]at hA hI;obtain⟨a0,a1,a2,a3,a4⟩:=hA;obtain⟨_,_,_,_,_,_,_,_,_,_,_,_,_,_,_,_,i0,i73⟩:=hI;try simp only[zA,fn_sub,rb0,rbk]at a0 a1 a2 a3 a4
  refine⟨⟨i0,i73⟩,.inr ⟨?_,a0⟩⟩;simp[dcs,dcd,yE,zW,zA,a0,a1,a2,a3,a4]<;>(simp only[sl,ia];omega)
 .intro J0 hl0 hA hr0 hid0 hI;simp only[DD]at hA hI;obtain⟨a0,a1,a2,a3,a4⟩:=hA;obtain⟨i74,i17,i4,i3,i9,i10,i7,i6,i2,i8,i1,i11,i19,i72,i18,i16,i5,i12,i0,i73⟩:=hI;try simp only[zA,fn_sub,rb0,rbk]at a0 a1 a2 a3 a4
  refine⟨⟨⟨i0,i1,i2,i4,i6,i10,i12,Bool.eq_iff_iff.2 i11,i16,i73,i74,i17,i18,i19,i72,hid0⟩,i3,i5,i7,i8,i9⟩,?_,by simpa using a0⟩;simp[dcs,dcd,yE,zW,zA,a0,a1,a2,a3,a4]<;>(simp only[sl,ia];omega)
 iterate 4 (focus (intro hA;simp only[DD]at hA ⊢;omega))
 .intro J0 hl0 hA hr0 hid0 hI;simp only[DD]at hA hI;obtain⟨a0,a1,a2,a3,a4,a5,a6,a7,a8⟩:=hA;obtain⟨_,_,_,_,_,_,_,_,_,_,_,_,_,_,_,_,i0,i73⟩:=hI;try simp only[zA,fn_sub,rb0,rbk]at a0 a1 a2 a3 a4 a5 a6 a7 a8
  refine⟨⟨i0,i73⟩,.inl ?_⟩;simp[dcs,dcd,yE,zW,zA,a0,a1,a2,a3,a4,a5,a6,a7,a8]<;>(simp only[sl,ia];omega)
 .intro J0 hl0 hA hr0 hid0 hI;simp only[DD]at hA hI;obtain⟨a0,a1,a2,a3,a4,a5,a6,a7,a8,a9,a10,a11⟩:=hA;obtain⟨_,_,_,_,_,_,_,_,_,_,_,_,_,_,_,_,i0,i73⟩:=hI;try simp only[zA,fn_sub,rb0,rbk]at a0 a1 a2 a3 a4 a5 a6 a7 a8 a9 a10 a11
  refine⟨⟨i0,i73⟩,.inr ⟨?_,a0⟩⟩;simp[dcs,dcd,yE,zW,zA,a0,a1,a2,a3,a4,a5,a6,a7,a8,a9,a10,a11]<;>(simp only[sl,ia];omega)
 .intro J0 hl0 hA hr0 hid0 hI;simp only[DD]at hA hI;obtain⟨a0,a1,a2,a3,a4,a5,a6,a7,a8,a9,a10,a11⟩:=hA;obtain⟨i74,i17,i4,i3,i9,i10,i7,i6,i2,i8,i1,i11,i19,i72,i18,i16,i5,i12,i0,i73⟩:=hI;try simp only[zA,fn_sub,rb0,rbk]at a0 a1 a2 a3 a4 a5 a6 a7 a8 a9 a10 a11
  refine⟨⟨⟨i0,i1,i2,i4,i6,i10,i12,Bool.eq_iff_iff.2 i11,i16,i73,i74,i17,i18,i19,i72,hid0⟩,i3,i5,i7,i8,i9⟩,?_,by simpa using a0⟩;simp[dcs,dcd,yE,zW,zA,a0,a1,a2,a3,a4,a5,a6,a7,a8,a9,a10,a11]<;>(simp only[sl,ia];omega)
 iterate 4 (focus (intro hA;simp only[DD]at hA ⊢;omega))
 .intro J0 hl0 hA hr0 hid0 hI;simp only[DD]at hA hI;obtain⟨a0,a1,a2,a3,a4,a5,a6,a7,a8,a9,a10,a11,a12,a13,a14,a15⟩:=hA;obtain⟨_,_,_,_,_,_,_,_,_,_,_,_,_,_,_,_,i0,i73⟩:=hI;try simp only[zA,fn_sub,rb0,rbk]at a0 a1 a2 a3 a4 a5 a6 a7 a8 a9 a10 a11 a12 a13 a14 a15
  refine⟨⟨i0,i73⟩,.inl ?_⟩;simp[dcs,dcd,yE,zW,zA,a0,a1,a2,a3,a4,a5,a6,a7,a8,a9,a10,a11,a12,a13,a14,a15]<;>(simp only[sl,ia];omega)
 .intro J0 hl0 hA hr0 hid0 hI;simp only[DD]at hA hI;obtain⟨a0,a1,a2,a3,a4,a5,a6,a7,a8,a9,a10,a11,a12,a13,a14,a15⟩:=hA;obtain⟨i74,i17,i4,i3,i9,i10,i7,i6,i2,i8,i1,i11,i19,i72,i18,i16,i14,i13,i5,i12,i0,i73⟩:=hI;try simp only[zA,rb0,rbk]at a0 a1 a2 a3 a4 a5 a6 a7 a8 a9 a10 a11 a12 a13 a14 a15 i13 i14
  refine⟨⟨⟨i0,i1,i2,i4,i6,i10,i12,Bool.eq_iff_iff.2 i11,i16,i73,i74,i17,i18,i19,i72,hid0⟩,i3,i5,i7,i8,i9⟩,?_⟩;rw[i13,i14];simp[dcs,dcd,yE,zW,zA,a0,a1,a2,a3,a4,a5,a6,a7,a8,a9,a10,a11,a12,a13,a14,a15]<;>(simp only[sl,ia];omega)
 .intro J0 hl0 hA hr0 hid0 hI;simp only[DD]at hA hI;obtain⟨a0,a1,a2,a3,a4,a5,a6,a7,a8,a9⟩:=hA;obtain⟨i74,i17,i4,i3,i9,i10,i7,i6,i2,i8,i1,i11,i19,i72,i18,i16,i14,i13,i5,i12,i0,i73⟩:=hI;try simp only[zA,rb0,rbk]at a0 a1 a2 a3 a4 a5 a6 a7 a8 a9 i13 i14
  refine⟨⟨⟨i0,i1,i2,i4,i6,i10,i12,Bool.eq_iff_iff.2 i11,i16,i73,i74,i17,i18,i19,i72,hid0⟩,i3,i5,i7,i8,i9⟩,?_⟩;rw[i13,i14];simp[dcs,dcd,yE,zW,zA,a0,a1,a2,a3,a4,a5,a6,a7,a8,a9]<;>(simp only[sl,ia];omega)
end U
