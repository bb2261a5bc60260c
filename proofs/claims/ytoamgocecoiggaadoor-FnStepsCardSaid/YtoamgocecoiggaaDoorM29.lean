-- the statement of this claim: see YtoamgocecoiggaaDoorRs
import Derived.Test.YtoamgocecoiggaaDoorM28
set_option linter.unusedVariables false
set_option linter.unusedSimpArgs false
set_option maxRecDepth 100000
noncomputable section
open Go Go.SM Go.Proofs
namespace U
abbrev aOZ:List TB:=[(.lt (v 76) 1536),(.eq (.op .and (sb 3 (v 76)) 128) 0)]
abbrev aVJ:=.lt (v 76) (v 75)::aOZ
abbrev aYT:=.lt (v 76) (lb 3)::aVJ
abbrev aU1:=nq (sb 3 (v 76)) 32::nq (sb 3 (v 76)) 9::aYT
abbrev aVZ:=nl 1536 (v 76+1)::aU1
abbrev aYS:=nl (v 8+N 1) 0::aVZ
abbrev aWW:=nl 4194303 (v 77+1)::aYS
abbrev aX4:=.or (.eq (sb 3 (v 76)) 32) (.eq (sb 3 (v 76)) 9)::aYT
abbrev aTD:=nl 1536 (v 76+1)::aX4
abbrev aXA:=nl (v 8+N 1) 0::aTD
abbrev aBX:=nl 4194303 (v 77+1)::aXA
abbrev cU:SgT:=[bm 0,bm 73]
abbrev aSQ:SgT:=(8,.itm (v 8+N 1))::(76,.itm (v 76+1))::im 75::bm 1::(ids (dn 35 16)++(ik 81 32::ik 80 1::(79,.new 90)::cU))
def bD:Tre:=(nd 90 aOZ ((.lt (v 76) (v 75)))
 (nd 90 aVJ ((.lt (v 76) (lb 3)))
 (.fork (nd 91 aU1 ((nl 1536 (v 76+1)))
 (nd 91 aVZ ((nl (v 8+N 1) 0))
 (nd 91 aYS ((nl 4194303 (v 77+1)))
 (nd 91 aWW ((nl 4194303 (v 78+1)))
 (lf 0 90 91 (rgs ERd.n (tSo 4)) ((82,.ltm (.app (.one (sb 3 (v 76))) (zsT 30)))::bm 74::lm 3::(ids (dn 71 6++dn 64 18)++((78,.itm (v 78+1))::im 45::(77,.itm (v 77+1))::(ids (dn 43 4)++(ik 39 0::aSQ))))) ((nl 4194303 (v 78+1))::aWW))))))
 (nd 91 aX4 ((nl 1536 (v 76+1)))
 (nd 91 aTD ((nl (v 8+N 1) 0))
 (nd 91 aXA ((nl 4194303 (v 77+1)))
 (nd 91 aBX ((nl 4194303 (v 78+1)))
 (lf 0 90 91 (rgs ERd.n (tSo 4)) ((82,.ltm (.app (.one (sb 3 (v 76))) (zsT 30)))::bm 74::lm 3::(ids (dn 71 6++dn 64 18)++((78,.itm (v 78+1))::im 45::(77,.itm (v 77+1))::(ids (dn 43 4)++(im 39::aSQ))))) ((nl 4194303 (v 78+1))::aBX)))))))))
theorem aeN:eU (k0++k1)=bD:=by kernel_rfl
abbrev an6:List TB:=[(.lt (v 76) 1536),(nq (.op .and (sb 3 (v 76)) 128) 0),(.eq (.op .and (sb 3 (v 76)) 224) 192)]
abbrev az4:=.lt (v 76) (v 75)::an6
abbrev aJ7:=.lt (v 76) (lb 3)::az4
abbrev aIY:=nq (sb 3 (v 76)) 32::nq (sb 3 (v 76)) 9::aJ7
abbrev aDA:=nl (v 76) 0::aIY
abbrev aC7:=nl (v 76+2) (v 76)::aDA
abbrev aB0:=nl 1536 (v 76+2)::aC7
abbrev aE4:=nl 1125899906842624 (v 76+2)::aB0
abbrev aHL:=nl (lb 3) (v 76+2)::aE4
abbrev az8:=nl 70368744177664 (.len (.sub (.var 3) (v 76) (v 76+2)))::aHL
abbrev aCB:=nl (v 8+N 1) 0::az8
abbrev aIQ:=nl 4194303 (v 77+1)::aCB
abbrev az0:=.or (.eq (sb 3 (v 76)) 32) (.eq (sb 3 (v 76)) 9)::aJ7
abbrev aK0:=nl (v 76) 0::az0
abbrev az7:=nl (v 76+2) (v 76)::aK0
abbrev aLT:=nl 1536 (v 76+2)::az7
abbrev aET:=nl 1125899906842624 (v 76+2)::aLT
abbrev aK4:=nl (lb 3) (v 76+2)::aET
abbrev aJP:=nl 70368744177664 (.len (.sub (.var 3) (v 76) (v 76+2)))::aK4
abbrev aFQ:=nl (v 8+N 1) 0::aJP
abbrev aNB:=nl 4194303 (v 77+1)::aFQ
abbrev aV4:SgT:=(8,.itm (v 8+N 1))::(76,.itm (v 76+2))::im 75::bm 1::(ids (dn 35 16)++((81,.itm (.len (.sub (.var 3) (v 76) (v 76+2))+lb 91))::(80,.itm (.len (.sub (.var 3) (v 76) (v 76+2))))::(79,.new 92)::cU))
def I0:Tre:=(nd 90 an6 ((.lt (v 76) (v 75)))
 (nd 90 az4 ((.lt (v 76) (lb 3)))
 (.fork (nd 91 aIY ((nl (v 76) 0))
 (nd 91 aDA ((nl (v 76+2) (v 76)))
 (nd 91 aC7 ((nl 1536 (v 76+2)))
 (nd 91 aB0 ((nl 1125899906842624 (v 76+2)))
 (nd 91 aE4 ((nl (lb 3) (v 76+2)))
 (nd 91 aHL ((nl 70368744177664 (.len (.sub (.var 3) (v 76) (v 76+2)))))
 (nd 93 az8 ((nl (v 8+N 1) 0))
 (nd 93 aCB ((nl 4194303 (v 77+1)))
 (nd 93 aIQ ((nl 4194303 (v 78+1)))
 (lf 0 90 93 (rgs ERd.n (tSo 4)) ((82,.ltm (.app (.sub (.var 3) (v 76) (v 76+2)) (.var 91)))::bm 74::lm 3::(ids (dn 71 6++dn 64 18)++((78,.itm (v 78+1))::im 45::(77,.itm (v 77+1))::(ids (dn 43 4)++(ik 39 0::aV4))))) ((nl 4194303 (v 78+1))::aIQ)))))))))))
 (nd 91 az0 ((nl (v 76) 0))
 (nd 91 aK0 ((nl (v 76+2) (v 76)))
 (nd 91 az7 ((nl 1536 (v 76+2)))
 (nd 91 aLT ((nl 1125899906842624 (v 76+2)))
 (nd 91 aET ((nl (lb 3) (v 76+2)))
 (nd 91 aK4 ((nl 70368744177664 (.len (.sub (.var 3) (v 76) (v 76+2)))))
 (nd 93 aJP ((nl (v 8+N 1) 0))
 (nd 93 aFQ ((nl 4194303 (v 77+1)))
 (nd 93 aNB ((nl 4194303 (v 78+1)))
 (lf 0 90 93 (rgs ERd.n (tSo 4)) ((82,.ltm (.app (.sub (.var 3) (v 76) (v 76+2)) (.var 91)))::bm 74::lm 3::(ids (dn 71 6++dn 64 18)++((78,.itm (v 78+1))::im 45::(77,.itm (v 77+1))::(ids (dn 43 4)++(im 39::aV4))))) ((nl 4194303 (v 78+1))::aNB))))))))))))))
theorem aeL:eU (k0++k2)=I0:=by kernel_rfl
abbrev alO:List TB:=[(.lt (v 76) 1536),(nq (.op .and (sb 3 (v 76)) 128) 0),(nq (.op .and (sb 3 (v 76)) 224) 192),(.eq (.op .and (sb 3 (v 76)) 240) 224)]
abbrev aAV:=.lt (v 76) (v 75)::alO
abbrev aDL:=.lt (v 76) (lb 3)::aAV
abbrev aCH:=nq (sb 3 (v 76)) 32::nq (sb 3 (v 76)) 9::aDL
abbrev aA0:=nl (v 76) 0::aCH
abbrev aKB:=nl (v 76+3) (v 76)::aA0
abbrev aGP:=nl 1536 (v 76+3)::aKB
abbrev aFN:=nl 1125899906842624 (v 76+3)::aGP
abbrev aF0:=nl (lb 3) (v 76+3)::aFN
abbrev aBQ:=nl 70368744177664 (.len (.sub (.var 3) (v 76) (v 76+3)))::aF0
abbrev aAS:=nl (v 8+N 1) 0::aBQ
abbrev aFF:=nl 4194303 (v 77+1)::aAS
abbrev aKG:=.or (.eq (sb 3 (v 76)) 32) (.eq (sb 3 (v 76)) 9)::aDL
abbrev aGN:=nl (v 76) 0::aKG
abbrev axQ:=nl (v 76+3) (v 76)::aGN
abbrev aER:=nl 1536 (v 76+3)::axQ
abbrev aGM:=nl 1125899906842624 (v 76+3)::aER
abbrev aAC:=nl (lb 3) (v 76+3)::aGM
abbrev az3:=nl 70368744177664 (.len (.sub (.var 3) (v 76) (v 76+3)))::aAC
abbrev aL7:=nl (v 8+N 1) 0::az3
abbrev aM1:=nl 4194303 (v 77+1)::aL7
abbrev aUO:SgT:=(8,.itm (v 8+N 1))::(76,.itm (v 76+3))::im 75::bm 1::(ids (dn 35 16)++((81,.itm (.len (.sub (.var 3) (v 76) (v 76+3))+lb 91))::(80,.itm (.len (.sub (.var 3) (v 76) (v 76+3))))::(79,.new 92)::cU))
def C9:Tre:=(nd 90 alO ((.lt (v 76) (v 75)))
 (nd 90 aAV ((.lt (v 76) (lb 3)))
 (.fork (nd 91 aCH ((nl (v 76) 0))
 (nd 91 aA0 ((nl (v 76+3) (v 76)))
 (nd 91 aKB ((nl 1536 (v 76+3)))
 (nd 91 aGP ((nl 1125899906842624 (v 76+3)))
 (nd 91 aFN ((nl (lb 3) (v 76+3)))
 (nd 91 aF0 ((nl 70368744177664 (.len (.sub (.var 3) (v 76) (v 76+3)))))
 (nd 93 aBQ ((nl (v 8+N 1) 0))
 (nd 93 aAS ((nl 4194303 (v 77+1)))
 (nd 93 aFF ((nl 4194303 (v 78+1)))
 (lf 0 90 93 (rgs ERd.n (tSo 4)) ((82,.ltm (.app (.sub (.var 3) (v 76) (v 76+3)) (.var 91)))::bm 74::lm 3::(ids (dn 71 6++dn 64 18)++((78,.itm (v 78+1))::im 45::(77,.itm (v 77+1))::(ids (dn 43 4)++(ik 39 0::aUO))))) ((nl 4194303 (v 78+1))::aFF)))))))))))
 (nd 91 aKG ((nl (v 76) 0))
 (nd 91 aGN ((nl (v 76+3) (v 76)))
 (nd 91 axQ ((nl 1536 (v 76+3)))
 (nd 91 aER ((nl 1125899906842624 (v 76+3)))
 (nd 91 aGM ((nl (lb 3) (v 76+3)))
 (nd 91 aAC ((nl 70368744177664 (.len (.sub (.var 3) (v 76) (v 76+3)))))
 (nd 93 az3 ((nl (v 8+N 1) 0))
 (nd 93 aL7 ((nl 4194303 (v 77+1)))
 (nd 93 aM1 ((nl 4194303 (v 78+1)))
 (lf 0 90 93 (rgs ERd.n (tSo 4)) ((82,.ltm (.app (.sub (.var 3) (v 76) (v 76+3)) (.var 91)))::bm 74::lm 3::(ids (dn 71 6++dn 64 18)++((78,.itm (v 78+1))::im 45::(77,.itm (v 77+1))::(ids (dn 43 4)++(im 39::aUO))))) ((nl 4194303 (v 78+1))::aM1))))))))))))))
theorem acN:eU (k0++k3)=C9:=by kernel_rfl
abbrev alU:List TB:=[(.lt (v 76) 1536),(nq (.op .and (sb 3 (v 76)) 128) 0),(nq (.op .and (sb 3 (v 76)) 224) 192),(nq (.op .and (sb 3 (v 76)) 240) 224),(.eq (.op .and (sb 3 (v 76)) 248) 240)]
abbrev aA4:=.lt (v 76) (v 75)::alU
abbrev aBO:=.lt (v 76) (lb 3)::aA4
abbrev aA5:=nq (sb 3 (v 76)) 32::nq (sb 3 (v 76)) 9::aBO
abbrev aDR:=nl (v 76) 0::aA5
abbrev aI9:=nl (v 76+4) (v 76)::aDR
abbrev aMT:=nl 1536 (v 76+4)::aI9
abbrev aG0:=nl 1125899906842624 (v 76+4)::aMT
abbrev aJH:=nl (lb 3) (v 76+4)::aG0
abbrev aGS:=nl 70368744177664 (.len (.sub (.var 3) (v 76) (v 76+4)))::aJH
abbrev aFL:=nl (v 8+N 1) 0::aGS
abbrev aIE:=nl 4194303 (v 77+1)::aFL
abbrev aMA:=.or (.eq (sb 3 (v 76)) 32) (.eq (sb 3 (v 76)) 9)::aBO
abbrev aIG:=nl (v 76) 0::aMA
abbrev aLY:=nl (v 76+4) (v 76)::aIG
abbrev aH9:=nl 1536 (v 76+4)::aLY
abbrev ayP:=nl 1125899906842624 (v 76+4)::aH9
abbrev aJ5:=nl (lb 3) (v 76+4)::ayP
abbrev axX:=nl 70368744177664 (.len (.sub (.var 3) (v 76) (v 76+4)))::aJ5
abbrev aCD:=nl (v 8+N 1) 0::axX
abbrev aBI:=nl 4194303 (v 77+1)::aCD
abbrev aS2:SgT:=(8,.itm (v 8+N 1))::(76,.itm (v 76+4))::im 75::bm 1::(ids (dn 35 16)++((81,.itm (.len (.sub (.var 3) (v 76) (v 76+4))+lb 91))::(80,.itm (.len (.sub (.var 3) (v 76) (v 76+4))))::(79,.new 92)::cU))
def aB:Tre:=(nd 90 alU ((.lt (v 76) (v 75)))
 (nd 90 aA4 ((.lt (v 76) (lb 3)))
 (.fork (nd 91 aA5 ((nl (v 76) 0))
 (nd 91 aDR ((nl (v 76+4) (v 76)))
 (nd 91 aI9 ((nl 1536 (v 76+4)))
 (nd 91 aMT ((nl 1125899906842624 (v 76+4)))
 (nd 91 aG0 ((nl (lb 3) (v 76+4)))
 (nd 91 aJH ((nl 70368744177664 (.len (.sub (.var 3) (v 76) (v 76+4)))))
 (nd 93 aGS ((nl (v 8+N 1) 0))
 (nd 93 aFL ((nl 4194303 (v 77+1)))
 (nd 93 aIE ((nl 4194303 (v 78+1)))
 (lf 0 90 93 (rgs ERd.n (tSo 4)) ((82,.ltm (.app (.sub (.var 3) (v 76) (v 76+4)) (.var 91)))::bm 74::lm 3::(ids (dn 71 6++dn 64 18)++((78,.itm (v 78+1))::im 45::(77,.itm (v 77+1))::(ids (dn 43 4)++(ik 39 0::aS2))))) ((nl 4194303 (v 78+1))::aIE)))))))))))
 (nd 91 aMA ((nl (v 76) 0))
 (nd 91 aIG ((nl (v 76+4) (v 76)))
 (nd 91 aLY ((nl 1536 (v 76+4)))
 (nd 91 aH9 ((nl 1125899906842624 (v 76+4)))
 (nd 91 ayP ((nl (lb 3) (v 76+4)))
 (nd 91 aJ5 ((nl 70368744177664 (.len (.sub (.var 3) (v 76) (v 76+4)))))
 (nd 93 axX ((nl (v 8+N 1) 0))
 (nd 93 aCD ((nl 4194303 (v 77+1)))
 (nd 93 aBI ((nl 4194303 (v 78+1)))
 (lf 0 90 93 (rgs ERd.n (tSo 4)) ((82,.ltm (.app (.sub (.var 3) (v 76) (v 76+4)) (.var 91)))::bm 74::lm 3::(ids (dn 71 6++dn 64 18)++((78,.itm (v 78+1))::im 45::(77,.itm (v 77+1))::(ids (dn 43 4)++(im 39::aS2))))) ((nl 4194303 (v 78+1))::aBI))))))))))))))
theorem ac4:eU (k0++k4)=aB:=by kernel_rfl
abbrev azE:=nq (v 80) 0::aOZ
abbrev aHN:=.lt (v 76) (v 75)::azE
abbrev aLU:=.lt (v 76) (lb 3)::aHN
abbrev aKN:=nq (sb 3 (v 76)) 32::nq (sb 3 (v 76)) 9::aLU
abbrev ax3:=nl (v 81) (v 80+1)::aKN
abbrev aBS:=nl (v 80+1) 0::ax3
abbrev aIU:=nl 1125899906842624 (v 80+1)::aBS
abbrev aDB:=nl (v 80) 0::aIU
abbrev aF4:=.lt (v 80) (v 80+1)::aDB
abbrev aH1:=.lt (v 80) (lb 82)::aF4
abbrev aK8:=nl 1536 (v 76+1)::aH1
abbrev aKW:=nl (v 8+N 1) 0::aK8
abbrev ay4:=nl 4194303 (v 77+1)::aKW
abbrev aBL:=.lt (v 81) (v 80+1)::aKN
abbrev aA1:=nl (v 76) 0::aBL
abbrev aAB:=nl (v 76+1) (v 76)::aA1
abbrev ay3:=nl 1536 (v 76+1)::aAB
abbrev aDJ:=nl 1125899906842624 (v 76+1)::ay3
abbrev aHJ:=nl (lb 3) (v 76+1)::aDJ
abbrev aMH:=nl (lb 82) (v 81)::aHJ
abbrev aEJ:=nl 70368744177664 (.len (.sub (.var 82) 0 (v 80))+.len (.sub (.var 3) (v 76) (v 76+1)))::aMH
abbrev aDS:=nl (v 8+N 1) 0::aEJ
abbrev aF2:=nl 4194303 (v 77+1)::aDS
abbrev aHV:=.or (.eq (sb 3 (v 76)) 32) (.eq (sb 3 (v 76)) 9)::aLU
abbrev aDM:=nl (v 81) (v 80+1)::aHV
abbrev aCE:=nl (v 80+1) 0::aDM
abbrev apU:=nl 1125899906842624 (v 80+1)::aCE
abbrev aq8:=nl (v 80) 0::apU
abbrev amK:=.lt (v 80) (v 80+1)::aq8
abbrev aqN:=.lt (v 80) (lb 82)::amK
abbrev al3:=nl 1536 (v 76+1)::aqN
abbrev atC:=nl (v 8+N 1) 0::al3
abbrev an4:=nl 4194303 (v 77+1)::atC
abbrev amO:=.lt (v 81) (v 80+1)::aHV
abbrev ap0:=nl (v 76) 0::amO
abbrev amV:=nl (v 76+1) (v 76)::ap0
abbrev ar2:=nl 1536 (v 76+1)::amV
abbrev alW:=nl 1125899906842624 (v 76+1)::ar2
abbrev am4:=nl (lb 3) (v 76+1)::alW
abbrev alQ:=nl (lb 82) (v 81)::am4
abbrev ao9:=nl 70368744177664 (.len (.sub (.var 82) 0 (v 80))+.len (.sub (.var 3) (v 76) (v 76+1)))::alQ
abbrev atT:=nl (v 8+N 1) 0::ao9
abbrev apR:=nl 4194303 (v 77+1)::atT
abbrev aSF:SgT:=(8,.itm (v 8+N 1))::(76,.itm (v 76+1))::im 75::bm 1::(ids (dn 35 16)++(im 81::(80,.itm (v 80+1))::bm 79::cU))
abbrev aR9:SgT:=(8,.itm (v 8+N 1))::(76,.itm (v 76+1))::im 75::bm 1::(ids (dn 35 16)++((81,.itm (.len (.sub (.var 82) 0 (v 80))+.len (.sub (.var 3) (v 76) (v 76+1))+lb 90))::(80,.itm (.len (.sub (.var 82) 0 (v 80))+.len (.sub (.var 3) (v 76) (v 76+1))))::(79,.new 91)::cU))
def aO:Tre:=(nd 90 azE ((.lt (v 76) (v 75)))
 (nd 90 aHN ((.lt (v 76) (lb 3)))
 (.fork (.fork (nd 90 ax3 ((nl (v 80+1) 0))
 (nd 90 aBS ((nl 1125899906842624 (v 80+1)))
 (nd 90 aIU ((nl (v 80) 0))
 (nd 90 aDB ((.lt (v 80) (v 80+1)))
 (nd 90 aF4 ((.lt (v 80) (lb 82)))
 (nd 90 aH1 ((nl 1536 (v 76+1)))
 (nd 90 aK8 ((nl (v 8+N 1) 0))
 (nd 90 aKW ((nl 4194303 (v 77+1)))
 (nd 90 ay4 ((nl 4194303 (v 78+1)))
 (lf 0 90 90 (rgs ERd.n (tSo 4)) ((82,.ltm (.set (.var 82) (v 80) (sb 3 (v 76))))::bm 74::lm 3::(ids (dn 71 6++dn 64 18)++((78,.itm (v 78+1))::im 45::(77,.itm (v 77+1))::(ids (dn 43 4)++(ik 39 0::aSF))))) ((nl 4194303 (v 78+1))::ay4)))))))))))
 (nd 90 aBL ((nl (v 76) 0))
 (nd 90 aA1 ((nl (v 76+1) (v 76)))
 (nd 90 aAB ((nl 1536 (v 76+1)))
 (nd 90 ay3 ((nl 1125899906842624 (v 76+1)))
 (nd 90 aDJ ((nl (lb 3) (v 76+1)))
 (nd 90 aHJ ((nl (lb 82) (v 81)))
 (nd 90 aMH ((nl 70368744177664 (.len (.sub (.var 82) 0 (v 80))+.len (.sub (.var 3) (v 76) (v 76+1)))))
 (nd 92 aEJ ((nl (v 8+N 1) 0))
 (nd 92 aDS ((nl 4194303 (v 77+1)))
 (nd 92 aF2 ((nl 4194303 (v 78+1)))
 (lf 0 90 92 (rgs ERd.n (tSo 4)) ((82,.ltm (.app (.app (.sub (.var 82) 0 (v 80)) (.sub (.var 3) (v 76) (v 76+1))) (.var 90)))::bm 74::lm 3::(ids (dn 71 6++dn 64 18)++((78,.itm (v 78+1))::im 45::(77,.itm (v 77+1))::(ids (dn 43 4)++(ik 39 0::aR9))))) ((nl 4194303 (v 78+1))::aF2)))))))))))))
 (.fork (nd 90 aDM ((nl (v 80+1) 0))
 (nd 90 aCE ((nl 1125899906842624 (v 80+1)))
 (nd 90 apU ((nl (v 80) 0))
 (nd 90 aq8 ((.lt (v 80) (v 80+1)))
 (nd 90 amK ((.lt (v 80) (lb 82)))
 (nd 90 aqN ((nl 1536 (v 76+1)))
 (nd 90 al3 ((nl (v 8+N 1) 0))
 (nd 90 atC ((nl 4194303 (v 77+1)))
 (nd 90 an4 ((nl 4194303 (v 78+1)))
 (lf 0 90 90 (rgs ERd.n (tSo 4)) ((82,.ltm (.set (.var 82) (v 80) (sb 3 (v 76))))::bm 74::lm 3::(ids (dn 71 6++dn 64 18)++((78,.itm (v 78+1))::im 45::(77,.itm (v 77+1))::(ids (dn 43 4)++(im 39::aSF))))) ((nl 4194303 (v 78+1))::an4)))))))))))
 (nd 90 amO ((nl (v 76) 0))
 (nd 90 ap0 ((nl (v 76+1) (v 76)))
 (nd 90 amV ((nl 1536 (v 76+1)))
 (nd 90 ar2 ((nl 1125899906842624 (v 76+1)))
 (nd 90 alW ((nl (lb 3) (v 76+1)))
 (nd 90 am4 ((nl (lb 82) (v 81)))
 (nd 90 alQ ((nl 70368744177664 (.len (.sub (.var 82) 0 (v 80))+.len (.sub (.var 3) (v 76) (v 76+1)))))
 (nd 92 ao9 ((nl (v 8+N 1) 0))
 (nd 92 atT ((nl 4194303 (v 77+1)))
 (nd 92 apR ((nl 4194303 (v 78+1)))
 (lf 0 90 92 (rgs ERd.n (tSo 4)) ((82,.ltm (.app (.app (.sub (.var 82) 0 (v 80)) (.sub (.var 3) (v 76) (v 76+1))) (.var 90)))::bm 74::lm 3::(ids (dn 71 6++dn 64 18)++((78,.itm (v 78+1))::im 45::(77,.itm (v 77+1))::(ids (dn 43 4)++(im 39::aR9))))) ((nl 4194303 (v 78+1))::apR))))))))))))))))
theorem adR:eP (kz++(k0++k1))=aO:=by kernel_rfl
abbrev al0:=nq (v 80) 0::an6
abbrev alX:=.lt (v 76) (v 75)::al0
abbrev aqX:=.lt (v 76) (lb 3)::alX
abbrev ar7:=nq (sb 3 (v 76)) 32::nq (sb 3 (v 76)) 9::aqX
abbrev alE:=nl (v 76) 0::ar7
abbrev amL:=nl (v 76+2) (v 76)::alE
abbrev ak5:=nl 1536 (v 76+2)::amL
abbrev arH:=nl 1125899906842624 (v 76+2)::ak5
abbrev ap7:=nl (lb 3) (v 76+2)::arH
abbrev akV:=nl (lb 82) (v 81)::ap7
abbrev aqI:=nl 70368744177664 (.len (.sub (.var 82) 0 (v 80))+.len (.sub (.var 3) (v 76) (v 76+2)))::akV
abbrev apQ:=nl (v 8+N 1) 0::aqI
abbrev aj2:=nl 4194303 (v 77+1)::apQ
abbrev akN:=.or (.eq (sb 3 (v 76)) 32) (.eq (sb 3 (v 76)) 9)::aqX
abbrev asV:=nl (v 76) 0::akN
abbrev auK:=nl (v 76+2) (v 76)::asV
abbrev aoK:=nl 1536 (v 76+2)::auK
abbrev apZ:=nl 1125899906842624 (v 76+2)::aoK
abbrev akH:=nl (lb 3) (v 76+2)::apZ
abbrev aqU:=nl (lb 82) (v 81)::akH
abbrev amB:=nl 70368744177664 (.len (.sub (.var 82) 0 (v 80))+.len (.sub (.var 3) (v 76) (v 76+2)))::aqU
abbrev anI:=nl (v 8+N 1) 0::amB
abbrev ap6:=nl 4194303 (v 77+1)::anI
abbrev aYE:SgT:=(8,.itm (v 8+N 1))::(76,.itm (v 76+2))::im 75::bm 1::(ids (dn 35 16)++((81,.itm (.len (.sub (.var 82) 0 (v 80))+.len (.sub (.var 3) (v 76) (v 76+2))+lb 90))::(80,.itm (.len (.sub (.var 82) 0 (v 80))+.len (.sub (.var 3) (v 76) (v 76+2))))::(79,.new 91)::cU))
def cY:Tre:=(nd 90 al0 ((.lt (v 76) (v 75)))
 (nd 90 alX ((.lt (v 76) (lb 3)))
 (.fork (nd 90 ar7 ((nl (v 76) 0))
 (nd 90 alE ((nl (v 76+2) (v 76)))
 (nd 90 amL ((nl 1536 (v 76+2)))
 (nd 90 ak5 ((nl 1125899906842624 (v 76+2)))
 (nd 90 arH ((nl (lb 3) (v 76+2)))
 (nd 90 ap7 ((nl (lb 82) (v 81)))
 (nd 90 akV ((nl 70368744177664 (.len (.sub (.var 82) 0 (v 80))+.len (.sub (.var 3) (v 76) (v 76+2)))))
 (nd 92 aqI ((nl (v 8+N 1) 0))
 (nd 92 apQ ((nl 4194303 (v 77+1)))
 (nd 92 aj2 ((nl 4194303 (v 78+1)))
 (lf 0 90 92 (rgs ERd.n (tSo 4)) ((82,.ltm (.app (.app (.sub (.var 82) 0 (v 80)) (.sub (.var 3) (v 76) (v 76+2))) (.var 90)))::bm 74::lm 3::(ids (dn 71 6++dn 64 18)++((78,.itm (v 78+1))::im 45::(77,.itm (v 77+1))::(ids (dn 43 4)++(ik 39 0::aYE))))) ((nl 4194303 (v 78+1))::aj2))))))))))))
 (nd 90 akN ((nl (v 76) 0))
 (nd 90 asV ((nl (v 76+2) (v 76)))
 (nd 90 auK ((nl 1536 (v 76+2)))
 (nd 90 aoK ((nl 1125899906842624 (v 76+2)))
 (nd 90 apZ ((nl (lb 3) (v 76+2)))
 (nd 90 akH ((nl (lb 82) (v 81)))
 (nd 90 aqU ((nl 70368744177664 (.len (.sub (.var 82) 0 (v 80))+.len (.sub (.var 3) (v 76) (v 76+2)))))
 (nd 92 amB ((nl (v 8+N 1) 0))
 (nd 92 anI ((nl 4194303 (v 77+1)))
 (nd 92 ap6 ((nl 4194303 (v 78+1)))
 (lf 0 90 92 (rgs ERd.n (tSo 4)) ((82,.ltm (.app (.app (.sub (.var 82) 0 (v 80)) (.sub (.var 3) (v 76) (v 76+2))) (.var 90)))::bm 74::lm 3::(ids (dn 71 6++dn 64 18)++((78,.itm (v 78+1))::im 45::(77,.itm (v 77+1))::(ids (dn 43 4)++(im 39::aYE))))) ((nl 4194303 (v 78+1))::ap6)))))))))))))))
theorem ab1:eP (kz++(k0++k2))=cY:=by kernel_rfl
abbrev aoQ:=nq (v 80) 0::alO
abbrev auL:=.lt (v 76) (v 75)::aoQ
abbrev akO:=.lt (v 76) (lb 3)::auL
abbrev ak2:=nq (sb 3 (v 76)) 32::nq (sb 3 (v 76)) 9::akO
abbrev ak6:=nl (v 76) 0::ak2
abbrev ajR:=nl (v 76+3) (v 76)::ak6
abbrev alB:=nl 1536 (v 76+3)::ajR
abbrev aqF:=nl 1125899906842624 (v 76+3)::alB
abbrev arV:=nl (lb 3) (v 76+3)::aqF
abbrev asE:=nl (lb 82) (v 81)::arV
abbrev amD:=nl 70368744177664 (.len (.sub (.var 82) 0 (v 80))+.len (.sub (.var 3) (v 76) (v 76+3)))::asE
abbrev akX:=nl (v 8+N 1) 0::amD
abbrev amW:=nl 4194303 (v 77+1)::akX
abbrev as1:=.or (.eq (sb 3 (v 76)) 32) (.eq (sb 3 (v 76)) 9)::akO
abbrev anF:=nl (v 76) 0::as1
abbrev an2:=nl (v 76+3) (v 76)::anF
abbrev aj8:=nl 1536 (v 76+3)::an2
abbrev al2:=nl 1125899906842624 (v 76+3)::aj8
abbrev amC:=nl (lb 3) (v 76+3)::al2
abbrev aqT:=nl (lb 82) (v 81)::amC
abbrev apC:=nl 70368744177664 (.len (.sub (.var 82) 0 (v 80))+.len (.sub (.var 3) (v 76) (v 76+3)))::aqT
abbrev arW:=nl (v 8+N 1) 0::apC
abbrev atZ:=nl 4194303 (v 77+1)::arW
abbrev aXF:SgT:=(8,.itm (v 8+N 1))::(76,.itm (v 76+3))::im 75::bm 1::(ids (dn 35 16)++((81,.itm (.len (.sub (.var 82) 0 (v 80))+.len (.sub (.var 3) (v 76) (v 76+3))+lb 90))::(80,.itm (.len (.sub (.var 82) 0 (v 80))+.len (.sub (.var 3) (v 76) (v 76+3))))::(79,.new 91)::cU))
def A0:Tre:=(nd 90 aoQ ((.lt (v 76) (v 75)))
 (nd 90 auL ((.lt (v 76) (lb 3)))
 (.fork (nd 90 ak2 ((nl (v 76) 0))
 (nd 90 ak6 ((nl (v 76+3) (v 76)))
 (nd 90 ajR ((nl 1536 (v 76+3)))
 (nd 90 alB ((nl 1125899906842624 (v 76+3)))
 (nd 90 aqF ((nl (lb 3) (v 76+3)))
 (nd 90 arV ((nl (lb 82) (v 81)))
 (nd 90 asE ((nl 70368744177664 (.len (.sub (.var 82) 0 (v 80))+.len (.sub (.var 3) (v 76) (v 76+3)))))
 (nd 92 amD ((nl (v 8+N 1) 0))
 (nd 92 akX ((nl 4194303 (v 77+1)))
 (nd 92 amW ((nl 4194303 (v 78+1)))
 (lf 0 90 92 (rgs ERd.n (tSo 4)) ((82,.ltm (.app (.app (.sub (.var 82) 0 (v 80)) (.sub (.var 3) (v 76) (v 76+3))) (.var 90)))::bm 74::lm 3::(ids (dn 71 6++dn 64 18)++((78,.itm (v 78+1))::im 45::(77,.itm (v 77+1))::(ids (dn 43 4)++(ik 39 0::aXF))))) ((nl 4194303 (v 78+1))::amW))))))))))))
 (nd 90 as1 ((nl (v 76) 0))
 (nd 90 anF ((nl (v 76+3) (v 76)))
 (nd 90 an2 ((nl 1536 (v 76+3)))
 (nd 90 aj8 ((nl 1125899906842624 (v 76+3)))
 (nd 90 al2 ((nl (lb 3) (v 76+3)))
 (nd 90 amC ((nl (lb 82) (v 81)))
 (nd 90 aqT ((nl 70368744177664 (.len (.sub (.var 82) 0 (v 80))+.len (.sub (.var 3) (v 76) (v 76+3)))))
 (nd 92 apC ((nl (v 8+N 1) 0))
 (nd 92 arW ((nl 4194303 (v 77+1)))
 (nd 92 atZ ((nl 4194303 (v 78+1)))
 (lf 0 90 92 (rgs ERd.n (tSo 4)) ((82,.ltm (.app (.app (.sub (.var 82) 0 (v 80)) (.sub (.var 3) (v 76) (v 76+3))) (.var 90)))::bm 74::lm 3::(ids (dn 71 6++dn 64 18)++((78,.itm (v 78+1))::im 45::(77,.itm (v 77+1))::(ids (dn 43 4)++(im 39::aXF))))) ((nl 4194303 (v 78+1))::atZ)))))))))))))))
theorem ab4:eP (kz++(k0++k3))=A0:=by kernel_rfl
abbrev atH:=nq (v 80) 0::alU
abbrev aq2:=.lt (v 76) (v 75)::atH
abbrev asK:=.lt (v 76) (lb 3)::aq2
abbrev at1:=nq (sb 3 (v 76)) 32::nq (sb 3 (v 76)) 9::asK
abbrev atV:=nl (v 76) 0::at1
abbrev aqR:=nl (v 76+4) (v 76)::atV
abbrev ajK:=nl 1536 (v 76+4)::aqR
abbrev akB:=nl 1125899906842624 (v 76+4)::ajK
abbrev al5:=nl (lb 3) (v 76+4)::akB
abbrev ar8:=nl (lb 82) (v 81)::al5
abbrev aoM:=nl 70368744177664 (.len (.sub (.var 82) 0 (v 80))+.len (.sub (.var 3) (v 76) (v 76+4)))::ar8
abbrev ajT:=nl (v 8+N 1) 0::aoM
abbrev arY:=nl 4194303 (v 77+1)::ajT
abbrev ajL:=.or (.eq (sb 3 (v 76)) 32) (.eq (sb 3 (v 76)) 9)::asK
abbrev auF:=nl (v 76) 0::ajL
abbrev apG:=nl (v 76+4) (v 76)::auF
abbrev anW:=nl 1536 (v 76+4)::apG
abbrev aoA:=nl 1125899906842624 (v 76+4)::anW
abbrev anX:=nl (lb 3) (v 76+4)::aoA
abbrev ar6:=nl (lb 82) (v 81)::anX
abbrev as0:=nl 70368744177664 (.len (.sub (.var 82) 0 (v 80))+.len (.sub (.var 3) (v 76) (v 76+4)))::ar6
abbrev aqM:=nl (v 8+N 1) 0::as0
abbrev anU:=nl 4194303 (v 77+1)::aqM
abbrev aVR:SgT:=(8,.itm (v 8+N 1))::(76,.itm (v 76+4))::im 75::bm 1::(ids (dn 35 16)++((81,.itm (.len (.sub (.var 82) 0 (v 80))+.len (.sub (.var 3) (v 76) (v 76+4))+lb 90))::(80,.itm (.len (.sub (.var 82) 0 (v 80))+.len (.sub (.var 3) (v 76) (v 76+4))))::(79,.new 91)::cU))
def N8:Tre:=(nd 90 atH ((.lt (v 76) (v 75)))
 (nd 90 aq2 ((.lt (v 76) (lb 3)))
 (.fork (nd 90 at1 ((nl (v 76) 0))
 (nd 90 atV ((nl (v 76+4) (v 76)))
 (nd 90 aqR ((nl 1536 (v 76+4)))
 (nd 90 ajK ((nl 1125899906842624 (v 76+4)))
 (nd 90 akB ((nl (lb 3) (v 76+4)))
 (nd 90 al5 ((nl (lb 82) (v 81)))
 (nd 90 ar8 ((nl 70368744177664 (.len (.sub (.var 82) 0 (v 80))+.len (.sub (.var 3) (v 76) (v 76+4)))))
 (nd 92 aoM ((nl (v 8+N 1) 0))
 (nd 92 ajT ((nl 4194303 (v 77+1)))
 (nd 92 arY ((nl 4194303 (v 78+1)))
 (lf 0 90 92 (rgs ERd.n (tSo 4)) ((82,.ltm (.app (.app (.sub (.var 82) 0 (v 80)) (.sub (.var 3) (v 76) (v 76+4))) (.var 90)))::bm 74::lm 3::(ids (dn 71 6++dn 64 18)++((78,.itm (v 78+1))::im 45::(77,.itm (v 77+1))::(ids (dn 43 4)++(ik 39 0::aVR))))) ((nl 4194303 (v 78+1))::arY))))))))))))
 (nd 90 ajL ((nl (v 76) 0))
 (nd 90 auF ((nl (v 76+4) (v 76)))
 (nd 90 apG ((nl 1536 (v 76+4)))
 (nd 90 anW ((nl 1125899906842624 (v 76+4)))
 (nd 90 aoA ((nl (lb 3) (v 76+4)))
 (nd 90 anX ((nl (lb 82) (v 81)))
 (nd 90 ar6 ((nl 70368744177664 (.len (.sub (.var 82) 0 (v 80))+.len (.sub (.var 3) (v 76) (v 76+4)))))
 (nd 92 as0 ((nl (v 8+N 1) 0))
 (nd 92 aqM ((nl 4194303 (v 77+1)))
 (nd 92 anU ((nl 4194303 (v 78+1)))
 (lf 0 90 92 (rgs ERd.n (tSo 4)) ((82,.ltm (.app (.app (.sub (.var 82) 0 (v 80)) (.sub (.var 3) (v 76) (v 76+4))) (.var 90)))::bm 74::lm 3::(ids (dn 71 6++dn 64 18)++((78,.itm (v 78+1))::im 45::(77,.itm (v 77+1))::(ids (dn 43 4)++(im 39::aVR))))) ((nl 4194303 (v 78+1))::anU)))))))))))))))
theorem aeG:eP (kz++(k0++k4))=N8:=by kernel_rfl
end U
