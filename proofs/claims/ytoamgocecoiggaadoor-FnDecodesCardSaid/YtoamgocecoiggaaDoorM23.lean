-- the statement of this claim: see YtoamgocecoiggaaDoorRw
import Derived.Test.YtoamgocecoiggaaDoorM22
set_option linter.unusedVariables false
set_option linter.unusedSimpArgs false
open Go Go.SM Go.Proofs
namespace U
set_option maxRecDepth 100000
abbrev u3a0:List TB:=[(.not (.eq (.var 13) (.lit 9)))]
abbrev u3a1:List TB:=(.not (.eq (.var 13) (.lit 10)))::u3a0
abbrev u3a2:List TB:=(.not (.eq (.var 13) (.lit 13)))::u3a1
abbrev u3a3:List TB:=(.not (.and (.not (.lt (.var 13) (.lit 32))) (.not (.lt (.lit 126) (.var 13)))))::u3a2
abbrev u3a4:List TB:=(.not (.eq (.var 13) (.lit 133)))::u3a3
abbrev u3a5:List TB:=(.not (.and (.not (.lt (.var 13) (.lit 160))) (.not (.lt (.lit 55295) (.var 13)))))::u3a4
abbrev u3a6:List TB:=(.not (.and (.not (.lt (.var 13) (.lit 57344))) (.not (.lt (.lit 65533) (.var 13)))))::u3a5
abbrev u3s0:SgT:=[(0,.blk 0),(73,.blk 73)]
abbrev u3s1:SgT:=(12,.itm (.var 12))::u3s0
abbrev u3s2:SgT:=(5,.itm (.var 5))::u3s1
abbrev u3s3:SgT:=(74,.blk 74)::(17,.ltm (.var 17))::(4,.ltm (.var 4))::(3,.ltm (.var 3))::(ids (dn 71 6++dn 64 21)++((9,.itm (.var 9))::(10,.itm (.var 10))::(7,.itm (.var 7))::(6,.itm (.var 6))::(2,.blk 2)::(39,.idn)::(8,.itm (.var 8))::(37,.idn)::(1,.blk 1)::(11,.btm (.var 11))::(19,.itm (.var 19))::(72,.itm (.var 72))::(18,.itm (.var 18))::(16,.blk 16)::(ids ([32]++dn 30 11)++((14,.itm (.var 14))::(13,.itm (.var 13))::u3s2))))
abbrev u3s4:SgT:=(74,.blk 74)::(17,.ltm (.var 17))::(4,.ltm (.var 4))::(3,.ltm (.var 3))::(ids (dn 71 6++dn 64 21)++((9,.itm (.var 9))::(10,.itm (.var 10))::(7,.itm (.var 7))::(6,.itm (.var 6))::(2,.blk 2)::(39,.idn)::(8,.itm (.var 8))::(37,.idn)::(1,.blk 1)::(11,.btm (.var 11))::(19,.itm (.var 19))::(72,.itm (.var 72))::(18,.itm (.var 18))::(16,.blk 16)::(ids ([32]++dn 30 7)++u3s0)))
noncomputable def lit10:Tre:=(.fork (lf 0 90 90 (rgs (ntmps 42) tV) u3s3 [(.eq (.var 13) (.lit 9))])
 (.fork (lf 0 90 90 (rgs (ntmps 42) tV) u3s3 ((.eq (.var 13) (.lit 10))::u3a0))
 (.fork (lf 0 90 90 (rgs (ntmps 42) tV) u3s3 ((.eq (.var 13) (.lit 13))::u3a1))
 (.fork (lf 0 90 90 (rgs (ntmps 42) tV) u3s3 ((.not (.lt (.var 13) (.lit 32)))::(.not (.lt (.lit 126) (.var 13)))::u3a2))
 (.fork (lf 0 90 90 (rgs (ntmps 42) tV) u3s3 ((.eq (.var 13) (.lit 133))::u3a3))
 (.fork (lf 0 90 90 (rgs (ntmps 42) tV) u3s3 ((.not (.lt (.var 13) (.lit 160)))::(.not (.lt (.lit 55295) (.var 13)))::u3a4))
 (.fork (lf 0 90 90 (rgs (ntmps 42) tV) u3s3 ((.not (.lt (.var 13) (.lit 57344)))::(.not (.lt (.lit 65533) (.var 13)))::u3a5))
 (.fork (lf 0 90 90 (rgs (ntmps 42) tV) u3s3 ((.not (.lt (.var 13) (.lit 65536)))::u3a6))
 (lf 2 90 90 (rgs (ntmps 42) tE) u3s4 ((.lt (.var 13) (.lit 65536))::u3a6))))))))))
theorem lit10_eq:tre10=lit10:=by kernel_rfl
abbrev u3a7:List TB:=[(.not (.eq (.var 7) (.var 6)))]
abbrev u3a8:List TB:=(.not (.lt (.op .sub (.var 6) (.var 7)) (.lit 0)))::u3a7
abbrev u3a9:List TB:=[(.not (.lt (.lit 127) (.var 13)))]
abbrev u3a10:List TB:=(.lt (.var 5) (.lit 1536))::u3a9
abbrev u3a11:List TB:=(.lt (.var 5) (.len (.var 3)))::u3a10
abbrev u3a12:List TB:=(.not (.lt (.lit 1536) (.op .add (.var 5) (.lit 1))))::u3a11
abbrev u3a13:List TB:=(.not (.lt (.lit 2000) (.op .add (.var 8) (.lit 1))))::u3a12
abbrev u3a14:List TB:=(.not (.lt (.lit 512) (.op .add (.var 7) (.var 14))))::u3a13
abbrev u3a15:List TB:=[(.lt (.lit 127) (.var 13))]
abbrev u3a16:List TB:=(.not (.lt (.lit 2047) (.var 13)))::u3a15
abbrev u3a17:List TB:=(.lt (.var 5) (.lit 1536))::u3a16
abbrev u3a18:List TB:=(.lt (.var 5) (.len (.var 3)))::u3a17
abbrev u3a19:List TB:=(.lt (.op .add (.var 5) (.lit 1)) (.lit 1536))::u3a18
abbrev u3a20:List TB:=(.lt (.op .add (.var 5) (.lit 1)) (.len (.var 3)))::u3a19
abbrev u3a21:List TB:=(.not (.lt (.lit 1536) (.op .add (.var 5) (.lit 2))))::u3a20
abbrev u3a22:List TB:=(.not (.lt (.lit 2000) (.op .add (.var 8) (.lit 1))))::u3a21
abbrev u3a23:List TB:=(.not (.lt (.lit 512) (.op .add (.var 7) (.var 14))))::u3a22
abbrev u3a24:List TB:=(.lt (.lit 2047) (.var 13))::u3a15
abbrev u3a25:List TB:=(.not (.lt (.lit 65535) (.var 13)))::u3a24
abbrev u3a26:List TB:=(.lt (.var 5) (.lit 1536))::u3a25
abbrev u3a27:List TB:=(.lt (.var 5) (.len (.var 3)))::u3a26
abbrev u3a28:List TB:=(.lt (.op .add (.var 5) (.lit 1)) (.lit 1536))::u3a27
abbrev u3a29:List TB:=(.lt (.op .add (.var 5) (.lit 1)) (.len (.var 3)))::u3a28
abbrev u3a30:List TB:=(.lt (.op .add (.var 5) (.lit 2)) (.lit 1536))::u3a29
abbrev u3a31:List TB:=(.lt (.op .add (.var 5) (.lit 2)) (.len (.var 3)))::u3a30
abbrev u3a32:List TB:=(.not (.lt (.lit 1536) (.op .add (.var 5) (.lit 3))))::u3a31
abbrev u3a33:List TB:=(.not (.lt (.lit 2000) (.op .add (.var 8) (.lit 1))))::u3a32
abbrev u3a34:List TB:=(.not (.lt (.lit 512) (.op .add (.var 7) (.var 14))))::u3a33
abbrev u3a35:List TB:=(.lt (.lit 65535) (.var 13))::u3a24
abbrev u3a36:List TB:=(.lt (.var 5) (.lit 1536))::u3a35
abbrev u3a37:List TB:=(.lt (.var 5) (.len (.var 3)))::u3a36
abbrev u3a38:List TB:=(.lt (.op .add (.var 5) (.lit 1)) (.lit 1536))::u3a37
abbrev u3a39:List TB:=(.lt (.op .add (.var 5) (.lit 1)) (.len (.var 3)))::u3a38
abbrev u3a40:List TB:=(.lt (.op .add (.var 5) (.lit 2)) (.lit 1536))::u3a39
abbrev u3a41:List TB:=(.lt (.op .add (.var 5) (.lit 2)) (.len (.var 3)))::u3a40
abbrev u3a42:List TB:=(.lt (.op .add (.var 5) (.lit 3)) (.lit 1536))::u3a41
abbrev u3a43:List TB:=(.lt (.op .add (.var 5) (.lit 3)) (.len (.var 3)))::u3a42
abbrev u3a44:List TB:=(.not (.lt (.lit 1536) (.op .add (.var 5) (.lit 4))))::u3a43
abbrev u3a45:List TB:=(.not (.lt (.lit 2000) (.op .add (.var 8) (.lit 1))))::u3a44
abbrev u3a46:List TB:=(.not (.lt (.lit 512) (.op .add (.var 7) (.var 14))))::u3a45
abbrev u3s5:SgT:=(74,.blk 74)::(17,.ltm (.var 17))::(4,.ltm (.var 4))::(3,.ltm (.var 3))::(ids (dn 71 6++dn 64 21)++((9,.itm (.var 9))::(10,.itm (.var 10))::(7,.itm (.var 7))::(6,.itm (.var 6))::(2,.blk 2)::(39,.idn)::(8,.itm (.var 8))::(37,.idn)::(1,.blk 1)::(11,.btm (.var 11))::(19,.itm (.var 19))::(72,.itm (.var 72))::(18,.itm (.var 18))::(16,.blk 16)::(ids ([32]++dn 30 11)++u3s2)))
noncomputable def litI:Tre:=(.fork (nd 90 u3a7 ((.not (.lt (.op .sub (.var 6) (.var 7)) (.lit 0))))
 (nd 90 u3a8 ((.not (.lt (.lit 512) (.op .sub (.var 6) (.var 7)))))
 (.loop 4 90 90 (rgs (ntmps 42) sp4.tin) blk4 (SgT.enc ((74,.blk 74)::(17,.ltm (.var 17))::(4,.ltm (.var 4))::(3,.ltm (.var 3))::(ids (dn 71 6++dn 64 21)++((9,.itm (.var 9))::(7,.itm (.var 7))::(6,.itm (.var 6))::(2,.blk 2)::(39,.idn)::(8,.itm (.var 8))::(37,.idn)::(1,.blk 1)::(11,.btm (.var 11))::(19,.itm (.var 19))::(72,.itm (.var 72))::(18,.itm (.var 18))::(16,.blk 16)::(ids ([32]++dn 30 11)++((10,.itm (.var 10))::(15,.itm (.op .sub (.var 6) (.var 7)))::u3s2)))))) (List.map TB.enc ((.not (.lt (.lit 512) (.op .sub (.var 6) (.var 7))))::u3a8)) (.cons (rgs (ntmps 42) tV) (.loop 10 90 90 (rgs (ntmps 42) sp10.tin) blk10 (SgT.enc u3s3) (List.map TB.enc []) (.cons (rgs (ntmps 42) tV) (.fork (nd 90 u3a9 ((.lt (.var 5) (.lit 1536)))
 (nd 90 u3a10 ((.lt (.var 5) (.len (.var 3))))
 (nd 90 u3a11 ((.not (.lt (.lit 1536) (.op .add (.var 5) (.lit 1)))))
 (nd 90 u3a12 ((.not (.lt (.lit 2000) (.op .add (.var 8) (.lit 1)))))
 (nd 90 u3a13 ((.not (.lt (.lit 512) (.op .add (.var 7) (.var 14)))))
 (nd 90 u3a14 ((.not (.lt (.lit 10000000) (.op .add (.var 9) (.var 14)))))
 (lf 0 90 90 (rgs (ntmps 42) tA) ((74,.blk 74)::(17,.ltm (.var 17))::(4,.ltm (.var 4))::(3,.ltm (.set (.var 3) (.var 5) (.wrap .u8 (.var 13))))::(ids (dn 71 6++dn 64 21)++((9,.itm (.op .add (.var 9) (.var 14)))::(10,.itm (.var 10))::(7,.itm (.op .add (.var 7) (.var 14)))::(6,.itm (.var 6))::(2,.blk 2)::(39,.idn)::(8,.itm (.op .add (.var 8) (.lit 1)))::(37,.idn)::(1,.blk 1)::(11,.btm (.var 11))::(19,.itm (.var 19))::(72,.itm (.var 72))::(18,.itm (.var 18))::(16,.blk 16)::(ids ([32]++dn 30 11)++((5,.itm (.op .add (.var 5) (.lit 1)))::u3s1))))) ((.not (.lt (.lit 10000000) (.op .add (.var 9) (.var 14))))::u3a14))))))))
 (.fork (nd 90 u3a16 ((.lt (.var 5) (.lit 1536)))
 (nd 90 u3a17 ((.lt (.var 5) (.len (.var 3))))
 (nd 90 u3a18 ((.lt (.op .add (.var 5) (.lit 1)) (.lit 1536)))
 (nd 90 u3a19 ((.lt (.op .add (.var 5) (.lit 1)) (.len (.var 3))))
 (nd 90 u3a20 ((.not (.lt (.lit 1536) (.op .add (.var 5) (.lit 2)))))
 (nd 90 u3a21 ((.not (.lt (.lit 2000) (.op .add (.var 8) (.lit 1)))))
 (nd 90 u3a22 ((.not (.lt (.lit 512) (.op .add (.var 7) (.var 14)))))
 (nd 90 u3a23 ((.not (.lt (.lit 10000000) (.op .add (.var 9) (.var 14)))))
 (lf 0 90 90 (rgs (ntmps 42) tA) ((74,.blk 74)::(17,.ltm (.var 17))::(4,.ltm (.var 4))::(3,.ltm (.set (.set (.var 3) (.var 5) (.wrap .u8 (.op .add (.op .shr (.var 13) (.lit 6)) (.lit 192)))) (.op .add (.var 5) (.lit 1)) (.op .add (.op .and (.var 13) (.lit 63)) (.lit 128))))::(ids (dn 71 6++dn 64 21)++((9,.itm (.op .add (.var 9) (.var 14)))::(10,.itm (.var 10))::(7,.itm (.op .add (.var 7) (.var 14)))::(6,.itm (.var 6))::(2,.blk 2)::(39,.idn)::(8,.itm (.op .add (.var 8) (.lit 1)))::(37,.idn)::(1,.blk 1)::(11,.btm (.var 11))::(19,.itm (.var 19))::(72,.itm (.var 72))::(18,.itm (.var 18))::(16,.blk 16)::(ids ([32]++dn 30 11)++((5,.itm (.op .add (.var 5) (.lit 2)))::u3s1))))) ((.not (.lt (.lit 10000000) (.op .add (.var 9) (.var 14))))::u3a23))))))))))
 (.fork (nd 90 u3a25 ((.lt (.var 5) (.lit 1536)))
 (nd 90 u3a26 ((.lt (.var 5) (.len (.var 3))))
 (nd 90 u3a27 ((.lt (.op .add (.var 5) (.lit 1)) (.lit 1536)))
 (nd 90 u3a28 ((.lt (.op .add (.var 5) (.lit 1)) (.len (.var 3))))
 (nd 90 u3a29 ((.lt (.op .add (.var 5) (.lit 2)) (.lit 1536)))
 (nd 90 u3a30 ((.lt (.op .add (.var 5) (.lit 2)) (.len (.var 3))))
 (nd 90 u3a31 ((.not (.lt (.lit 1536) (.op .add (.var 5) (.lit 3)))))
 (nd 90 u3a32 ((.not (.lt (.lit 2000) (.op .add (.var 8) (.lit 1)))))
 (nd 90 u3a33 ((.not (.lt (.lit 512) (.op .add (.var 7) (.var 14)))))
 (nd 90 u3a34 ((.not (.lt (.lit 10000000) (.op .add (.var 9) (.var 14)))))
 (lf 0 90 90 (rgs (ntmps 42) tA) ((74,.blk 74)::(17,.ltm (.var 17))::(4,.ltm (.var 4))::(3,.ltm (.set (.set (.set (.var 3) (.var 5) (.wrap .u8 (.op .add (.op .shr (.var 13) (.lit 12)) (.lit 224)))) (.op .add (.var 5) (.lit 1)) (.op .add (.op .and (.op .shr (.var 13) (.lit 6)) (.lit 63)) (.lit 128))) (.op .add (.var 5) (.lit 2)) (.op .add (.op .and (.var 13) (.lit 63)) (.lit 128))))::(ids (dn 71 6++dn 64 21)++((9,.itm (.op .add (.var 9) (.var 14)))::(10,.itm (.var 10))::(7,.itm (.op .add (.var 7) (.var 14)))::(6,.itm (.var 6))::(2,.blk 2)::(39,.idn)::(8,.itm (.op .add (.var 8) (.lit 1)))::(37,.idn)::(1,.blk 1)::(11,.btm (.var 11))::(19,.itm (.var 19))::(72,.itm (.var 72))::(18,.itm (.var 18))::(16,.blk 16)::(ids ([32]++dn 30 11)++((5,.itm (.op .add (.var 5) (.lit 3)))::u3s1))))) ((.not (.lt (.lit 10000000) (.op .add (.var 9) (.var 14))))::u3a34))))))))))))
 (nd 90 u3a35 ((.lt (.var 5) (.lit 1536)))
 (nd 90 u3a36 ((.lt (.var 5) (.len (.var 3))))
 (nd 90 u3a37 ((.lt (.op .add (.var 5) (.lit 1)) (.lit 1536)))
 (nd 90 u3a38 ((.lt (.op .add (.var 5) (.lit 1)) (.len (.var 3))))
 (nd 90 u3a39 ((.lt (.op .add (.var 5) (.lit 2)) (.lit 1536)))
 (nd 90 u3a40 ((.lt (.op .add (.var 5) (.lit 2)) (.len (.var 3))))
 (nd 90 u3a41 ((.lt (.op .add (.var 5) (.lit 3)) (.lit 1536)))
 (nd 90 u3a42 ((.lt (.op .add (.var 5) (.lit 3)) (.len (.var 3))))
 (nd 90 u3a43 ((.not (.lt (.lit 1536) (.op .add (.var 5) (.lit 4)))))
 (nd 90 u3a44 ((.not (.lt (.lit 2000) (.op .add (.var 8) (.lit 1)))))
 (nd 90 u3a45 ((.not (.lt (.lit 512) (.op .add (.var 7) (.var 14)))))
 (nd 90 u3a46 ((.not (.lt (.lit 10000000) (.op .add (.var 9) (.var 14)))))
 (lf 0 90 90 (rgs (ntmps 42) tA) ((74,.blk 74)::(17,.ltm (.var 17))::(4,.ltm (.var 4))::(3,.ltm (.set (.set (.set (.set (.var 3) (.var 5) (.op .add (.op .shr (.var 13) (.lit 18)) (.lit 240))) (.op .add (.var 5) (.lit 1)) (.op .add (.op .and (.op .shr (.var 13) (.lit 12)) (.lit 63)) (.lit 128))) (.op .add (.var 5) (.lit 2)) (.op .add (.op .and (.op .shr (.var 13) (.lit 6)) (.lit 63)) (.lit 128))) (.op .add (.var 5) (.lit 3)) (.op .add (.op .and (.var 13) (.lit 63)) (.lit 128))))::(ids (dn 71 6++dn 64 21)++((9,.itm (.op .add (.var 9) (.var 14)))::(10,.itm (.var 10))::(7,.itm (.op .add (.var 7) (.var 14)))::(6,.itm (.var 6))::(2,.blk 2)::(39,.idn)::(8,.itm (.op .add (.var 8) (.lit 1)))::(37,.idn)::(1,.blk 1)::(11,.btm (.var 11))::(19,.itm (.var 19))::(72,.itm (.var 72))::(18,.itm (.var 18))::(16,.blk 16)::(ids ([32]++dn 30 11)++((5,.itm (.op .add (.var 5) (.lit 4)))::u3s1))))) ((.not (.lt (.lit 10000000) (.op .add (.var 9) (.var 14))))::u3a46)))))))))))))))))
 (.cons (rgs (ntmps 42) tE) (lf 2 90 90 (rgs (ntmps 42) tE) u3s4 [])
 .nil)))
 (.cons (rgs (ntmps 42) tA) (lf 1 90 90 (rgs (ntmps 42) tA) u3s5 [])
 (.cons (rgs (ntmps 42) tE) (lf 2 90 90 (rgs (ntmps 42) tE) u3s4 [])
 .nil))))))
 (lf 1 90 90 (rgs (ntmps 42) tA) u3s5 [(.eq (.var 7) (.var 6))]))
theorem litI_eq:treI=litI:=by kernel_rfl
abbrev u3a47:List TB:=[(.eq (.var 10) (.lit 1))]
abbrev u3a48:List TB:=(.lt (.var 7) (.var 6))::u3a47
abbrev u3a49:List TB:=(.lt (.var 7) (.len (.var 4)))::u3a48
abbrev u3a50:List TB:=(.eq (.op .and (.sel (.var 4) (.var 7)) (.lit 128)) (.lit 0))::u3a49
abbrev u3a51:List TB:=(.lt (.var 15) (.lit 1))::u3a50
abbrev u3a52:List TB:=(.not (.eq (.op .and (.sel (.var 4) (.var 7)) (.lit 128)) (.lit 0)))::u3a49
abbrev u3a53:List TB:=(.eq (.op .and (.sel (.var 4) (.var 7)) (.lit 224)) (.lit 192))::u3a52
abbrev u3a54:List TB:=(.lt (.var 15) (.lit 2))::u3a53
abbrev u3a55:List TB:=(.not (.lt (.var 15) (.lit 2)))::u3a53
abbrev u3a56:List TB:=(.lt (.op .add (.var 7) (.lit 1)) (.var 6))::u3a55
abbrev u3a57:List TB:=(.lt (.op .add (.var 7) (.lit 1)) (.len (.var 4)))::u3a56
abbrev u3a58:List TB:=(.eq (.op .and (.sel (.var 4) (.op .add (.var 7) (.lit 1))) (.lit 192)) (.lit 128))::u3a57
abbrev u3a59:List TB:=(.not (.eq (.op .and (.sel (.var 4) (.var 7)) (.lit 224)) (.lit 192)))::u3a52
abbrev u3a60:List TB:=(.eq (.op .and (.sel (.var 4) (.var 7)) (.lit 240)) (.lit 224))::u3a59
abbrev u3a61:List TB:=(.lt (.var 15) (.lit 3))::u3a60
abbrev u3a62:List TB:=(.not (.lt (.var 15) (.lit 3)))::u3a60
abbrev u3a63:List TB:=(.lt (.op .add (.var 7) (.lit 1)) (.var 6))::u3a62
abbrev u3a64:List TB:=(.lt (.op .add (.var 7) (.lit 1)) (.len (.var 4)))::u3a63
abbrev u3a65:List TB:=(.eq (.op .and (.sel (.var 4) (.op .add (.var 7) (.lit 1))) (.lit 192)) (.lit 128))::u3a64
abbrev u3a66:List TB:=(.lt (.op .add (.var 7) (.lit 2)) (.var 6))::u3a65
abbrev u3a67:List TB:=(.lt (.op .add (.var 7) (.lit 2)) (.len (.var 4)))::u3a66
abbrev u3a68:List TB:=(.eq (.op .and (.sel (.var 4) (.op .add (.var 7) (.lit 2))) (.lit 192)) (.lit 128))::u3a67
abbrev u3a69:List TB:=(.not (.lt (.op .add (.op .shl (.op .add (.op .shl (.op .and (.sel (.var 4) (.var 7)) (.lit 15)) (.lit 6)) (.op .and (.sel (.var 4) (.op .add (.var 7) (.lit 1))) (.lit 63))) (.lit 6)) (.op .and (.sel (.var 4) (.op .add (.var 7) (.lit 2))) (.lit 63))) (.lit 2048)))::u3a68
abbrev u3a70:List TB:=(.not (.eq (.op .and (.sel (.var 4) (.var 7)) (.lit 240)) (.lit 224)))::u3a59
abbrev u3a71:List TB:=(.eq (.op .and (.sel (.var 4) (.var 7)) (.lit 248)) (.lit 240))::u3a70
abbrev u3a72:List TB:=(.lt (.var 15) (.lit 4))::u3a71
abbrev u3a73:List TB:=(.not (.lt (.var 15) (.lit 4)))::u3a71
abbrev u3a74:List TB:=(.lt (.op .add (.var 7) (.lit 1)) (.var 6))::u3a73
abbrev u3a75:List TB:=(.lt (.op .add (.var 7) (.lit 1)) (.len (.var 4)))::u3a74
abbrev u3a76:List TB:=(.eq (.op .and (.sel (.var 4) (.op .add (.var 7) (.lit 1))) (.lit 192)) (.lit 128))::u3a75
abbrev u3a77:List TB:=(.lt (.op .add (.var 7) (.lit 2)) (.var 6))::u3a76
abbrev u3a78:List TB:=(.lt (.op .add (.var 7) (.lit 2)) (.len (.var 4)))::u3a77
abbrev u3a79:List TB:=(.eq (.op .and (.sel (.var 4) (.op .add (.var 7) (.lit 2))) (.lit 192)) (.lit 128))::u3a78
abbrev u3a80:List TB:=(.lt (.op .add (.var 7) (.lit 3)) (.var 6))::u3a79
abbrev u3a81:List TB:=(.lt (.op .add (.var 7) (.lit 3)) (.len (.var 4)))::u3a80
abbrev u3a82:List TB:=(.eq (.op .and (.sel (.var 4) (.op .add (.var 7) (.lit 3))) (.lit 192)) (.lit 128))::u3a81
abbrev u3a83:List TB:=(.not (.lt (.op .add (.op .shl (.op .add (.op .shl (.op .add (.op .shl (.op .and (.sel (.var 4) (.var 7)) (.lit 7)) (.lit 6)) (.op .and (.sel (.var 4) (.op .add (.var 7) (.lit 1))) (.lit 63))) (.lit 6)) (.op .and (.sel (.var 4) (.op .add (.var 7) (.lit 2))) (.lit 63))) (.lit 6)) (.op .and (.sel (.var 4) (.op .add (.var 7) (.lit 3))) (.lit 63))) (.lit 65536)))::u3a82
noncomputable def lit41:Tre:=(nd 90 u3a47 ((.lt (.var 7) (.var 6)))
 (nd 90 u3a48 ((.lt (.var 7) (.len (.var 4))))
 (.fork (.fork (.fork (lf 2 90 90 (rgs (ntmps 42) tE) u3s4 ((.var 11)::u3a51))
 (lf 1 90 90 (rgs (ntmps 42) tA) u3s5 ((.not (.var 11))::u3a51)))
 (lf 0 90 90 (rgs (ntmps 42) tV) ((74,.blk 74)::(17,.ltm (.var 17))::(4,.ltm (.var 4))::(3,.ltm (.var 3))::(ids (dn 71 6++dn 64 21)++((9,.itm (.var 9))::(10,.itm (.var 10))::(7,.itm (.var 7))::(6,.itm (.var 6))::(2,.blk 2)::(39,.idn)::(8,.itm (.var 8))::(37,.idn)::(1,.blk 1)::(11,.btm (.var 11))::(19,.itm (.var 19))::(72,.itm (.var 72))::(18,.itm (.var 18))::(16,.blk 16)::(ids ([32]++dn 30 11)++((14,.itm (.lit 1))::(13,.itm (.op .and (.sel (.var 4) (.var 7)) (.lit 127)))::u3s2))))) ((.not (.lt (.var 15) (.lit 1)))::u3a50)))
 (.fork (.fork (.fork (lf 2 90 90 (rgs (ntmps 42) tE) u3s4 ((.var 11)::u3a54))
 (lf 1 90 90 (rgs (ntmps 42) tA) u3s5 ((.not (.var 11))::u3a54)))
 (nd 90 u3a55 ((.lt (.op .add (.var 7) (.lit 1)) (.var 6)))
 (nd 90 u3a56 ((.lt (.op .add (.var 7) (.lit 1)) (.len (.var 4))))
 (.fork (lf 2 90 90 (rgs (ntmps 42) tE) u3s4 ((.not (.eq (.op .and (.sel (.var 4) (.op .add (.var 7) (.lit 1))) (.lit 192)) (.lit 128)))::u3a57))
 (.fork (lf 0 90 90 (rgs (ntmps 42) tV) ((74,.blk 74)::(17,.ltm (.var 17))::(4,.ltm (.var 4))::(3,.ltm (.var 3))::(ids (dn 71 6++dn 64 21)++((9,.itm (.var 9))::(10,.itm (.var 10))::(7,.itm (.var 7))::(6,.itm (.var 6))::(2,.blk 2)::(39,.idn)::(8,.itm (.var 8))::(37,.idn)::(1,.blk 1)::(11,.btm (.var 11))::(19,.itm (.var 19))::(72,.itm (.var 72))::(18,.itm (.var 18))::(16,.blk 16)::(ids ([32]++dn 30 11)++((14,.itm (.lit 2))::(13,.itm (.op .add (.op .shl (.op .and (.sel (.var 4) (.var 7)) (.lit 31)) (.lit 6)) (.op .and (.sel (.var 4) (.op .add (.var 7) (.lit 1))) (.lit 63))))::u3s2))))) ((.not (.lt (.op .add (.op .shl (.op .and (.sel (.var 4) (.var 7)) (.lit 31)) (.lit 6)) (.op .and (.sel (.var 4) (.op .add (.var 7) (.lit 1))) (.lit 63))) (.lit 128)))::u3a58))
 (lf 2 90 90 (rgs (ntmps 42) tE) u3s4 ((.lt (.op .add (.op .shl (.op .and (.sel (.var 4) (.var 7)) (.lit 31)) (.lit 6)) (.op .and (.sel (.var 4) (.op .add (.var 7) (.lit 1))) (.lit 63))) (.lit 128))::u3a58)))))))
 (.fork (.fork (.fork (lf 2 90 90 (rgs (ntmps 42) tE) u3s4 ((.var 11)::u3a61))
 (lf 1 90 90 (rgs (ntmps 42) tA) u3s5 ((.not (.var 11))::u3a61)))
 (nd 90 u3a62 ((.lt (.op .add (.var 7) (.lit 1)) (.var 6)))
 (nd 90 u3a63 ((.lt (.op .add (.var 7) (.lit 1)) (.len (.var 4))))
 (.fork (lf 2 90 90 (rgs (ntmps 42) tE) u3s4 ((.not (.eq (.op .and (.sel (.var 4) (.op .add (.var 7) (.lit 1))) (.lit 192)) (.lit 128)))::u3a64))
 (nd 90 u3a65 ((.lt (.op .add (.var 7) (.lit 2)) (.var 6)))
 (nd 90 u3a66 ((.lt (.op .add (.var 7) (.lit 2)) (.len (.var 4))))
 (.fork (lf 2 90 90 (rgs (ntmps 42) tE) u3s4 ((.not (.eq (.op .and (.sel (.var 4) (.op .add (.var 7) (.lit 2))) (.lit 192)) (.lit 128)))::u3a67))
 (.fork (.fork (lf 2 90 90 (rgs (ntmps 42) tE) u3s4 ((.not (.lt (.op .add (.op .shl (.op .add (.op .shl (.op .and (.sel (.var 4) (.var 7)) (.lit 15)) (.lit 6)) (.op .and (.sel (.var 4) (.op .add (.var 7) (.lit 1))) (.lit 63))) (.lit 6)) (.op .and (.sel (.var 4) (.op .add (.var 7) (.lit 2))) (.lit 63))) (.lit 55296)))::(.not (.lt (.lit 57343) (.op .add (.op .shl (.op .add (.op .shl (.op .and (.sel (.var 4) (.var 7)) (.lit 15)) (.lit 6)) (.op .and (.sel (.var 4) (.op .add (.var 7) (.lit 1))) (.lit 63))) (.lit 6)) (.op .and (.sel (.var 4) (.op .add (.var 7) (.lit 2))) (.lit 63)))))::u3a69))
 (lf 0 90 90 (rgs (ntmps 42) tV) ((74,.blk 74)::(17,.ltm (.var 17))::(4,.ltm (.var 4))::(3,.ltm (.var 3))::(ids (dn 71 6++dn 64 21)++((9,.itm (.var 9))::(10,.itm (.var 10))::(7,.itm (.var 7))::(6,.itm (.var 6))::(2,.blk 2)::(39,.idn)::(8,.itm (.var 8))::(37,.idn)::(1,.blk 1)::(11,.btm (.var 11))::(19,.itm (.var 19))::(72,.itm (.var 72))::(18,.itm (.var 18))::(16,.blk 16)::(ids ([32]++dn 30 11)++((14,.itm (.lit 3))::(13,.itm (.op .add (.op .shl (.op .add (.op .shl (.op .and (.sel (.var 4) (.var 7)) (.lit 15)) (.lit 6)) (.op .and (.sel (.var 4) (.op .add (.var 7) (.lit 1))) (.lit 63))) (.lit 6)) (.op .and (.sel (.var 4) (.op .add (.var 7) (.lit 2))) (.lit 63))))::u3s2))))) ((.not (.and (.not (.lt (.op .add (.op .shl (.op .add (.op .shl (.op .and (.sel (.var 4) (.var 7)) (.lit 15)) (.lit 6)) (.op .and (.sel (.var 4) (.op .add (.var 7) (.lit 1))) (.lit 63))) (.lit 6)) (.op .and (.sel (.var 4) (.op .add (.var 7) (.lit 2))) (.lit 63))) (.lit 55296))) (.not (.lt (.lit 57343) (.op .add (.op .shl (.op .add (.op .shl (.op .and (.sel (.var 4) (.var 7)) (.lit 15)) (.lit 6)) (.op .and (.sel (.var 4) (.op .add (.var 7) (.lit 1))) (.lit 63))) (.lit 6)) (.op .and (.sel (.var 4) (.op .add (.var 7) (.lit 2))) (.lit 63)))))))::u3a69)))
 (lf 2 90 90 (rgs (ntmps 42) tE) u3s4 ((.lt (.op .add (.op .shl (.op .add (.op .shl (.op .and (.sel (.var 4) (.var 7)) (.lit 15)) (.lit 6)) (.op .and (.sel (.var 4) (.op .add (.var 7) (.lit 1))) (.lit 63))) (.lit 6)) (.op .and (.sel (.var 4) (.op .add (.var 7) (.lit 2))) (.lit 63))) (.lit 2048))::u3a68))))))))))
 (.fork (.fork (.fork (lf 2 90 90 (rgs (ntmps 42) tE) u3s4 ((.var 11)::u3a72))
 (lf 1 90 90 (rgs (ntmps 42) tA) u3s5 ((.not (.var 11))::u3a72)))
 (nd 90 u3a73 ((.lt (.op .add (.var 7) (.lit 1)) (.var 6)))
 (nd 90 u3a74 ((.lt (.op .add (.var 7) (.lit 1)) (.len (.var 4))))
 (.fork (lf 2 90 90 (rgs (ntmps 42) tE) u3s4 ((.not (.eq (.op .and (.sel (.var 4) (.op .add (.var 7) (.lit 1))) (.lit 192)) (.lit 128)))::u3a75))
 (nd 90 u3a76 ((.lt (.op .add (.var 7) (.lit 2)) (.var 6)))
 (nd 90 u3a77 ((.lt (.op .add (.var 7) (.lit 2)) (.len (.var 4))))
 (.fork (lf 2 90 90 (rgs (ntmps 42) tE) u3s4 ((.not (.eq (.op .and (.sel (.var 4) (.op .add (.var 7) (.lit 2))) (.lit 192)) (.lit 128)))::u3a78))
 (nd 90 u3a79 ((.lt (.op .add (.var 7) (.lit 3)) (.var 6)))
 (nd 90 u3a80 ((.lt (.op .add (.var 7) (.lit 3)) (.len (.var 4))))
 (.fork (lf 2 90 90 (rgs (ntmps 42) tE) u3s4 ((.not (.eq (.op .and (.sel (.var 4) (.op .add (.var 7) (.lit 3))) (.lit 192)) (.lit 128)))::u3a81))
 (.fork (.fork (lf 2 90 90 (rgs (ntmps 42) tE) u3s4 ((.or (.and (.not (.lt (.op .add (.op .shl (.op .add (.op .shl (.op .add (.op .shl (.op .and (.sel (.var 4) (.var 7)) (.lit 7)) (.lit 6)) (.op .and (.sel (.var 4) (.op .add (.var 7) (.lit 1))) (.lit 63))) (.lit 6)) (.op .and (.sel (.var 4) (.op .add (.var 7) (.lit 2))) (.lit 63))) (.lit 6)) (.op .and (.sel (.var 4) (.op .add (.var 7) (.lit 3))) (.lit 63))) (.lit 55296))) (.not (.lt (.lit 57343) (.op .add (.op .shl (.op .add (.op .shl (.op .add (.op .shl (.op .and (.sel (.var 4) (.var 7)) (.lit 7)) (.lit 6)) (.op .and (.sel (.var 4) (.op .add (.var 7) (.lit 1))) (.lit 63))) (.lit 6)) (.op .and (.sel (.var 4) (.op .add (.var 7) (.lit 2))) (.lit 63))) (.lit 6)) (.op .and (.sel (.var 4) (.op .add (.var 7) (.lit 3))) (.lit 63)))))) (.lt (.lit 1114111) (.op .add (.op .shl (.op .add (.op .shl (.op .add (.op .shl (.op .and (.sel (.var 4) (.var 7)) (.lit 7)) (.lit 6)) (.op .and (.sel (.var 4) (.op .add (.var 7) (.lit 1))) (.lit 63))) (.lit 6)) (.op .and (.sel (.var 4) (.op .add (.var 7) (.lit 2))) (.lit 63))) (.lit 6)) (.op .and (.sel (.var 4) (.op .add (.var 7) (.lit 3))) (.lit 63)))))::u3a83))
 (lf 0 90 90 (rgs (ntmps 42) tV) ((74,.blk 74)::(17,.ltm (.var 17))::(4,.ltm (.var 4))::(3,.ltm (.var 3))::(ids (dn 71 6++dn 64 21)++((9,.itm (.var 9))::(10,.itm (.var 10))::(7,.itm (.var 7))::(6,.itm (.var 6))::(2,.blk 2)::(39,.idn)::(8,.itm (.var 8))::(37,.idn)::(1,.blk 1)::(11,.btm (.var 11))::(19,.itm (.var 19))::(72,.itm (.var 72))::(18,.itm (.var 18))::(16,.blk 16)::(ids ([32]++dn 30 11)++((14,.itm (.lit 4))::(13,.itm (.op .add (.op .shl (.op .add (.op .shl (.op .add (.op .shl (.op .and (.sel (.var 4) (.var 7)) (.lit 7)) (.lit 6)) (.op .and (.sel (.var 4) (.op .add (.var 7) (.lit 1))) (.lit 63))) (.lit 6)) (.op .and (.sel (.var 4) (.op .add (.var 7) (.lit 2))) (.lit 63))) (.lit 6)) (.op .and (.sel (.var 4) (.op .add (.var 7) (.lit 3))) (.lit 63))))::u3s2))))) ((.not (.and (.not (.lt (.op .add (.op .shl (.op .add (.op .shl (.op .add (.op .shl (.op .and (.sel (.var 4) (.var 7)) (.lit 7)) (.lit 6)) (.op .and (.sel (.var 4) (.op .add (.var 7) (.lit 1))) (.lit 63))) (.lit 6)) (.op .and (.sel (.var 4) (.op .add (.var 7) (.lit 2))) (.lit 63))) (.lit 6)) (.op .and (.sel (.var 4) (.op .add (.var 7) (.lit 3))) (.lit 63))) (.lit 55296))) (.not (.lt (.lit 57343) (.op .add (.op .shl (.op .add (.op .shl (.op .add (.op .shl (.op .and (.sel (.var 4) (.var 7)) (.lit 7)) (.lit 6)) (.op .and (.sel (.var 4) (.op .add (.var 7) (.lit 1))) (.lit 63))) (.lit 6)) (.op .and (.sel (.var 4) (.op .add (.var 7) (.lit 2))) (.lit 63))) (.lit 6)) (.op .and (.sel (.var 4) (.op .add (.var 7) (.lit 3))) (.lit 63)))))))::(.not (.lt (.lit 1114111) (.op .add (.op .shl (.op .add (.op .shl (.op .add (.op .shl (.op .and (.sel (.var 4) (.var 7)) (.lit 7)) (.lit 6)) (.op .and (.sel (.var 4) (.op .add (.var 7) (.lit 1))) (.lit 63))) (.lit 6)) (.op .and (.sel (.var 4) (.op .add (.var 7) (.lit 2))) (.lit 63))) (.lit 6)) (.op .and (.sel (.var 4) (.op .add (.var 7) (.lit 3))) (.lit 63)))))::u3a83)))
 (lf 2 90 90 (rgs (ntmps 42) tE) u3s4 ((.lt (.op .add (.op .shl (.op .add (.op .shl (.op .add (.op .shl (.op .and (.sel (.var 4) (.var 7)) (.lit 7)) (.lit 6)) (.op .and (.sel (.var 4) (.op .add (.var 7) (.lit 1))) (.lit 63))) (.lit 6)) (.op .and (.sel (.var 4) (.op .add (.var 7) (.lit 2))) (.lit 63))) (.lit 6)) (.op .and (.sel (.var 4) (.op .add (.var 7) (.lit 3))) (.lit 63))) (.lit 65536))::u3a82)))))))))))))
 (lf 2 90 90 (rgs (ntmps 42) tE) u3s4 ((.not (.eq (.op .and (.sel (.var 4) (.var 7)) (.lit 248)) (.lit 240)))::u3a70))))))))
theorem lit41_eq:tre4 fA1=lit41:=by kernel_rfl
abbrev u3a84:List TB:=[(.not (.eq (.var 10) (.lit 1))),(.eq (.var 10) (.lit 2))]
abbrev u3a85:List TB:=(.lt (.var 15) (.lit 2))::u3a84
abbrev u3a86:List TB:=(.not (.lt (.var 15) (.lit 2)))::u3a84
abbrev u3a87:List TB:=(.lt (.var 7) (.var 6))::u3a86
abbrev u3a88:List TB:=(.lt (.var 7) (.len (.var 4)))::u3a87
abbrev u3a89:List TB:=(.lt (.op .add (.var 7) (.lit 1)) (.var 6))::u3a88
abbrev u3a90:List TB:=(.lt (.op .add (.var 7) (.lit 1)) (.len (.var 4)))::u3a89
abbrev u3a91:List TB:=(.not (.eq (.op .and (.op .add (.sel (.var 4) (.var 7)) (.op .shl (.sel (.var 4) (.op .add (.var 7) (.lit 1))) (.lit 8))) (.lit 64512)) (.lit 56320)))::u3a90
abbrev u3a92:List TB:=(.eq (.op .and (.op .add (.sel (.var 4) (.var 7)) (.op .shl (.sel (.var 4) (.op .add (.var 7) (.lit 1))) (.lit 8))) (.lit 64512)) (.lit 55296))::u3a91
abbrev u3a93:List TB:=(.lt (.var 15) (.lit 4))::u3a92
abbrev u3a94:List TB:=(.not (.lt (.var 15) (.lit 4)))::u3a92
abbrev u3a95:List TB:=(.lt (.op .add (.var 7) (.lit 2)) (.var 6))::u3a94
abbrev u3a96:List TB:=(.lt (.op .add (.var 7) (.lit 2)) (.len (.var 4)))::u3a95
abbrev u3a97:List TB:=(.lt (.op .add (.var 7) (.lit 3)) (.var 6))::u3a96
abbrev u3a98:List TB:=(.lt (.op .add (.var 7) (.lit 3)) (.len (.var 4)))::u3a97
noncomputable def lit42:Tre:=(.fork (.fork (lf 2 90 90 (rgs (ntmps 42) tE) u3s4 ((.var 11)::u3a85))
 (lf 1 90 90 (rgs (ntmps 42) tA) u3s5 ((.not (.var 11))::u3a85)))
 (nd 90 u3a86 ((.lt (.var 7) (.var 6)))
 (nd 90 u3a87 ((.lt (.var 7) (.len (.var 4))))
 (nd 90 u3a88 ((.lt (.op .add (.var 7) (.lit 1)) (.var 6)))
 (nd 90 u3a89 ((.lt (.op .add (.var 7) (.lit 1)) (.len (.var 4))))
 (.fork (lf 2 90 90 (rgs (ntmps 42) tE) u3s4 ((.eq (.op .and (.op .add (.sel (.var 4) (.var 7)) (.op .shl (.sel (.var 4) (.op .add (.var 7) (.lit 1))) (.lit 8))) (.lit 64512)) (.lit 56320))::u3a90))
 (.fork (.fork (.fork (lf 2 90 90 (rgs (ntmps 42) tE) u3s4 ((.var 11)::u3a93))
 (lf 1 90 90 (rgs (ntmps 42) tA) u3s5 ((.not (.var 11))::u3a93)))
 (nd 90 u3a94 ((.lt (.op .add (.var 7) (.lit 2)) (.var 6)))
 (nd 90 u3a95 ((.lt (.op .add (.var 7) (.lit 2)) (.len (.var 4))))
 (nd 90 u3a96 ((.lt (.op .add (.var 7) (.lit 3)) (.var 6)))
 (nd 90 u3a97 ((.lt (.op .add (.var 7) (.lit 3)) (.len (.var 4))))
 (.fork (lf 2 90 90 (rgs (ntmps 42) tE) u3s4 ((.not (.eq (.op .and (.op .add (.sel (.var 4) (.op .add (.var 7) (.lit 2))) (.op .shl (.sel (.var 4) (.op .add (.var 7) (.lit 3))) (.lit 8))) (.lit 64512)) (.lit 56320)))::u3a98))
 (lf 0 90 90 (rgs (ntmps 42) tV) ((74,.blk 74)::(17,.ltm (.var 17))::(4,.ltm (.var 4))::(3,.ltm (.var 3))::(ids (dn 71 6++dn 64 21)++((9,.itm (.var 9))::(10,.itm (.var 10))::(7,.itm (.var 7))::(6,.itm (.var 6))::(2,.blk 2)::(39,.idn)::(8,.itm (.var 8))::(37,.idn)::(1,.blk 1)::(11,.btm (.var 11))::(19,.itm (.var 19))::(72,.itm (.var 72))::(18,.itm (.var 18))::(16,.blk 16)::(ids ([32]++dn 30 11)++((14,.itm (.lit 4))::(13,.itm (.op .add (.op .add (.op .shl (.op .and (.op .add (.sel (.var 4) (.var 7)) (.op .shl (.sel (.var 4) (.op .add (.var 7) (.lit 1))) (.lit 8))) (.lit 1023)) (.lit 10)) (.lit 65536)) (.op .and (.op .add (.sel (.var 4) (.op .add (.var 7) (.lit 2))) (.op .shl (.sel (.var 4) (.op .add (.var 7) (.lit 3))) (.lit 8))) (.lit 1023))))::u3s2))))) ((.eq (.op .and (.op .add (.sel (.var 4) (.op .add (.var 7) (.lit 2))) (.op .shl (.sel (.var 4) (.op .add (.var 7) (.lit 3))) (.lit 8))) (.lit 64512)) (.lit 56320))::u3a98))))))))
 (lf 0 90 90 (rgs (ntmps 42) tV) ((74,.blk 74)::(17,.ltm (.var 17))::(4,.ltm (.var 4))::(3,.ltm (.var 3))::(ids (dn 71 6++dn 64 21)++((9,.itm (.var 9))::(10,.itm (.var 10))::(7,.itm (.var 7))::(6,.itm (.var 6))::(2,.blk 2)::(39,.idn)::(8,.itm (.var 8))::(37,.idn)::(1,.blk 1)::(11,.btm (.var 11))::(19,.itm (.var 19))::(72,.itm (.var 72))::(18,.itm (.var 18))::(16,.blk 16)::(ids ([32]++dn 30 11)++((14,.itm (.lit 2))::(13,.itm (.op .add (.sel (.var 4) (.var 7)) (.op .shl (.sel (.var 4) (.op .add (.var 7) (.lit 1))) (.lit 8))))::u3s2))))) ((.not (.eq (.op .and (.op .add (.sel (.var 4) (.var 7)) (.op .shl (.sel (.var 4) (.op .add (.var 7) (.lit 1))) (.lit 8))) (.lit 64512)) (.lit 55296)))::u3a91)))))))))
theorem lit42_eq:tre4 fA2=lit42:=by kernel_rfl
abbrev u3a99:List TB:=[(.not (.eq (.var 10) (.lit 1))),(.not (.eq (.var 10) (.lit 2))),(.eq (.var 10) (.lit 3))]
abbrev u3a100:List TB:=(.lt (.var 15) (.lit 2))::u3a99
abbrev u3a101:List TB:=(.not (.lt (.var 15) (.lit 2)))::u3a99
abbrev u3a102:List TB:=(.lt (.op .add (.var 7) (.lit 1)) (.var 6))::u3a101
abbrev u3a103:List TB:=(.lt (.op .add (.var 7) (.lit 1)) (.len (.var 4)))::u3a102
abbrev u3a104:List TB:=(.lt (.var 7) (.var 6))::u3a103
abbrev u3a105:List TB:=(.lt (.var 7) (.len (.var 4)))::u3a104
abbrev u3a106:List TB:=(.not (.eq (.op .and (.op .add (.sel (.var 4) (.op .add (.var 7) (.lit 1))) (.op .shl (.sel (.var 4) (.var 7)) (.lit 8))) (.lit 64512)) (.lit 56320)))::u3a105
abbrev u3a107:List TB:=(.eq (.op .and (.op .add (.sel (.var 4) (.op .add (.var 7) (.lit 1))) (.op .shl (.sel (.var 4) (.var 7)) (.lit 8))) (.lit 64512)) (.lit 55296))::u3a106
abbrev u3a108:List TB:=(.lt (.var 15) (.lit 4))::u3a107
abbrev u3a109:List TB:=(.not (.lt (.var 15) (.lit 4)))::u3a107
abbrev u3a110:List TB:=(.lt (.op .add (.var 7) (.lit 3)) (.var 6))::u3a109
abbrev u3a111:List TB:=(.lt (.op .add (.var 7) (.lit 3)) (.len (.var 4)))::u3a110
abbrev u3a112:List TB:=(.lt (.op .add (.var 7) (.lit 2)) (.var 6))::u3a111
abbrev u3a113:List TB:=(.lt (.op .add (.var 7) (.lit 2)) (.len (.var 4)))::u3a112
noncomputable def lit43:Tre:=(.fork (.fork (lf 2 90 90 (rgs (ntmps 42) tE) u3s4 ((.var 11)::u3a100))
 (lf 1 90 90 (rgs (ntmps 42) tA) u3s5 ((.not (.var 11))::u3a100)))
 (nd 90 u3a101 ((.lt (.op .add (.var 7) (.lit 1)) (.var 6)))
 (nd 90 u3a102 ((.lt (.op .add (.var 7) (.lit 1)) (.len (.var 4))))
 (nd 90 u3a103 ((.lt (.var 7) (.var 6)))
 (nd 90 u3a104 ((.lt (.var 7) (.len (.var 4))))
 (.fork (lf 2 90 90 (rgs (ntmps 42) tE) u3s4 ((.eq (.op .and (.op .add (.sel (.var 4) (.op .add (.var 7) (.lit 1))) (.op .shl (.sel (.var 4) (.var 7)) (.lit 8))) (.lit 64512)) (.lit 56320))::u3a105))
 (.fork (.fork (.fork (lf 2 90 90 (rgs (ntmps 42) tE) u3s4 ((.var 11)::u3a108))
 (lf 1 90 90 (rgs (ntmps 42) tA) u3s5 ((.not (.var 11))::u3a108)))
 (nd 90 u3a109 ((.lt (.op .add (.var 7) (.lit 3)) (.var 6)))
 (nd 90 u3a110 ((.lt (.op .add (.var 7) (.lit 3)) (.len (.var 4))))
 (nd 90 u3a111 ((.lt (.op .add (.var 7) (.lit 2)) (.var 6)))
 (nd 90 u3a112 ((.lt (.op .add (.var 7) (.lit 2)) (.len (.var 4))))
 (.fork (lf 2 90 90 (rgs (ntmps 42) tE) u3s4 ((.not (.eq (.op .and (.op .add (.sel (.var 4) (.op .add (.var 7) (.lit 3))) (.op .shl (.sel (.var 4) (.op .add (.var 7) (.lit 2))) (.lit 8))) (.lit 64512)) (.lit 56320)))::u3a113))
 (lf 0 90 90 (rgs (ntmps 42) tV) ((74,.blk 74)::(17,.ltm (.var 17))::(4,.ltm (.var 4))::(3,.ltm (.var 3))::(ids (dn 71 6++dn 64 21)++((9,.itm (.var 9))::(10,.itm (.var 10))::(7,.itm (.var 7))::(6,.itm (.var 6))::(2,.blk 2)::(39,.idn)::(8,.itm (.var 8))::(37,.idn)::(1,.blk 1)::(11,.btm (.var 11))::(19,.itm (.var 19))::(72,.itm (.var 72))::(18,.itm (.var 18))::(16,.blk 16)::(ids ([32]++dn 30 11)++((14,.itm (.lit 4))::(13,.itm (.op .add (.op .add (.op .shl (.op .and (.op .add (.sel (.var 4) (.op .add (.var 7) (.lit 1))) (.op .shl (.sel (.var 4) (.var 7)) (.lit 8))) (.lit 1023)) (.lit 10)) (.lit 65536)) (.op .and (.op .add (.sel (.var 4) (.op .add (.var 7) (.lit 3))) (.op .shl (.sel (.var 4) (.op .add (.var 7) (.lit 2))) (.lit 8))) (.lit 1023))))::u3s2))))) ((.eq (.op .and (.op .add (.sel (.var 4) (.op .add (.var 7) (.lit 3))) (.op .shl (.sel (.var 4) (.op .add (.var 7) (.lit 2))) (.lit 8))) (.lit 64512)) (.lit 56320))::u3a113))))))))
 (lf 0 90 90 (rgs (ntmps 42) tV) ((74,.blk 74)::(17,.ltm (.var 17))::(4,.ltm (.var 4))::(3,.ltm (.var 3))::(ids (dn 71 6++dn 64 21)++((9,.itm (.var 9))::(10,.itm (.var 10))::(7,.itm (.var 7))::(6,.itm (.var 6))::(2,.blk 2)::(39,.idn)::(8,.itm (.var 8))::(37,.idn)::(1,.blk 1)::(11,.btm (.var 11))::(19,.itm (.var 19))::(72,.itm (.var 72))::(18,.itm (.var 18))::(16,.blk 16)::(ids ([32]++dn 30 11)++((14,.itm (.lit 2))::(13,.itm (.op .add (.sel (.var 4) (.op .add (.var 7) (.lit 1))) (.op .shl (.sel (.var 4) (.var 7)) (.lit 8))))::u3s2))))) ((.not (.eq (.op .and (.op .add (.sel (.var 4) (.op .add (.var 7) (.lit 1))) (.op .shl (.sel (.var 4) (.var 7)) (.lit 8))) (.lit 64512)) (.lit 55296)))::u3a106)))))))))
theorem lit43_eq:tre4 fA3=lit43:=by kernel_rfl
end U
