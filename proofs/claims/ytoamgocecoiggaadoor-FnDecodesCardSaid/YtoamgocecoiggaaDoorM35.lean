-- the statement of this claim: see YtoamgocecoiggaaDoorRw
import Derived.Test.YtoamgocecoiggaaDoorM34
set_option linter.unusedVariables false
set_option linter.unusedSimpArgs false
open Go Go.SM Go.Proofs
namespace U
set_option maxRecDepth 100000
abbrev y4a0:List TB:=[(.lt (.var 76) (.lit 1536)),(.eq (.op .and (.sel (.var 3) (.var 76)) (.lit 128)) (.lit 0))]
abbrev y4a1:List TB:=(.lt (.var 76) (.var 75))::y4a0
abbrev y4a2:List TB:=(.lt (.var 76) (.len (.var 3)))::y4a1
abbrev y4a3:List TB:=(.not (.eq (.sel (.var 3) (.var 76)) (.lit 32)))::(.not (.eq (.sel (.var 3) (.var 76)) (.lit 9)))::y4a2
abbrev y4a4:List TB:=(.not (.lt (.lit 1536) (.op .add (.var 76) (.lit 1))))::y4a3
abbrev y4a5:List TB:=(.not (.lt (.op .add (.var 8) (.lit (-1))) (.lit 0)))::y4a4
abbrev y4a6:List TB:=(.not (.lt (.lit 8000000) (.op .add (.var 77) (.lit 1))))::y4a5
abbrev y4a7:List TB:=(.or (.eq (.sel (.var 3) (.var 76)) (.lit 32)) (.eq (.sel (.var 3) (.var 76)) (.lit 9)))::y4a2
abbrev y4a8:List TB:=(.not (.lt (.lit 1536) (.op .add (.var 76) (.lit 1))))::y4a7
abbrev y4a9:List TB:=(.not (.lt (.op .add (.var 8) (.lit (-1))) (.lit 0)))::y4a8
abbrev y4a10:List TB:=(.not (.lt (.lit 8000000) (.op .add (.var 77) (.lit 1))))::y4a9
abbrev y4s0:SgT:=[(0,.blk 0),(73,.blk 73)]
abbrev y4s1:SgT:=(8,.itm (.op .add (.var 8) (.lit (-1))))::(76,.itm (.op .add (.var 76) (.lit 1)))::(75,.itm (.var 75))::(1,.blk 1)::(ids (dn 35 16)++((81,.itm (.lit 32))::(80,.itm (.lit 1))::(79,.new 90)::y4s0))
noncomputable def lit_kn1:Tre:=(nd 90 y4a0 ((.lt (.var 76) (.var 75)))
 (nd 90 y4a1 ((.lt (.var 76) (.len (.var 3))))
 (.fork (nd 91 y4a3 ((.not (.lt (.lit 1536) (.op .add (.var 76) (.lit 1)))))
 (nd 91 y4a4 ((.not (.lt (.op .add (.var 8) (.lit (-1))) (.lit 0))))
 (nd 91 y4a5 ((.not (.lt (.lit 8000000) (.op .add (.var 77) (.lit 1)))))
 (nd 91 y4a6 ((.not (.lt (.lit 8000000) (.op .add (.var 78) (.lit 1)))))
 (lf 0 90 91 (rgs EK.n tKo) ((82,.ltm (.app (.one (.sel (.var 3) (.var 76))) (zsT 30)))::(74,.blk 74)::(3,.ltm (.var 3))::(ids (dn 71 6++dn 64 18)++((78,.itm (.op .add (.var 78) (.lit 1)))::(45,.idn)::(77,.itm (.op .add (.var 77) (.lit 1)))::(ids (dn 43 4)++((39,.val (.int .i64 0))::y4s1))))) ((.not (.lt (.lit 8000000) (.op .add (.var 78) (.lit 1))))::y4a6))))))
 (nd 91 y4a7 ((.not (.lt (.lit 1536) (.op .add (.var 76) (.lit 1)))))
 (nd 91 y4a8 ((.not (.lt (.op .add (.var 8) (.lit (-1))) (.lit 0))))
 (nd 91 y4a9 ((.not (.lt (.lit 8000000) (.op .add (.var 77) (.lit 1)))))
 (nd 91 y4a10 ((.not (.lt (.lit 8000000) (.op .add (.var 78) (.lit 1)))))
 (lf 0 90 91 (rgs EK.n tKo) ((82,.ltm (.app (.one (.sel (.var 3) (.var 76))) (zsT 30)))::(74,.blk 74)::(3,.ltm (.var 3))::(ids (dn 71 6++dn 64 18)++((78,.itm (.op .add (.var 78) (.lit 1)))::(45,.idn)::(77,.itm (.op .add (.var 77) (.lit 1)))::(ids (dn 43 5)++y4s1)))) ((.not (.lt (.lit 8000000) (.op .add (.var 78) (.lit 1))))::y4a10)))))))))
theorem lit_kn1_eq:treKN (k0++k1)=lit_kn1:=by kernel_rfl
abbrev y4a11:List TB:=[(.lt (.var 76) (.lit 1536)),(.not (.eq (.op .and (.sel (.var 3) (.var 76)) (.lit 128)) (.lit 0))),(.eq (.op .and (.sel (.var 3) (.var 76)) (.lit 224)) (.lit 192))]
abbrev y4a12:List TB:=(.lt (.var 76) (.var 75))::y4a11
abbrev y4a13:List TB:=(.lt (.var 76) (.len (.var 3)))::y4a12
abbrev y4a14:List TB:=(.not (.eq (.sel (.var 3) (.var 76)) (.lit 32)))::(.not (.eq (.sel (.var 3) (.var 76)) (.lit 9)))::y4a13
abbrev y4a15:List TB:=(.not (.lt (.var 76) (.lit 0)))::y4a14
abbrev y4a16:List TB:=(.not (.lt (.op .add (.var 76) (.lit 2)) (.var 76)))::y4a15
abbrev y4a17:List TB:=(.not (.lt (.lit 1536) (.op .add (.var 76) (.lit 2))))::y4a16
abbrev y4a18:List TB:=(.not (.lt (.lit 1125899906842624) (.op .add (.var 76) (.lit 2))))::y4a17
abbrev y4a19:List TB:=(.not (.lt (.len (.var 3)) (.op .add (.var 76) (.lit 2))))::y4a18
abbrev y4a20:List TB:=(.not (.lt (.lit 70368744177664) (.len (.sub (.var 3) (.var 76) (.op .add (.var 76) (.lit 2))))))::y4a19
abbrev y4a21:List TB:=(.not (.lt (.op .add (.var 8) (.lit (-1))) (.lit 0)))::y4a20
abbrev y4a22:List TB:=(.not (.lt (.lit 8000000) (.op .add (.var 77) (.lit 1))))::y4a21
abbrev y4a23:List TB:=(.or (.eq (.sel (.var 3) (.var 76)) (.lit 32)) (.eq (.sel (.var 3) (.var 76)) (.lit 9)))::y4a13
abbrev y4a24:List TB:=(.not (.lt (.var 76) (.lit 0)))::y4a23
abbrev y4a25:List TB:=(.not (.lt (.op .add (.var 76) (.lit 2)) (.var 76)))::y4a24
abbrev y4a26:List TB:=(.not (.lt (.lit 1536) (.op .add (.var 76) (.lit 2))))::y4a25
abbrev y4a27:List TB:=(.not (.lt (.lit 1125899906842624) (.op .add (.var 76) (.lit 2))))::y4a26
abbrev y4a28:List TB:=(.not (.lt (.len (.var 3)) (.op .add (.var 76) (.lit 2))))::y4a27
abbrev y4a29:List TB:=(.not (.lt (.lit 70368744177664) (.len (.sub (.var 3) (.var 76) (.op .add (.var 76) (.lit 2))))))::y4a28
abbrev y4a30:List TB:=(.not (.lt (.op .add (.var 8) (.lit (-1))) (.lit 0)))::y4a29
abbrev y4a31:List TB:=(.not (.lt (.lit 8000000) (.op .add (.var 77) (.lit 1))))::y4a30
abbrev y4s2:SgT:=(8,.itm (.op .add (.var 8) (.lit (-1))))::(76,.itm (.op .add (.var 76) (.lit 2)))::(75,.itm (.var 75))::(1,.blk 1)::(ids (dn 35 16)++((81,.itm (.op .add (.len (.sub (.var 3) (.var 76) (.op .add (.var 76) (.lit 2)))) (.len (.var 91))))::(80,.itm (.len (.sub (.var 3) (.var 76) (.op .add (.var 76) (.lit 2)))))::(79,.new 92)::y4s0))
noncomputable def lit_kn2:Tre:=(nd 90 y4a11 ((.lt (.var 76) (.var 75)))
 (nd 90 y4a12 ((.lt (.var 76) (.len (.var 3))))
 (.fork (nd 91 y4a14 ((.not (.lt (.var 76) (.lit 0))))
 (nd 91 y4a15 ((.not (.lt (.op .add (.var 76) (.lit 2)) (.var 76))))
 (nd 91 y4a16 ((.not (.lt (.lit 1536) (.op .add (.var 76) (.lit 2)))))
 (nd 91 y4a17 ((.not (.lt (.lit 1125899906842624) (.op .add (.var 76) (.lit 2)))))
 (nd 91 y4a18 ((.not (.lt (.len (.var 3)) (.op .add (.var 76) (.lit 2)))))
 (nd 91 y4a19 ((.not (.lt (.lit 70368744177664) (.len (.sub (.var 3) (.var 76) (.op .add (.var 76) (.lit 2)))))))
 (nd 93 y4a20 ((.not (.lt (.op .add (.var 8) (.lit (-1))) (.lit 0))))
 (nd 93 y4a21 ((.not (.lt (.lit 8000000) (.op .add (.var 77) (.lit 1)))))
 (nd 93 y4a22 ((.not (.lt (.lit 8000000) (.op .add (.var 78) (.lit 1)))))
 (lf 0 90 93 (rgs EK.n tKo) ((82,.ltm (.app (.sub (.var 3) (.var 76) (.op .add (.var 76) (.lit 2))) (.var 91)))::(74,.blk 74)::(3,.ltm (.var 3))::(ids (dn 71 6++dn 64 18)++((78,.itm (.op .add (.var 78) (.lit 1)))::(45,.idn)::(77,.itm (.op .add (.var 77) (.lit 1)))::(ids (dn 43 4)++((39,.val (.int .i64 0))::y4s2))))) ((.not (.lt (.lit 8000000) (.op .add (.var 78) (.lit 1))))::y4a22)))))))))))
 (nd 91 y4a23 ((.not (.lt (.var 76) (.lit 0))))
 (nd 91 y4a24 ((.not (.lt (.op .add (.var 76) (.lit 2)) (.var 76))))
 (nd 91 y4a25 ((.not (.lt (.lit 1536) (.op .add (.var 76) (.lit 2)))))
 (nd 91 y4a26 ((.not (.lt (.lit 1125899906842624) (.op .add (.var 76) (.lit 2)))))
 (nd 91 y4a27 ((.not (.lt (.len (.var 3)) (.op .add (.var 76) (.lit 2)))))
 (nd 91 y4a28 ((.not (.lt (.lit 70368744177664) (.len (.sub (.var 3) (.var 76) (.op .add (.var 76) (.lit 2)))))))
 (nd 93 y4a29 ((.not (.lt (.op .add (.var 8) (.lit (-1))) (.lit 0))))
 (nd 93 y4a30 ((.not (.lt (.lit 8000000) (.op .add (.var 77) (.lit 1)))))
 (nd 93 y4a31 ((.not (.lt (.lit 8000000) (.op .add (.var 78) (.lit 1)))))
 (lf 0 90 93 (rgs EK.n tKo) ((82,.ltm (.app (.sub (.var 3) (.var 76) (.op .add (.var 76) (.lit 2))) (.var 91)))::(74,.blk 74)::(3,.ltm (.var 3))::(ids (dn 71 6++dn 64 18)++((78,.itm (.op .add (.var 78) (.lit 1)))::(45,.idn)::(77,.itm (.op .add (.var 77) (.lit 1)))::(ids (dn 43 5)++y4s2)))) ((.not (.lt (.lit 8000000) (.op .add (.var 78) (.lit 1))))::y4a31))))))))))))))
theorem lit_kn2_eq:treKN (k0++k2)=lit_kn2:=by kernel_rfl
abbrev y4a32:List TB:=[(.lt (.var 76) (.lit 1536)),(.not (.eq (.op .and (.sel (.var 3) (.var 76)) (.lit 128)) (.lit 0))),(.not (.eq (.op .and (.sel (.var 3) (.var 76)) (.lit 224)) (.lit 192))),(.eq (.op .and (.sel (.var 3) (.var 76)) (.lit 240)) (.lit 224))]
abbrev y4a33:List TB:=(.lt (.var 76) (.var 75))::y4a32
abbrev y4a34:List TB:=(.lt (.var 76) (.len (.var 3)))::y4a33
abbrev y4a35:List TB:=(.not (.eq (.sel (.var 3) (.var 76)) (.lit 32)))::(.not (.eq (.sel (.var 3) (.var 76)) (.lit 9)))::y4a34
abbrev y4a36:List TB:=(.not (.lt (.var 76) (.lit 0)))::y4a35
abbrev y4a37:List TB:=(.not (.lt (.op .add (.var 76) (.lit 3)) (.var 76)))::y4a36
abbrev y4a38:List TB:=(.not (.lt (.lit 1536) (.op .add (.var 76) (.lit 3))))::y4a37
abbrev y4a39:List TB:=(.not (.lt (.lit 1125899906842624) (.op .add (.var 76) (.lit 3))))::y4a38
abbrev y4a40:List TB:=(.not (.lt (.len (.var 3)) (.op .add (.var 76) (.lit 3))))::y4a39
abbrev y4a41:List TB:=(.not (.lt (.lit 70368744177664) (.len (.sub (.var 3) (.var 76) (.op .add (.var 76) (.lit 3))))))::y4a40
abbrev y4a42:List TB:=(.not (.lt (.op .add (.var 8) (.lit (-1))) (.lit 0)))::y4a41
abbrev y4a43:List TB:=(.not (.lt (.lit 8000000) (.op .add (.var 77) (.lit 1))))::y4a42
abbrev y4a44:List TB:=(.or (.eq (.sel (.var 3) (.var 76)) (.lit 32)) (.eq (.sel (.var 3) (.var 76)) (.lit 9)))::y4a34
abbrev y4a45:List TB:=(.not (.lt (.var 76) (.lit 0)))::y4a44
abbrev y4a46:List TB:=(.not (.lt (.op .add (.var 76) (.lit 3)) (.var 76)))::y4a45
abbrev y4a47:List TB:=(.not (.lt (.lit 1536) (.op .add (.var 76) (.lit 3))))::y4a46
abbrev y4a48:List TB:=(.not (.lt (.lit 1125899906842624) (.op .add (.var 76) (.lit 3))))::y4a47
abbrev y4a49:List TB:=(.not (.lt (.len (.var 3)) (.op .add (.var 76) (.lit 3))))::y4a48
abbrev y4a50:List TB:=(.not (.lt (.lit 70368744177664) (.len (.sub (.var 3) (.var 76) (.op .add (.var 76) (.lit 3))))))::y4a49
abbrev y4a51:List TB:=(.not (.lt (.op .add (.var 8) (.lit (-1))) (.lit 0)))::y4a50
abbrev y4a52:List TB:=(.not (.lt (.lit 8000000) (.op .add (.var 77) (.lit 1))))::y4a51
abbrev y4s3:SgT:=(8,.itm (.op .add (.var 8) (.lit (-1))))::(76,.itm (.op .add (.var 76) (.lit 3)))::(75,.itm (.var 75))::(1,.blk 1)::(ids (dn 35 16)++((81,.itm (.op .add (.len (.sub (.var 3) (.var 76) (.op .add (.var 76) (.lit 3)))) (.len (.var 91))))::(80,.itm (.len (.sub (.var 3) (.var 76) (.op .add (.var 76) (.lit 3)))))::(79,.new 92)::y4s0))
noncomputable def lit_kn3:Tre:=(nd 90 y4a32 ((.lt (.var 76) (.var 75)))
 (nd 90 y4a33 ((.lt (.var 76) (.len (.var 3))))
 (.fork (nd 91 y4a35 ((.not (.lt (.var 76) (.lit 0))))
 (nd 91 y4a36 ((.not (.lt (.op .add (.var 76) (.lit 3)) (.var 76))))
 (nd 91 y4a37 ((.not (.lt (.lit 1536) (.op .add (.var 76) (.lit 3)))))
 (nd 91 y4a38 ((.not (.lt (.lit 1125899906842624) (.op .add (.var 76) (.lit 3)))))
 (nd 91 y4a39 ((.not (.lt (.len (.var 3)) (.op .add (.var 76) (.lit 3)))))
 (nd 91 y4a40 ((.not (.lt (.lit 70368744177664) (.len (.sub (.var 3) (.var 76) (.op .add (.var 76) (.lit 3)))))))
 (nd 93 y4a41 ((.not (.lt (.op .add (.var 8) (.lit (-1))) (.lit 0))))
 (nd 93 y4a42 ((.not (.lt (.lit 8000000) (.op .add (.var 77) (.lit 1)))))
 (nd 93 y4a43 ((.not (.lt (.lit 8000000) (.op .add (.var 78) (.lit 1)))))
 (lf 0 90 93 (rgs EK.n tKo) ((82,.ltm (.app (.sub (.var 3) (.var 76) (.op .add (.var 76) (.lit 3))) (.var 91)))::(74,.blk 74)::(3,.ltm (.var 3))::(ids (dn 71 6++dn 64 18)++((78,.itm (.op .add (.var 78) (.lit 1)))::(45,.idn)::(77,.itm (.op .add (.var 77) (.lit 1)))::(ids (dn 43 4)++((39,.val (.int .i64 0))::y4s3))))) ((.not (.lt (.lit 8000000) (.op .add (.var 78) (.lit 1))))::y4a43)))))))))))
 (nd 91 y4a44 ((.not (.lt (.var 76) (.lit 0))))
 (nd 91 y4a45 ((.not (.lt (.op .add (.var 76) (.lit 3)) (.var 76))))
 (nd 91 y4a46 ((.not (.lt (.lit 1536) (.op .add (.var 76) (.lit 3)))))
 (nd 91 y4a47 ((.not (.lt (.lit 1125899906842624) (.op .add (.var 76) (.lit 3)))))
 (nd 91 y4a48 ((.not (.lt (.len (.var 3)) (.op .add (.var 76) (.lit 3)))))
 (nd 91 y4a49 ((.not (.lt (.lit 70368744177664) (.len (.sub (.var 3) (.var 76) (.op .add (.var 76) (.lit 3)))))))
 (nd 93 y4a50 ((.not (.lt (.op .add (.var 8) (.lit (-1))) (.lit 0))))
 (nd 93 y4a51 ((.not (.lt (.lit 8000000) (.op .add (.var 77) (.lit 1)))))
 (nd 93 y4a52 ((.not (.lt (.lit 8000000) (.op .add (.var 78) (.lit 1)))))
 (lf 0 90 93 (rgs EK.n tKo) ((82,.ltm (.app (.sub (.var 3) (.var 76) (.op .add (.var 76) (.lit 3))) (.var 91)))::(74,.blk 74)::(3,.ltm (.var 3))::(ids (dn 71 6++dn 64 18)++((78,.itm (.op .add (.var 78) (.lit 1)))::(45,.idn)::(77,.itm (.op .add (.var 77) (.lit 1)))::(ids (dn 43 5)++y4s3)))) ((.not (.lt (.lit 8000000) (.op .add (.var 78) (.lit 1))))::y4a52))))))))))))))
theorem lit_kn3_eq:treKN (k0++k3)=lit_kn3:=by kernel_rfl
abbrev y4a53:List TB:=[(.lt (.var 76) (.lit 1536)),(.not (.eq (.op .and (.sel (.var 3) (.var 76)) (.lit 128)) (.lit 0))),(.not (.eq (.op .and (.sel (.var 3) (.var 76)) (.lit 224)) (.lit 192))),(.not (.eq (.op .and (.sel (.var 3) (.var 76)) (.lit 240)) (.lit 224))),(.eq (.op .and (.sel (.var 3) (.var 76)) (.lit 248)) (.lit 240))]
abbrev y4a54:List TB:=(.lt (.var 76) (.var 75))::y4a53
abbrev y4a55:List TB:=(.lt (.var 76) (.len (.var 3)))::y4a54
abbrev y4a56:List TB:=(.not (.eq (.sel (.var 3) (.var 76)) (.lit 32)))::(.not (.eq (.sel (.var 3) (.var 76)) (.lit 9)))::y4a55
abbrev y4a57:List TB:=(.not (.lt (.var 76) (.lit 0)))::y4a56
abbrev y4a58:List TB:=(.not (.lt (.op .add (.var 76) (.lit 4)) (.var 76)))::y4a57
abbrev y4a59:List TB:=(.not (.lt (.lit 1536) (.op .add (.var 76) (.lit 4))))::y4a58
abbrev y4a60:List TB:=(.not (.lt (.lit 1125899906842624) (.op .add (.var 76) (.lit 4))))::y4a59
abbrev y4a61:List TB:=(.not (.lt (.len (.var 3)) (.op .add (.var 76) (.lit 4))))::y4a60
abbrev y4a62:List TB:=(.not (.lt (.lit 70368744177664) (.len (.sub (.var 3) (.var 76) (.op .add (.var 76) (.lit 4))))))::y4a61
abbrev y4a63:List TB:=(.not (.lt (.op .add (.var 8) (.lit (-1))) (.lit 0)))::y4a62
abbrev y4a64:List TB:=(.not (.lt (.lit 8000000) (.op .add (.var 77) (.lit 1))))::y4a63
abbrev y4a65:List TB:=(.or (.eq (.sel (.var 3) (.var 76)) (.lit 32)) (.eq (.sel (.var 3) (.var 76)) (.lit 9)))::y4a55
abbrev y4a66:List TB:=(.not (.lt (.var 76) (.lit 0)))::y4a65
abbrev y4a67:List TB:=(.not (.lt (.op .add (.var 76) (.lit 4)) (.var 76)))::y4a66
abbrev y4a68:List TB:=(.not (.lt (.lit 1536) (.op .add (.var 76) (.lit 4))))::y4a67
abbrev y4a69:List TB:=(.not (.lt (.lit 1125899906842624) (.op .add (.var 76) (.lit 4))))::y4a68
abbrev y4a70:List TB:=(.not (.lt (.len (.var 3)) (.op .add (.var 76) (.lit 4))))::y4a69
abbrev y4a71:List TB:=(.not (.lt (.lit 70368744177664) (.len (.sub (.var 3) (.var 76) (.op .add (.var 76) (.lit 4))))))::y4a70
abbrev y4a72:List TB:=(.not (.lt (.op .add (.var 8) (.lit (-1))) (.lit 0)))::y4a71
abbrev y4a73:List TB:=(.not (.lt (.lit 8000000) (.op .add (.var 77) (.lit 1))))::y4a72
abbrev y4s4:SgT:=(8,.itm (.op .add (.var 8) (.lit (-1))))::(76,.itm (.op .add (.var 76) (.lit 4)))::(75,.itm (.var 75))::(1,.blk 1)::(ids (dn 35 16)++((81,.itm (.op .add (.len (.sub (.var 3) (.var 76) (.op .add (.var 76) (.lit 4)))) (.len (.var 91))))::(80,.itm (.len (.sub (.var 3) (.var 76) (.op .add (.var 76) (.lit 4)))))::(79,.new 92)::y4s0))
noncomputable def lit_kn4:Tre:=(nd 90 y4a53 ((.lt (.var 76) (.var 75)))
 (nd 90 y4a54 ((.lt (.var 76) (.len (.var 3))))
 (.fork (nd 91 y4a56 ((.not (.lt (.var 76) (.lit 0))))
 (nd 91 y4a57 ((.not (.lt (.op .add (.var 76) (.lit 4)) (.var 76))))
 (nd 91 y4a58 ((.not (.lt (.lit 1536) (.op .add (.var 76) (.lit 4)))))
 (nd 91 y4a59 ((.not (.lt (.lit 1125899906842624) (.op .add (.var 76) (.lit 4)))))
 (nd 91 y4a60 ((.not (.lt (.len (.var 3)) (.op .add (.var 76) (.lit 4)))))
 (nd 91 y4a61 ((.not (.lt (.lit 70368744177664) (.len (.sub (.var 3) (.var 76) (.op .add (.var 76) (.lit 4)))))))
 (nd 93 y4a62 ((.not (.lt (.op .add (.var 8) (.lit (-1))) (.lit 0))))
 (nd 93 y4a63 ((.not (.lt (.lit 8000000) (.op .add (.var 77) (.lit 1)))))
 (nd 93 y4a64 ((.not (.lt (.lit 8000000) (.op .add (.var 78) (.lit 1)))))
 (lf 0 90 93 (rgs EK.n tKo) ((82,.ltm (.app (.sub (.var 3) (.var 76) (.op .add (.var 76) (.lit 4))) (.var 91)))::(74,.blk 74)::(3,.ltm (.var 3))::(ids (dn 71 6++dn 64 18)++((78,.itm (.op .add (.var 78) (.lit 1)))::(45,.idn)::(77,.itm (.op .add (.var 77) (.lit 1)))::(ids (dn 43 4)++((39,.val (.int .i64 0))::y4s4))))) ((.not (.lt (.lit 8000000) (.op .add (.var 78) (.lit 1))))::y4a64)))))))))))
 (nd 91 y4a65 ((.not (.lt (.var 76) (.lit 0))))
 (nd 91 y4a66 ((.not (.lt (.op .add (.var 76) (.lit 4)) (.var 76))))
 (nd 91 y4a67 ((.not (.lt (.lit 1536) (.op .add (.var 76) (.lit 4)))))
 (nd 91 y4a68 ((.not (.lt (.lit 1125899906842624) (.op .add (.var 76) (.lit 4)))))
 (nd 91 y4a69 ((.not (.lt (.len (.var 3)) (.op .add (.var 76) (.lit 4)))))
 (nd 91 y4a70 ((.not (.lt (.lit 70368744177664) (.len (.sub (.var 3) (.var 76) (.op .add (.var 76) (.lit 4)))))))
 (nd 93 y4a71 ((.not (.lt (.op .add (.var 8) (.lit (-1))) (.lit 0))))
 (nd 93 y4a72 ((.not (.lt (.lit 8000000) (.op .add (.var 77) (.lit 1)))))
 (nd 93 y4a73 ((.not (.lt (.lit 8000000) (.op .add (.var 78) (.lit 1)))))
 (lf 0 90 93 (rgs EK.n tKo) ((82,.ltm (.app (.sub (.var 3) (.var 76) (.op .add (.var 76) (.lit 4))) (.var 91)))::(74,.blk 74)::(3,.ltm (.var 3))::(ids (dn 71 6++dn 64 18)++((78,.itm (.op .add (.var 78) (.lit 1)))::(45,.idn)::(77,.itm (.op .add (.var 77) (.lit 1)))::(ids (dn 43 5)++y4s4)))) ((.not (.lt (.lit 8000000) (.op .add (.var 78) (.lit 1))))::y4a73))))))))))))))
theorem lit_kn4_eq:treKN (k0++k4)=lit_kn4:=by kernel_rfl
abbrev y4a74:List TB:=(.not (.eq (.var 80) (.lit 0)))::y4a0
abbrev y4a75:List TB:=(.lt (.var 76) (.var 75))::y4a74
abbrev y4a76:List TB:=(.lt (.var 76) (.len (.var 3)))::y4a75
abbrev y4a77:List TB:=(.not (.eq (.sel (.var 3) (.var 76)) (.lit 32)))::(.not (.eq (.sel (.var 3) (.var 76)) (.lit 9)))::y4a76
abbrev y4a78:List TB:=(.not (.lt (.var 81) (.op .add (.var 80) (.lit 1))))::y4a77
abbrev y4a79:List TB:=(.not (.lt (.op .add (.var 80) (.lit 1)) (.lit 0)))::y4a78
abbrev y4a80:List TB:=(.not (.lt (.lit 1125899906842624) (.op .add (.var 80) (.lit 1))))::y4a79
abbrev y4a81:List TB:=(.not (.lt (.var 80) (.lit 0)))::y4a80
abbrev y4a82:List TB:=(.lt (.var 80) (.op .add (.var 80) (.lit 1)))::y4a81
abbrev y4a83:List TB:=(.lt (.var 80) (.len (.var 82)))::y4a82
abbrev y4a84:List TB:=(.not (.lt (.lit 1536) (.op .add (.var 76) (.lit 1))))::y4a83
abbrev y4a85:List TB:=(.not (.lt (.op .add (.var 8) (.lit (-1))) (.lit 0)))::y4a84
abbrev y4a86:List TB:=(.not (.lt (.lit 8000000) (.op .add (.var 77) (.lit 1))))::y4a85
abbrev y4a87:List TB:=(.lt (.var 81) (.op .add (.var 80) (.lit 1)))::y4a77
abbrev y4a88:List TB:=(.not (.lt (.var 76) (.lit 0)))::y4a87
abbrev y4a89:List TB:=(.not (.lt (.op .add (.var 76) (.lit 1)) (.var 76)))::y4a88
abbrev y4a90:List TB:=(.not (.lt (.lit 1536) (.op .add (.var 76) (.lit 1))))::y4a89
abbrev y4a91:List TB:=(.not (.lt (.lit 1125899906842624) (.op .add (.var 76) (.lit 1))))::y4a90
abbrev y4a92:List TB:=(.not (.lt (.len (.var 3)) (.op .add (.var 76) (.lit 1))))::y4a91
abbrev y4a93:List TB:=(.not (.lt (.len (.var 82)) (.var 81)))::y4a92
abbrev y4a94:List TB:=(.not (.lt (.lit 70368744177664) (.op .add (.len (.sub (.var 82) (.lit 0) (.var 80))) (.len (.sub (.var 3) (.var 76) (.op .add (.var 76) (.lit 1)))))))::y4a93
abbrev y4a95:List TB:=(.not (.lt (.op .add (.var 8) (.lit (-1))) (.lit 0)))::y4a94
abbrev y4a96:List TB:=(.not (.lt (.lit 8000000) (.op .add (.var 77) (.lit 1))))::y4a95
abbrev y4a97:List TB:=(.or (.eq (.sel (.var 3) (.var 76)) (.lit 32)) (.eq (.sel (.var 3) (.var 76)) (.lit 9)))::y4a76
abbrev y4a98:List TB:=(.not (.lt (.var 81) (.op .add (.var 80) (.lit 1))))::y4a97
abbrev y4a99:List TB:=(.not (.lt (.op .add (.var 80) (.lit 1)) (.lit 0)))::y4a98
abbrev y4a100:List TB:=(.not (.lt (.lit 1125899906842624) (.op .add (.var 80) (.lit 1))))::y4a99
abbrev y4a101:List TB:=(.not (.lt (.var 80) (.lit 0)))::y4a100
abbrev y4a102:List TB:=(.lt (.var 80) (.op .add (.var 80) (.lit 1)))::y4a101
abbrev y4a103:List TB:=(.lt (.var 80) (.len (.var 82)))::y4a102
abbrev y4a104:List TB:=(.not (.lt (.lit 1536) (.op .add (.var 76) (.lit 1))))::y4a103
abbrev y4a105:List TB:=(.not (.lt (.op .add (.var 8) (.lit (-1))) (.lit 0)))::y4a104
abbrev y4a106:List TB:=(.not (.lt (.lit 8000000) (.op .add (.var 77) (.lit 1))))::y4a105
abbrev y4a107:List TB:=(.lt (.var 81) (.op .add (.var 80) (.lit 1)))::y4a97
abbrev y4a108:List TB:=(.not (.lt (.var 76) (.lit 0)))::y4a107
abbrev y4a109:List TB:=(.not (.lt (.op .add (.var 76) (.lit 1)) (.var 76)))::y4a108
abbrev y4a110:List TB:=(.not (.lt (.lit 1536) (.op .add (.var 76) (.lit 1))))::y4a109
abbrev y4a111:List TB:=(.not (.lt (.lit 1125899906842624) (.op .add (.var 76) (.lit 1))))::y4a110
abbrev y4a112:List TB:=(.not (.lt (.len (.var 3)) (.op .add (.var 76) (.lit 1))))::y4a111
abbrev y4a113:List TB:=(.not (.lt (.len (.var 82)) (.var 81)))::y4a112
abbrev y4a114:List TB:=(.not (.lt (.lit 70368744177664) (.op .add (.len (.sub (.var 82) (.lit 0) (.var 80))) (.len (.sub (.var 3) (.var 76) (.op .add (.var 76) (.lit 1)))))))::y4a113
abbrev y4a115:List TB:=(.not (.lt (.op .add (.var 8) (.lit (-1))) (.lit 0)))::y4a114
abbrev y4a116:List TB:=(.not (.lt (.lit 8000000) (.op .add (.var 77) (.lit 1))))::y4a115
abbrev y4s5:SgT:=(8,.itm (.op .add (.var 8) (.lit (-1))))::(76,.itm (.op .add (.var 76) (.lit 1)))::(75,.itm (.var 75))::(1,.blk 1)::(ids (dn 35 16)++((81,.itm (.var 81))::(80,.itm (.op .add (.var 80) (.lit 1)))::(79,.blk 79)::y4s0))
abbrev y4s6:SgT:=(8,.itm (.op .add (.var 8) (.lit (-1))))::(76,.itm (.op .add (.var 76) (.lit 1)))::(75,.itm (.var 75))::(1,.blk 1)::(ids (dn 35 16)++((81,.itm (.op .add (.op .add (.len (.sub (.var 82) (.lit 0) (.var 80))) (.len (.sub (.var 3) (.var 76) (.op .add (.var 76) (.lit 1))))) (.len (.var 90))))::(80,.itm (.op .add (.len (.sub (.var 82) (.lit 0) (.var 80))) (.len (.sub (.var 3) (.var 76) (.op .add (.var 76) (.lit 1))))))::(79,.new 91)::y4s0))
noncomputable def lit_ks1:Tre:=(nd 90 y4a74 ((.lt (.var 76) (.var 75)))
 (nd 90 y4a75 ((.lt (.var 76) (.len (.var 3))))
 (.fork (.fork (nd 90 y4a78 ((.not (.lt (.op .add (.var 80) (.lit 1)) (.lit 0))))
 (nd 90 y4a79 ((.not (.lt (.lit 1125899906842624) (.op .add (.var 80) (.lit 1)))))
 (nd 90 y4a80 ((.not (.lt (.var 80) (.lit 0))))
 (nd 90 y4a81 ((.lt (.var 80) (.op .add (.var 80) (.lit 1))))
 (nd 90 y4a82 ((.lt (.var 80) (.len (.var 82))))
 (nd 90 y4a83 ((.not (.lt (.lit 1536) (.op .add (.var 76) (.lit 1)))))
 (nd 90 y4a84 ((.not (.lt (.op .add (.var 8) (.lit (-1))) (.lit 0))))
 (nd 90 y4a85 ((.not (.lt (.lit 8000000) (.op .add (.var 77) (.lit 1)))))
 (nd 90 y4a86 ((.not (.lt (.lit 8000000) (.op .add (.var 78) (.lit 1)))))
 (lf 0 90 90 (rgs EK.n tKo) ((82,.ltm (.set (.var 82) (.var 80) (.sel (.var 3) (.var 76))))::(74,.blk 74)::(3,.ltm (.var 3))::(ids (dn 71 6++dn 64 18)++((78,.itm (.op .add (.var 78) (.lit 1)))::(45,.idn)::(77,.itm (.op .add (.var 77) (.lit 1)))::(ids (dn 43 4)++((39,.val (.int .i64 0))::y4s5))))) ((.not (.lt (.lit 8000000) (.op .add (.var 78) (.lit 1))))::y4a86)))))))))))
 (nd 90 y4a87 ((.not (.lt (.var 76) (.lit 0))))
 (nd 90 y4a88 ((.not (.lt (.op .add (.var 76) (.lit 1)) (.var 76))))
 (nd 90 y4a89 ((.not (.lt (.lit 1536) (.op .add (.var 76) (.lit 1)))))
 (nd 90 y4a90 ((.not (.lt (.lit 1125899906842624) (.op .add (.var 76) (.lit 1)))))
 (nd 90 y4a91 ((.not (.lt (.len (.var 3)) (.op .add (.var 76) (.lit 1)))))
 (nd 90 y4a92 ((.not (.lt (.len (.var 82)) (.var 81))))
 (nd 90 y4a93 ((.not (.lt (.lit 70368744177664) (.op .add (.len (.sub (.var 82) (.lit 0) (.var 80))) (.len (.sub (.var 3) (.var 76) (.op .add (.var 76) (.lit 1))))))))
 (nd 92 y4a94 ((.not (.lt (.op .add (.var 8) (.lit (-1))) (.lit 0))))
 (nd 92 y4a95 ((.not (.lt (.lit 8000000) (.op .add (.var 77) (.lit 1)))))
 (nd 92 y4a96 ((.not (.lt (.lit 8000000) (.op .add (.var 78) (.lit 1)))))
 (lf 0 90 92 (rgs EK.n tKo) ((82,.ltm (.app (.app (.sub (.var 82) (.lit 0) (.var 80)) (.sub (.var 3) (.var 76) (.op .add (.var 76) (.lit 1)))) (.var 90)))::(74,.blk 74)::(3,.ltm (.var 3))::(ids (dn 71 6++dn 64 18)++((78,.itm (.op .add (.var 78) (.lit 1)))::(45,.idn)::(77,.itm (.op .add (.var 77) (.lit 1)))::(ids (dn 43 4)++((39,.val (.int .i64 0))::y4s6))))) ((.not (.lt (.lit 8000000) (.op .add (.var 78) (.lit 1))))::y4a96)))))))))))))
 (.fork (nd 90 y4a98 ((.not (.lt (.op .add (.var 80) (.lit 1)) (.lit 0))))
 (nd 90 y4a99 ((.not (.lt (.lit 1125899906842624) (.op .add (.var 80) (.lit 1)))))
 (nd 90 y4a100 ((.not (.lt (.var 80) (.lit 0))))
 (nd 90 y4a101 ((.lt (.var 80) (.op .add (.var 80) (.lit 1))))
 (nd 90 y4a102 ((.lt (.var 80) (.len (.var 82))))
 (nd 90 y4a103 ((.not (.lt (.lit 1536) (.op .add (.var 76) (.lit 1)))))
 (nd 90 y4a104 ((.not (.lt (.op .add (.var 8) (.lit (-1))) (.lit 0))))
 (nd 90 y4a105 ((.not (.lt (.lit 8000000) (.op .add (.var 77) (.lit 1)))))
 (nd 90 y4a106 ((.not (.lt (.lit 8000000) (.op .add (.var 78) (.lit 1)))))
 (lf 0 90 90 (rgs EK.n tKo) ((82,.ltm (.set (.var 82) (.var 80) (.sel (.var 3) (.var 76))))::(74,.blk 74)::(3,.ltm (.var 3))::(ids (dn 71 6++dn 64 18)++((78,.itm (.op .add (.var 78) (.lit 1)))::(45,.idn)::(77,.itm (.op .add (.var 77) (.lit 1)))::(ids (dn 43 5)++y4s5)))) ((.not (.lt (.lit 8000000) (.op .add (.var 78) (.lit 1))))::y4a106)))))))))))
 (nd 90 y4a107 ((.not (.lt (.var 76) (.lit 0))))
 (nd 90 y4a108 ((.not (.lt (.op .add (.var 76) (.lit 1)) (.var 76))))
 (nd 90 y4a109 ((.not (.lt (.lit 1536) (.op .add (.var 76) (.lit 1)))))
 (nd 90 y4a110 ((.not (.lt (.lit 1125899906842624) (.op .add (.var 76) (.lit 1)))))
 (nd 90 y4a111 ((.not (.lt (.len (.var 3)) (.op .add (.var 76) (.lit 1)))))
 (nd 90 y4a112 ((.not (.lt (.len (.var 82)) (.var 81))))
 (nd 90 y4a113 ((.not (.lt (.lit 70368744177664) (.op .add (.len (.sub (.var 82) (.lit 0) (.var 80))) (.len (.sub (.var 3) (.var 76) (.op .add (.var 76) (.lit 1))))))))
 (nd 92 y4a114 ((.not (.lt (.op .add (.var 8) (.lit (-1))) (.lit 0))))
 (nd 92 y4a115 ((.not (.lt (.lit 8000000) (.op .add (.var 77) (.lit 1)))))
 (nd 92 y4a116 ((.not (.lt (.lit 8000000) (.op .add (.var 78) (.lit 1)))))
 (lf 0 90 92 (rgs EK.n tKo) ((82,.ltm (.app (.app (.sub (.var 82) (.lit 0) (.var 80)) (.sub (.var 3) (.var 76) (.op .add (.var 76) (.lit 1)))) (.var 90)))::(74,.blk 74)::(3,.ltm (.var 3))::(ids (dn 71 6++dn 64 18)++((78,.itm (.op .add (.var 78) (.lit 1)))::(45,.idn)::(77,.itm (.op .add (.var 77) (.lit 1)))::(ids (dn 43 5)++y4s6)))) ((.not (.lt (.lit 8000000) (.op .add (.var 78) (.lit 1))))::y4a116))))))))))))))))
theorem lit_ks1_eq:treKS (kz++(k0++k1))=lit_ks1:=by kernel_rfl
abbrev y4a117:List TB:=(.not (.eq (.var 80) (.lit 0)))::y4a11
abbrev y4a118:List TB:=(.lt (.var 76) (.var 75))::y4a117
abbrev y4a119:List TB:=(.lt (.var 76) (.len (.var 3)))::y4a118
abbrev y4a120:List TB:=(.not (.eq (.sel (.var 3) (.var 76)) (.lit 32)))::(.not (.eq (.sel (.var 3) (.var 76)) (.lit 9)))::y4a119
abbrev y4a121:List TB:=(.not (.lt (.var 76) (.lit 0)))::y4a120
abbrev y4a122:List TB:=(.not (.lt (.op .add (.var 76) (.lit 2)) (.var 76)))::y4a121
abbrev y4a123:List TB:=(.not (.lt (.lit 1536) (.op .add (.var 76) (.lit 2))))::y4a122
abbrev y4a124:List TB:=(.not (.lt (.lit 1125899906842624) (.op .add (.var 76) (.lit 2))))::y4a123
abbrev y4a125:List TB:=(.not (.lt (.len (.var 3)) (.op .add (.var 76) (.lit 2))))::y4a124
abbrev y4a126:List TB:=(.not (.lt (.len (.var 82)) (.var 81)))::y4a125
abbrev y4a127:List TB:=(.not (.lt (.lit 70368744177664) (.op .add (.len (.sub (.var 82) (.lit 0) (.var 80))) (.len (.sub (.var 3) (.var 76) (.op .add (.var 76) (.lit 2)))))))::y4a126
abbrev y4a128:List TB:=(.not (.lt (.op .add (.var 8) (.lit (-1))) (.lit 0)))::y4a127
abbrev y4a129:List TB:=(.not (.lt (.lit 8000000) (.op .add (.var 77) (.lit 1))))::y4a128
abbrev y4a130:List TB:=(.or (.eq (.sel (.var 3) (.var 76)) (.lit 32)) (.eq (.sel (.var 3) (.var 76)) (.lit 9)))::y4a119
abbrev y4a131:List TB:=(.not (.lt (.var 76) (.lit 0)))::y4a130
abbrev y4a132:List TB:=(.not (.lt (.op .add (.var 76) (.lit 2)) (.var 76)))::y4a131
abbrev y4a133:List TB:=(.not (.lt (.lit 1536) (.op .add (.var 76) (.lit 2))))::y4a132
abbrev y4a134:List TB:=(.not (.lt (.lit 1125899906842624) (.op .add (.var 76) (.lit 2))))::y4a133
abbrev y4a135:List TB:=(.not (.lt (.len (.var 3)) (.op .add (.var 76) (.lit 2))))::y4a134
abbrev y4a136:List TB:=(.not (.lt (.len (.var 82)) (.var 81)))::y4a135
abbrev y4a137:List TB:=(.not (.lt (.lit 70368744177664) (.op .add (.len (.sub (.var 82) (.lit 0) (.var 80))) (.len (.sub (.var 3) (.var 76) (.op .add (.var 76) (.lit 2)))))))::y4a136
abbrev y4a138:List TB:=(.not (.lt (.op .add (.var 8) (.lit (-1))) (.lit 0)))::y4a137
abbrev y4a139:List TB:=(.not (.lt (.lit 8000000) (.op .add (.var 77) (.lit 1))))::y4a138
abbrev y4s7:SgT:=(8,.itm (.op .add (.var 8) (.lit (-1))))::(76,.itm (.op .add (.var 76) (.lit 2)))::(75,.itm (.var 75))::(1,.blk 1)::(ids (dn 35 16)++((81,.itm (.op .add (.op .add (.len (.sub (.var 82) (.lit 0) (.var 80))) (.len (.sub (.var 3) (.var 76) (.op .add (.var 76) (.lit 2))))) (.len (.var 90))))::(80,.itm (.op .add (.len (.sub (.var 82) (.lit 0) (.var 80))) (.len (.sub (.var 3) (.var 76) (.op .add (.var 76) (.lit 2))))))::(79,.new 91)::y4s0))
noncomputable def lit_ks2:Tre:=(nd 90 y4a117 ((.lt (.var 76) (.var 75)))
 (nd 90 y4a118 ((.lt (.var 76) (.len (.var 3))))
 (.fork (nd 90 y4a120 ((.not (.lt (.var 76) (.lit 0))))
 (nd 90 y4a121 ((.not (.lt (.op .add (.var 76) (.lit 2)) (.var 76))))
 (nd 90 y4a122 ((.not (.lt (.lit 1536) (.op .add (.var 76) (.lit 2)))))
 (nd 90 y4a123 ((.not (.lt (.lit 1125899906842624) (.op .add (.var 76) (.lit 2)))))
 (nd 90 y4a124 ((.not (.lt (.len (.var 3)) (.op .add (.var 76) (.lit 2)))))
 (nd 90 y4a125 ((.not (.lt (.len (.var 82)) (.var 81))))
 (nd 90 y4a126 ((.not (.lt (.lit 70368744177664) (.op .add (.len (.sub (.var 82) (.lit 0) (.var 80))) (.len (.sub (.var 3) (.var 76) (.op .add (.var 76) (.lit 2))))))))
 (nd 92 y4a127 ((.not (.lt (.op .add (.var 8) (.lit (-1))) (.lit 0))))
 (nd 92 y4a128 ((.not (.lt (.lit 8000000) (.op .add (.var 77) (.lit 1)))))
 (nd 92 y4a129 ((.not (.lt (.lit 8000000) (.op .add (.var 78) (.lit 1)))))
 (lf 0 90 92 (rgs EK.n tKo) ((82,.ltm (.app (.app (.sub (.var 82) (.lit 0) (.var 80)) (.sub (.var 3) (.var 76) (.op .add (.var 76) (.lit 2)))) (.var 90)))::(74,.blk 74)::(3,.ltm (.var 3))::(ids (dn 71 6++dn 64 18)++((78,.itm (.op .add (.var 78) (.lit 1)))::(45,.idn)::(77,.itm (.op .add (.var 77) (.lit 1)))::(ids (dn 43 4)++((39,.val (.int .i64 0))::y4s7))))) ((.not (.lt (.lit 8000000) (.op .add (.var 78) (.lit 1))))::y4a129))))))))))))
 (nd 90 y4a130 ((.not (.lt (.var 76) (.lit 0))))
 (nd 90 y4a131 ((.not (.lt (.op .add (.var 76) (.lit 2)) (.var 76))))
 (nd 90 y4a132 ((.not (.lt (.lit 1536) (.op .add (.var 76) (.lit 2)))))
 (nd 90 y4a133 ((.not (.lt (.lit 1125899906842624) (.op .add (.var 76) (.lit 2)))))
 (nd 90 y4a134 ((.not (.lt (.len (.var 3)) (.op .add (.var 76) (.lit 2)))))
 (nd 90 y4a135 ((.not (.lt (.len (.var 82)) (.var 81))))
 (nd 90 y4a136 ((.not (.lt (.lit 70368744177664) (.op .add (.len (.sub (.var 82) (.lit 0) (.var 80))) (.len (.sub (.var 3) (.var 76) (.op .add (.var 76) (.lit 2))))))))
 (nd 92 y4a137 ((.not (.lt (.op .add (.var 8) (.lit (-1))) (.lit 0))))
 (nd 92 y4a138 ((.not (.lt (.lit 8000000) (.op .add (.var 77) (.lit 1)))))
 (nd 92 y4a139 ((.not (.lt (.lit 8000000) (.op .add (.var 78) (.lit 1)))))
 (lf 0 90 92 (rgs EK.n tKo) ((82,.ltm (.app (.app (.sub (.var 82) (.lit 0) (.var 80)) (.sub (.var 3) (.var 76) (.op .add (.var 76) (.lit 2)))) (.var 90)))::(74,.blk 74)::(3,.ltm (.var 3))::(ids (dn 71 6++dn 64 18)++((78,.itm (.op .add (.var 78) (.lit 1)))::(45,.idn)::(77,.itm (.op .add (.var 77) (.lit 1)))::(ids (dn 43 5)++y4s7)))) ((.not (.lt (.lit 8000000) (.op .add (.var 78) (.lit 1))))::y4a139)))))))))))))))
theorem lit_ks2_eq:treKS (kz++(k0++k2))=lit_ks2:=by kernel_rfl
abbrev y4a140:List TB:=(.not (.eq (.var 80) (.lit 0)))::y4a32
abbrev y4a141:List TB:=(.lt (.var 76) (.var 75))::y4a140
abbrev y4a142:List TB:=(.lt (.var 76) (.len (.var 3)))::y4a141
abbrev y4a143:List TB:=(.not (.eq (.sel (.var 3) (.var 76)) (.lit 32)))::(.not (.eq (.sel (.var 3) (.var 76)) (.lit 9)))::y4a142
abbrev y4a144:List TB:=(.not (.lt (.var 76) (.lit 0)))::y4a143
abbrev y4a145:List TB:=(.not (.lt (.op .add (.var 76) (.lit 3)) (.var 76)))::y4a144
abbrev y4a146:List TB:=(.not (.lt (.lit 1536) (.op .add (.var 76) (.lit 3))))::y4a145
abbrev y4a147:List TB:=(.not (.lt (.lit 1125899906842624) (.op .add (.var 76) (.lit 3))))::y4a146
abbrev y4a148:List TB:=(.not (.lt (.len (.var 3)) (.op .add (.var 76) (.lit 3))))::y4a147
abbrev y4a149:List TB:=(.not (.lt (.len (.var 82)) (.var 81)))::y4a148
abbrev y4a150:List TB:=(.not (.lt (.lit 70368744177664) (.op .add (.len (.sub (.var 82) (.lit 0) (.var 80))) (.len (.sub (.var 3) (.var 76) (.op .add (.var 76) (.lit 3)))))))::y4a149
abbrev y4a151:List TB:=(.not (.lt (.op .add (.var 8) (.lit (-1))) (.lit 0)))::y4a150
abbrev y4a152:List TB:=(.not (.lt (.lit 8000000) (.op .add (.var 77) (.lit 1))))::y4a151
abbrev y4a153:List TB:=(.or (.eq (.sel (.var 3) (.var 76)) (.lit 32)) (.eq (.sel (.var 3) (.var 76)) (.lit 9)))::y4a142
abbrev y4a154:List TB:=(.not (.lt (.var 76) (.lit 0)))::y4a153
abbrev y4a155:List TB:=(.not (.lt (.op .add (.var 76) (.lit 3)) (.var 76)))::y4a154
abbrev y4a156:List TB:=(.not (.lt (.lit 1536) (.op .add (.var 76) (.lit 3))))::y4a155
abbrev y4a157:List TB:=(.not (.lt (.lit 1125899906842624) (.op .add (.var 76) (.lit 3))))::y4a156
abbrev y4a158:List TB:=(.not (.lt (.len (.var 3)) (.op .add (.var 76) (.lit 3))))::y4a157
abbrev y4a159:List TB:=(.not (.lt (.len (.var 82)) (.var 81)))::y4a158
abbrev y4a160:List TB:=(.not (.lt (.lit 70368744177664) (.op .add (.len (.sub (.var 82) (.lit 0) (.var 80))) (.len (.sub (.var 3) (.var 76) (.op .add (.var 76) (.lit 3)))))))::y4a159
abbrev y4a161:List TB:=(.not (.lt (.op .add (.var 8) (.lit (-1))) (.lit 0)))::y4a160
abbrev y4a162:List TB:=(.not (.lt (.lit 8000000) (.op .add (.var 77) (.lit 1))))::y4a161
abbrev y4s8:SgT:=(8,.itm (.op .add (.var 8) (.lit (-1))))::(76,.itm (.op .add (.var 76) (.lit 3)))::(75,.itm (.var 75))::(1,.blk 1)::(ids (dn 35 16)++((81,.itm (.op .add (.op .add (.len (.sub (.var 82) (.lit 0) (.var 80))) (.len (.sub (.var 3) (.var 76) (.op .add (.var 76) (.lit 3))))) (.len (.var 90))))::(80,.itm (.op .add (.len (.sub (.var 82) (.lit 0) (.var 80))) (.len (.sub (.var 3) (.var 76) (.op .add (.var 76) (.lit 3))))))::(79,.new 91)::y4s0))
noncomputable def lit_ks3:Tre:=(nd 90 y4a140 ((.lt (.var 76) (.var 75)))
 (nd 90 y4a141 ((.lt (.var 76) (.len (.var 3))))
 (.fork (nd 90 y4a143 ((.not (.lt (.var 76) (.lit 0))))
 (nd 90 y4a144 ((.not (.lt (.op .add (.var 76) (.lit 3)) (.var 76))))
 (nd 90 y4a145 ((.not (.lt (.lit 1536) (.op .add (.var 76) (.lit 3)))))
 (nd 90 y4a146 ((.not (.lt (.lit 1125899906842624) (.op .add (.var 76) (.lit 3)))))
 (nd 90 y4a147 ((.not (.lt (.len (.var 3)) (.op .add (.var 76) (.lit 3)))))
 (nd 90 y4a148 ((.not (.lt (.len (.var 82)) (.var 81))))
 (nd 90 y4a149 ((.not (.lt (.lit 70368744177664) (.op .add (.len (.sub (.var 82) (.lit 0) (.var 80))) (.len (.sub (.var 3) (.var 76) (.op .add (.var 76) (.lit 3))))))))
 (nd 92 y4a150 ((.not (.lt (.op .add (.var 8) (.lit (-1))) (.lit 0))))
 (nd 92 y4a151 ((.not (.lt (.lit 8000000) (.op .add (.var 77) (.lit 1)))))
 (nd 92 y4a152 ((.not (.lt (.lit 8000000) (.op .add (.var 78) (.lit 1)))))
 (lf 0 90 92 (rgs EK.n tKo) ((82,.ltm (.app (.app (.sub (.var 82) (.lit 0) (.var 80)) (.sub (.var 3) (.var 76) (.op .add (.var 76) (.lit 3)))) (.var 90)))::(74,.blk 74)::(3,.ltm (.var 3))::(ids (dn 71 6++dn 64 18)++((78,.itm (.op .add (.var 78) (.lit 1)))::(45,.idn)::(77,.itm (.op .add (.var 77) (.lit 1)))::(ids (dn 43 4)++((39,.val (.int .i64 0))::y4s8))))) ((.not (.lt (.lit 8000000) (.op .add (.var 78) (.lit 1))))::y4a152))))))))))))
 (nd 90 y4a153 ((.not (.lt (.var 76) (.lit 0))))
 (nd 90 y4a154 ((.not (.lt (.op .add (.var 76) (.lit 3)) (.var 76))))
 (nd 90 y4a155 ((.not (.lt (.lit 1536) (.op .add (.var 76) (.lit 3)))))
 (nd 90 y4a156 ((.not (.lt (.lit 1125899906842624) (.op .add (.var 76) (.lit 3)))))
 (nd 90 y4a157 ((.not (.lt (.len (.var 3)) (.op .add (.var 76) (.lit 3)))))
 (nd 90 y4a158 ((.not (.lt (.len (.var 82)) (.var 81))))
 (nd 90 y4a159 ((.not (.lt (.lit 70368744177664) (.op .add (.len (.sub (.var 82) (.lit 0) (.var 80))) (.len (.sub (.var 3) (.var 76) (.op .add (.var 76) (.lit 3))))))))
 (nd 92 y4a160 ((.not (.lt (.op .add (.var 8) (.lit (-1))) (.lit 0))))
 (nd 92 y4a161 ((.not (.lt (.lit 8000000) (.op .add (.var 77) (.lit 1)))))
 (nd 92 y4a162 ((.not (.lt (.lit 8000000) (.op .add (.var 78) (.lit 1)))))
 (lf 0 90 92 (rgs EK.n tKo) ((82,.ltm (.app (.app (.sub (.var 82) (.lit 0) (.var 80)) (.sub (.var 3) (.var 76) (.op .add (.var 76) (.lit 3)))) (.var 90)))::(74,.blk 74)::(3,.ltm (.var 3))::(ids (dn 71 6++dn 64 18)++((78,.itm (.op .add (.var 78) (.lit 1)))::(45,.idn)::(77,.itm (.op .add (.var 77) (.lit 1)))::(ids (dn 43 5)++y4s8)))) ((.not (.lt (.lit 8000000) (.op .add (.var 78) (.lit 1))))::y4a162)))))))))))))))
theorem lit_ks3_eq:treKS (kz++(k0++k3))=lit_ks3:=by kernel_rfl
abbrev y4a163:List TB:=(.not (.eq (.var 80) (.lit 0)))::y4a53
abbrev y4a164:List TB:=(.lt (.var 76) (.var 75))::y4a163
abbrev y4a165:List TB:=(.lt (.var 76) (.len (.var 3)))::y4a164
abbrev y4a166:List TB:=(.not (.eq (.sel (.var 3) (.var 76)) (.lit 32)))::(.not (.eq (.sel (.var 3) (.var 76)) (.lit 9)))::y4a165
abbrev y4a167:List TB:=(.not (.lt (.var 76) (.lit 0)))::y4a166
abbrev y4a168:List TB:=(.not (.lt (.op .add (.var 76) (.lit 4)) (.var 76)))::y4a167
abbrev y4a169:List TB:=(.not (.lt (.lit 1536) (.op .add (.var 76) (.lit 4))))::y4a168
abbrev y4a170:List TB:=(.not (.lt (.lit 1125899906842624) (.op .add (.var 76) (.lit 4))))::y4a169
abbrev y4a171:List TB:=(.not (.lt (.len (.var 3)) (.op .add (.var 76) (.lit 4))))::y4a170
abbrev y4a172:List TB:=(.not (.lt (.len (.var 82)) (.var 81)))::y4a171
abbrev y4a173:List TB:=(.not (.lt (.lit 70368744177664) (.op .add (.len (.sub (.var 82) (.lit 0) (.var 80))) (.len (.sub (.var 3) (.var 76) (.op .add (.var 76) (.lit 4)))))))::y4a172
abbrev y4a174:List TB:=(.not (.lt (.op .add (.var 8) (.lit (-1))) (.lit 0)))::y4a173
abbrev y4a175:List TB:=(.not (.lt (.lit 8000000) (.op .add (.var 77) (.lit 1))))::y4a174
abbrev y4a176:List TB:=(.or (.eq (.sel (.var 3) (.var 76)) (.lit 32)) (.eq (.sel (.var 3) (.var 76)) (.lit 9)))::y4a165
abbrev y4a177:List TB:=(.not (.lt (.var 76) (.lit 0)))::y4a176
abbrev y4a178:List TB:=(.not (.lt (.op .add (.var 76) (.lit 4)) (.var 76)))::y4a177
abbrev y4a179:List TB:=(.not (.lt (.lit 1536) (.op .add (.var 76) (.lit 4))))::y4a178
abbrev y4a180:List TB:=(.not (.lt (.lit 1125899906842624) (.op .add (.var 76) (.lit 4))))::y4a179
abbrev y4a181:List TB:=(.not (.lt (.len (.var 3)) (.op .add (.var 76) (.lit 4))))::y4a180
abbrev y4a182:List TB:=(.not (.lt (.len (.var 82)) (.var 81)))::y4a181
abbrev y4a183:List TB:=(.not (.lt (.lit 70368744177664) (.op .add (.len (.sub (.var 82) (.lit 0) (.var 80))) (.len (.sub (.var 3) (.var 76) (.op .add (.var 76) (.lit 4)))))))::y4a182
abbrev y4a184:List TB:=(.not (.lt (.op .add (.var 8) (.lit (-1))) (.lit 0)))::y4a183
abbrev y4a185:List TB:=(.not (.lt (.lit 8000000) (.op .add (.var 77) (.lit 1))))::y4a184
abbrev y4s9:SgT:=(8,.itm (.op .add (.var 8) (.lit (-1))))::(76,.itm (.op .add (.var 76) (.lit 4)))::(75,.itm (.var 75))::(1,.blk 1)::(ids (dn 35 16)++((81,.itm (.op .add (.op .add (.len (.sub (.var 82) (.lit 0) (.var 80))) (.len (.sub (.var 3) (.var 76) (.op .add (.var 76) (.lit 4))))) (.len (.var 90))))::(80,.itm (.op .add (.len (.sub (.var 82) (.lit 0) (.var 80))) (.len (.sub (.var 3) (.var 76) (.op .add (.var 76) (.lit 4))))))::(79,.new 91)::y4s0))
noncomputable def lit_ks4:Tre:=(nd 90 y4a163 ((.lt (.var 76) (.var 75)))
 (nd 90 y4a164 ((.lt (.var 76) (.len (.var 3))))
 (.fork (nd 90 y4a166 ((.not (.lt (.var 76) (.lit 0))))
 (nd 90 y4a167 ((.not (.lt (.op .add (.var 76) (.lit 4)) (.var 76))))
 (nd 90 y4a168 ((.not (.lt (.lit 1536) (.op .add (.var 76) (.lit 4)))))
 (nd 90 y4a169 ((.not (.lt (.lit 1125899906842624) (.op .add (.var 76) (.lit 4)))))
 (nd 90 y4a170 ((.not (.lt (.len (.var 3)) (.op .add (.var 76) (.lit 4)))))
 (nd 90 y4a171 ((.not (.lt (.len (.var 82)) (.var 81))))
 (nd 90 y4a172 ((.not (.lt (.lit 70368744177664) (.op .add (.len (.sub (.var 82) (.lit 0) (.var 80))) (.len (.sub (.var 3) (.var 76) (.op .add (.var 76) (.lit 4))))))))
 (nd 92 y4a173 ((.not (.lt (.op .add (.var 8) (.lit (-1))) (.lit 0))))
 (nd 92 y4a174 ((.not (.lt (.lit 8000000) (.op .add (.var 77) (.lit 1)))))
 (nd 92 y4a175 ((.not (.lt (.lit 8000000) (.op .add (.var 78) (.lit 1)))))
 (lf 0 90 92 (rgs EK.n tKo) ((82,.ltm (.app (.app (.sub (.var 82) (.lit 0) (.var 80)) (.sub (.var 3) (.var 76) (.op .add (.var 76) (.lit 4)))) (.var 90)))::(74,.blk 74)::(3,.ltm (.var 3))::(ids (dn 71 6++dn 64 18)++((78,.itm (.op .add (.var 78) (.lit 1)))::(45,.idn)::(77,.itm (.op .add (.var 77) (.lit 1)))::(ids (dn 43 4)++((39,.val (.int .i64 0))::y4s9))))) ((.not (.lt (.lit 8000000) (.op .add (.var 78) (.lit 1))))::y4a175))))))))))))
 (nd 90 y4a176 ((.not (.lt (.var 76) (.lit 0))))
 (nd 90 y4a177 ((.not (.lt (.op .add (.var 76) (.lit 4)) (.var 76))))
 (nd 90 y4a178 ((.not (.lt (.lit 1536) (.op .add (.var 76) (.lit 4)))))
 (nd 90 y4a179 ((.not (.lt (.lit 1125899906842624) (.op .add (.var 76) (.lit 4)))))
 (nd 90 y4a180 ((.not (.lt (.len (.var 3)) (.op .add (.var 76) (.lit 4)))))
 (nd 90 y4a181 ((.not (.lt (.len (.var 82)) (.var 81))))
 (nd 90 y4a182 ((.not (.lt (.lit 70368744177664) (.op .add (.len (.sub (.var 82) (.lit 0) (.var 80))) (.len (.sub (.var 3) (.var 76) (.op .add (.var 76) (.lit 4))))))))
 (nd 92 y4a183 ((.not (.lt (.op .add (.var 8) (.lit (-1))) (.lit 0))))
 (nd 92 y4a184 ((.not (.lt (.lit 8000000) (.op .add (.var 77) (.lit 1)))))
 (nd 92 y4a185 ((.not (.lt (.lit 8000000) (.op .add (.var 78) (.lit 1)))))
 (lf 0 90 92 (rgs EK.n tKo) ((82,.ltm (.app (.app (.sub (.var 82) (.lit 0) (.var 80)) (.sub (.var 3) (.var 76) (.op .add (.var 76) (.lit 4)))) (.var 90)))::(74,.blk 74)::(3,.ltm (.var 3))::(ids (dn 71 6++dn 64 18)++((78,.itm (.op .add (.var 78) (.lit 1)))::(45,.idn)::(77,.itm (.op .add (.var 77) (.lit 1)))::(ids (dn 43 5)++y4s9)))) ((.not (.lt (.lit 8000000) (.op .add (.var 78) (.lit 1))))::y4a185)))))))))))))))
theorem lit_ks4_eq:treKS (kz++(k0++k4))=lit_ks4:=by kernel_rfl
end U
