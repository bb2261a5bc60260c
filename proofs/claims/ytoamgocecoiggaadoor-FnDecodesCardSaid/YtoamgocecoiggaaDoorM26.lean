-- the statement of this claim: see YtoamgocecoiggaaDoorRw
import Derived.Test.YtoamgocecoiggaaDoorM25
set_option linter.unusedVariables false
set_option linter.unusedSimpArgs false
open Go Go.SM Go.Proofs
namespace U
set_option maxRecDepth 100000
abbrev r2a0:List TB:=[(.not (.var 11)),(.lt (.op .sub (.var 6) (.var 7)) (.lit 512)),(.eq (.var 19) (.var 18))]
abbrev r2a1:List TB:=(.eq (.var 7) (.lit 0))::(.not (.eq (.var 6) (.lit 512)))::(.not (.lt (.lit 0) (.var 7)))::r2a0
abbrev r2a2:List TB:=(.not (.lt (.op .sub (.var 6) (.var 7)) (.lit 0)))::r2a1
abbrev r2s0:SgT:=(72,.itm (.var 72))::(18,.itm (.var 18))::(16,.blk 16)::(ids ([32]++dn 30 11)++[(0,.blk 0),(73,.blk 73)])
abbrev r2s1:SgT:=(19,.itm (.var 19))::r2s0
abbrev r2s2:SgT:=(ids (dn 71 6++dn 64 23)++((7,.itm (.lit 0))::(6,.itm (.op .sub (.var 6) (.var 7)))::(2,.blk 2)::(ids (dn 39 4)++((11,.btm (.lit true))::r2s1))))
abbrev r2s3:SgT:=(74,.blk 74)::(17,.ltm (.var 17))::(4,.ltm (.var 4))::r2s2
noncomputable def lit_r1a:Tre:=(nd 90 r2a1 ((.not (.lt (.op .sub (.var 6) (.var 7)) (.lit 0))))
 (nd 90 r2a2 ((.not (.lt (.lit 1125899906842624) (.op .sub (.var 6) (.var 7)))))
 (lf 0 90 90 (rgs ER.n tRo) r2s3 ((.not (.lt (.lit 1125899906842624) (.op .sub (.var 6) (.var 7))))::r2a2))))
theorem lit_r1a_eq:treR (fS1++fEa)=lit_r1a:=by kernel_rfl
abbrev r2a3:List TB:=[(.not (.var 11)),(.lt (.op .sub (.var 6) (.var 7)) (.lit 512)),(.not (.eq (.var 19) (.var 18))),(.lt (.var 19) (.var 72))]
abbrev r2a4:List TB:=(.eq (.var 7) (.lit 0))::(.not (.eq (.var 6) (.lit 512)))::(.not (.lt (.lit 0) (.var 7)))::r2a3
abbrev r2a5:List TB:=(.not (.lt (.op .sub (.var 6) (.var 7)) (.lit 0)))::r2a4
abbrev r2a6:List TB:=(.not (.lt (.lit 1125899906842624) (.op .sub (.var 6) (.var 7))))::r2a5
abbrev r2a7:List TB:=(.not (.lt (.var 19) (.lit 0)))::r2a6
abbrev r2a8:List TB:=(.not (.lt (.var 18) (.var 19)))::r2a7
abbrev r2a9:List TB:=(.not (.lt (.var 72) (.var 18)))::r2a8
abbrev r2a10:List TB:=(.not (.lt (.lit 1125899906842624) (.var 18)))::r2a9
abbrev r2a11:List TB:=(.not (.lt (.len (.var 17)) (.var 18)))::r2a10
abbrev r2a12:List TB:=(.not (.lt (.len (.var 4)) (.lit 512)))::r2a11
abbrev r2a13:List TB:=(.lt (.op .sub (.lit 512) (.op .sub (.var 6) (.var 7))) (.op .sub (.var 18) (.var 19)))::r2a12
abbrev r2a14:List TB:=(.not (.lt (.op .sub (.lit 512) (.op .sub (.var 6) (.var 7))) (.op .sub (.var 18) (.var 19))))::r2a12
abbrev r2a15:List TB:=(.not (.lt (.len (.var 4)) (.op .add (.op .sub (.var 6) (.var 7)) (.op .sub (.var 18) (.var 19)))))::r2a14
abbrev r2a16:List TB:=(.not (.lt (.op .add (.op .sub (.var 6) (.var 7)) (.op .sub (.var 18) (.var 19))) (.lit 0)))::r2a15
abbrev r2a17:List TB:=(.not (.lt (.lit 512) (.op .add (.op .sub (.var 6) (.var 7)) (.op .sub (.var 18) (.var 19)))))::r2a16
abbrev r2a18:List TB:=(.not (.lt (.lit 1125899906842624) (.op .add (.op .sub (.var 6) (.var 7)) (.op .sub (.var 18) (.var 19)))))::r2a17
abbrev r2s4:SgT:=(ids (dn 71 6++dn 64 23)++((7,.itm (.lit 0))::(6,.itm (.lit 512))::(2,.blk 2)::(ids (dn 39 4)++((11,.btm (.var 11))::(19,.itm (.op .add (.var 19) (.op .sub (.lit 512) (.op .sub (.var 6) (.var 7)))))::r2s0))))
abbrev r2s5:SgT:=(74,.blk 74)::(17,.ltm (.var 17))::(4,.ltm (.put (.var 4) (.op .sub (.var 6) (.var 7)) (.sub (.sub (.var 17) (.var 19) (.var 18)) (.lit 0) (.op .sub (.lit 512) (.op .sub (.var 6) (.var 7))))))::r2s4
abbrev r2s6:SgT:=(ids (dn 71 6++dn 64 23)++((7,.itm (.lit 0))::(6,.itm (.op .add (.op .sub (.var 6) (.var 7)) (.op .sub (.var 18) (.var 19))))::(2,.blk 2)::(ids (dn 39 4)++((11,.btm (.var 11))::(19,.itm (.var 18))::r2s0))))
abbrev r2s7:SgT:=(74,.blk 74)::(17,.ltm (.var 17))::(4,.ltm (.put (.var 4) (.op .sub (.var 6) (.var 7)) (.sub (.var 17) (.var 19) (.var 18))))::r2s6
noncomputable def lit_r1b:Tre:=(nd 90 r2a4 ((.not (.lt (.op .sub (.var 6) (.var 7)) (.lit 0))))
 (nd 90 r2a5 ((.not (.lt (.lit 1125899906842624) (.op .sub (.var 6) (.var 7)))))
 (nd 90 r2a6 ((.not (.lt (.var 19) (.lit 0))))
 (nd 90 r2a7 ((.not (.lt (.var 18) (.var 19))))
 (nd 90 r2a8 ((.not (.lt (.var 72) (.var 18))))
 (nd 90 r2a9 ((.not (.lt (.lit 1125899906842624) (.var 18))))
 (nd 90 r2a10 ((.not (.lt (.len (.var 17)) (.var 18))))
 (nd 90 r2a11 ((.not (.lt (.len (.var 4)) (.lit 512))))
 (.fork (nd 90 r2a13 ((.not (.lt (.lit 2000000) (.op .add (.var 19) (.op .sub (.lit 512) (.op .sub (.var 6) (.var 7)))))))
 (lf 0 90 90 (rgs ER.n tRo) r2s5 ((.not (.lt (.lit 2000000) (.op .add (.var 19) (.op .sub (.lit 512) (.op .sub (.var 6) (.var 7))))))::r2a13)))
 (nd 90 r2a14 ((.not (.lt (.len (.var 4)) (.op .add (.op .sub (.var 6) (.var 7)) (.op .sub (.var 18) (.var 19))))))
 (nd 90 r2a15 ((.not (.lt (.op .add (.op .sub (.var 6) (.var 7)) (.op .sub (.var 18) (.var 19))) (.lit 0))))
 (nd 90 r2a16 ((.not (.lt (.lit 512) (.op .add (.op .sub (.var 6) (.var 7)) (.op .sub (.var 18) (.var 19))))))
 (nd 90 r2a17 ((.not (.lt (.lit 1125899906842624) (.op .add (.op .sub (.var 6) (.var 7)) (.op .sub (.var 18) (.var 19))))))
 (nd 90 r2a18 ((.not (.lt (.lit 2000000) (.var 18))))
 (lf 0 90 90 (rgs ER.n tRo) r2s7 ((.not (.lt (.lit 2000000) (.var 18)))::r2a18))))))))))))))))
theorem lit_r1b_eq:treR (fS1++fEb)=lit_r1b:=by kernel_rfl
abbrev r2a19:List TB:=(.not (.eq (.var 7) (.lit 0)))::(.lt (.lit 0) (.var 7))::(.lt (.var 7) (.var 6))::(.not (.lt (.var 6) (.var 7)))::(.lt (.var 7) (.lit 512))::(.not (.lt (.var 6) (.op .sub (.var 6) (.var 7))))::r2a0
abbrev r2a20:List TB:=(.not (.lt (.lit 512) (.var 6)))::r2a19
abbrev r2a21:List TB:=(.not (.lt (.lit 1125899906842624) (.var 6)))::r2a20
abbrev r2a22:List TB:=(.not (.lt (.len (.var 4)) (.var 6)))::r2a21
abbrev r2a23:List TB:=(.not (.lt (.len (.var 4)) (.op .sub (.var 6) (.var 7))))::r2a22
abbrev r2a24:List TB:=(.not (.lt (.op .sub (.var 6) (.var 7)) (.lit 0)))::r2a23
noncomputable def lit_r2a:Tre:=(nd 90 r2a19 ((.not (.lt (.lit 512) (.var 6))))
 (nd 90 r2a20 ((.not (.lt (.lit 1125899906842624) (.var 6))))
 (nd 90 r2a21 ((.not (.lt (.len (.var 4)) (.var 6))))
 (nd 90 r2a22 ((.not (.lt (.len (.var 4)) (.op .sub (.var 6) (.var 7)))))
 (nd 90 r2a23 ((.not (.lt (.op .sub (.var 6) (.var 7)) (.lit 0))))
 (nd 90 r2a24 ((.not (.lt (.lit 1125899906842624) (.op .sub (.var 6) (.var 7)))))
 (lf 0 90 90 (rgs ER.n tRo) ((74,.blk 74)::(17,.ltm (.var 17))::(4,.ltm (.put (.var 4) (.lit 0) (.sub (.var 4) (.var 7) (.var 6))))::r2s2) ((.not (.lt (.lit 1125899906842624) (.op .sub (.var 6) (.var 7))))::r2a24))))))))
theorem lit_r2a_eq:treR (fS2++fEa)=lit_r2a:=by kernel_rfl
abbrev r2a25:List TB:=(.not (.eq (.var 7) (.lit 0)))::(.lt (.lit 0) (.var 7))::(.lt (.var 7) (.var 6))::(.not (.lt (.var 6) (.var 7)))::(.lt (.var 7) (.lit 512))::(.not (.lt (.var 6) (.op .sub (.var 6) (.var 7))))::r2a3
abbrev r2a26:List TB:=(.not (.lt (.lit 512) (.var 6)))::r2a25
abbrev r2a27:List TB:=(.not (.lt (.lit 1125899906842624) (.var 6)))::r2a26
abbrev r2a28:List TB:=(.not (.lt (.len (.var 4)) (.var 6)))::r2a27
abbrev r2a29:List TB:=(.not (.lt (.len (.var 4)) (.op .sub (.var 6) (.var 7))))::r2a28
abbrev r2a30:List TB:=(.not (.lt (.op .sub (.var 6) (.var 7)) (.lit 0)))::r2a29
abbrev r2a31:List TB:=(.not (.lt (.lit 1125899906842624) (.op .sub (.var 6) (.var 7))))::r2a30
abbrev r2a32:List TB:=(.not (.lt (.var 19) (.lit 0)))::r2a31
abbrev r2a33:List TB:=(.not (.lt (.var 18) (.var 19)))::r2a32
abbrev r2a34:List TB:=(.not (.lt (.var 72) (.var 18)))::r2a33
abbrev r2a35:List TB:=(.not (.lt (.lit 1125899906842624) (.var 18)))::r2a34
abbrev r2a36:List TB:=(.not (.lt (.len (.var 17)) (.var 18)))::r2a35
abbrev r2a37:List TB:=(.not (.lt (.len (.put (.var 4) (.lit 0) (.sub (.var 4) (.var 7) (.var 6)))) (.lit 512)))::r2a36
abbrev r2a38:List TB:=(.lt (.op .sub (.lit 512) (.op .sub (.var 6) (.var 7))) (.op .sub (.var 18) (.var 19)))::r2a37
abbrev r2a39:List TB:=(.not (.lt (.op .sub (.lit 512) (.op .sub (.var 6) (.var 7))) (.op .sub (.var 18) (.var 19))))::r2a37
abbrev r2a40:List TB:=(.not (.lt (.len (.put (.var 4) (.lit 0) (.sub (.var 4) (.var 7) (.var 6)))) (.op .add (.op .sub (.var 6) (.var 7)) (.op .sub (.var 18) (.var 19)))))::r2a39
abbrev r2a41:List TB:=(.not (.lt (.op .add (.op .sub (.var 6) (.var 7)) (.op .sub (.var 18) (.var 19))) (.lit 0)))::r2a40
abbrev r2a42:List TB:=(.not (.lt (.lit 512) (.op .add (.op .sub (.var 6) (.var 7)) (.op .sub (.var 18) (.var 19)))))::r2a41
abbrev r2a43:List TB:=(.not (.lt (.lit 1125899906842624) (.op .add (.op .sub (.var 6) (.var 7)) (.op .sub (.var 18) (.var 19)))))::r2a42
noncomputable def lit_r2b:Tre:=(nd 90 r2a25 ((.not (.lt (.lit 512) (.var 6))))
 (nd 90 r2a26 ((.not (.lt (.lit 1125899906842624) (.var 6))))
 (nd 90 r2a27 ((.not (.lt (.len (.var 4)) (.var 6))))
 (nd 90 r2a28 ((.not (.lt (.len (.var 4)) (.op .sub (.var 6) (.var 7)))))
 (nd 90 r2a29 ((.not (.lt (.op .sub (.var 6) (.var 7)) (.lit 0))))
 (nd 90 r2a30 ((.not (.lt (.lit 1125899906842624) (.op .sub (.var 6) (.var 7)))))
 (nd 90 r2a31 ((.not (.lt (.var 19) (.lit 0))))
 (nd 90 r2a32 ((.not (.lt (.var 18) (.var 19))))
 (nd 90 r2a33 ((.not (.lt (.var 72) (.var 18))))
 (nd 90 r2a34 ((.not (.lt (.lit 1125899906842624) (.var 18))))
 (nd 90 r2a35 ((.not (.lt (.len (.var 17)) (.var 18))))
 (nd 90 r2a36 ((.not (.lt (.len (.put (.var 4) (.lit 0) (.sub (.var 4) (.var 7) (.var 6)))) (.lit 512))))
 (.fork (nd 90 r2a38 ((.not (.lt (.lit 2000000) (.op .add (.var 19) (.op .sub (.lit 512) (.op .sub (.var 6) (.var 7)))))))
 (lf 0 90 90 (rgs ER.n tRo) ((74,.blk 74)::(17,.ltm (.var 17))::(4,.ltm (.put (.put (.var 4) (.lit 0) (.sub (.var 4) (.var 7) (.var 6))) (.op .sub (.var 6) (.var 7)) (.sub (.sub (.var 17) (.var 19) (.var 18)) (.lit 0) (.op .sub (.lit 512) (.op .sub (.var 6) (.var 7))))))::r2s4) ((.not (.lt (.lit 2000000) (.op .add (.var 19) (.op .sub (.lit 512) (.op .sub (.var 6) (.var 7))))))::r2a38)))
 (nd 90 r2a39 ((.not (.lt (.len (.put (.var 4) (.lit 0) (.sub (.var 4) (.var 7) (.var 6)))) (.op .add (.op .sub (.var 6) (.var 7)) (.op .sub (.var 18) (.var 19))))))
 (nd 90 r2a40 ((.not (.lt (.op .add (.op .sub (.var 6) (.var 7)) (.op .sub (.var 18) (.var 19))) (.lit 0))))
 (nd 90 r2a41 ((.not (.lt (.lit 512) (.op .add (.op .sub (.var 6) (.var 7)) (.op .sub (.var 18) (.var 19))))))
 (nd 90 r2a42 ((.not (.lt (.lit 1125899906842624) (.op .add (.op .sub (.var 6) (.var 7)) (.op .sub (.var 18) (.var 19))))))
 (nd 90 r2a43 ((.not (.lt (.lit 2000000) (.var 18))))
 (lf 0 90 90 (rgs ER.n tRo) ((74,.blk 74)::(17,.ltm (.var 17))::(4,.ltm (.put (.put (.var 4) (.lit 0) (.sub (.var 4) (.var 7) (.var 6))) (.op .sub (.var 6) (.var 7)) (.sub (.var 17) (.var 19) (.var 18))))::r2s6) ((.not (.lt (.lit 2000000) (.var 18)))::r2a43))))))))))))))))))))
theorem lit_r2b_eq:treR (fS2++fEb)=lit_r2b:=by kernel_rfl
abbrev r2a44:List TB:=(.not (.eq (.var 7) (.lit 0)))::(.lt (.lit 0) (.var 7))::(.not (.lt (.var 7) (.var 6)))::r2a0
abbrev r2a45:List TB:=(.not (.lt (.op .sub (.var 6) (.var 7)) (.lit 0)))::r2a44
noncomputable def lit_r3a:Tre:=(nd 90 r2a44 ((.not (.lt (.op .sub (.var 6) (.var 7)) (.lit 0))))
 (nd 90 r2a45 ((.not (.lt (.lit 1125899906842624) (.op .sub (.var 6) (.var 7)))))
 (lf 0 90 90 (rgs ER.n tRo) r2s3 ((.not (.lt (.lit 1125899906842624) (.op .sub (.var 6) (.var 7))))::r2a45))))
theorem lit_r3a_eq:treR (fS3++fEa)=lit_r3a:=by kernel_rfl
abbrev r2a46:List TB:=(.not (.eq (.var 7) (.lit 0)))::(.lt (.lit 0) (.var 7))::(.not (.lt (.var 7) (.var 6)))::r2a3
abbrev r2a47:List TB:=(.not (.lt (.op .sub (.var 6) (.var 7)) (.lit 0)))::r2a46
abbrev r2a48:List TB:=(.not (.lt (.lit 1125899906842624) (.op .sub (.var 6) (.var 7))))::r2a47
abbrev r2a49:List TB:=(.not (.lt (.var 19) (.lit 0)))::r2a48
abbrev r2a50:List TB:=(.not (.lt (.var 18) (.var 19)))::r2a49
abbrev r2a51:List TB:=(.not (.lt (.var 72) (.var 18)))::r2a50
abbrev r2a52:List TB:=(.not (.lt (.lit 1125899906842624) (.var 18)))::r2a51
abbrev r2a53:List TB:=(.not (.lt (.len (.var 17)) (.var 18)))::r2a52
abbrev r2a54:List TB:=(.not (.lt (.len (.var 4)) (.lit 512)))::r2a53
abbrev r2a55:List TB:=(.lt (.op .sub (.lit 512) (.op .sub (.var 6) (.var 7))) (.op .sub (.var 18) (.var 19)))::r2a54
abbrev r2a56:List TB:=(.not (.lt (.op .sub (.lit 512) (.op .sub (.var 6) (.var 7))) (.op .sub (.var 18) (.var 19))))::r2a54
abbrev r2a57:List TB:=(.not (.lt (.len (.var 4)) (.op .add (.op .sub (.var 6) (.var 7)) (.op .sub (.var 18) (.var 19)))))::r2a56
abbrev r2a58:List TB:=(.not (.lt (.op .add (.op .sub (.var 6) (.var 7)) (.op .sub (.var 18) (.var 19))) (.lit 0)))::r2a57
abbrev r2a59:List TB:=(.not (.lt (.lit 512) (.op .add (.op .sub (.var 6) (.var 7)) (.op .sub (.var 18) (.var 19)))))::r2a58
abbrev r2a60:List TB:=(.not (.lt (.lit 1125899906842624) (.op .add (.op .sub (.var 6) (.var 7)) (.op .sub (.var 18) (.var 19)))))::r2a59
noncomputable def lit_r3b:Tre:=(nd 90 r2a46 ((.not (.lt (.op .sub (.var 6) (.var 7)) (.lit 0))))
 (nd 90 r2a47 ((.not (.lt (.lit 1125899906842624) (.op .sub (.var 6) (.var 7)))))
 (nd 90 r2a48 ((.not (.lt (.var 19) (.lit 0))))
 (nd 90 r2a49 ((.not (.lt (.var 18) (.var 19))))
 (nd 90 r2a50 ((.not (.lt (.var 72) (.var 18))))
 (nd 90 r2a51 ((.not (.lt (.lit 1125899906842624) (.var 18))))
 (nd 90 r2a52 ((.not (.lt (.len (.var 17)) (.var 18))))
 (nd 90 r2a53 ((.not (.lt (.len (.var 4)) (.lit 512))))
 (.fork (nd 90 r2a55 ((.not (.lt (.lit 2000000) (.op .add (.var 19) (.op .sub (.lit 512) (.op .sub (.var 6) (.var 7)))))))
 (lf 0 90 90 (rgs ER.n tRo) r2s5 ((.not (.lt (.lit 2000000) (.op .add (.var 19) (.op .sub (.lit 512) (.op .sub (.var 6) (.var 7))))))::r2a55)))
 (nd 90 r2a56 ((.not (.lt (.len (.var 4)) (.op .add (.op .sub (.var 6) (.var 7)) (.op .sub (.var 18) (.var 19))))))
 (nd 90 r2a57 ((.not (.lt (.op .add (.op .sub (.var 6) (.var 7)) (.op .sub (.var 18) (.var 19))) (.lit 0))))
 (nd 90 r2a58 ((.not (.lt (.lit 512) (.op .add (.op .sub (.var 6) (.var 7)) (.op .sub (.var 18) (.var 19))))))
 (nd 90 r2a59 ((.not (.lt (.lit 1125899906842624) (.op .add (.op .sub (.var 6) (.var 7)) (.op .sub (.var 18) (.var 19))))))
 (nd 90 r2a60 ((.not (.lt (.lit 2000000) (.var 18))))
 (lf 0 90 90 (rgs ER.n tRo) r2s7 ((.not (.lt (.lit 2000000) (.var 18)))::r2a60))))))))))))))))
theorem lit_r3b_eq:treR (fS3++fEb)=lit_r3b:=by kernel_rfl
abbrev r2s8:SgT:=(74,.blk 74)::(17,.ltm (.var 17))::(4,.ltm (.var 4))::(ids (dn 71 6++dn 64 23)++((7,.itm (.var 7))::(6,.itm (.var 6))::(2,.blk 2)::(ids (dn 39 4)++((11,.btm (.var 11))::r2s1))))
noncomputable def lit_rfu:Tre:=(lf 0 90 90 (rgs ER.n tRo) r2s8 [(.eq (.var 7) (.lit 0)),(.eq (.var 6) (.lit 512))])
theorem lit_rfu_eq:treR (fFu)=lit_rfu:=by kernel_rfl
noncomputable def lit_reo:Tre:=(.fork (lf 0 90 90 (rgs ER.n tRo) r2s8 [(.eq (.var 7) (.lit 0)),(.eq (.var 6) (.lit 512)),(.var 11)])
 (lf 0 90 90 (rgs ER.n tRo) r2s8 [(.not (.and (.eq (.var 7) (.lit 0)) (.eq (.var 6) (.lit 512)))),(.var 11)]))
theorem lit_reo_eq:treR (fEo)=lit_reo:=by kernel_rfl
end U
