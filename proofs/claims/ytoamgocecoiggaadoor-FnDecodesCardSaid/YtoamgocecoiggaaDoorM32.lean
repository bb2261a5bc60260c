-- the statement of this claim: see YtoamgocecoiggaaDoorRw
import Derived.Test.YtoamgocecoiggaaDoorM30
set_option linter.unusedVariables false
set_option linter.unusedSimpArgs false
open Go Go.SM Go.Proofs
namespace U
set_option maxRecDepth 100000
noncomputable abbrev loopO:Code:=.loop outer
noncomputable abbrev loopP:Code:=.loop pad
abbrev w5a0:List TB:=[(.not (.lt (.var 8) (.var 12)))]
abbrev w5s0:SgT:=[(0,.blk 0),(73,.blk 73)]
abbrev w5s1:SgT:=(12,.itm (.var 12))::w5s0
abbrev w5s2:SgT:=(1,.blk 1)::(11,.btm (.var 11))::(19,.itm (.var 19))::(72,.itm (.var 72))::(18,.itm (.var 18))::(16,.blk 16)::(ids ([32]++dn 30 11)++w5s1)
abbrev w5s3:SgT:=(74,.blk 74)::(17,.ltm (.var 17))::(4,.ltm (.var 4))::(3,.ltm (.var 3))::(ids (dn 71 6++dn 64 21)++((9,.itm (.var 9))::(10,.itm (.var 10))::(7,.itm (.var 7))::(6,.itm (.var 6))::(2,.blk 2)::(39,.idn)::(8,.itm (.var 8))::(76,.itm (.var 76))::(75,.itm (.var 75))::w5s2))
noncomputable def lit_uE:Tre:=(.fork (lf 0 90 90 (rgs EU.n tUo) w5s3 ((.var 11)::(.eq (.var 7) (.var 6))::w5a0))
 (lf 0 90 90 (rgs EU.n tUo) w5s3 ((.not (.and (.var 11) (.eq (.var 7) (.var 6))))::w5a0)))
theorem lit_uE_eq:treU (uE)=lit_uE:=by kernel_rfl
abbrev w5a1:List TB:=[(.lt (.lit 0) (.var 76)),(.lt (.var 76) (.var 75)),(.lt (.var 76) (.lit 1536)),(.not (.lt (.var 75) (.op .sub (.var 75) (.var 76))))]
abbrev w5a2:List TB:=(.lt (.var 8) (.var 12))::(.not (.eq (.var 10) (.lit 0)))::w5a1
abbrev w5a3:List TB:=(.var 11)::(.eq (.var 7) (.var 6))::w5a2
abbrev w5a4:List TB:=(.not (.lt (.lit 1536) (.var 75)))::w5a3
abbrev w5a5:List TB:=(.not (.lt (.lit 1125899906842624) (.var 75)))::w5a4
abbrev w5a6:List TB:=(.not (.lt (.len (.var 3)) (.var 75)))::w5a5
abbrev w5a7:List TB:=(.not (.lt (.len (.var 3)) (.op .sub (.var 75) (.var 76))))::w5a6
abbrev w5a8:List TB:=(.not (.lt (.op .sub (.var 75) (.var 76)) (.lit 0)))::w5a7
abbrev w5a9:List TB:=(.not (.lt (.lit 1536) (.op .sub (.var 75) (.var 76))))::w5a8
abbrev w5a10:List TB:=[(.not (.lt (.var 5) (.lit 0)))]
abbrev w5a11:List TB:=(.not (.lt (.lit 1536) (.var 5)))::w5a10
abbrev w5a12:List TB:=(.not (.lt (.lit 1125899906842624) (.var 5)))::w5a11
abbrev w5a13:List TB:=(.not (.and (.var 11) (.eq (.var 7) (.var 6))))::w5a2
abbrev w5a14:List TB:=(.not (.lt (.lit 1536) (.var 75)))::w5a13
abbrev w5a15:List TB:=(.not (.lt (.lit 1125899906842624) (.var 75)))::w5a14
abbrev w5a16:List TB:=(.not (.lt (.len (.var 3)) (.var 75)))::w5a15
abbrev w5a17:List TB:=(.not (.lt (.len (.var 3)) (.op .sub (.var 75) (.var 76))))::w5a16
abbrev w5a18:List TB:=(.not (.lt (.op .sub (.var 75) (.var 76)) (.lit 0)))::w5a17
abbrev w5a19:List TB:=(.not (.lt (.lit 1536) (.op .sub (.var 75) (.var 76))))::w5a18
abbrev w5s4:SgT:=(72,.itm (.var 72))::(18,.itm (.var 18))::(16,.blk 16)::(ids ([32]++dn 30 11)++((13,.btm (.lit true))::(5,.itm (.op .sub (.var 75) (.var 76)))::w5s1))
abbrev w5s5:SgT:=(74,.blk 74)::(17,.ltm (.var 17))::(4,.ltm (.var 4))::(3,.ltm (.put (.var 3) (.lit 0) (.sub (.var 3) (.var 76) (.var 75))))::(ids (dn 71 6++dn 64 21)++((9,.itm (.var 9))::(10,.itm (.var 10))::(7,.itm (.var 7))::(6,.itm (.var 6))::(2,.blk 2)::(39,.idn)::(8,.itm (.var 8))::(37,.val (.int .i64 0))::(1,.blk 1)::(11,.btm (.var 11))::(19,.itm (.var 19))::w5s4))
abbrev w5s6:SgT:=(74,.blk 74)::(17,.ltm (.var 17))::(4,.ltm (.var 4))::(3,.ltm (.var 3))::(ids (dn 71 6++dn 64 21)++((9,.itm (.var 9))::(10,.itm (.var 10))::(7,.itm (.var 7))::(6,.itm (.var 6))::(2,.blk 2)::(39,.idn)::(8,.itm (.var 8))::(1,.blk 1)::(11,.btm (.var 11))::(19,.itm (.var 19))::(72,.itm (.var 72))::(18,.itm (.var 18))::(16,.blk 16)::(ids ([32]++dn 30 11)++((5,.itm (.var 5))::w5s1))))
abbrev w5s7:SgT:=(74,.blk 74)::(17,.ltm (.var 17))::(4,.ltm (.var 4))::(3,.ltm (.var 3))::(ids (dn 71 6++dn 64 21)++((9,.itm (.var 9))::(10,.itm (.var 10))::(7,.itm (.var 7))::(6,.itm (.var 6))::(2,.blk 2)::(39,.idn)::(8,.itm (.var 8))::(76,.itm (.lit 0))::(75,.itm (.var 5))::w5s2))
noncomputable def lit_un1:Tre:=(.fork (nd 90 w5a3 ((.not (.lt (.lit 1536) (.var 75))))
 (nd 90 w5a4 ((.not (.lt (.lit 1125899906842624) (.var 75))))
 (nd 90 w5a5 ((.not (.lt (.len (.var 3)) (.var 75))))
 (nd 90 w5a6 ((.not (.lt (.len (.var 3)) (.op .sub (.var 75) (.var 76)))))
 (nd 90 w5a7 ((.not (.lt (.op .sub (.var 75) (.var 76)) (.lit 0))))
 (nd 90 w5a8 ((.not (.lt (.lit 1536) (.op .sub (.var 75) (.var 76)))))
 (nd 90 w5a9 ((.not (.lt (.var 10) (.lit 1))))
 (.loop 19 90 90 (rgs EU.n sp19.tin) loopO (SgT.enc w5s5) (List.map TB.enc ((.not (.lt (.var 10) (.lit 1)))::w5a9)) (.cons (rgs EU.n tX0) (.loop 123 90 90 (rgs EU.n sp123.tin) loopP (SgT.enc w5s6) (List.map TB.enc []) (.cons (rgs EU.n tX0) (nd 90 [] ((.not (.lt (.var 5) (.lit 0))))
 (nd 90 w5a10 ((.not (.lt (.lit 1536) (.var 5))))
 (nd 90 w5a11 ((.not (.lt (.lit 1125899906842624) (.var 5))))
 (lf 0 90 90 (rgs EU.n tUo) w5s7 w5a12))))
 .nil))
 (.cons (rgs EU.n tE) (lf 1 90 90 (rgs EU.n tEw) ((74,.blk 74)::w5s0) [])
 .nil))))))))))
 (nd 90 w5a13 ((.not (.lt (.lit 1536) (.var 75))))
 (nd 90 w5a14 ((.not (.lt (.lit 1125899906842624) (.var 75))))
 (nd 90 w5a15 ((.not (.lt (.len (.var 3)) (.var 75))))
 (nd 90 w5a16 ((.not (.lt (.len (.var 3)) (.op .sub (.var 75) (.var 76)))))
 (nd 90 w5a17 ((.not (.lt (.op .sub (.var 75) (.var 76)) (.lit 0))))
 (nd 90 w5a18 ((.not (.lt (.lit 1536) (.op .sub (.var 75) (.var 76)))))
 (nd 90 w5a19 ((.not (.lt (.var 10) (.lit 1))))
 (.loop 19 90 90 (rgs EU.n sp19.tin) loopO (SgT.enc w5s5) (List.map TB.enc ((.not (.lt (.var 10) (.lit 1)))::w5a19)) (.cons (rgs EU.n tX0) (.loop 123 90 90 (rgs EU.n sp123.tin) loopP (SgT.enc w5s6) (List.map TB.enc []) (.cons (rgs EU.n tX0) (nd 90 [] ((.not (.lt (.var 5) (.lit 0))))
 (nd 90 w5a10 ((.not (.lt (.lit 1536) (.var 5))))
 (nd 90 w5a11 ((.not (.lt (.lit 1125899906842624) (.var 5))))
 (lf 0 90 90 (rgs EU.n tUo) w5s7 w5a12))))
 .nil))
 (.cons (rgs EU.n tE) (lf 1 90 90 (rgs EU.n tEw) ((74,.blk 74)::w5s0) [])
 .nil)))))))))))
theorem lit_un1_eq:treU (uL++(un++u1))=lit_un1:=by kernel_rfl
abbrev w5a20:List TB:=[(.not (.lt (.var 76) (.var 75))),(.eq (.var 76) (.var 75))]
abbrev w5a21:List TB:=(.lt (.var 8) (.var 12))::(.not (.eq (.var 10) (.lit 0)))::w5a20
abbrev w5a22:List TB:=(.var 11)::(.eq (.var 7) (.var 6))::w5a21
abbrev w5a23:List TB:=(.not (.and (.var 11) (.eq (.var 7) (.var 6))))::w5a21
abbrev w5s8:SgT:=(72,.itm (.var 72))::(18,.itm (.var 18))::(16,.blk 16)::(ids ([32]++dn 30 11)++((13,.btm (.lit true))::(5,.itm (.lit 0))::w5s1))
abbrev w5s9:SgT:=(74,.blk 74)::(17,.ltm (.var 17))::(4,.ltm (.var 4))::(3,.ltm (.var 3))::(ids (dn 71 6++dn 64 21)++((9,.itm (.var 9))::(10,.itm (.var 10))::(7,.itm (.var 7))::(6,.itm (.var 6))::(2,.blk 2)::(39,.idn)::(8,.itm (.var 8))::(37,.val (.int .i64 0))::(1,.blk 1)::(11,.btm (.var 11))::(19,.itm (.var 19))::w5s8))
noncomputable def lit_un2:Tre:=(.fork (nd 90 w5a22 ((.not (.lt (.var 10) (.lit 1))))
 (.loop 19 90 90 (rgs EU.n sp19.tin) loopO (SgT.enc w5s9) (List.map TB.enc ((.not (.lt (.var 10) (.lit 1)))::w5a22)) (.cons (rgs EU.n tX0) (.loop 123 90 90 (rgs EU.n sp123.tin) loopP (SgT.enc w5s6) (List.map TB.enc []) (.cons (rgs EU.n tX0) (nd 90 [] ((.not (.lt (.var 5) (.lit 0))))
 (nd 90 w5a10 ((.not (.lt (.lit 1536) (.var 5))))
 (nd 90 w5a11 ((.not (.lt (.lit 1125899906842624) (.var 5))))
 (lf 0 90 90 (rgs EU.n tUo) w5s7 w5a12))))
 .nil))
 (.cons (rgs EU.n tE) (lf 1 90 90 (rgs EU.n tEw) ((74,.blk 74)::w5s0) [])
 .nil))))
 (nd 90 w5a23 ((.not (.lt (.var 10) (.lit 1))))
 (.loop 19 90 90 (rgs EU.n sp19.tin) loopO (SgT.enc w5s9) (List.map TB.enc ((.not (.lt (.var 10) (.lit 1)))::w5a23)) (.cons (rgs EU.n tX0) (.loop 123 90 90 (rgs EU.n sp123.tin) loopP (SgT.enc w5s6) (List.map TB.enc []) (.cons (rgs EU.n tX0) (nd 90 [] ((.not (.lt (.var 5) (.lit 0))))
 (nd 90 w5a10 ((.not (.lt (.lit 1536) (.var 5))))
 (nd 90 w5a11 ((.not (.lt (.lit 1125899906842624) (.var 5))))
 (lf 0 90 90 (rgs EU.n tUo) w5s7 w5a12))))
 .nil))
 (.cons (rgs EU.n tE) (lf 1 90 90 (rgs EU.n tEw) ((74,.blk 74)::w5s0) [])
 .nil)))))
theorem lit_un2_eq:treU (uL++(un++u2))=lit_un2:=by kernel_rfl
abbrev w5a24:List TB:=[(.not (.lt (.lit 0) (.var 76))),(.not (.eq (.var 76) (.var 75)))]
abbrev w5a25:List TB:=(.lt (.var 8) (.var 12))::(.not (.eq (.var 10) (.lit 0)))::w5a24
abbrev w5a26:List TB:=(.var 11)::(.eq (.var 7) (.var 6))::w5a25
abbrev w5a27:List TB:=(.not (.lt (.lit 1536) (.var 75)))::w5a26
abbrev w5a28:List TB:=(.not (.and (.var 11) (.eq (.var 7) (.var 6))))::w5a25
abbrev w5a29:List TB:=(.not (.lt (.lit 1536) (.var 75)))::w5a28
abbrev w5s10:SgT:=(72,.itm (.var 72))::(18,.itm (.var 18))::(16,.blk 16)::(ids ([32]++dn 30 11)++((13,.btm (.lit true))::(5,.itm (.var 75))::w5s1))
abbrev w5s11:SgT:=(74,.blk 74)::(17,.ltm (.var 17))::(4,.ltm (.var 4))::(3,.ltm (.var 3))::(ids (dn 71 6++dn 64 21)++((9,.itm (.var 9))::(10,.itm (.var 10))::(7,.itm (.var 7))::(6,.itm (.var 6))::(2,.blk 2)::(39,.idn)::(8,.itm (.var 8))::(37,.val (.func (.yield 0) #[(.int .i64 0),(.map (some 76)),(.int .i64 0),(.int .i64 1536)] #[]))::(1,.blk 1)::(11,.btm (.var 11))::(19,.itm (.var 19))::w5s10))
noncomputable def lit_un3:Tre:=(.fork (nd 90 w5a26 ((.not (.lt (.lit 1536) (.var 75))))
 (nd 90 w5a27 ((.not (.lt (.var 10) (.lit 1))))
 (.loop 19 90 90 (rgs EU.n sp19.tin) loopO (SgT.enc w5s11) (List.map TB.enc ((.not (.lt (.var 10) (.lit 1)))::w5a27)) (.cons (rgs EU.n tX0) (.loop 123 90 90 (rgs EU.n sp123.tin) loopP (SgT.enc w5s6) (List.map TB.enc []) (.cons (rgs EU.n tX0) (nd 90 [] ((.not (.lt (.var 5) (.lit 0))))
 (nd 90 w5a10 ((.not (.lt (.lit 1536) (.var 5))))
 (nd 90 w5a11 ((.not (.lt (.lit 1125899906842624) (.var 5))))
 (lf 0 90 90 (rgs EU.n tUo) w5s7 w5a12))))
 .nil))
 (.cons (rgs EU.n tE) (lf 1 90 90 (rgs EU.n tEw) ((74,.blk 74)::w5s0) [])
 .nil)))))
 (nd 90 w5a28 ((.not (.lt (.lit 1536) (.var 75))))
 (nd 90 w5a29 ((.not (.lt (.var 10) (.lit 1))))
 (.loop 19 90 90 (rgs EU.n sp19.tin) loopO (SgT.enc w5s11) (List.map TB.enc ((.not (.lt (.var 10) (.lit 1)))::w5a29)) (.cons (rgs EU.n tX0) (.loop 123 90 90 (rgs EU.n sp123.tin) loopP (SgT.enc w5s6) (List.map TB.enc []) (.cons (rgs EU.n tX0) (nd 90 [] ((.not (.lt (.var 5) (.lit 0))))
 (nd 90 w5a10 ((.not (.lt (.lit 1536) (.var 5))))
 (nd 90 w5a11 ((.not (.lt (.lit 1125899906842624) (.var 5))))
 (lf 0 90 90 (rgs EU.n tUo) w5s7 w5a12))))
 .nil))
 (.cons (rgs EU.n tE) (lf 1 90 90 (rgs EU.n tEw) ((74,.blk 74)::w5s0) [])
 .nil))))))
theorem lit_un3_eq:treU (uL++(un++u3))=lit_un3:=by kernel_rfl
abbrev w5a30:List TB:=(.lt (.var 8) (.var 12))::(.eq (.var 10) (.lit 0))::w5a1
abbrev w5a31:List TB:=(.var 11)::(.eq (.var 7) (.var 6))::w5a30
abbrev w5a32:List TB:=(.not (.lt (.lit 1536) (.var 75)))::w5a31
abbrev w5a33:List TB:=(.not (.lt (.lit 1125899906842624) (.var 75)))::w5a32
abbrev w5a34:List TB:=(.not (.lt (.len (.var 3)) (.var 75)))::w5a33
abbrev w5a35:List TB:=(.not (.lt (.len (.var 3)) (.op .sub (.var 75) (.var 76))))::w5a34
abbrev w5a36:List TB:=(.not (.lt (.op .sub (.var 75) (.var 76)) (.lit 0)))::w5a35
abbrev w5a37:List TB:=(.not (.and (.var 11) (.eq (.var 7) (.var 6))))::w5a30
abbrev w5a38:List TB:=(.not (.lt (.lit 1536) (.var 75)))::w5a37
abbrev w5a39:List TB:=(.not (.lt (.lit 1125899906842624) (.var 75)))::w5a38
abbrev w5a40:List TB:=(.not (.lt (.len (.var 3)) (.var 75)))::w5a39
abbrev w5a41:List TB:=(.not (.lt (.len (.var 3)) (.op .sub (.var 75) (.var 76))))::w5a40
abbrev w5a42:List TB:=(.not (.lt (.op .sub (.var 75) (.var 76)) (.lit 0)))::w5a41
abbrev w5s12:SgT:=(74,.blk 74)::(17,.ltm (.var 17))::(4,.ltm (.var 4))::(ids (dn 71 6++dn 64 21)++((9,.itm (.var 9))::(10,.itm (.var 10))::(7,.itm (.var 7))::(6,.itm (.var 6))::(2,.blk 2)::(39,.idn)::(38,.val (.func (.yield 0) #[(.int .i64 0),(.map (some 8)),(.int .i64 0),(.int .i64 2000)] #[]))::(37,.val (.func (.yield 0) #[(.int .i64 0),(.map (some 76)),(.int .i64 0),(.int .i64 1536)] #[]))::(36,.val (.func (.yield 4) #[(.int .i64 1),(.int .i64 0),(.map (some 75)),(.int .i64 1536)] #[]))::(11,.btm (.var 11))::(19,.itm (.var 19))::(72,.itm (.var 72))::(18,.itm (.var 18))::(16,.blk 16)::(ids ([32]++dn 30 11)++w5s0)))
abbrev w5s13:SgT:=(74,.blk 74)::(17,.ltm (.var 17))::(4,.ltm (.var 94))::(3,.ltm (.put (.var 3) (.lit 0) (.sub (.var 3) (.var 76) (.var 75))))::(ids (dn 71 6++dn 64 21)++((9,.itm (.var 99))::(10,.itm (.var 100))::(7,.itm (.var 97))::(6,.itm (.var 96))::(2,.blk 2)::(39,.idn)::(8,.itm (.var 8))::(37,.val (.int .i64 0))::(1,.blk 1)::(11,.btm (.var 101))::(19,.itm (.var 109))::w5s4))
noncomputable def lit_uz1:Tre:=(.fork (.call 48 90 90 (rgs spD.n spD.tin) (SgT.enc w5s12) (List.map TB.enc w5a31) (.cons (rgs 0 tDo++rgV (.bool true)) (nd 180 w5a31 ((.not (.lt (.lit 1536) (.var 75))))
 (nd 180 w5a32 ((.not (.lt (.lit 1125899906842624) (.var 75))))
 (nd 180 w5a33 ((.not (.lt (.len (.var 3)) (.var 75))))
 (nd 180 w5a34 ((.not (.lt (.len (.var 3)) (.op .sub (.var 75) (.var 76)))))
 (nd 180 w5a35 ((.not (.lt (.op .sub (.var 75) (.var 76)) (.lit 0))))
 (nd 180 w5a36 ((.not (.lt (.lit 1536) (.op .sub (.var 75) (.var 76)))))
 (.loop 19 90 180 (rgs EU.n sp19.tin) loopO (SgT.enc w5s13) (List.map TB.enc ((.not (.lt (.lit 1536) (.op .sub (.var 75) (.var 76))))::w5a36)) (.cons (rgs EU.n tX0) (.loop 123 90 90 (rgs EU.n sp123.tin) loopP (SgT.enc w5s6) (List.map TB.enc []) (.cons (rgs EU.n tX0) (nd 90 [] ((.not (.lt (.var 5) (.lit 0))))
 (nd 90 w5a10 ((.not (.lt (.lit 1536) (.var 5))))
 (nd 90 w5a11 ((.not (.lt (.lit 1125899906842624) (.var 5))))
 (lf 0 90 90 (rgs EU.n tUo) w5s7 w5a12))))
 .nil))
 (.cons (rgs EU.n tE) (lf 1 90 90 (rgs EU.n tEw) ((74,.blk 74)::w5s0) [])
 .nil)))))))))
 .nil))
 (.call 48 90 90 (rgs spD.n spD.tin) (SgT.enc w5s12) (List.map TB.enc w5a37) (.cons (rgs 0 tDo++rgV (.bool true)) (nd 180 w5a37 ((.not (.lt (.lit 1536) (.var 75))))
 (nd 180 w5a38 ((.not (.lt (.lit 1125899906842624) (.var 75))))
 (nd 180 w5a39 ((.not (.lt (.len (.var 3)) (.var 75))))
 (nd 180 w5a40 ((.not (.lt (.len (.var 3)) (.op .sub (.var 75) (.var 76)))))
 (nd 180 w5a41 ((.not (.lt (.op .sub (.var 75) (.var 76)) (.lit 0))))
 (nd 180 w5a42 ((.not (.lt (.lit 1536) (.op .sub (.var 75) (.var 76)))))
 (.loop 19 90 180 (rgs EU.n sp19.tin) loopO (SgT.enc w5s13) (List.map TB.enc ((.not (.lt (.lit 1536) (.op .sub (.var 75) (.var 76))))::w5a42)) (.cons (rgs EU.n tX0) (.loop 123 90 90 (rgs EU.n sp123.tin) loopP (SgT.enc w5s6) (List.map TB.enc []) (.cons (rgs EU.n tX0) (nd 90 [] ((.not (.lt (.var 5) (.lit 0))))
 (nd 90 w5a10 ((.not (.lt (.lit 1536) (.var 5))))
 (nd 90 w5a11 ((.not (.lt (.lit 1125899906842624) (.var 5))))
 (lf 0 90 90 (rgs EU.n tUo) w5s7 w5a12))))
 .nil))
 (.cons (rgs EU.n tE) (lf 1 90 90 (rgs EU.n tEw) ((74,.blk 74)::w5s0) [])
 .nil)))))))))
 .nil)))
theorem lit_uz1_eq:treU (uL++(uz++u1))=lit_uz1:=by kernel_rfl
abbrev w5a43:List TB:=(.lt (.var 8) (.var 12))::(.eq (.var 10) (.lit 0))::w5a20
abbrev w5a44:List TB:=(.var 11)::(.eq (.var 7) (.var 6))::w5a43
abbrev w5a45:List TB:=(.not (.and (.var 11) (.eq (.var 7) (.var 6))))::w5a43
abbrev w5s14:SgT:=(74,.blk 74)::(17,.ltm (.var 17))::(4,.ltm (.var 94))::(3,.ltm (.var 3))::(ids (dn 71 6++dn 64 21)++((9,.itm (.var 99))::(10,.itm (.var 100))::(7,.itm (.var 97))::(6,.itm (.var 96))::(2,.blk 2)::(39,.idn)::(8,.itm (.var 8))::(37,.val (.int .i64 0))::(1,.blk 1)::(11,.btm (.var 101))::(19,.itm (.var 109))::w5s8))
noncomputable def lit_uz2:Tre:=(.fork (.call 48 90 90 (rgs spD.n spD.tin) (SgT.enc w5s12) (List.map TB.enc w5a44) (.cons (rgs 0 tDo++rgV (.bool true)) (.loop 19 90 180 (rgs EU.n sp19.tin) loopO (SgT.enc w5s14) (List.map TB.enc w5a44) (.cons (rgs EU.n tX0) (.loop 123 90 90 (rgs EU.n sp123.tin) loopP (SgT.enc w5s6) (List.map TB.enc []) (.cons (rgs EU.n tX0) (nd 90 [] ((.not (.lt (.var 5) (.lit 0))))
 (nd 90 w5a10 ((.not (.lt (.lit 1536) (.var 5))))
 (nd 90 w5a11 ((.not (.lt (.lit 1125899906842624) (.var 5))))
 (lf 0 90 90 (rgs EU.n tUo) w5s7 w5a12))))
 .nil))
 (.cons (rgs EU.n tE) (lf 1 90 90 (rgs EU.n tEw) ((74,.blk 74)::w5s0) [])
 .nil)))
 .nil))
 (.call 48 90 90 (rgs spD.n spD.tin) (SgT.enc w5s12) (List.map TB.enc w5a45) (.cons (rgs 0 tDo++rgV (.bool true)) (.loop 19 90 180 (rgs EU.n sp19.tin) loopO (SgT.enc w5s14) (List.map TB.enc w5a45) (.cons (rgs EU.n tX0) (.loop 123 90 90 (rgs EU.n sp123.tin) loopP (SgT.enc w5s6) (List.map TB.enc []) (.cons (rgs EU.n tX0) (nd 90 [] ((.not (.lt (.var 5) (.lit 0))))
 (nd 90 w5a10 ((.not (.lt (.lit 1536) (.var 5))))
 (nd 90 w5a11 ((.not (.lt (.lit 1125899906842624) (.var 5))))
 (lf 0 90 90 (rgs EU.n tUo) w5s7 w5a12))))
 .nil))
 (.cons (rgs EU.n tE) (lf 1 90 90 (rgs EU.n tEw) ((74,.blk 74)::w5s0) [])
 .nil)))
 .nil)))
theorem lit_uz2_eq:treU (uL++(uz++u2))=lit_uz2:=by kernel_rfl
abbrev w5a46:List TB:=(.lt (.var 8) (.var 12))::(.eq (.var 10) (.lit 0))::w5a24
abbrev w5a47:List TB:=(.var 11)::(.eq (.var 7) (.var 6))::w5a46
abbrev w5a48:List TB:=(.not (.and (.var 11) (.eq (.var 7) (.var 6))))::w5a46
abbrev w5s15:SgT:=(74,.blk 74)::(17,.ltm (.var 17))::(4,.ltm (.var 94))::(3,.ltm (.var 3))::(ids (dn 71 6++dn 64 21)++((9,.itm (.var 99))::(10,.itm (.var 100))::(7,.itm (.var 97))::(6,.itm (.var 96))::(2,.blk 2)::(39,.idn)::(8,.itm (.var 8))::(37,.val (.func (.yield 0) #[(.int .i64 0),(.map (some 76)),(.int .i64 0),(.int .i64 1536)] #[]))::(1,.blk 1)::(11,.btm (.var 101))::(19,.itm (.var 109))::w5s10))
noncomputable def lit_uz3:Tre:=(.fork (.call 48 90 90 (rgs spD.n spD.tin) (SgT.enc w5s12) (List.map TB.enc w5a47) (.cons (rgs 0 tDo++rgV (.bool true)) (nd 180 w5a47 ((.not (.lt (.lit 1536) (.var 75))))
 (.loop 19 90 180 (rgs EU.n sp19.tin) loopO (SgT.enc w5s15) (List.map TB.enc ((.not (.lt (.lit 1536) (.var 75)))::w5a47)) (.cons (rgs EU.n tX0) (.loop 123 90 90 (rgs EU.n sp123.tin) loopP (SgT.enc w5s6) (List.map TB.enc []) (.cons (rgs EU.n tX0) (nd 90 [] ((.not (.lt (.var 5) (.lit 0))))
 (nd 90 w5a10 ((.not (.lt (.lit 1536) (.var 5))))
 (nd 90 w5a11 ((.not (.lt (.lit 1125899906842624) (.var 5))))
 (lf 0 90 90 (rgs EU.n tUo) w5s7 w5a12))))
 .nil))
 (.cons (rgs EU.n tE) (lf 1 90 90 (rgs EU.n tEw) ((74,.blk 74)::w5s0) [])
 .nil))))
 .nil))
 (.call 48 90 90 (rgs spD.n spD.tin) (SgT.enc w5s12) (List.map TB.enc w5a48) (.cons (rgs 0 tDo++rgV (.bool true)) (nd 180 w5a48 ((.not (.lt (.lit 1536) (.var 75))))
 (.loop 19 90 180 (rgs EU.n sp19.tin) loopO (SgT.enc w5s15) (List.map TB.enc ((.not (.lt (.lit 1536) (.var 75)))::w5a48)) (.cons (rgs EU.n tX0) (.loop 123 90 90 (rgs EU.n sp123.tin) loopP (SgT.enc w5s6) (List.map TB.enc []) (.cons (rgs EU.n tX0) (nd 90 [] ((.not (.lt (.var 5) (.lit 0))))
 (nd 90 w5a10 ((.not (.lt (.lit 1536) (.var 5))))
 (nd 90 w5a11 ((.not (.lt (.lit 1125899906842624) (.var 5))))
 (lf 0 90 90 (rgs EU.n tUo) w5s7 w5a12))))
 .nil))
 (.cons (rgs EU.n tE) (lf 1 90 90 (rgs EU.n tEw) ((74,.blk 74)::w5s0) [])
 .nil))))
 .nil)))
theorem lit_uz3_eq:treU (uL++(uz++u3))=lit_uz3:=by kernel_rfl
end U
