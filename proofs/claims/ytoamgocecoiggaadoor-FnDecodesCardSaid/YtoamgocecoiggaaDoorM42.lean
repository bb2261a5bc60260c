-- the statement of this claim: see YtoamgocecoiggaaDoorRw
import Derived.Test.YtoamgocecoiggaaDoorM39
set_option linter.unusedVariables false
set_option linter.unusedSimpArgs false
open Go Go.SM Go.Proofs
namespace U
set_option maxRecDepth 100000
abbrev c3a0:List TB:=[(.lt (.var 23) (.var 21))]
abbrev c3a1:List TB:=(.lt (.op .add (.var 20) (.var 23)) (.len (.var 17)))::c3a0
abbrev c3a2:List TB:=(.lt (.sel (.var 17) (.op .add (.var 20) (.var 23))) (.lit 128))::c3a1
abbrev c3a3:List TB:=(.lt (.var 21) (.op .add (.var 23) (.lit 1)))::c3a2
abbrev c3a4:List TB:=(.not (.lt (.var 21) (.op .add (.var 23) (.lit 1))))::c3a2
abbrev c3a5:List TB:=(.not (.lt (.sel (.var 17) (.op .add (.var 20) (.var 23))) (.lit 128)))::c3a1
abbrev c3a6:List TB:=(.not (.lt (.sel (.var 17) (.op .add (.var 20) (.var 23))) (.lit 194)))::(.lt (.sel (.var 17) (.op .add (.var 20) (.var 23))) (.lit 224))::c3a5
abbrev c3a7:List TB:=(.lt (.var 21) (.op .add (.var 23) (.lit 2)))::c3a6
abbrev c3a8:List TB:=(.not (.lt (.var 21) (.op .add (.var 23) (.lit 2))))::c3a6
abbrev c3a9:List TB:=(.lt (.op .add (.var 23) (.lit 1)) (.var 21))::c3a8
abbrev c3a10:List TB:=(.lt (.op .add (.var 20) (.op .add (.var 23) (.lit 1))) (.len (.var 17)))::c3a9
abbrev c3a11:List TB:=(.not (.eq (.op .and (.sel (.var 17) (.op .add (.var 20) (.op .add (.var 23) (.lit 1)))) (.lit 192)) (.lit 128)))::c3a10
abbrev c3a12:List TB:=(.eq (.op .and (.sel (.var 17) (.op .add (.var 20) (.op .add (.var 23) (.lit 1)))) (.lit 192)) (.lit 128))::c3a10
abbrev c3a13:List TB:=(.not (.and (.not (.lt (.sel (.var 17) (.op .add (.var 20) (.var 23))) (.lit 194))) (.lt (.sel (.var 17) (.op .add (.var 20) (.var 23))) (.lit 224))))::c3a5
abbrev c3a14:List TB:=(.not (.lt (.sel (.var 17) (.op .add (.var 20) (.var 23))) (.lit 224)))::(.lt (.sel (.var 17) (.op .add (.var 20) (.var 23))) (.lit 240))::c3a13
abbrev c3a15:List TB:=(.lt (.var 21) (.op .add (.var 23) (.lit 3)))::c3a14
abbrev c3a16:List TB:=(.not (.lt (.var 21) (.op .add (.var 23) (.lit 3))))::c3a14
abbrev c3a17:List TB:=(.lt (.op .add (.var 23) (.lit 1)) (.var 21))::c3a16
abbrev c3a18:List TB:=(.lt (.op .add (.var 20) (.op .add (.var 23) (.lit 1))) (.len (.var 17)))::c3a17
abbrev c3a19:List TB:=(.not (.eq (.op .and (.sel (.var 17) (.op .add (.var 20) (.op .add (.var 23) (.lit 1)))) (.lit 192)) (.lit 128)))::c3a18
abbrev c3a20:List TB:=(.eq (.op .and (.sel (.var 17) (.op .add (.var 20) (.op .add (.var 23) (.lit 1)))) (.lit 192)) (.lit 128))::c3a18
abbrev c3a21:List TB:=(.lt (.op .add (.var 23) (.lit 2)) (.var 21))::c3a20
abbrev c3a22:List TB:=(.lt (.op .add (.var 20) (.op .add (.var 23) (.lit 2))) (.len (.var 17)))::c3a21
abbrev c3a23:List TB:=(.not (.eq (.op .and (.sel (.var 17) (.op .add (.var 20) (.op .add (.var 23) (.lit 2)))) (.lit 192)) (.lit 128)))::c3a22
abbrev c3a24:List TB:=(.eq (.op .and (.sel (.var 17) (.op .add (.var 20) (.op .add (.var 23) (.lit 2)))) (.lit 192)) (.lit 128))::c3a22
abbrev c3a25:List TB:=(.or (.lt (.op .or (.op .shl (.op .or (.op .shl (.op .and (.sel (.var 17) (.op .add (.var 20) (.var 23))) (.lit 15)) (.lit 6)) (.op .and (.sel (.var 17) (.op .add (.var 20) (.op .add (.var 23) (.lit 1)))) (.lit 63))) (.lit 6)) (.op .and (.sel (.var 17) (.op .add (.var 20) (.op .add (.var 23) (.lit 2)))) (.lit 63))) (.lit 2048)) (.and (.not (.lt (.op .or (.op .shl (.op .or (.op .shl (.op .and (.sel (.var 17) (.op .add (.var 20) (.var 23))) (.lit 15)) (.lit 6)) (.op .and (.sel (.var 17) (.op .add (.var 20) (.op .add (.var 23) (.lit 1)))) (.lit 63))) (.lit 6)) (.op .and (.sel (.var 17) (.op .add (.var 20) (.op .add (.var 23) (.lit 2)))) (.lit 63))) (.lit 55296))) (.lt (.op .or (.op .shl (.op .or (.op .shl (.op .and (.sel (.var 17) (.op .add (.var 20) (.var 23))) (.lit 15)) (.lit 6)) (.op .and (.sel (.var 17) (.op .add (.var 20) (.op .add (.var 23) (.lit 1)))) (.lit 63))) (.lit 6)) (.op .and (.sel (.var 17) (.op .add (.var 20) (.op .add (.var 23) (.lit 2)))) (.lit 63))) (.lit 57344))))::c3a24
abbrev c3a26:List TB:=(.not (.lt (.op .or (.op .shl (.op .or (.op .shl (.op .and (.sel (.var 17) (.op .add (.var 20) (.var 23))) (.lit 15)) (.lit 6)) (.op .and (.sel (.var 17) (.op .add (.var 20) (.op .add (.var 23) (.lit 1)))) (.lit 63))) (.lit 6)) (.op .and (.sel (.var 17) (.op .add (.var 20) (.op .add (.var 23) (.lit 2)))) (.lit 63))) (.lit 2048)))::(.not (.and (.not (.lt (.op .or (.op .shl (.op .or (.op .shl (.op .and (.sel (.var 17) (.op .add (.var 20) (.var 23))) (.lit 15)) (.lit 6)) (.op .and (.sel (.var 17) (.op .add (.var 20) (.op .add (.var 23) (.lit 1)))) (.lit 63))) (.lit 6)) (.op .and (.sel (.var 17) (.op .add (.var 20) (.op .add (.var 23) (.lit 2)))) (.lit 63))) (.lit 55296))) (.lt (.op .or (.op .shl (.op .or (.op .shl (.op .and (.sel (.var 17) (.op .add (.var 20) (.var 23))) (.lit 15)) (.lit 6)) (.op .and (.sel (.var 17) (.op .add (.var 20) (.op .add (.var 23) (.lit 1)))) (.lit 63))) (.lit 6)) (.op .and (.sel (.var 17) (.op .add (.var 20) (.op .add (.var 23) (.lit 2)))) (.lit 63))) (.lit 57344))))::c3a24
abbrev c3a27:List TB:=(.not (.and (.not (.lt (.sel (.var 17) (.op .add (.var 20) (.var 23))) (.lit 224))) (.lt (.sel (.var 17) (.op .add (.var 20) (.var 23))) (.lit 240))))::c3a13
abbrev c3a28:List TB:=(.not (.lt (.sel (.var 17) (.op .add (.var 20) (.var 23))) (.lit 240)))::(.lt (.sel (.var 17) (.op .add (.var 20) (.var 23))) (.lit 245))::c3a27
abbrev c3a29:List TB:=(.lt (.var 21) (.op .add (.var 23) (.lit 4)))::c3a28
abbrev c3a30:List TB:=(.not (.lt (.var 21) (.op .add (.var 23) (.lit 4))))::c3a28
abbrev c3a31:List TB:=(.lt (.op .add (.var 23) (.lit 1)) (.var 21))::c3a30
abbrev c3a32:List TB:=(.lt (.op .add (.var 20) (.op .add (.var 23) (.lit 1))) (.len (.var 17)))::c3a31
abbrev c3a33:List TB:=(.not (.eq (.op .and (.sel (.var 17) (.op .add (.var 20) (.op .add (.var 23) (.lit 1)))) (.lit 192)) (.lit 128)))::c3a32
abbrev c3a34:List TB:=(.eq (.op .and (.sel (.var 17) (.op .add (.var 20) (.op .add (.var 23) (.lit 1)))) (.lit 192)) (.lit 128))::c3a32
abbrev c3a35:List TB:=(.lt (.op .add (.var 23) (.lit 2)) (.var 21))::c3a34
abbrev c3a36:List TB:=(.lt (.op .add (.var 20) (.op .add (.var 23) (.lit 2))) (.len (.var 17)))::c3a35
abbrev c3a37:List TB:=(.not (.eq (.op .and (.sel (.var 17) (.op .add (.var 20) (.op .add (.var 23) (.lit 2)))) (.lit 192)) (.lit 128)))::c3a36
abbrev c3a38:List TB:=(.eq (.op .and (.sel (.var 17) (.op .add (.var 20) (.op .add (.var 23) (.lit 2)))) (.lit 192)) (.lit 128))::c3a36
abbrev c3a39:List TB:=(.lt (.op .add (.var 23) (.lit 3)) (.var 21))::c3a38
abbrev c3a40:List TB:=(.lt (.op .add (.var 20) (.op .add (.var 23) (.lit 3))) (.len (.var 17)))::c3a39
abbrev c3a41:List TB:=(.not (.eq (.op .and (.sel (.var 17) (.op .add (.var 20) (.op .add (.var 23) (.lit 3)))) (.lit 192)) (.lit 128)))::c3a40
abbrev c3a42:List TB:=(.eq (.op .and (.sel (.var 17) (.op .add (.var 20) (.op .add (.var 23) (.lit 3)))) (.lit 192)) (.lit 128))::c3a40
abbrev c3a43:List TB:=(.or (.lt (.op .or (.op .shl (.op .or (.op .shl (.op .or (.op .shl (.op .and (.sel (.var 17) (.op .add (.var 20) (.var 23))) (.lit 7)) (.lit 6)) (.op .and (.sel (.var 17) (.op .add (.var 20) (.op .add (.var 23) (.lit 1)))) (.lit 63))) (.lit 6)) (.op .and (.sel (.var 17) (.op .add (.var 20) (.op .add (.var 23) (.lit 2)))) (.lit 63))) (.lit 6)) (.op .and (.sel (.var 17) (.op .add (.var 20) (.op .add (.var 23) (.lit 3)))) (.lit 63))) (.lit 65536)) (.lt (.lit 1114111) (.op .or (.op .shl (.op .or (.op .shl (.op .or (.op .shl (.op .and (.sel (.var 17) (.op .add (.var 20) (.var 23))) (.lit 7)) (.lit 6)) (.op .and (.sel (.var 17) (.op .add (.var 20) (.op .add (.var 23) (.lit 1)))) (.lit 63))) (.lit 6)) (.op .and (.sel (.var 17) (.op .add (.var 20) (.op .add (.var 23) (.lit 2)))) (.lit 63))) (.lit 6)) (.op .and (.sel (.var 17) (.op .add (.var 20) (.op .add (.var 23) (.lit 3)))) (.lit 63)))))::c3a42
abbrev c3a44:List TB:=(.not (.lt (.op .or (.op .shl (.op .or (.op .shl (.op .or (.op .shl (.op .and (.sel (.var 17) (.op .add (.var 20) (.var 23))) (.lit 7)) (.lit 6)) (.op .and (.sel (.var 17) (.op .add (.var 20) (.op .add (.var 23) (.lit 1)))) (.lit 63))) (.lit 6)) (.op .and (.sel (.var 17) (.op .add (.var 20) (.op .add (.var 23) (.lit 2)))) (.lit 63))) (.lit 6)) (.op .and (.sel (.var 17) (.op .add (.var 20) (.op .add (.var 23) (.lit 3)))) (.lit 63))) (.lit 65536)))::(.not (.lt (.lit 1114111) (.op .or (.op .shl (.op .or (.op .shl (.op .or (.op .shl (.op .and (.sel (.var 17) (.op .add (.var 20) (.var 23))) (.lit 7)) (.lit 6)) (.op .and (.sel (.var 17) (.op .add (.var 20) (.op .add (.var 23) (.lit 1)))) (.lit 63))) (.lit 6)) (.op .and (.sel (.var 17) (.op .add (.var 20) (.op .add (.var 23) (.lit 2)))) (.lit 63))) (.lit 6)) (.op .and (.sel (.var 17) (.op .add (.var 20) (.op .add (.var 23) (.lit 3)))) (.lit 63)))))::c3a42
abbrev c3a45:List TB:=(.not (.and (.not (.lt (.sel (.var 17) (.op .add (.var 20) (.var 23))) (.lit 240))) (.lt (.sel (.var 17) (.op .add (.var 20) (.var 23))) (.lit 245))))::c3a27
abbrev c3a46:List TB:=[(.not (.lt (.var 23) (.var 21)))]
abbrev c3s0:SgT:=[(22,.itm (.var 22)),(21,.itm (.var 21)),(20,.itm (.var 20)),(16,.blk 16),(73,.blk 73)]
abbrev c3s1:SgT:=(74,.blk 74)::(17,.ltm (.var 17))::c3s0
abbrev c3s2:SgT:=(32,.itm (.op .add (.lenN (.var 91)) (.lit 1)))::(31,.itm (.lit 1))::(30,.new 92)::c3s0
noncomputable def lit_b6n:Tre:=(.fork (nd 90 c3a0 ((.lt (.op .add (.var 20) (.var 23)) (.len (.var 17))))
 (.fork (.fork (lf 2 90 90 (rgs (E6 t6N).n t6f) c3s1 c3a3)
 (nd 93 c3a4 ((.not (.lt (.lit 1125899906842624) (.op .add (.var 23) (.lit 1)))))
 (lf 0 90 93 (rgs (E6 t6N).n t6S) ((33,.ntm (.app (.one (.sel (.var 17) (.op .add (.var 20) (.var 23)))) (.var 91)))::(74,.blk 74)::(17,.ltm (.var 17))::(23,.itm (.op .add (.var 23) (.lit 1)))::c3s2) ((.not (.lt (.lit 1125899906842624) (.op .add (.var 23) (.lit 1))))::c3a4))))
 (.fork (.fork (lf 2 90 90 (rgs (E6 t6N).n t6f) c3s1 c3a7)
 (nd 90 c3a8 ((.lt (.op .add (.var 23) (.lit 1)) (.var 21)))
 (nd 90 c3a9 ((.lt (.op .add (.var 20) (.op .add (.var 23) (.lit 1))) (.len (.var 17))))
 (.fork (lf 2 90 90 (rgs (E6 t6N).n t6f) c3s1 c3a11)
 (nd 93 c3a12 ((.not (.lt (.lit 1125899906842624) (.op .add (.var 23) (.lit 2)))))
 (lf 0 90 93 (rgs (E6 t6N).n t6S) ((33,.ntm (.app (.one (.op .or (.op .shl (.op .and (.sel (.var 17) (.op .add (.var 20) (.var 23))) (.lit 31)) (.lit 6)) (.op .and (.sel (.var 17) (.op .add (.var 20) (.op .add (.var 23) (.lit 1)))) (.lit 63)))) (.var 91)))::(74,.blk 74)::(17,.ltm (.var 17))::(23,.itm (.op .add (.var 23) (.lit 2)))::c3s2) ((.not (.lt (.lit 1125899906842624) (.op .add (.var 23) (.lit 2))))::c3a12)))))))
 (.fork (.fork (lf 2 90 90 (rgs (E6 t6N).n t6f) c3s1 c3a15)
 (nd 90 c3a16 ((.lt (.op .add (.var 23) (.lit 1)) (.var 21)))
 (nd 90 c3a17 ((.lt (.op .add (.var 20) (.op .add (.var 23) (.lit 1))) (.len (.var 17))))
 (.fork (lf 2 90 90 (rgs (E6 t6N).n t6f) c3s1 c3a19)
 (nd 90 c3a20 ((.lt (.op .add (.var 23) (.lit 2)) (.var 21)))
 (nd 90 c3a21 ((.lt (.op .add (.var 20) (.op .add (.var 23) (.lit 2))) (.len (.var 17))))
 (.fork (lf 2 90 90 (rgs (E6 t6N).n t6f) c3s1 c3a23)
 (.fork (lf 2 90 90 (rgs (E6 t6N).n t6f) c3s1 c3a25)
 (nd 93 c3a26 ((.not (.lt (.lit 1125899906842624) (.op .add (.var 23) (.lit 3)))))
 (lf 0 90 93 (rgs (E6 t6N).n t6S) ((33,.ntm (.app (.one (.op .or (.op .shl (.op .or (.op .shl (.op .and (.sel (.var 17) (.op .add (.var 20) (.var 23))) (.lit 15)) (.lit 6)) (.op .and (.sel (.var 17) (.op .add (.var 20) (.op .add (.var 23) (.lit 1)))) (.lit 63))) (.lit 6)) (.op .and (.sel (.var 17) (.op .add (.var 20) (.op .add (.var 23) (.lit 2)))) (.lit 63)))) (.var 91)))::(74,.blk 74)::(17,.ltm (.var 17))::(23,.itm (.op .add (.var 23) (.lit 3)))::c3s2) ((.not (.lt (.lit 1125899906842624) (.op .add (.var 23) (.lit 3))))::c3a26)))))))))))
 (.fork (.fork (lf 2 90 90 (rgs (E6 t6N).n t6f) c3s1 c3a29)
 (nd 90 c3a30 ((.lt (.op .add (.var 23) (.lit 1)) (.var 21)))
 (nd 90 c3a31 ((.lt (.op .add (.var 20) (.op .add (.var 23) (.lit 1))) (.len (.var 17))))
 (.fork (lf 2 90 90 (rgs (E6 t6N).n t6f) c3s1 c3a33)
 (nd 90 c3a34 ((.lt (.op .add (.var 23) (.lit 2)) (.var 21)))
 (nd 90 c3a35 ((.lt (.op .add (.var 20) (.op .add (.var 23) (.lit 2))) (.len (.var 17))))
 (.fork (lf 2 90 90 (rgs (E6 t6N).n t6f) c3s1 c3a37)
 (nd 90 c3a38 ((.lt (.op .add (.var 23) (.lit 3)) (.var 21)))
 (nd 90 c3a39 ((.lt (.op .add (.var 20) (.op .add (.var 23) (.lit 3))) (.len (.var 17))))
 (.fork (lf 2 90 90 (rgs (E6 t6N).n t6f) c3s1 c3a41)
 (.fork (lf 2 90 90 (rgs (E6 t6N).n t6f) c3s1 c3a43)
 (nd 93 c3a44 ((.not (.lt (.lit 1125899906842624) (.op .add (.var 23) (.lit 4)))))
 (lf 0 90 93 (rgs (E6 t6N).n t6S) ((33,.ntm (.app (.one (.op .or (.op .shl (.op .or (.op .shl (.op .or (.op .shl (.op .and (.sel (.var 17) (.op .add (.var 20) (.var 23))) (.lit 7)) (.lit 6)) (.op .and (.sel (.var 17) (.op .add (.var 20) (.op .add (.var 23) (.lit 1)))) (.lit 63))) (.lit 6)) (.op .and (.sel (.var 17) (.op .add (.var 20) (.op .add (.var 23) (.lit 2)))) (.lit 63))) (.lit 6)) (.op .and (.sel (.var 17) (.op .add (.var 20) (.op .add (.var 23) (.lit 3)))) (.lit 63)))) (.var 91)))::(74,.blk 74)::(17,.ltm (.var 17))::(23,.itm (.op .add (.var 23) (.lit 4)))::c3s2) ((.not (.lt (.lit 1125899906842624) (.op .add (.var 23) (.lit 4))))::c3a44))))))))))))))
 (lf 2 90 90 (rgs (E6 t6N).n t6f) c3s1 c3a45))))))
 (lf 1 90 90 (rgs (E6 t6N).n t6N) ((74,.blk 74)::(17,.ltm (.var 17))::(23,.itm (.var 23))::c3s0) c3a46))
theorem lit_b6n_eq:tre6 t6N []=lit_b6n:=by kernel_rfl
abbrev c3a47:List TB:=(.not (.lt (.lenN (.var 33)) (.var 32)))::c3a4
abbrev c3a48:List TB:=(.not (.lt (.lit 4398046511104) (.op .add (.lenN (.sub (.var 33) (.lit 0) (.var 31))) (.lit 1))))::c3a47
abbrev c3a49:List TB:=(.not (.lt (.lenN (.var 33)) (.var 32)))::c3a12
abbrev c3a50:List TB:=(.not (.lt (.lit 4398046511104) (.op .add (.lenN (.sub (.var 33) (.lit 0) (.var 31))) (.lit 1))))::c3a49
abbrev c3a51:List TB:=(.not (.lt (.lenN (.var 33)) (.var 32)))::c3a26
abbrev c3a52:List TB:=(.not (.lt (.lit 4398046511104) (.op .add (.lenN (.sub (.var 33) (.lit 0) (.var 31))) (.lit 1))))::c3a51
abbrev c3a53:List TB:=(.not (.lt (.lenN (.var 33)) (.var 32)))::c3a44
abbrev c3a54:List TB:=(.not (.lt (.lit 4398046511104) (.op .add (.lenN (.sub (.var 33) (.lit 0) (.var 31))) (.lit 1))))::c3a53
abbrev c3s3:SgT:=(32,.itm (.op .add (.op .add (.lenN (.sub (.var 33) (.lit 0) (.var 31))) (.lit 1)) (.lenN (.var 91))))::(31,.itm (.op .add (.lenN (.sub (.var 33) (.lit 0) (.var 31))) (.lit 1)))::(30,.new 92)::c3s0
noncomputable def lit_b6s:Tre:=(.fork (nd 90 c3a0 ((.lt (.op .add (.var 20) (.var 23)) (.len (.var 17))))
 (.fork (.fork (lf 2 90 90 (rgs (E6 t6S).n t6f) c3s1 c3a3)
 (nd 90 c3a4 ((.not (.lt (.lenN (.var 33)) (.var 32))))
 (nd 90 c3a47 ((.not (.lt (.lit 4398046511104) (.op .add (.lenN (.sub (.var 33) (.lit 0) (.var 31))) (.lit 1)))))
 (nd 93 c3a48 ((.not (.lt (.lit 1125899906842624) (.op .add (.var 23) (.lit 1)))))
 (lf 0 90 93 (rgs (E6 t6S).n t6S) ((33,.ntm (.app (.app (.sub (.var 33) (.lit 0) (.var 31)) (.one (.sel (.var 17) (.op .add (.var 20) (.var 23))))) (.var 91)))::(74,.blk 74)::(17,.ltm (.var 17))::(23,.itm (.op .add (.var 23) (.lit 1)))::c3s3) ((.not (.lt (.lit 1125899906842624) (.op .add (.var 23) (.lit 1))))::c3a48))))))
 (.fork (.fork (lf 2 90 90 (rgs (E6 t6S).n t6f) c3s1 c3a7)
 (nd 90 c3a8 ((.lt (.op .add (.var 23) (.lit 1)) (.var 21)))
 (nd 90 c3a9 ((.lt (.op .add (.var 20) (.op .add (.var 23) (.lit 1))) (.len (.var 17))))
 (.fork (lf 2 90 90 (rgs (E6 t6S).n t6f) c3s1 c3a11)
 (nd 90 c3a12 ((.not (.lt (.lenN (.var 33)) (.var 32))))
 (nd 90 c3a49 ((.not (.lt (.lit 4398046511104) (.op .add (.lenN (.sub (.var 33) (.lit 0) (.var 31))) (.lit 1)))))
 (nd 93 c3a50 ((.not (.lt (.lit 1125899906842624) (.op .add (.var 23) (.lit 2)))))
 (lf 0 90 93 (rgs (E6 t6S).n t6S) ((33,.ntm (.app (.app (.sub (.var 33) (.lit 0) (.var 31)) (.one (.op .or (.op .shl (.op .and (.sel (.var 17) (.op .add (.var 20) (.var 23))) (.lit 31)) (.lit 6)) (.op .and (.sel (.var 17) (.op .add (.var 20) (.op .add (.var 23) (.lit 1)))) (.lit 63))))) (.var 91)))::(74,.blk 74)::(17,.ltm (.var 17))::(23,.itm (.op .add (.var 23) (.lit 2)))::c3s3) ((.not (.lt (.lit 1125899906842624) (.op .add (.var 23) (.lit 2))))::c3a50)))))))))
 (.fork (.fork (lf 2 90 90 (rgs (E6 t6S).n t6f) c3s1 c3a15)
 (nd 90 c3a16 ((.lt (.op .add (.var 23) (.lit 1)) (.var 21)))
 (nd 90 c3a17 ((.lt (.op .add (.var 20) (.op .add (.var 23) (.lit 1))) (.len (.var 17))))
 (.fork (lf 2 90 90 (rgs (E6 t6S).n t6f) c3s1 c3a19)
 (nd 90 c3a20 ((.lt (.op .add (.var 23) (.lit 2)) (.var 21)))
 (nd 90 c3a21 ((.lt (.op .add (.var 20) (.op .add (.var 23) (.lit 2))) (.len (.var 17))))
 (.fork (lf 2 90 90 (rgs (E6 t6S).n t6f) c3s1 c3a23)
 (.fork (lf 2 90 90 (rgs (E6 t6S).n t6f) c3s1 c3a25)
 (nd 90 c3a26 ((.not (.lt (.lenN (.var 33)) (.var 32))))
 (nd 90 c3a51 ((.not (.lt (.lit 4398046511104) (.op .add (.lenN (.sub (.var 33) (.lit 0) (.var 31))) (.lit 1)))))
 (nd 93 c3a52 ((.not (.lt (.lit 1125899906842624) (.op .add (.var 23) (.lit 3)))))
 (lf 0 90 93 (rgs (E6 t6S).n t6S) ((33,.ntm (.app (.app (.sub (.var 33) (.lit 0) (.var 31)) (.one (.op .or (.op .shl (.op .or (.op .shl (.op .and (.sel (.var 17) (.op .add (.var 20) (.var 23))) (.lit 15)) (.lit 6)) (.op .and (.sel (.var 17) (.op .add (.var 20) (.op .add (.var 23) (.lit 1)))) (.lit 63))) (.lit 6)) (.op .and (.sel (.var 17) (.op .add (.var 20) (.op .add (.var 23) (.lit 2)))) (.lit 63))))) (.var 91)))::(74,.blk 74)::(17,.ltm (.var 17))::(23,.itm (.op .add (.var 23) (.lit 3)))::c3s3) ((.not (.lt (.lit 1125899906842624) (.op .add (.var 23) (.lit 3))))::c3a52)))))))))))))
 (.fork (.fork (lf 2 90 90 (rgs (E6 t6S).n t6f) c3s1 c3a29)
 (nd 90 c3a30 ((.lt (.op .add (.var 23) (.lit 1)) (.var 21)))
 (nd 90 c3a31 ((.lt (.op .add (.var 20) (.op .add (.var 23) (.lit 1))) (.len (.var 17))))
 (.fork (lf 2 90 90 (rgs (E6 t6S).n t6f) c3s1 c3a33)
 (nd 90 c3a34 ((.lt (.op .add (.var 23) (.lit 2)) (.var 21)))
 (nd 90 c3a35 ((.lt (.op .add (.var 20) (.op .add (.var 23) (.lit 2))) (.len (.var 17))))
 (.fork (lf 2 90 90 (rgs (E6 t6S).n t6f) c3s1 c3a37)
 (nd 90 c3a38 ((.lt (.op .add (.var 23) (.lit 3)) (.var 21)))
 (nd 90 c3a39 ((.lt (.op .add (.var 20) (.op .add (.var 23) (.lit 3))) (.len (.var 17))))
 (.fork (lf 2 90 90 (rgs (E6 t6S).n t6f) c3s1 c3a41)
 (.fork (lf 2 90 90 (rgs (E6 t6S).n t6f) c3s1 c3a43)
 (nd 90 c3a44 ((.not (.lt (.lenN (.var 33)) (.var 32))))
 (nd 90 c3a53 ((.not (.lt (.lit 4398046511104) (.op .add (.lenN (.sub (.var 33) (.lit 0) (.var 31))) (.lit 1)))))
 (nd 93 c3a54 ((.not (.lt (.lit 1125899906842624) (.op .add (.var 23) (.lit 4)))))
 (lf 0 90 93 (rgs (E6 t6S).n t6S) ((33,.ntm (.app (.app (.sub (.var 33) (.lit 0) (.var 31)) (.one (.op .or (.op .shl (.op .or (.op .shl (.op .or (.op .shl (.op .and (.sel (.var 17) (.op .add (.var 20) (.var 23))) (.lit 7)) (.lit 6)) (.op .and (.sel (.var 17) (.op .add (.var 20) (.op .add (.var 23) (.lit 1)))) (.lit 63))) (.lit 6)) (.op .and (.sel (.var 17) (.op .add (.var 20) (.op .add (.var 23) (.lit 2)))) (.lit 63))) (.lit 6)) (.op .and (.sel (.var 17) (.op .add (.var 20) (.op .add (.var 23) (.lit 3)))) (.lit 63))))) (.var 91)))::(74,.blk 74)::(17,.ltm (.var 17))::(23,.itm (.op .add (.var 23) (.lit 4)))::c3s3) ((.not (.lt (.lit 1125899906842624) (.op .add (.var 23) (.lit 4))))::c3a54))))))))))))))))
 (lf 2 90 90 (rgs (E6 t6S).n t6f) c3s1 c3a45))))))
 (lf 1 90 90 (rgs (E6 t6S).n t6S) ((33,.ntm (.var 33))::(74,.blk 74)::(17,.ltm (.var 17))::(23,.itm (.var 23))::(32,.itm (.var 32))::(31,.itm (.var 31))::(30,.blk 30)::c3s0) c3a46))
theorem lit_b6s_eq:tre6 t6S []=lit_b6s:=by kernel_rfl
end U
