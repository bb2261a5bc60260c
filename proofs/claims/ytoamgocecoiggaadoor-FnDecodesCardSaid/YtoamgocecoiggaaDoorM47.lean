-- the statement of this claim: see YtoamgocecoiggaaDoorRw
import Derived.Test.YtoamgocecoiggaaDoorM46
set_option linter.unusedVariables false
set_option linter.unusedSimpArgs false
open Go Go.SM Go.Proofs
namespace U
set_option maxRecDepth 100000
abbrev f4a0:List TB:=[(.or (.lt (.var 18) (.lit 2)) (.lt (.lit 0) (.var 18)))]
abbrev f4a1:List TB:=(.or (.lt (.var 18) (.lit 2)) (.lt (.lit 0) (.len (.var 17))))::f4a0
abbrev f4a2:List TB:=(.or (.not (.and (.not (.lt (.var 18) (.lit 2))) (.eq (.sel (.var 17) (.lit 0)) (.lit 255)))) (.lt (.lit 1) (.var 18)))::f4a1
abbrev f4a3:List TB:=(.or (.not (.and (.not (.lt (.var 18) (.lit 2))) (.eq (.sel (.var 17) (.lit 0)) (.lit 255)))) (.lt (.lit 1) (.len (.var 17))))::f4a2
abbrev f4a4:List TB:=(.not (.and (.and (.not (.lt (.var 18) (.lit 2))) (.eq (.sel (.var 17) (.lit 0)) (.lit 255))) (.eq (.sel (.var 17) (.lit 1)) (.lit 254))))::f4a3
abbrev f4a5:List TB:=(.or (.not (.and (.not (.lt (.var 18) (.lit 2))) (.eq (.sel (.var 17) (.lit 0)) (.lit 254)))) (.lt (.lit 1) (.var 18)))::f4a4
abbrev f4a6:List TB:=(.or (.not (.and (.not (.lt (.var 18) (.lit 2))) (.eq (.sel (.var 17) (.lit 0)) (.lit 254)))) (.lt (.lit 1) (.len (.var 17))))::f4a5
abbrev f4a7:List TB:=(.not (.and (.and (.not (.lt (.var 18) (.lit 2))) (.eq (.sel (.var 17) (.lit 0)) (.lit 254))) (.eq (.sel (.var 17) (.lit 1)) (.lit 255))))::f4a6
abbrev f4a8:List TB:=(.or (.lt (.var 18) (.lit 3)) (.lt (.lit 0) (.var 18)))::f4a7
abbrev f4a9:List TB:=(.or (.lt (.var 18) (.lit 3)) (.lt (.lit 0) (.len (.var 17))))::f4a8
abbrev f4a10:List TB:=(.or (.not (.and (.not (.lt (.var 18) (.lit 3))) (.eq (.sel (.var 17) (.lit 0)) (.lit 239)))) (.lt (.lit 1) (.var 18)))::f4a9
abbrev f4a11:List TB:=(.or (.not (.and (.not (.lt (.var 18) (.lit 3))) (.eq (.sel (.var 17) (.lit 0)) (.lit 239)))) (.lt (.lit 1) (.len (.var 17))))::f4a10
abbrev f4a12:List TB:=(.or (.not (.and (.and (.not (.lt (.var 18) (.lit 3))) (.eq (.sel (.var 17) (.lit 0)) (.lit 239))) (.eq (.sel (.var 17) (.lit 1)) (.lit 187)))) (.lt (.lit 2) (.var 18)))::f4a11
abbrev f4a13:List TB:=(.or (.not (.and (.and (.not (.lt (.var 18) (.lit 3))) (.eq (.sel (.var 17) (.lit 0)) (.lit 239))) (.eq (.sel (.var 17) (.lit 1)) (.lit 187)))) (.lt (.lit 2) (.len (.var 17))))::f4a12
abbrev f4s0:SgT:=[(16,.blk 16),(73,.blk 73)]
abbrev f4s1:SgT:=(72,.itm (.var 72))::(18,.itm (.var 18))::f4s0
abbrev f4s2:SgT:=(87,.itm (.lit 1))::f4s1
noncomputable def lit_f5:Tre:=(nd 90 [] ((.or (.lt (.var 18) (.lit 2)) (.lt (.lit 0) (.var 18))))
 (nd 90 f4a0 ((.or (.lt (.var 18) (.lit 2)) (.lt (.lit 0) (.len (.var 17)))))
 (nd 90 f4a1 ((.or (.not (.and (.not (.lt (.var 18) (.lit 2))) (.eq (.sel (.var 17) (.lit 0)) (.lit 255)))) (.lt (.lit 1) (.var 18))))
 (nd 90 f4a2 ((.or (.not (.and (.not (.lt (.var 18) (.lit 2))) (.eq (.sel (.var 17) (.lit 0)) (.lit 255)))) (.lt (.lit 1) (.len (.var 17)))))
 (.fork (lf 0 90 90 (rgs EF5.n t5o) ((74,.blk 74)::(17,.ltm (.var 17))::(88,.itm (.lit 2))::(87,.itm (.lit 2))::f4s1) ((.not (.lt (.var 18) (.lit 2)))::(.eq (.sel (.var 17) (.lit 0)) (.lit 255))::(.eq (.sel (.var 17) (.lit 1)) (.lit 254))::f4a3))
 (nd 90 f4a4 ((.or (.not (.and (.not (.lt (.var 18) (.lit 2))) (.eq (.sel (.var 17) (.lit 0)) (.lit 254)))) (.lt (.lit 1) (.var 18))))
 (nd 90 f4a5 ((.or (.not (.and (.not (.lt (.var 18) (.lit 2))) (.eq (.sel (.var 17) (.lit 0)) (.lit 254)))) (.lt (.lit 1) (.len (.var 17)))))
 (.fork (lf 0 90 90 (rgs EF5.n t5o) ((74,.blk 74)::(17,.ltm (.var 17))::(88,.itm (.lit 2))::(87,.itm (.lit 3))::f4s1) ((.not (.lt (.var 18) (.lit 2)))::(.eq (.sel (.var 17) (.lit 0)) (.lit 254))::(.eq (.sel (.var 17) (.lit 1)) (.lit 255))::f4a6))
 (nd 90 f4a7 ((.or (.lt (.var 18) (.lit 3)) (.lt (.lit 0) (.var 18))))
 (nd 90 f4a8 ((.or (.lt (.var 18) (.lit 3)) (.lt (.lit 0) (.len (.var 17)))))
 (nd 90 f4a9 ((.or (.not (.and (.not (.lt (.var 18) (.lit 3))) (.eq (.sel (.var 17) (.lit 0)) (.lit 239)))) (.lt (.lit 1) (.var 18))))
 (nd 90 f4a10 ((.or (.not (.and (.not (.lt (.var 18) (.lit 3))) (.eq (.sel (.var 17) (.lit 0)) (.lit 239)))) (.lt (.lit 1) (.len (.var 17)))))
 (nd 90 f4a11 ((.or (.not (.and (.and (.not (.lt (.var 18) (.lit 3))) (.eq (.sel (.var 17) (.lit 0)) (.lit 239))) (.eq (.sel (.var 17) (.lit 1)) (.lit 187)))) (.lt (.lit 2) (.var 18))))
 (nd 90 f4a12 ((.or (.not (.and (.and (.not (.lt (.var 18) (.lit 3))) (.eq (.sel (.var 17) (.lit 0)) (.lit 239))) (.eq (.sel (.var 17) (.lit 1)) (.lit 187)))) (.lt (.lit 2) (.len (.var 17)))))
 (.fork (lf 0 90 90 (rgs EF5.n t5o) ((74,.blk 74)::(17,.ltm (.var 17))::(88,.itm (.lit 3))::f4s2) ((.not (.lt (.var 18) (.lit 3)))::(.eq (.sel (.var 17) (.lit 0)) (.lit 239))::(.eq (.sel (.var 17) (.lit 1)) (.lit 187))::(.eq (.sel (.var 17) (.lit 2)) (.lit 191))::f4a13))
 (lf 0 90 90 (rgs EF5.n t5o) ((74,.blk 74)::(17,.ltm (.var 17))::(88,.itm (.lit 0))::f4s2) ((.not (.and (.and (.and (.not (.lt (.var 18) (.lit 3))) (.eq (.sel (.var 17) (.lit 0)) (.lit 239))) (.eq (.sel (.var 17) (.lit 1)) (.lit 187))) (.eq (.sel (.var 17) (.lit 2)) (.lit 191))))::f4a13)))))))))))))))))
theorem lit_f5_eq:tref5=lit_f5:=by kernel_rfl
abbrev f4a14:List TB:=[(.lt (.var 23) (.var 31))]
abbrev f4a15:List TB:=(.lt (.var 23) (.lenN (.var 33)))::f4a14
abbrev f4a16:List TB:=(.not (.eq (.selN (.var 33) (.var 23)) (.lit 65279)))::f4a15
abbrev f4a17:List TB:=(.not (.var 84))::f4a16
abbrev f4s3:SgT:=(32,.itm (.var 32))::(31,.itm (.var 31))::(30,.blk 30)::f4s1
noncomputable def lit_l3:Tre:=(.fork (nd 90 f4a14 ((.lt (.var 23) (.lenN (.var 33))))
 (.fork (lf 2 90 90 (rgs E3L.n t3r) [(74,.blk 74),(73,.blk 73)] ((.eq (.selN (.var 33) (.var 23)) (.lit 65279))::f4a15))
 (.fork (nd 90 ((.var 84)::f4a16) ((.not (.lt (.lit 1125899906842624) (.op .add (.var 23) (.lit 1)))))
 (lf 0 90 90 (rgs E3L.n t3L) ((33,.ntm (.var 33))::(74,.blk 74)::(17,.ltm (.var 17))::(23,.itm (.op .add (.var 23) (.lit 1)))::(84,.btm (.or (.or (.or (.or (.or (.or (.or (.eq (.selN (.var 33) (.var 23)) (.lit 9)) (.eq (.selN (.var 33) (.var 23)) (.lit 10))) (.eq (.selN (.var 33) (.var 23)) (.lit 13))) (.and (.not (.lt (.selN (.var 33) (.var 23)) (.lit 32))) (.not (.lt (.lit 126) (.selN (.var 33) (.var 23)))))) (.eq (.selN (.var 33) (.var 23)) (.lit 133))) (.and (.not (.lt (.selN (.var 33) (.var 23)) (.lit 160))) (.not (.lt (.lit 55295) (.selN (.var 33) (.var 23)))))) (.and (.not (.lt (.selN (.var 33) (.var 23)) (.lit 57344))) (.not (.lt (.lit 65533) (.selN (.var 33) (.var 23)))))) (.and (.not (.lt (.selN (.var 33) (.var 23)) (.lit 65536))) (.not (.lt (.lit 1114111) (.selN (.var 33) (.var 23)))))))::f4s3) ((.not (.lt (.lit 1125899906842624) (.op .add (.var 23) (.lit 1))))::(.var 84)::f4a16)))
 (nd 90 f4a17 ((.not (.lt (.lit 1125899906842624) (.op .add (.var 23) (.lit 1)))))
 (lf 0 90 90 (rgs E3L.n t3L) ((33,.ntm (.var 33))::(74,.blk 74)::(17,.ltm (.var 17))::(23,.itm (.op .add (.var 23) (.lit 1)))::(84,.btm (.lit false))::f4s3) ((.not (.lt (.lit 1125899906842624) (.op .add (.var 23) (.lit 1))))::f4a17))))))
 (lf 1 90 90 (rgs E3L.n t3X) ((33,.ntm (.var 33))::(74,.blk 74)::(17,.ltm (.var 17))::(84,.btm (.var 84))::f4s3) [(.not (.lt (.var 23) (.var 31)))]))
theorem lit_l3_eq:tre3L=lit_l3:=by kernel_rfl
abbrev f4a18:List TB:=[(.not (.lt (.lit 2147483647) (.var 18)))]
abbrev f4a19:List TB:=(.not (.lt (.lit 1048576) (.var 18)))::f4a18
abbrev f4a20:List TB:=(.not (.lt (.var 178) (.lit 0)))::f4a19
abbrev f4a21:List TB:=(.not (.lt (.var 18) (.var 178)))::f4a20
abbrev f4a22:List TB:=(.not (.lt (.var 72) (.var 18)))::f4a21
abbrev f4a23:List TB:=(.not (.lt (.lit 1125899906842624) (.var 18)))::f4a22
abbrev f4a24:List TB:=(.lt (.lit 1) (.var 177))::f4a23
abbrev f4a25:List TB:=(.not (.var 354))::f4a24
abbrev f4a26:List TB:=(.not (.lt (.len (.var 442)) (.var 440)))::(.var 354)::f4a24
abbrev f4a27:List TB:=[(.not (.lt (.len (.var 263)) (.var 261))),(.var 84)]
abbrev f4a28:List TB:=[(.not (.lt (.len (.var 172)) (.var 170))),(.var 84)]
abbrev f4a29:List TB:=(.not (.lt (.len (.var 263)) (.var 261)))::f4a28
abbrev f4a30:List TB:=(.not (.lt (.lit 1) (.var 177)))::f4a23
abbrev f4a31:List TB:=(.not (.var 264))::f4a30
abbrev f4s4:SgT:=[(74,.blk 74),(86,.btm (.lit true)),(73,.blk 73)]
abbrev f4s5:SgT:=(74,.blk 74)::(17,.ltm (.var 17))::f4s1
abbrev f4s6:SgT:=(22,.itm (.op .sub (.var 72) (.var 178)))::(21,.itm (.op .sub (.var 18) (.var 178)))::(20,.itm (.ite (.eq (.var 72) (.var 178)) (.lit 0) (.var 178)))::f4s0
abbrev f4s7:SgT:=(74,.blk 74)::(17,.ltm (.var 17))::(85,.btm (.eq (.var 177) (.lit 3)))::f4s6
abbrev f4s8:SgT:=[(74,.blk 74),(86,.btm (.lit false)),(73,.blk 73)]
abbrev f4s9:SgT:=[(74,.blk 74),(86,.btm (.eqL (.sub (.var 442) (.lit 0) (.var 440)) (.lit []))),(73,.blk 73)]
abbrev f4s10:SgT:=(33,.ntm (.var 303))::(74,.blk 74)::(17,.ltm (.var 17))::(23,.itm (.lit 0))::(84,.btm (.lit true))::(32,.itm (.var 302))::(31,.itm (.var 301))::(30,.blk 300)::f4s1
abbrev f4s11:SgT:=[(74,.blk 74),(33,.ntm (.var 33)),(32,.itm (.var 32)),(31,.itm (.var 31)),(30,.blk 30),(73,.blk 73)]
abbrev f4s12:SgT:=[(74,.blk 74),(86,.btm (.eqL (.lit []) (.sub (.var 263) (.lit 0) (.var 261)))),(73,.blk 73)]
abbrev f4s13:SgT:=[(74,.blk 74),(86,.btm (.eqL (.sub (.var 172) (.lit 0) (.var 170)) (.lit []))),(73,.blk 73)]
abbrev f4s14:SgT:=[(74,.blk 74),(86,.btm (.eqL (.sub (.var 172) (.lit 0) (.var 170)) (.sub (.var 263) (.lit 0) (.var 261)))),(73,.blk 73)]
noncomputable def lit_f3c:Tre:=(.fork (lf 0 90 90 (rgs (EF3 sp9C).n t3o) f4s4 [(.lt (.lit 2147483647) (.var 18))])
 (.fork (lf 0 90 90 (rgs (EF3 sp9C).n t3o) f4s4 ((.lt (.lit 1048576) (.var 18))::f4a18))
 (.call 5 90 90 (rgs sp5.n sp5.tin) (SgT.enc f4s5) (List.map TB.enc f4a19) (.cons (rgs 0 t5o++rgV (.tuple #[I 87 1 3,I 88 0 3])) (nd 180 f4a19 ((.not (.lt (.var 178) (.lit 0))))
 (nd 180 f4a20 ((.not (.lt (.var 18) (.var 178))))
 (nd 180 f4a21 ((.not (.lt (.var 72) (.var 18))))
 (nd 180 f4a22 ((.not (.lt (.lit 1125899906842624) (.var 18))))
 (.call 6 90 180 (rgs sp6.n sp6.tin) (SgT.enc ((74,.blk 74)::(17,.ltm (.var 17))::f4s6)) (List.map TB.enc f4a23) (.cons (rgs 0 t6a++rgV (.tuple #[.slice none 0 0,sB (x 84)])) (.fork (.call 7 90 270 (rgs sp7.n sp7.tin) (SgT.enc f4s7) (List.map TB.enc f4a24) (.cons (rgs 0 t7a++rgV (.tuple #[.slice none 0 0,sB (x 84)])) (.call 9 90 360 (rgs sp9C.n sp9C.tin) (SgT.enc f4s5) (List.map TB.enc f4a24) (.cons (rgs 0 tYsN++rgV (.tuple #[.slice none 0 0,fv (Z 0)])) (.fork (lf 0 90 451 (rgs (EF3 sp9C).n t3o) f4s8 f4a25)
 (lf 0 90 451 (rgs (EF3 sp9C).n t3o) f4s4 ((.var 354)::f4a24)))
 (.cons (rgs 0 tYe++rgV (.tuple #[.tuple #[],fv (Z 1)])) (.fork (lf 0 90 451 (rgs (EF3 sp9C).n t3o) f4s4 f4a25)
 (lf 0 90 451 (rgs (EF3 sp9C).n t3o) f4s8 ((.var 354)::f4a24)))
 (.cons (rgs 0 tYs++rgV (.tuple #[sOut,fv (Z 0)])) (.fork (lf 0 90 451 (rgs (EF3 sp9C).n t3o) f4s8 f4a25)
 (nd 451 ((.var 354)::f4a24) ((.not (.lt (.len (.var 442)) (.var 440))))
 (lf 0 90 451 (rgs (EF3 sp9C).n t3o) f4s9 f4a26)))
 .nil))))
 (.cons (rgs 0 t7b++rgV (.tuple #[sNum,.bool true])) (.loop 10 90 360 (rgs (EF3 sp9C).n sp3L.tin) loopD3 (SgT.enc f4s10) (List.map TB.enc f4a24) (.cons (rgs (EF3 sp9C).n t3X) (.call 9 90 90 (rgs sp9C.n sp9C.tin) (SgT.enc f4s5) (List.map TB.enc []) (.cons (rgs 0 tYsN++rgV (.tuple #[.slice none 0 0,fv (Z 0)])) (.fork (lf 0 90 181 (rgs (EF3 sp9C).n t3o) f4s8 [(.not (.var 84))])
 (.call 11 90 181 (rgs sp11.n sp11.tin) (SgT.enc f4s11) (List.map TB.enc [(.var 84)]) (.cons (rgs 0 t11a++rgV (.slice none 0 0)) (lf 0 90 271 (rgs (EF3 sp9C).n t3o) f4s4 [(.var 84)])
 (.cons (rgs 0 t11b++rgV (sOut)) (nd 271 [(.var 84)] ((.not (.lt (.len (.var 263)) (.var 261))))
 (lf 0 90 271 (rgs (EF3 sp9C).n t3o) f4s12 f4a27))
 .nil))))
 (.cons (rgs 0 tYe++rgV (.tuple #[.tuple #[],fv (Z 1)])) (.fork (lf 0 90 181 (rgs (EF3 sp9C).n t3o) f4s4 [(.not (.var 84))])
 (lf 0 90 181 (rgs (EF3 sp9C).n t3o) f4s8 [(.var 84)]))
 (.cons (rgs 0 tYs++rgV (.tuple #[sOut,fv (Z 0)])) (.fork (lf 0 90 181 (rgs (EF3 sp9C).n t3o) f4s8 [(.not (.var 84))])
 (.call 11 90 181 (rgs sp11.n sp11.tin) (SgT.enc f4s11) (List.map TB.enc [(.var 84)]) (.cons (rgs 0 t11a++rgV (.slice none 0 0)) (nd 271 [(.var 84)] ((.not (.lt (.len (.var 172)) (.var 170))))
 (lf 0 90 271 (rgs (EF3 sp9C).n t3o) f4s13 f4a28))
 (.cons (rgs 0 t11b++rgV (sOut)) (nd 271 [(.var 84)] ((.not (.lt (.len (.var 172)) (.var 170))))
 (nd 271 f4a28 ((.not (.lt (.len (.var 263)) (.var 261))))
 (lf 0 90 271 (rgs (EF3 sp9C).n t3o) f4s14 f4a29)))
 .nil))))
 .nil))))
 (.cons (rgs (EF3 sp9C).n t3r) (lf 0 90 90 (rgs (EF3 sp9C).n t3o) f4s4 [])
 .nil)))
 .nil)))
 (.call 9 90 270 (rgs sp9C.n sp9C.tin) (SgT.enc f4s5) (List.map TB.enc f4a30) (.cons (rgs 0 tYsN++rgV (.tuple #[.slice none 0 0,fv (Z 0)])) (.fork (lf 0 90 361 (rgs (EF3 sp9C).n t3o) f4s8 f4a31)
 (lf 0 90 361 (rgs (EF3 sp9C).n t3o) f4s4 ((.var 264)::f4a30)))
 (.cons (rgs 0 tYe++rgV (.tuple #[.tuple #[],fv (Z 1)])) (.fork (lf 0 90 361 (rgs (EF3 sp9C).n t3o) f4s4 f4a31)
 (lf 0 90 361 (rgs (EF3 sp9C).n t3o) f4s8 ((.var 264)::f4a30)))
 (.cons (rgs 0 tYs++rgV (.tuple #[sOut,fv (Z 0)])) (.fork (lf 0 90 361 (rgs (EF3 sp9C).n t3o) f4s8 f4a31)
 (nd 361 ((.var 264)::f4a30) ((.not (.lt (.len (.var 352)) (.var 350))))
 (lf 0 90 361 (rgs (EF3 sp9C).n t3o) [(74,.blk 74),(86,.btm (.eqL (.sub (.var 352) (.lit 0) (.var 350)) (.lit []))),(73,.blk 73)] ((.not (.lt (.len (.var 352)) (.var 350)))::(.var 264)::f4a30))))
 .nil)))))
 (.cons (rgs 0 t6b++rgV (.tuple #[sNum,.bool true])) (.fork (.call 7 90 270 (rgs sp7.n sp7.tin) (SgT.enc f4s7) (List.map TB.enc f4a24) (.cons (rgs 0 t7a++rgV (.tuple #[.slice none 0 0,sB (x 84)])) (.call 9 90 360 (rgs sp9C.n sp9C.tin) (SgT.enc f4s5) (List.map TB.enc f4a24) (.cons (rgs 0 tYsN++rgV (.tuple #[.slice none 0 0,fv (Z 0)])) (.fork (lf 0 90 451 (rgs (EF3 sp9C).n t3o) f4s8 f4a25)
 (lf 0 90 451 (rgs (EF3 sp9C).n t3o) f4s4 ((.var 354)::f4a24)))
 (.cons (rgs 0 tYe++rgV (.tuple #[.tuple #[],fv (Z 1)])) (.fork (lf 0 90 451 (rgs (EF3 sp9C).n t3o) f4s4 f4a25)
 (lf 0 90 451 (rgs (EF3 sp9C).n t3o) f4s8 ((.var 354)::f4a24)))
 (.cons (rgs 0 tYs++rgV (.tuple #[sOut,fv (Z 0)])) (.fork (lf 0 90 451 (rgs (EF3 sp9C).n t3o) f4s8 f4a25)
 (nd 451 ((.var 354)::f4a24) ((.not (.lt (.len (.var 442)) (.var 440))))
 (lf 0 90 451 (rgs (EF3 sp9C).n t3o) f4s9 f4a26)))
 .nil))))
 (.cons (rgs 0 t7b++rgV (.tuple #[sNum,.bool true])) (.loop 10 90 360 (rgs (EF3 sp9C).n sp3L.tin) loopD3 (SgT.enc f4s10) (List.map TB.enc f4a24) (.cons (rgs (EF3 sp9C).n t3X) (.call 9 90 90 (rgs sp9C.n sp9C.tin) (SgT.enc f4s5) (List.map TB.enc []) (.cons (rgs 0 tYsN++rgV (.tuple #[.slice none 0 0,fv (Z 0)])) (.fork (lf 0 90 181 (rgs (EF3 sp9C).n t3o) f4s8 [(.not (.var 84))])
 (.call 11 90 181 (rgs sp11.n sp11.tin) (SgT.enc f4s11) (List.map TB.enc [(.var 84)]) (.cons (rgs 0 t11a++rgV (.slice none 0 0)) (lf 0 90 271 (rgs (EF3 sp9C).n t3o) f4s4 [(.var 84)])
 (.cons (rgs 0 t11b++rgV (sOut)) (nd 271 [(.var 84)] ((.not (.lt (.len (.var 263)) (.var 261))))
 (lf 0 90 271 (rgs (EF3 sp9C).n t3o) f4s12 f4a27))
 .nil))))
 (.cons (rgs 0 tYe++rgV (.tuple #[.tuple #[],fv (Z 1)])) (.fork (lf 0 90 181 (rgs (EF3 sp9C).n t3o) f4s4 [(.not (.var 84))])
 (lf 0 90 181 (rgs (EF3 sp9C).n t3o) f4s8 [(.var 84)]))
 (.cons (rgs 0 tYs++rgV (.tuple #[sOut,fv (Z 0)])) (.fork (lf 0 90 181 (rgs (EF3 sp9C).n t3o) f4s8 [(.not (.var 84))])
 (.call 11 90 181 (rgs sp11.n sp11.tin) (SgT.enc f4s11) (List.map TB.enc [(.var 84)]) (.cons (rgs 0 t11a++rgV (.slice none 0 0)) (nd 271 [(.var 84)] ((.not (.lt (.len (.var 172)) (.var 170))))
 (lf 0 90 271 (rgs (EF3 sp9C).n t3o) f4s13 f4a28))
 (.cons (rgs 0 t11b++rgV (sOut)) (nd 271 [(.var 84)] ((.not (.lt (.len (.var 172)) (.var 170))))
 (nd 271 f4a28 ((.not (.lt (.len (.var 263)) (.var 261))))
 (lf 0 90 271 (rgs (EF3 sp9C).n t3o) f4s14 f4a29)))
 .nil))))
 .nil))))
 (.cons (rgs (EF3 sp9C).n t3r) (lf 0 90 90 (rgs (EF3 sp9C).n t3o) f4s4 [])
 .nil)))
 .nil)))
 (.loop 10 90 270 (rgs (EF3 sp9C).n sp3L.tin) loopD3 (SgT.enc ((33,.ntm (.var 213))::(74,.blk 74)::(17,.ltm (.var 17))::(23,.itm (.lit 0))::(84,.btm (.lit true))::(32,.itm (.var 212))::(31,.itm (.var 211))::(30,.blk 210)::f4s1)) (List.map TB.enc f4a30) (.cons (rgs (EF3 sp9C).n t3X) (.call 9 90 90 (rgs sp9C.n sp9C.tin) (SgT.enc f4s5) (List.map TB.enc []) (.cons (rgs 0 tYsN++rgV (.tuple #[.slice none 0 0,fv (Z 0)])) (.fork (lf 0 90 181 (rgs (EF3 sp9C).n t3o) f4s8 [(.not (.var 84))])
 (.call 11 90 181 (rgs sp11.n sp11.tin) (SgT.enc f4s11) (List.map TB.enc [(.var 84)]) (.cons (rgs 0 t11a++rgV (.slice none 0 0)) (lf 0 90 271 (rgs (EF3 sp9C).n t3o) f4s4 [(.var 84)])
 (.cons (rgs 0 t11b++rgV (sOut)) (nd 271 [(.var 84)] ((.not (.lt (.len (.var 263)) (.var 261))))
 (lf 0 90 271 (rgs (EF3 sp9C).n t3o) f4s12 f4a27))
 .nil))))
 (.cons (rgs 0 tYe++rgV (.tuple #[.tuple #[],fv (Z 1)])) (.fork (lf 0 90 181 (rgs (EF3 sp9C).n t3o) f4s4 [(.not (.var 84))])
 (lf 0 90 181 (rgs (EF3 sp9C).n t3o) f4s8 [(.var 84)]))
 (.cons (rgs 0 tYs++rgV (.tuple #[sOut,fv (Z 0)])) (.fork (lf 0 90 181 (rgs (EF3 sp9C).n t3o) f4s8 [(.not (.var 84))])
 (.call 11 90 181 (rgs sp11.n sp11.tin) (SgT.enc f4s11) (List.map TB.enc [(.var 84)]) (.cons (rgs 0 t11a++rgV (.slice none 0 0)) (nd 271 [(.var 84)] ((.not (.lt (.len (.var 172)) (.var 170))))
 (lf 0 90 271 (rgs (EF3 sp9C).n t3o) f4s13 f4a28))
 (.cons (rgs 0 t11b++rgV (sOut)) (nd 271 [(.var 84)] ((.not (.lt (.len (.var 172)) (.var 170))))
 (nd 271 f4a28 ((.not (.lt (.len (.var 263)) (.var 261))))
 (lf 0 90 271 (rgs (EF3 sp9C).n t3o) f4s14 f4a29)))
 .nil))))
 .nil))))
 (.cons (rgs (EF3 sp9C).n t3r) (lf 0 90 90 (rgs (EF3 sp9C).n t3o) f4s4 [])
 .nil))))
 .nil)))))))
 .nil))))
theorem lit_f3c_eq:tref3C=lit_f3c:=by kernel_rfl
set_option maxRecDepth 100000
theorem hold_f5 {β:Ren} (p:PT β):lit_f5.Holds (GF5 β) β:=by
 unfold lit_f5
 have hβ:=p.n.1
 have p18:=p.i18; have p17:=p.l17
 refine (need_o hβ ?_ (need_o hβ ?_ (need_o hβ ?_ (need_o hβ ?_ (fork_of (leaf_o [] hβ ?_) (need_o hβ ?_ (need_o hβ ?_ (fork_of (leaf_o [] hβ ?_) (need_o hβ ?_ (need_o hβ ?_ (need_o hβ ?_ (need_o hβ ?_ (need_o hβ ?_ (need_o hβ ?_ (fork_of (leaf_o [] hβ ?_) (leaf_o [] hβ ?_))))))))))))))))
 ·intro hA; clear hA; simp only [DD]; omega
 iterate 3 (focus (intro hA; simp only [DD] at hA ⊢; omega))
 ·intro γ0 hl0 hA hr0 hid0 hI
  simp only [DD] at hA
  obtain ⟨a0,a1,a2,a3,a4,a5,a6⟩:=hA
  simp only [DD] at hI
  obtain ⟨i74,i17,i88,i87,i72,i18,i16,i73⟩:=hI
  exact ⟨p.n.of i73 hl0,⟨i73,i16,i17,i18,i72⟩,by rw [i87,i88]; exact mk5a p a0 a1 a2⟩
 iterate 2 (focus (intro hA; simp only [DD] at hA ⊢; omega))
 ·intro γ0 hl0 hA hr0 hid0 hI
  simp only [DD] at hA
  obtain ⟨a0,a1,a2,a3,a4,a5,a6,a7,a8,a9⟩:=hA
  simp only [DD] at hI
  obtain ⟨i74,i17,i88,i87,i72,i18,i16,i73⟩:=hI
  exact ⟨p.n.of i73 hl0,⟨i73,i16,i17,i18,i72⟩,by rw [i87,i88]; exact mk5b p a0 a1 a2⟩
 iterate 6 (focus (intro hA; simp only [DD] at hA ⊢; omega))
 ·intro γ0 hl0 hA hr0 hid0 hI
  simp only [DD] at hA
  obtain ⟨a0,a1,a2,a3,a4,a5,a6,a7,a8,a9,a10,a11,a12,a13,a14,a15,a16,a17⟩:=hA
  simp only [DD] at hI
  obtain ⟨i74,i17,i88,i87,i72,i18,i16,i73⟩:=hI
  exact ⟨p.n.of i73 hl0,⟨i73,i16,i17,i18,i72⟩,by rw [i87,i88]; exact mk5c p a0 a1 a2 a3⟩
 ·intro γ0 hl0 hA hr0 hid0 hI
  simp only [DD] at hA
  obtain ⟨a0,a1,a2,a3,a4,a5,a6,a7,a8,a9,a10,a11,a12,a13,a14⟩:=hA
  simp only [DD] at hI
  obtain ⟨i74,i17,i88,i87,i72,i18,i16,i73⟩:=hI
  exact ⟨p.n.of i73 hl0,⟨i73,i16,i17,i18,i72⟩,by rw [i87,i88]; exact mk5d p a10 a7 a0⟩
theorem prs_t {β γ:Ren} (hn:¬ vE β=65279) (hb:gB β 84=true) (h:gB γ 84=true↔(((((((vE β=9∨vE β=10)∨vE β=13)∨(¬ vE β < 32∧¬ 126 < vE β))∨vE β=133)∨(¬ vE β < 160∧¬ 55295 < vE β))∨(¬ vE β < 57344∧¬ 65533 < vE β))∨(¬ vE β < 65536∧¬ 1114111 < vE β))):gB γ 84=true↔gB β 84=true∧Prs (vE β):=by
 rw [h]
 unfold Prs Prn
 constructor
 ·intro h; exact ⟨hb,by omega,hn⟩
 ·rintro ⟨_,h,_⟩; omega
theorem prs_f {β γ:Ren} {P:Prop} (hb:¬ gB β 84=true) (h:gB γ 84=true↔false=true):gB γ 84=true↔gB β 84=true∧P:=by
 rw [h]
 exact ⟨fun h=>(by cases h),fun h=>(hb h.1).elim⟩
theorem hold_l3 {β:Ren} (p:PE β):lit_l3.Holds (GL3 β) β:=by
 unfold lit_l3
 have hβ:=p.n.1
 have p31:=p.i31; have p23:=p.i23; have pl:=p.len
 refine (fork_of (need_o hβ ?_ (fork_of (leaf_o [] hβ ?_) (fork_of (need_o hβ ?_ (leaf_o [] hβ ?_)) (need_o hβ ?_ (leaf_o [] hβ ?_))))) (leaf_o [] hβ ?_))
 ·intro hA; simp only [DD] at hA ⊢; omega
 ·intro γ0 hl0 hA hr0 hid0 hI
  simp only [DD] at hA
  obtain ⟨a0,a1,a2⟩:=hA
  simp only [DD] at hI
  obtain ⟨i74,i73⟩:=hI
  exact ⟨i73,by omega,by assumption⟩
 ·intro hA; simp only [DD] at hA ⊢; omega
 ·intro γ0 hl0 hA hr0 hid0 hI
  simp only [DD] at hA
  obtain ⟨a0,a1,a2,a3,a4⟩:=hA
  simp only [DD] at hI
  obtain ⟨i33,i74,i17,i23,i84,i32,i31,i30,i72,i18,i16,i73⟩:=hI
  exact ⟨⟨i73,i16,i17,i18,i72⟩,⟨i73,i30,i33,i31⟩,i32,by omega,(by show ¬ _; assumption),prs_t (by assumption) (by assumption) i84,i23⟩
 ·intro hA; simp only [DD] at hA ⊢; omega
 ·intro γ0 hl0 hA hr0 hid0 hI
  simp only [DD] at hA
  obtain ⟨a0,a1,a2,a3,a4⟩:=hA
  simp only [DD] at hI
  obtain ⟨i33,i74,i17,i23,i84,i32,i31,i30,i72,i18,i16,i73⟩:=hI
  exact ⟨⟨i73,i16,i17,i18,i72⟩,⟨i73,i30,i33,i31⟩,i32,by omega,(by show ¬ _; assumption),prs_f (by assumption) i84,i23⟩
 ·intro γ0 hl0 hA hr0 hid0 hI
  simp only [DD] at hA
  have a0:=hA
  simp only [DD] at hI
  obtain ⟨i33,i74,i17,i84,i32,i31,i30,i72,i18,i16,i73⟩:=hI
  exact ⟨⟨i73,i16,i17,i18,i72⟩,⟨i73,i30,i33,i31⟩,i32,by omega,Bool.eq_iff_iff.2 i84⟩
end U
