-- the statement of this claim: see YtoamgocecoiggaaDoorRs
import Derived.Test.YtoamgocecoiggaaDoorM28
set_option linter.unusedVariables false
set_option linter.unusedSimpArgs false
set_option maxRecDepth 100000
noncomputable section
open Go Go.SM Go.Proofs
namespace U
abbrev aPL:List TB:=[(.lt (v 76) (v 75)),(.lit true)]
abbrev av4:=.lt (v 76) (lb 3)::aPL
abbrev aUH:=.eq (sb 3 (v 76)) 32::av4
abbrev aXI:=nl 1536 (v 76+1)::aUH
abbrev aWI:=nl (v 8+N 1) 0::aXI
abbrev aXW:=nl 4194303 (v 77+1)::aWI
abbrev aV1:=nq (sb 3 (v 76)) 32::av4
abbrev aYP:=.eq (sb 3 (v 76)) 9::aV1
abbrev aYB:=nl 1536 (v 76+1)::aYP
abbrev aVG:=nl (v 8+N 1) 0::aYB
abbrev aI3:=nl 4194303 (v 77+1)::aVG
abbrev aIH:=nq (sb 3 (v 76)) 9::aV1
abbrev aLX:=.eq (.op .and (sb 3 (v 76)) 128) 0::aIH
abbrev aGW:=nl 1536 (v 76+1)::aLX
abbrev aEP:=nl (v 8+N 1) 0::aGW
abbrev azO:=nl 4194303 (v 77+1)::aEP
abbrev ay5:=nq (.op .and (sb 3 (v 76)) 128) 0::aIH
abbrev azZ:=.eq (.op .and (sb 3 (v 76)) 224) 192::ay5
abbrev aIO:=nl 1536 (v 76+2)::azZ
abbrev aEK:=nl (v 8+N 1) 0::aIO
abbrev ax2:=nl 4194303 (v 77+1)::aEK
abbrev aJM:=nq (.op .and (sb 3 (v 76)) 224) 192::ay5
abbrev aMN:=.eq (.op .and (sb 3 (v 76)) 240) 224::aJM
abbrev aD2:=nl 1536 (v 76+3)::aMN
abbrev aHC:=nl (v 8+N 1) 0::aD2
abbrev aIF:=nl 4194303 (v 77+1)::aHC
abbrev azD:=nq (.op .and (sb 3 (v 76)) 240) 224::aJM
abbrev aI7:=.eq (.op .and (sb 3 (v 76)) 248) 240::azD
abbrev aHE:=nl 1536 (v 76+4)::aI7
abbrev aKR:=nl (v 8+N 1) 0::aHE
abbrev aEO:=nl 4194303 (v 77+1)::aKR
abbrev ayE:=nq (.op .and (sb 3 (v 76)) 248) 240::azD
abbrev aES:=nl (v 8+N 1) 0::ayE
abbrev aJY:=nl 4194303 (v 77+1)::aES
abbrev atK:SgT:=im 75::bm 1::(ids (dn 35 16)++[bm 0,bm 73])
abbrev aOF:SgT:=(8,.itm (v 8+N 1))::(76,.itm (v 76+1))::atK
abbrev aXR:SgT:=bm 74::lm 3::(ids (dn 71 6++dn 64 18)++((78,.itm (v 78+1))::im 45::(77,.itm (v 77+1))::(ids (dn 43 4)++(im 39::aOF))))
abbrev aR7:SgT:=(76,.itm (v 76+2))::atK
abbrev aUA:SgT:=(8,.itm (v 8+N 1))::aR7
abbrev aYX:SgT:=(8,.itm (v 8+N 1))::(76,.itm (v 76+3))::atK
abbrev aR4:SgT:=im 76::atK
def cI:Tre:=(nd 90 [(.lit true)] ((.lt (v 76) (v 75)))
 (nd 90 aPL ((.lt (v 76) (lb 3)))
 (.fork (nd 90 aUH ((nl 1536 (v 76+1)))
 (nd 90 aXI ((nl (v 8+N 1) 0))
 (nd 90 aWI ((nl 4194303 (v 77+1)))
 (nd 90 aXW ((nl 4194303 (v 78+1)))
 (.leaf 0 90 90 (rgs (ES 36 v9 (fun _=>none)).n tS0) (SgT.enc aXR) (List.map TB.enc ((nl 4194303 (v 78+1))::aXW)))))))
 (.fork (nd 90 aYP ((nl 1536 (v 76+1)))
 (nd 90 aYB ((nl (v 8+N 1) 0))
 (nd 90 aVG ((nl 4194303 (v 77+1)))
 (nd 90 aI3 ((nl 4194303 (v 78+1)))
 (.leaf 0 90 90 (rgs (ES 36 v9 (fun _=>none)).n tS0) (SgT.enc aXR) (List.map TB.enc ((nl 4194303 (v 78+1))::aI3)))))))
 (.fork (nd 90 aLX ((nl 1536 (v 76+1)))
 (nd 90 aGW ((nl (v 8+N 1) 0))
 (nd 90 aEP ((nl 4194303 (v 77+1)))
 (nd 90 azO ((nl 4194303 (v 78+1)))
 (.leaf 0 90 90 (rgs (ES 36 v9 (fun _=>none)).n tS0) (SgT.enc (bm 74::lm 3::(ids (dn 71 6++dn 64 18)++((78,.itm (v 78+1))::im 45::(77,.itm (v 77+1))::(ids (dn 43 4)++(ik 39 0::aOF)))))) (List.map TB.enc ((nl 4194303 (v 78+1))::azO)))))))
 (.fork (nd 90 azZ ((nl 1536 (v 76+2)))
 (nd 90 aIO ((nl (v 8+N 1) 0))
 (nd 90 aEK ((nl 4194303 (v 77+1)))
 (nd 90 ax2 ((nl 4194303 (v 78+1)))
 (.leaf 0 90 90 (rgs (ES 36 v9 (fun _=>none)).n tS0) (SgT.enc (bm 74::lm 3::(ids (dn 71 6++dn 64 18)++((78,.itm (v 78+1))::im 45::(77,.itm (v 77+1))::(ids (dn 43 4)++(ik 39 0::aUA)))))) (List.map TB.enc ((nl 4194303 (v 78+1))::ax2)))))))
 (.fork (nd 90 aMN ((nl 1536 (v 76+3)))
 (nd 90 aD2 ((nl (v 8+N 1) 0))
 (nd 90 aHC ((nl 4194303 (v 77+1)))
 (nd 90 aIF ((nl 4194303 (v 78+1)))
 (.leaf 0 90 90 (rgs (ES 36 v9 (fun _=>none)).n tS0) (SgT.enc (bm 74::lm 3::(ids (dn 71 6++dn 64 18)++((78,.itm (v 78+1))::im 45::(77,.itm (v 77+1))::(ids (dn 43 4)++(ik 39 0::aYX)))))) (List.map TB.enc ((nl 4194303 (v 78+1))::aIF)))))))
 (.fork (nd 90 aI7 ((nl 1536 (v 76+4)))
 (nd 90 aHE ((nl (v 8+N 1) 0))
 (nd 90 aKR ((nl 4194303 (v 77+1)))
 (nd 90 aEO ((nl 4194303 (v 78+1)))
 (.leaf 0 90 90 (rgs (ES 36 v9 (fun _=>none)).n tS0) (SgT.enc (bm 74::lm 3::(ids (dn 71 6++dn 64 18)++((78,.itm (v 78+1))::im 45::(77,.itm (v 77+1))::(ids (dn 43 4)++(ik 39 0::(8,.itm (v 8+N 1))::(76,.itm (v 76+4))::atK)))))) (List.map TB.enc ((nl 4194303 (v 78+1))::aEO)))))))
 (nd 90 ayE ((nl (v 8+N 1) 0))
 (nd 90 aES ((nl 4194303 (v 77+1)))
 (nd 90 aJY ((nl 4194303 (v 78+1)))
 (.leaf 0 90 90 (rgs (ES 36 v9 (fun _=>none)).n tS0) (SgT.enc (bm 74::lm 3::(ids (dn 71 6++dn 64 18)++((78,.itm (v 78+1))::im 45::(77,.itm (v 77+1))::(ids (dn 43 4)++(ik 39 0::(8,.itm (v 8+N 1))::aR4)))))) (List.map TB.enc ((nl 4194303 (v 78+1))::aJY))))))))))))))
theorem ae0:aKK=cI:=by kernel_rfl
abbrev aEB:=.eq (sb 3 (v 76)) 13::av4
abbrev azV:=.lt (v 76+1) (v 75)::aEB
abbrev azR:=.lt (v 76+1) (lb 3)::azV
abbrev aGV:=.eq (sb 3 (v 76+1)) 10::azR
abbrev aIM:=nl 1536 (v 76+2)::aGV
abbrev aM4:=nl (v 8+N 2) 0::aIM
abbrev aMB:=nl 8000000 (v 39+1)::aM4
abbrev aBF:=nl 4194303 (v 77+2)::aMB
abbrev aGT:=nq (sb 3 (v 76+1)) 10::azR
abbrev aEF:=nl 1536 (v 76+1)::aGT
abbrev aDF:=nl (v 8+N 1) 0::aEF
abbrev aC3:=nl 8000000 (v 39+1)::aDF
abbrev aJ9:=nl 4194303 (v 77+1)::aC3
abbrev aH8:=nq (sb 3 (v 76)) 13::av4
abbrev aFR:=.eq (sb 3 (v 76)) 10::aH8
abbrev aLB:=nl 1536 (v 76+1)::aFR
abbrev aGJ:=nl (v 8+N 1) 0::aLB
abbrev aIS:=nl 8000000 (v 39+1)::aGJ
abbrev aMF:=nl 4194303 (v 77+1)::aIS
abbrev aEI:=nq (sb 3 (v 76)) 10::aH8
abbrev ay0:=.eq (sb 3 (v 76)) 194::aEI
abbrev aE8:=.lt (v 76+1) (v 75)::ay0
abbrev aD3:=.lt (v 76+1) (lb 3)::aE8
abbrev az9:=.eq (sb 3 (v 76+1)) 133::aD3
abbrev aLH:=nl 1536 (v 76+2)::az9
abbrev aDN:=nl (v 8+N 1) 0::aLH
abbrev aIT:=nl 8000000 (v 39+1)::aDN
abbrev aDC:=nl 4194303 (v 77+1)::aIT
abbrev aEC:=nq (sb 3 (v 76)) 194::aEI
abbrev aL3:=.eq (sb 3 (v 76)) 226::aEC
abbrev aJN:=.lt (v 76+1) (v 75)::aL3
abbrev aKF:=.lt (v 76+1) (lb 3)::aJN
abbrev axO:=.eq (sb 3 (v 76+1)) 128::aKF
abbrev aED:=.lt (v 76+2) (v 75)::axO
abbrev aFJ:=.lt (v 76+2) (lb 3)::aED
abbrev ayF:=.eq (sb 3 (v 76+2)) 168::aFJ
abbrev aCO:=nl 1536 (v 76+3)::ayF
abbrev aIC:=nl (v 8+N 1) 0::aCO
abbrev aKA:=nl 8000000 (v 39+1)::aIC
abbrev aIK:=nl 4194303 (v 77+1)::aKA
abbrev aH5:=nq (sb 3 (v 76+2)) 168::aFJ
abbrev aHY:=.eq (sb 3 (v 76+2)) 169::aH5
abbrev aD6:=nl 1536 (v 76+3)::aHY
abbrev aG7:=nl (v 8+N 1) 0::aD6
abbrev aGH:=nl 8000000 (v 39+1)::aG7
abbrev az1:=nl 4194303 (v 77+1)::aGH
abbrev aW4:SgT:=bm 74::lm 3::(ids (dn 71 6++dn 64 18)++(ik 78 0::(45,.itm (v 45+1))::(77,.itm (v 77+1))::(ids (dn 43 4)++((39,.itm (v 39+1))::aOF))))
abbrev awC:SgT:=bm 74::lm 3::(ids (dn 71 6++dn 64 18)++(im 78::im 45::im 77::(ids (dn 43 4)++(im 39::im 8::aR4))))
abbrev aYQ:SgT:=bm 74::lm 3::(ids (dn 71 6++dn 64 18)++(ik 78 0::(45,.itm (v 45+1))::(77,.itm (v 77+1))::(ids (dn 43 4)++((39,.itm (v 39+1))::aYX))))
def cX:Tre:=(nd 90 [(.lit true)] ((.lt (v 76) (v 75)))
 (nd 90 aPL ((.lt (v 76) (lb 3)))
 (.fork (nd 90 aEB ((.lt (v 76+1) (v 75)))
 (nd 90 azV ((.lt (v 76+1) (lb 3)))
 (.fork (nd 90 aGV ((nl 1536 (v 76+2)))
 (nd 90 aIM ((nl (v 8+N 2) 0))
 (nd 90 aM4 ((nl 8000000 (v 39+1)))
 (nd 90 aMB ((nl 4194303 (v 77+2)))
 (nd 90 aBF ((nl 4194303 (v 45+1)))
 (.leaf 0 90 90 (rgs (ES 37 v9 (fun _=>none)).n tS0) (SgT.enc (bm 74::lm 3::(ids (dn 71 6++dn 64 18)++(ik 78 0::(45,.itm (v 45+1))::(77,.itm (v 77+2))::(ids (dn 43 4)++((39,.itm (v 39+1))::(8,.itm (v 8+N 2))::aR7)))))) (List.map TB.enc ((nl 4194303 (v 45+1))::aBF))))))))
 (nd 90 aGT ((nl 1536 (v 76+1)))
 (nd 90 aEF ((nl (v 8+N 1) 0))
 (nd 90 aDF ((nl 8000000 (v 39+1)))
 (nd 90 aC3 ((nl 4194303 (v 77+1)))
 (nd 90 aJ9 ((nl 4194303 (v 45+1)))
 (.leaf 0 90 90 (rgs (ES 37 v9 (fun _=>none)).n tS0) (SgT.enc aW4) (List.map TB.enc ((nl 4194303 (v 45+1))::aJ9)))))))))))
 (.fork (nd 90 aFR ((nl 1536 (v 76+1)))
 (nd 90 aLB ((nl (v 8+N 1) 0))
 (nd 90 aGJ ((nl 8000000 (v 39+1)))
 (nd 90 aIS ((nl 4194303 (v 77+1)))
 (nd 90 aMF ((nl 4194303 (v 45+1)))
 (.leaf 0 90 90 (rgs (ES 37 v9 (fun _=>none)).n tS0) (SgT.enc aW4) (List.map TB.enc ((nl 4194303 (v 45+1))::aMF))))))))
 (.fork (nd 90 ay0 ((.lt (v 76+1) (v 75)))
 (nd 90 aE8 ((.lt (v 76+1) (lb 3)))
 (.fork (nd 90 az9 ((nl 1536 (v 76+2)))
 (nd 90 aLH ((nl (v 8+N 1) 0))
 (nd 90 aDN ((nl 8000000 (v 39+1)))
 (nd 90 aIT ((nl 4194303 (v 77+1)))
 (nd 90 aDC ((nl 4194303 (v 45+1)))
 (.leaf 0 90 90 (rgs (ES 37 v9 (fun _=>none)).n tS0) (SgT.enc (bm 74::lm 3::(ids (dn 71 6++dn 64 18)++(ik 78 0::(45,.itm (v 45+1))::(77,.itm (v 77+1))::(ids (dn 43 4)++((39,.itm (v 39+1))::aUA)))))) (List.map TB.enc ((nl 4194303 (v 45+1))::aDC))))))))
 (.leaf 0 90 90 (rgs (ES 37 v9 (fun _=>none)).n tS0) (SgT.enc awC) (List.map TB.enc ((nq (sb 3 (v 76+1)) 133)::aD3))))))
 (.fork (nd 90 aL3 ((.lt (v 76+1) (v 75)))
 (nd 90 aJN ((.lt (v 76+1) (lb 3)))
 (.fork (nd 90 axO ((.lt (v 76+2) (v 75)))
 (nd 90 aED ((.lt (v 76+2) (lb 3)))
 (.fork (nd 90 ayF ((nl 1536 (v 76+3)))
 (nd 90 aCO ((nl (v 8+N 1) 0))
 (nd 90 aIC ((nl 8000000 (v 39+1)))
 (nd 90 aKA ((nl 4194303 (v 77+1)))
 (nd 90 aIK ((nl 4194303 (v 45+1)))
 (.leaf 0 90 90 (rgs (ES 37 v9 (fun _=>none)).n tS0) (SgT.enc aYQ) (List.map TB.enc ((nl 4194303 (v 45+1))::aIK))))))))
 (.fork (nd 90 aHY ((nl 1536 (v 76+3)))
 (nd 90 aD6 ((nl (v 8+N 1) 0))
 (nd 90 aG7 ((nl 8000000 (v 39+1)))
 (nd 90 aGH ((nl 4194303 (v 77+1)))
 (nd 90 az1 ((nl 4194303 (v 45+1)))
 (.leaf 0 90 90 (rgs (ES 37 v9 (fun _=>none)).n tS0) (SgT.enc aYQ) (List.map TB.enc ((nl 4194303 (v 45+1))::az1))))))))
 (.leaf 0 90 90 (rgs (ES 37 v9 (fun _=>none)).n tS0) (SgT.enc awC) (List.map TB.enc ((nq (sb 3 (v 76+2)) 169)::aH5)))))))
 (.leaf 0 90 90 (rgs (ES 37 v9 (fun _=>none)).n tS0) (SgT.enc awC) (List.map TB.enc ((nq (sb 3 (v 76+1)) 128)::aKF))))))
 (.leaf 0 90 90 (rgs (ES 37 v9 (fun _=>none)).n tS0) (SgT.enc awC) (List.map TB.enc ((nq (sb 3 (v 76)) 226)::aEC)))))))))
theorem abM:azS=cX:=by kernel_rfl
theorem asQ{V:Ren}(p:KS V):cI.Holds (G0J wL V) V:=by
 unfold cI;have hβ:=p.n.1;have p1:=p.buf;have p2:=p.i75;have p3:=p.i76;have p4:=p.w;have p5:=p.le;have p6:=p.un;have p7:=p.i8;have p8:=p.ix;have p9:=p.co;have q1:=p.ln;have q2:=p.nl;refine (nO hβ ?_ (nO hβ ?_ (fO (nO hβ ?_ (nO hβ ?_ (nO hβ ?_ (nO hβ ?_ (lO opS hβ ?_))))) (fO (nO hβ ?_ (nO hβ ?_ (nO hβ ?_ (nO hβ ?_ (lO opS hβ ?_))))) (fO (nO hβ ?_ (nO hβ ?_ (nO hβ ?_ (nO hβ ?_ (lO opS hβ ?_))))) (fO (nO hβ ?_ (nO hβ ?_ (nO hβ ?_ (nO hβ ?_ (lO opS hβ ?_))))) (fO (nO hβ ?_ (nO hβ ?_ (nO hβ ?_ (nO hβ ?_ (lO opS hβ ?_))))) (fO (nO hβ ?_ (nO hβ ?_ (nO hβ ?_ (nO hβ ?_ (lO opS hβ ?_))))) (nO hβ ?_ (nO hβ ?_ (nO hβ ?_ (lO opS hβ ?_))))))))))))
 .intro hA;clear hA;simp only[DD];try simp only[bk0,bkk]at *
  omega
 .intro hA;simp only[DD]at hA ⊢;try simp only[bk0,bkk]at *
  omega
 .intro hA;simp only[DD]at hA ⊢;obtain⟨a0,a1,a2⟩:=hA;try simp only[bk0,bkk]at *
  have hw:wd (bk V 0)=1:=by rw[a0];exact aaH
  omega
 .intro hA;simp only[DD]at hA ⊢;obtain⟨a0,a1,a2,a3⟩:=hA;try simp only[bk0,bkk]at *
  have hw:wd (bk V 0)=1:=by rw[a1];exact aaH
  omega
 .intro hA;simp only[DD]at hA ⊢;obtain⟨a0,a1,a2,a3,a4⟩:=hA;try simp only[bk0,bkk]at *
  have hw:wd (bk V 0)=1:=by rw[a2];exact aaH
  omega
 .intro hA;simp only[DD]at hA ⊢;obtain⟨a0,a1,a2,a3,a4,a5⟩:=hA;try simp only[bk0,bkk]at *
  have hw:wd (bk V 0)=1:=by rw[a3];exact aaH
  omega
 .intro J0 hl0 hA hr0 hid0 hI;simp only[DD]at hA hI;obtain⟨a0,a1,a2,a3,a4,a5,a6⟩:=hA;obtain⟨i74,i3,_,_,_,_,_,_,i75,i1,i0,i73⟩:=hI;try simp only[bk0,bkk]at *
  have hw:wd (bk V 0)=1:=by rw[a4];exact aaH
  exact⟨⟨i0,i1,i73,i74,i3,i75,hid0⟩,by omega,by omega,by omega,by omega,by omega,by omega⟩
 .intro hA;simp only[DD]at hA ⊢;obtain⟨a0,a1,a2,a3⟩:=hA;try simp only[bk0,bkk]at *
  have hw:wd (bk V 0)=1:=by rw[a0];exact alI
  omega
 .intro hA;simp only[DD]at hA ⊢;obtain⟨a0,a1,a2,a3,a4⟩:=hA;try simp only[bk0,bkk]at *
  have hw:wd (bk V 0)=1:=by rw[a1];exact alI
  omega
 .intro hA;simp only[DD]at hA ⊢;obtain⟨a0,a1,a2,a3,a4,a5⟩:=hA;try simp only[bk0,bkk]at *
  have hw:wd (bk V 0)=1:=by rw[a2];exact alI
  omega
 .intro hA;simp only[DD]at hA ⊢;obtain⟨a0,a1,a2,a3,a4,a5,a6⟩:=hA;try simp only[bk0,bkk]at *
  have hw:wd (bk V 0)=1:=by rw[a3];exact alI
  omega
 .intro J0 hl0 hA hr0 hid0 hI;simp only[DD]at hA hI;obtain⟨a0,a1,a2,a3,a4,a5,a6,a7⟩:=hA;obtain⟨i74,i3,_,_,_,_,_,_,i75,i1,i0,i73⟩:=hI;try simp only[bk0,bkk]at *
  have hw:wd (bk V 0)=1:=by rw[a4];exact alI
  exact⟨⟨i0,i1,i73,i74,i3,i75,hid0⟩,by omega,by omega,by omega,by omega,by omega,by omega⟩
 .intro hA;simp only[DD]at hA ⊢;obtain⟨a0,a1,a2,a3,a4⟩:=hA;try simp only[bk0,bkk]at *
  have hw:=wd1 a0;omega
 .intro hA;simp only[DD]at hA ⊢;obtain⟨a0,a1,a2,a3,a4,a5⟩:=hA;try simp only[bk0,bkk]at *
  have hw:=wd1 a1;omega
 .intro hA;simp only[DD]at hA ⊢;obtain⟨a0,a1,a2,a3,a4,a5,a6⟩:=hA;try simp only[bk0,bkk]at *
  have hw:=wd1 a2;omega
 .intro hA;simp only[DD]at hA ⊢;obtain⟨a0,a1,a2,a3,a4,a5,a6,a7⟩:=hA;try simp only[bk0,bkk]at *
  have hw:=wd1 a3;omega
 .intro J0 hl0 hA hr0 hid0 hI;simp only[DD]at hA hI;obtain⟨a0,a1,a2,a3,a4,a5,a6,a7,a8⟩:=hA;obtain⟨i74,i3,_,_,_,_,_,_,i75,i1,i0,i73⟩:=hI;try simp only[bk0,bkk]at *
  have hw:=wd1 a4;exact⟨⟨i0,i1,i73,i74,i3,i75,hid0⟩,by omega,by omega,by omega,by omega,by omega,by omega⟩
 .intro hA;simp only[DD]at hA ⊢;obtain⟨a0,a1,a2,a3,a4,a5⟩:=hA;try simp only[bk0,bkk]at *
  have hw:=wd2 a1 a0;omega
 .intro hA;simp only[DD]at hA ⊢;obtain⟨a0,a1,a2,a3,a4,a5,a6⟩:=hA;try simp only[bk0,bkk]at *
  have hw:=wd2 a2 a1;omega
 .intro hA;simp only[DD]at hA ⊢;obtain⟨a0,a1,a2,a3,a4,a5,a6,a7⟩:=hA;try simp only[bk0,bkk]at *
  have hw:=wd2 a3 a2;omega
 .intro hA;simp only[DD]at hA ⊢;obtain⟨a0,a1,a2,a3,a4,a5,a6,a7,a8⟩:=hA;try simp only[bk0,bkk]at *
  have hw:=wd2 a4 a3;omega
 .intro J0 hl0 hA hr0 hid0 hI;simp only[DD]at hA hI;obtain⟨a0,a1,a2,a3,a4,a5,a6,a7,a8,a9⟩:=hA;obtain⟨i74,i3,_,_,_,_,_,_,i75,i1,i0,i73⟩:=hI;try simp only[bk0,bkk]at *
  have hw:=wd2 a5 a4;exact⟨⟨i0,i1,i73,i74,i3,i75,hid0⟩,by omega,by omega,by omega,by omega,by omega,by omega⟩
 .intro hA;simp only[DD]at hA ⊢;obtain⟨a0,a1,a2,a3,a4,a5,a6⟩:=hA;try simp only[bk0,bkk]at *
  have hw:=wd3 a2 a1 a0;omega
 .intro hA;simp only[DD]at hA ⊢;obtain⟨a0,a1,a2,a3,a4,a5,a6,a7⟩:=hA;try simp only[bk0,bkk]at *
  have hw:=wd3 a3 a2 a1;omega
 .intro hA;simp only[DD]at hA ⊢;obtain⟨a0,a1,a2,a3,a4,a5,a6,a7,a8⟩:=hA;try simp only[bk0,bkk]at *
  have hw:=wd3 a4 a3 a2;omega
 .intro hA;simp only[DD]at hA ⊢;obtain⟨a0,a1,a2,a3,a4,a5,a6,a7,a8,a9⟩:=hA;try simp only[bk0,bkk]at *
  have hw:=wd3 a5 a4 a3;omega
 .intro J0 hl0 hA hr0 hid0 hI;simp only[DD]at hA hI;obtain⟨a0,a1,a2,a3,a4,a5,a6,a7,a8,a9,a10⟩:=hA;obtain⟨i74,i3,_,_,_,_,_,_,i75,i1,i0,i73⟩:=hI;try simp only[bk0,bkk]at *
  have hw:=wd3 a6 a5 a4;exact⟨⟨i0,i1,i73,i74,i3,i75,hid0⟩,by omega,by omega,by omega,by omega,by omega,by omega⟩
 .intro hA;simp only[DD]at hA ⊢;obtain⟨a0,a1,a2,a3,a4,a5,a6,a7⟩:=hA;try simp only[bk0,bkk]at *
  have hw:=wd4 a3 a2 a1 a0;omega
 .intro hA;simp only[DD]at hA ⊢;obtain⟨a0,a1,a2,a3,a4,a5,a6,a7,a8⟩:=hA;try simp only[bk0,bkk]at *
  have hw:=wd4 a4 a3 a2 a1;omega
 .intro hA;simp only[DD]at hA ⊢;obtain⟨a0,a1,a2,a3,a4,a5,a6,a7,a8,a9⟩:=hA;try simp only[bk0,bkk]at *
  have hw:=wd4 a5 a4 a3 a2;omega
 .intro hA;simp only[DD]at hA ⊢;obtain⟨a0,a1,a2,a3,a4,a5,a6,a7,a8,a9,a10⟩:=hA;try simp only[bk0,bkk]at *
  have hw:=wd4 a6 a5 a4 a3;omega
 .intro J0 hl0 hA hr0 hid0 hI;simp only[DD]at hA hI;obtain⟨a0,a1,a2,a3,a4,a5,a6,a7,a8,a9,a10,a11⟩:=hA;obtain⟨i74,i3,_,_,_,_,_,_,i75,i1,i0,i73⟩:=hI;try simp only[bk0,bkk]at *
  have hw:=wd4 a7 a6 a5 a4;exact⟨⟨i0,i1,i73,i74,i3,i75,hid0⟩,by omega,by omega,by omega,by omega,by omega,by omega⟩
 .intro hA;simp only[DD]at hA ⊢;obtain⟨a0,a1,a2,a3,a4,a5,a6,a7⟩:=hA;try simp only[bk0,bkk]at *
  have hw:=awJ a3 a2 a1 a0;omega
 .intro hA;simp only[DD]at hA ⊢;obtain⟨a0,a1,a2,a3,a4,a5,a6,a7,a8⟩:=hA;try simp only[bk0,bkk]at *
  have hw:=awJ a4 a3 a2 a1;omega
 .intro hA;simp only[DD]at hA ⊢;obtain⟨a0,a1,a2,a3,a4,a5,a6,a7,a8,a9⟩:=hA;try simp only[bk0,bkk]at *
  have hw:=awJ a5 a4 a3 a2;omega
 .intro J0 hl0 hA hr0 hid0 hI;simp only[DD]at hA hI;obtain⟨a0,a1,a2,a3,a4,a5,a6,a7,a8,a9,a10⟩:=hA;try simp only[bk0,bkk]at *
  have hw:=awJ a6 a5 a4 a3;omega
theorem alG{V:Ren}(p:KS V):cX.Holds (G0J qK V) V:=by
 unfold cX;have hβ:=p.n.1;have p1:=p.buf;have p2:=p.i75;have p3:=p.i76;have p4:=p.w;have p5:=p.le;have p6:=p.un;have p7:=p.i8;have p8:=p.ix;have p9:=p.co;have q1:=p.ln;have q2:=p.nl;refine (nO hβ ?_ (nO hβ ?_ (fO (nO hβ ?_ (nO hβ ?_ (fO (nO hβ ?_ (nO hβ ?_ (nO hβ ?_ (nO hβ ?_ (nO hβ ?_ (lO opS hβ ?_)))))) (nO hβ ?_ (nO hβ ?_ (nO hβ ?_ (nO hβ ?_ (nO hβ ?_ (lO opS hβ ?_))))))))) (fO (nO hβ ?_ (nO hβ ?_ (nO hβ ?_ (nO hβ ?_ (nO hβ ?_ (lO opS hβ ?_)))))) (fO (nO hβ ?_ (nO hβ ?_ (fO (nO hβ ?_ (nO hβ ?_ (nO hβ ?_ (nO hβ ?_ (nO hβ ?_ (lO opS hβ ?_)))))) (lO opS hβ ?_)))) (fO (nO hβ ?_ (nO hβ ?_ (fO (nO hβ ?_ (nO hβ ?_ (fO (nO hβ ?_ (nO hβ ?_ (nO hβ ?_ (nO hβ ?_ (nO hβ ?_ (lO opS hβ ?_)))))) (fO (nO hβ ?_ (nO hβ ?_ (nO hβ ?_ (nO hβ ?_ (nO hβ ?_ (lO opS hβ ?_)))))) (lO opS hβ ?_))))) (lO opS hβ ?_)))) (lO opS hβ ?_)))))))
 .intro hA;clear hA;simp only[DD];try simp only[bk0,bkk]at *
  omega
 .intro hA;simp only[DD]at hA ⊢;try simp only[bk0,bkk]at *
  omega
 .intro hA;simp only[DD]at hA ⊢;obtain⟨a0,a1,a2⟩:=hA;try simp only[bk0,bkk]at *
  have hw:wd (bk V 0)=1:=by rw[a0];exact yI
  have la:=p.la a0;omega
 .intro hA;simp only[DD]at hA ⊢;obtain⟨a0,a1,a2,a3⟩:=hA;try simp only[bk0,bkk]at *
  have hw:wd (bk V 0)=1:=by rw[a1];exact yI
  have la:=p.la a1;omega
 .intro hA;simp only[DD]at hA ⊢;obtain⟨a0,a1,a2,a3,a4,a5⟩:=hA;try simp only[bk0,bkk]at *
  have hw:wd (bk V 0)=1:=by rw[a3];exact yI
  have la:=p.la a3;have u2:=p.u2 a3 a0;omega
 .intro hA;simp only[DD]at hA ⊢;obtain⟨a0,a1,a2,a3,a4,a5,a6⟩:=hA;try simp only[bk0,bkk]at *
  have hw:wd (bk V 0)=1:=by rw[a4];exact yI
  have la:=p.la a4;have u2:=p.u2 a4 a1;omega
 .intro hA;simp only[DD]at hA ⊢;obtain⟨a0,a1,a2,a3,a4,a5,a6,a7⟩:=hA;try simp only[bk0,bkk]at *
  have hw:wd (bk V 0)=1:=by rw[a5];exact yI
  have la:=p.la a5;have u2:=p.u2 a5 a2;omega
 .intro hA;simp only[DD]at hA ⊢;obtain⟨a0,a1,a2,a3,a4,a5,a6,a7,a8⟩:=hA;try simp only[bk0,bkk]at *
  have hw:wd (bk V 0)=1:=by rw[a6];exact yI
  have la:=p.la a6;have u2:=p.u2 a6 a3;omega
 .intro hA;simp only[DD]at hA ⊢;obtain⟨a0,a1,a2,a3,a4,a5,a6,a7,a8,a9⟩:=hA;try simp only[bk0,bkk]at *
  have hw:wd (bk V 0)=1:=by rw[a7];exact yI
  have la:=p.la a7;have u2:=p.u2 a7 a4;omega
 .intro J0 hl0 hA hr0 hid0 hI;simp only[DD]at hA hI;obtain⟨a0,a1,a2,a3,a4,a5,a6,a7,a8,a9,a10⟩:=hA;obtain⟨i74,i3,_,_,_,_,_,_,i75,i1,i0,i73⟩:=hI;try simp only[bk0,bkk]at *
  have hw:wd (bk V 0)=1:=by rw[a8];exact yI
  have la:=p.la a8;have u2:=p.u2 a8 a5;exact .inl ⟨a8,a5,⟨⟨i0,i1,i73,i74,i3,i75,hid0⟩,by omega,by omega,by omega,by omega,by omega,by omega⟩⟩
 .intro hA;simp only[DD]at hA ⊢;obtain⟨a0,a1,a2,a3,a4,a5⟩:=hA;try simp only[bk0,bkk]at *
  have hw:wd (bk V 0)=1:=by rw[a3];exact yI
  have la:=p.la a3;omega
 .intro hA;simp only[DD]at hA ⊢;obtain⟨a0,a1,a2,a3,a4,a5,a6⟩:=hA;try simp only[bk0,bkk]at *
  have hw:wd (bk V 0)=1:=by rw[a4];exact yI
  have la:=p.la a4;omega
 .intro hA;simp only[DD]at hA ⊢;obtain⟨a0,a1,a2,a3,a4,a5,a6,a7⟩:=hA;try simp only[bk0,bkk]at *
  have hw:wd (bk V 0)=1:=by rw[a5];exact yI
  have la:=p.la a5;omega
 .intro hA;simp only[DD]at hA ⊢;obtain⟨a0,a1,a2,a3,a4,a5,a6,a7,a8⟩:=hA;try simp only[bk0,bkk]at *
  have hw:wd (bk V 0)=1:=by rw[a6];exact yI
  have la:=p.la a6;omega
 .intro hA;simp only[DD]at hA ⊢;obtain⟨a0,a1,a2,a3,a4,a5,a6,a7,a8,a9⟩:=hA;try simp only[bk0,bkk]at *
  have hw:wd (bk V 0)=1:=by rw[a7];exact yI
  have la:=p.la a7;omega
 .intro J0 hl0 hA hr0 hid0 hI;simp only[DD]at hA hI;obtain⟨a0,a1,a2,a3,a4,a5,a6,a7,a8,a9,a10⟩:=hA;obtain⟨i74,i3,_,_,_,_,_,_,i75,i1,i0,i73⟩:=hI;try simp only[bk0,bkk]at *
  have hw:wd (bk V 0)=1:=by rw[a8];exact yI
  have la:=p.la a8;exact .inr (.inl ⟨a8,a5,⟨⟨i0,i1,i73,i74,i3,i75,hid0⟩,by omega,by omega,by omega,by omega,by omega,by omega⟩⟩)
 .intro hA;simp only[DD]at hA ⊢;obtain⟨a0,a1,a2,a3⟩:=hA;try simp only[bk0,bkk]at *
  have hw:wd (bk V 0)=1:=by rw[a0];exact vI
  omega
 .intro hA;simp only[DD]at hA ⊢;obtain⟨a0,a1,a2,a3,a4⟩:=hA;try simp only[bk0,bkk]at *
  have hw:wd (bk V 0)=1:=by rw[a1];exact vI
  omega
 .intro hA;simp only[DD]at hA ⊢;obtain⟨a0,a1,a2,a3,a4,a5⟩:=hA;try simp only[bk0,bkk]at *
  have hw:wd (bk V 0)=1:=by rw[a2];exact vI
  omega
 .intro hA;simp only[DD]at hA ⊢;obtain⟨a0,a1,a2,a3,a4,a5,a6⟩:=hA;try simp only[bk0,bkk]at *
  have hw:wd (bk V 0)=1:=by rw[a3];exact vI
  omega
 .intro hA;simp only[DD]at hA ⊢;obtain⟨a0,a1,a2,a3,a4,a5,a6,a7⟩:=hA;try simp only[bk0,bkk]at *
  have hw:wd (bk V 0)=1:=by rw[a4];exact vI
  omega
 .intro J0 hl0 hA hr0 hid0 hI;simp only[DD]at hA hI;obtain⟨a0,a1,a2,a3,a4,a5,a6,a7,a8⟩:=hA;obtain⟨i74,i3,_,_,_,_,_,_,i75,i1,i0,i73⟩:=hI;try simp only[bk0,bkk]at *
  have hw:wd (bk V 0)=1:=by rw[a5];exact vI
  exact .inr (.inr (.inl ⟨a5,⟨⟨i0,i1,i73,i74,i3,i75,hid0⟩,by omega,by omega,by omega,by omega,by omega,by omega⟩⟩))
 .intro hA;simp only[DD]at hA ⊢;obtain⟨a0,a1,a2,a3,a4⟩:=hA;try simp only[bk0,bkk]at *
  have hw:wd (bk V 0)=2:=by rw[a0];exact vL
  omega
 .intro hA;simp only[DD]at hA ⊢;obtain⟨a0,a1,a2,a3,a4,a5⟩:=hA;try simp only[bk0,bkk]at *
  have hw:wd (bk V 0)=2:=by rw[a1];exact vL
  omega
 .intro hA;simp only[DD]at hA ⊢;obtain⟨a0,a1,a2,a3,a4,a5,a6,a7⟩:=hA;try simp only[bk0,bkk]at *
  have hw:wd (bk V 0)=2:=by rw[a3];exact vL
  omega
 .intro hA;simp only[DD]at hA ⊢;obtain⟨a0,a1,a2,a3,a4,a5,a6,a7,a8⟩:=hA;try simp only[bk0,bkk]at *
  have hw:wd (bk V 0)=2:=by rw[a4];exact vL
  omega
 .intro hA;simp only[DD]at hA ⊢;obtain⟨a0,a1,a2,a3,a4,a5,a6,a7,a8,a9⟩:=hA;try simp only[bk0,bkk]at *
  have hw:wd (bk V 0)=2:=by rw[a5];exact vL
  omega
 .intro hA;simp only[DD]at hA ⊢;obtain⟨a0,a1,a2,a3,a4,a5,a6,a7,a8,a9,a10⟩:=hA;try simp only[bk0,bkk]at *
  have hw:wd (bk V 0)=2:=by rw[a6];exact vL
  omega
 .intro hA;simp only[DD]at hA ⊢;obtain⟨a0,a1,a2,a3,a4,a5,a6,a7,a8,a9,a10,a11⟩:=hA;try simp only[bk0,bkk]at *
  have hw:wd (bk V 0)=2:=by rw[a7];exact vL
  omega
 .intro J0 hl0 hA hr0 hid0 hI;simp only[DD]at hA hI;obtain⟨a0,a1,a2,a3,a4,a5,a6,a7,a8,a9,a10,a11,a12⟩:=hA;obtain⟨i74,i3,_,_,_,_,_,_,i75,i1,i0,i73⟩:=hI;try simp only[bk0,bkk]at *
  have hw:wd (bk V 0)=2:=by rw[a8];exact vL
  exact .inr (.inr (.inr (.inl ⟨⟨a8,a5⟩,⟨⟨i0,i1,i73,i74,i3,i75,hid0⟩,by omega,by omega,by omega,by omega,by omega,by omega⟩⟩)))
 .intro J0 hl0 hA hr0 hid0 hI;simp only[DD]at hA hI;obtain⟨a0,a1,a2,a3,a4,a5,a6,a7⟩:=hA;obtain⟨i74,i3,_,_,_,_,_,_,i75,i1,i0,i73⟩:=hI;try simp only[bk0,bkk]at *
  have hw:wd (bk V 0)=2:=by rw[a3];exact vL
  exact .inr (.inr (.inr (.inr (.inr ⟨by omega,by omega,fun h=>by unfold Nel at h;omega,fun h=>by unfold Lsp at h;omega,⟨⟨i0,i1,i73,i74,i3,i75,hid0⟩,by omega,by omega,by omega,by omega,by omega,by omega⟩⟩))))
 .intro hA;simp only[DD]at hA ⊢;obtain⟨a0,a1,a2,a3,a4,a5⟩:=hA;try simp only[bk0,bkk]at *
  have hw:wd (bk V 0)=3:=by rw[a0];exact yP
  omega
 .intro hA;simp only[DD]at hA ⊢;obtain⟨a0,a1,a2,a3,a4,a5,a6⟩:=hA;try simp only[bk0,bkk]at *
  have hw:wd (bk V 0)=3:=by rw[a1];exact yP
  omega
 .intro hA;simp only[DD]at hA ⊢;obtain⟨a0,a1,a2,a3,a4,a5,a6,a7,a8⟩:=hA;try simp only[bk0,bkk]at *
  have hw:wd (bk V 0)=3:=by rw[a3];exact yP
  omega
 .intro hA;simp only[DD]at hA ⊢;obtain⟨a0,a1,a2,a3,a4,a5,a6,a7,a8,a9⟩:=hA;try simp only[bk0,bkk]at *
  have hw:wd (bk V 0)=3:=by rw[a4];exact yP
  omega
 .intro hA;simp only[DD]at hA ⊢;obtain⟨a0,a1,a2,a3,a4,a5,a6,a7,a8,a9,a10,a11⟩:=hA;try simp only[bk0,bkk]at *
  have hw:wd (bk V 0)=3:=by rw[a6];exact yP
  omega
 .intro hA;simp only[DD]at hA ⊢;obtain⟨a0,a1,a2,a3,a4,a5,a6,a7,a8,a9,a10,a11,a12⟩:=hA;try simp only[bk0,bkk]at *
  have hw:wd (bk V 0)=3:=by rw[a7];exact yP
  omega
 .intro hA;simp only[DD]at hA ⊢;obtain⟨a0,a1,a2,a3,a4,a5,a6,a7,a8,a9,a10,a11,a12,a13⟩:=hA;try simp only[bk0,bkk]at *
  have hw:wd (bk V 0)=3:=by rw[a8];exact yP
  omega
 .intro hA;simp only[DD]at hA ⊢;obtain⟨a0,a1,a2,a3,a4,a5,a6,a7,a8,a9,a10,a11,a12,a13,a14⟩:=hA;try simp only[bk0,bkk]at *
  have hw:wd (bk V 0)=3:=by rw[a9];exact yP
  omega
 .intro hA;simp only[DD]at hA ⊢;obtain⟨a0,a1,a2,a3,a4,a5,a6,a7,a8,a9,a10,a11,a12,a13,a14,a15⟩:=hA;try simp only[bk0,bkk]at *
  have hw:wd (bk V 0)=3:=by rw[a10];exact yP
  omega
 .intro J0 hl0 hA hr0 hid0 hI;simp only[DD]at hA hI;obtain⟨a0,a1,a2,a3,a4,a5,a6,a7,a8,a9,a10,a11,a12,a13,a14,a15,a16⟩:=hA;obtain⟨i74,i3,_,_,_,_,_,_,i75,i1,i0,i73⟩:=hI;try simp only[bk0,bkk]at *
  have hw:wd (bk V 0)=3:=by rw[a11];exact yP
  exact .inr (.inr (.inr (.inr (.inl ⟨⟨a11,a8,.inl a5⟩,⟨⟨i0,i1,i73,i74,i3,i75,hid0⟩,by omega,by omega,by omega,by omega,by omega,by omega⟩⟩))))
 .intro hA;simp only[DD]at hA ⊢;obtain⟨a0,a1,a2,a3,a4,a5,a6,a7,a8,a9,a10,a11,a12⟩:=hA;try simp only[bk0,bkk]at *
  have hw:wd (bk V 0)=3:=by rw[a7];exact yP
  omega
 .intro hA;simp only[DD]at hA ⊢;obtain⟨a0,a1,a2,a3,a4,a5,a6,a7,a8,a9,a10,a11,a12,a13⟩:=hA;try simp only[bk0,bkk]at *
  have hw:wd (bk V 0)=3:=by rw[a8];exact yP
  omega
 .intro hA;simp only[DD]at hA ⊢;obtain⟨a0,a1,a2,a3,a4,a5,a6,a7,a8,a9,a10,a11,a12,a13,a14⟩:=hA;try simp only[bk0,bkk]at *
  have hw:wd (bk V 0)=3:=by rw[a9];exact yP
  omega
 .intro hA;simp only[DD]at hA ⊢;obtain⟨a0,a1,a2,a3,a4,a5,a6,a7,a8,a9,a10,a11,a12,a13,a14,a15⟩:=hA;try simp only[bk0,bkk]at *
  have hw:wd (bk V 0)=3:=by rw[a10];exact yP
  omega
 .intro hA;simp only[DD]at hA ⊢;obtain⟨a0,a1,a2,a3,a4,a5,a6,a7,a8,a9,a10,a11,a12,a13,a14,a15,a16⟩:=hA;try simp only[bk0,bkk]at *
  have hw:wd (bk V 0)=3:=by rw[a11];exact yP
  omega
 .intro J0 hl0 hA hr0 hid0 hI;simp only[DD]at hA hI;obtain⟨a0,a1,a2,a3,a4,a5,a6,a7,a8,a9,a10,a11,a12,a13,a14,a15,a16,a17⟩:=hA;obtain⟨i74,i3,_,_,_,_,_,_,i75,i1,i0,i73⟩:=hI;try simp only[bk0,bkk]at *
  have hw:wd (bk V 0)=3:=by rw[a12];exact yP
  exact .inr (.inr (.inr (.inr (.inl ⟨⟨a12,a9,.inr a5⟩,⟨⟨i0,i1,i73,i74,i3,i75,hid0⟩,by omega,by omega,by omega,by omega,by omega,by omega⟩⟩))))
 .intro J0 hl0 hA hr0 hid0 hI;simp only[DD]at hA hI;obtain⟨a0,a1,a2,a3,a4,a5,a6,a7,a8,a9,a10,a11,a12⟩:=hA;obtain⟨i74,i3,_,_,_,_,_,_,i75,i1,i0,i73⟩:=hI;try simp only[bk0,bkk]at *
  have hw:wd (bk V 0)=3:=by rw[a7];exact yP
  exact .inr (.inr (.inr (.inr (.inr ⟨by omega,by omega,fun h=>by unfold Nel at h;omega,fun h=>by unfold Lsp at h;omega,⟨⟨i0,i1,i73,i74,i3,i75,hid0⟩,by omega,by omega,by omega,by omega,by omega,by omega⟩⟩))))
 .intro J0 hl0 hA hr0 hid0 hI;simp only[DD]at hA hI;obtain⟨a0,a1,a2,a3,a4,a5,a6,a7,a8⟩:=hA;obtain⟨i74,i3,_,_,_,_,_,_,i75,i1,i0,i73⟩:=hI;try simp only[bk0,bkk]at *
  have hw:wd (bk V 0)=3:=by rw[a3];exact yP
  exact .inr (.inr (.inr (.inr (.inr ⟨by omega,by omega,fun h=>by unfold Nel at h;omega,fun h=>by unfold Lsp at h;omega,⟨⟨i0,i1,i73,i74,i3,i75,hid0⟩,by omega,by omega,by omega,by omega,by omega,by omega⟩⟩))))
 .intro J0 hl0 hA hr0 hid0 hI;simp only[DD]at hA hI;obtain⟨i74,i3,_,_,_,_,_,_,i75,i1,i0,i73⟩:=hI;try simp only[bk0,bkk]at *
  exact .inr (.inr (.inr (.inr (.inr ⟨by omega,by omega,fun h=>by unfold Nel at h;omega,fun h=>by unfold Lsp at h;omega,⟨⟨i0,i1,i73,i74,i3,i75,hid0⟩,by omega,by omega,by omega,by omega,by omega,by omega⟩⟩))))
theorem aSN{G:Goal}(hCL:∀ V,G.CL 36 V->KS V)(hCO:∀ V V1,G.CL 36 V->Ln V1->wL V V1->G.CO 36 0 V V1):yT Tryd.prog G 36 (spS 36):=by
 refine zU (E:=ES 36 v9 (fun _=>none)) (Gt:=G0J wL) (fn:=wK 36) (c:=body 36) (s:=spS 36) zQ zS follows (by kernel_rfl) (by kernel_rfl) (by kernel_rfl) (by kernel_rfl) (by kernel_rfl) (by kernel_rfl) ?_ ?_ ?_ (fun V w0 r s c h=>by rcases h with h|h<;>cases h) (fun V j i V1 V2 h=>h.elim) (fun V r s h=>by rcases h with h|h<;>cases h) (fun V=>t8)
 .intro e j tp h;have h:=h.resolve_right fun h=>by cases h
  cases e with
  |normal=>cases h;exact⟨(fun id h=>by cases h),.tuple #[],by kernel_rfl,_,rfl⟩
  |ret=>cases h;exact⟨(fun id h=>by cases h),.tuple #[],by kernel_rfl,_,rfl⟩
  |exit id=>cases h
 .intro V hcl hlen hr;have p:=hCL V hcl;refine⟨p.n.2,[.bool true],2000,jG V,?_⟩;show (aKK).Holds _ V;rw[ae0];exact asQ p
 .intro V j v tp sm V1 hcl hout hlen _ hJ;have p:=hCL V hcl;have q:SmQ V V1:=(hJ:wL V V1).s;match j,hout with
  |0,hout =>
   cases hout;exact⟨hCO V V1 hcl (p.n.of q.h73 hlen) hJ,vN q⟩
theorem aST{G:Goal}(hCL:∀ V,G.CL 37 V->KS V)(hCO:∀ V V1,G.CL 37 V->Ln V1->qK V V1->G.CO 37 0 V V1):yT Tryd.prog G 37 (spS 37):=by
 refine zU (E:=ES 37 v9 (fun _=>none)) (Gt:=G0J qK) (fn:=wK 37) (c:=body 37) (s:=spS 37) zQ zS follows (by kernel_rfl) (by kernel_rfl) (by kernel_rfl) (by kernel_rfl) (by kernel_rfl) (by kernel_rfl) ?_ ?_ ?_ (fun V w0 r s c h=>by rcases h with h|h<;>cases h) (fun V j i V1 V2 h=>h.elim) (fun V r s h=>by rcases h with h|h<;>cases h) (fun V=>t8)
 .intro e j tp h;have h:=h.resolve_right fun h=>by cases h
  cases e with
  |normal=>cases h;exact⟨(fun id h=>by cases h),.tuple #[],by kernel_rfl,_,rfl⟩
  |ret=>cases h;exact⟨(fun id h=>by cases h),.tuple #[],by kernel_rfl,_,rfl⟩
  |exit id=>cases h
 .intro V hcl hlen hr;have p:=hCL V hcl;refine⟨p.n.2,[.bool true],2000,jG V,?_⟩;show (azS).Holds _ V;rw[abM];exact alG p
 .intro V j v tp sm V1 hcl hout hlen _ hJ;have p:=hCL V hcl
  have q : SmQ V V1 := by rcases (hJ : qK V V1) with h | h | h | h | h | h
                          .exact h.2.2.s
                          .exact h.2.2.s
                          .exact h.2.s
                          .exact h.2.s
                          .exact h.2.s
                          .exact h.2.2.2.2.s
  match j,hout with
  |0,hout =>
   cases hout;exact⟨hCO V V1 hcl (p.n.of q.h73 hlen) hJ,vN q⟩
end U
