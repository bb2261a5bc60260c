-- the statement of this claim: see YtoamgocecoiggaaDoorRs
import Derived.Test.YtoamgocecoiggaaDoorM32
import Derived.Test.YtoamgocecoiggaaDoorM34
set_option linter.unusedVariables false
set_option linter.unusedSimpArgs false
set_option maxRecDepth 100000
noncomputable section
open Go Go.SM Go.Proofs
namespace U
structure StX where
 a:Nat
 l:Nat
 c:Nat
 w:List Int
def stp(cs:List Int)(s:Int)(x:StX):StX :=
 if s=0\/s=2 then ⟨x.a+1,x.l,x.c+1,if s=2 then x.w++[cs.getD x.a 0] else x.w⟩
 else if (s=1\/s=3)/\(cs.getD x.a 0=10\/cs.getD x.a 0=13) then
  ⟨if cs.getD x.a 0=13/\cs.getD (x.a+1) 0=10 then x.a+2 else x.a+1,x.l+1,0,if s=3 then x.w++[10] else x.w⟩
 else x
def sts(cs steps:List Int):Nat->StX
 |0=>⟨0,0,0,[]⟩
 |n+1=>stp cs (steps.getD n 0) (sts cs steps n)
def fl(cs steps:List Int):Nat->List Int
 |0=>[]
 |n+1=>fl cs steps n++[((sts cs steps (n+1)).a:Int),((sts cs steps (n+1)).l:Int),((sts cs steps (n+1)).c:Int)]
theorem qC(cs steps:List Int):∀ n,(fl cs steps n).length=3*n
 |0=>rfl
 |n+1=>by simp only[fl,List.length_append,qC cs steps n,List.length_cons,List.length_nil];omega
structure StB(cs:List Int)(x:StX):Prop where
 a:x.a<=cs.length
 lc:x.l+x.c<=x.a
 w:x.w.length<=x.a
theorem getD_lt{l:List Int}{i:Nat}{v:Int}(hv:v≠0)(h:l.getD i 0=v):i<l.length:=by
 rw[List.getD_eq_getElem?_getD]at h;by_cases hi:i<l.length
 .exact hi
 .rw[List.getElem?_eq_none (by omega)]at h;exact (hv h.symm).elim
theorem aWX{cs:List Int}{s:Int}{x:StX}(b:StB cs x)(h:x.a<cs.length):StB cs (stp cs s x):=by
 obtain⟨b1,b2,b3⟩:=b;unfold stp;split
 .refine⟨by simp only;omega,by simp only;omega,?_⟩;simp only;split
  .simp only[List.length_append,List.length_cons,List.length_nil];omega
  .omega
 .split
  .rename_i h1 h2;have key:(if cs.getD x.a 0=13/\cs.getD (x.a+1) 0=10 then x.a+2 else x.a+1)<=cs.length/\x.a+1<=(if cs.getD x.a 0=13/\cs.getD (x.a+1) 0=10 then x.a+2 else x.a+1):=by
    split
    .rename_i h3;have:=getD_lt (by decide) h3.2;omega
    .omega
   refine⟨key.1,by simp only;omega,?_⟩;simp only;split
   .simp only[List.length_append,List.length_cons,List.length_nil];omega
   .omega
  .exact⟨b1,b2,b3⟩
theorem eH{cs steps:List Int}:∀ n,(∀ i,i<n->(sts cs steps i).a<cs.length)->StB cs (sts cs steps n)
 |0,_=>⟨Nat.zero_le _,Nat.le_refl _,Nat.le_refl _⟩
 |n+1,h=>aWX (eH n fun i hi=>h i (by omega)) (h n (by omega))
structure Kd(V γ:Ren):Prop where
 n:Ln γ
 l3:gL γ 3=gL V 3
 l4:gL γ 4=gL V 4
 i6:gI γ 6=gI V 6
 i7:gI γ 7=gI V 7
 b11:gB γ 11=gB V 11
 l17:gL γ 17=gL V 17
 i18:gI γ 18=gI V 18
 i19:gI γ 19=gI V 19
 i9:gI γ 9=gI V 9
 i10:gI γ 10=gI V 10
 i75:gI γ 75=gI V 75
theorem aOP{R0:List UInt8}{cs:List Int}{a:Nat}{V γ:Ren}(d:SZ cs a V)(k:Kd V γ)(h76:0<=gI V 76)(h75:gI V 75<=1536)(us1 us2:List Int)(z:List UInt8)(rs:List Int)
    (hw:win V=encs us1++(encs us2++z)) (hc:cs.drop a=us1++(us2++rs)) (hd:DR 1 (zH V) rs []) (h4:us2.length+us1.length<=gI V 8) (h5:gI V 8<=us2.length+us1.length+z.length) (h6:∀ b∈z,b=0) (h7:z=[]\/zH V=[])
    (e76:gI γ 76=gI V 76+(encs us1).length) (e8:gI γ 8=gI V 8-us1.length) (hb5:z.length<=4*(gI V 8-us2.length-us1.length)+20):SY R0 cs (a+us1.length) γ:=by
 have er:zH γ=zH V:=rest_of k.l4 k.i6 k.i7 k.l17 k.i18 k.i19
 have hb:=d.pu.buf
 have hle:=d.pu.le
 have hl:=pB hb ⟨h76,hle,h75⟩
 rw[hw]at hl
 simp only[List.length_append]at hl
 have hu1:=vW us1
 have hwin:win γ=encs us2++z:=by
  have:win γ=(win V).drop (encs us1).length:=by
   unfold win;rw[k.l3,k.i75,e76,List.drop_drop,show (gI V 76+((encs us1).length:Int)).toNat=(gI V 76).toNat+(encs us1).length from by omega]
  rw[this,hw,List.drop_left]
 have e75:=k.i75
 have el:=vW us2
 refine⟨⟨d.pu.p.of k.n k.l4 k.i6 k.i7 k.b11 k.l17 k.i18 k.i19,by rw[k.l3];exact hb,by omega,by omega,by omega,by rw[k.i9,er];exact d.pu.off⟩,.inr ⟨by rw[k.i10];exact d.e,us2,z,rs,hwin,?_,by rw[er];exact hd,by omega,by omega,h6,by rw[er];exact h7,by omega⟩⟩
 rw[<-List.drop_drop,hc,List.drop_left]
def Adv(cs:List Int)(s:Int)(x:StX)(V γ:Ren):Prop :=
 gI γ 77=(stp cs s x).a/\gI γ 45=(stp cs s x).l/\gI γ 78=(stp cs s x).c/\0<=gI γ 39/\gI γ 39<=(stp cs s x).l /\
 (((stp cs s x).a=x.a/\gI γ 76=gI V 76/\gI γ 8=gI V 8)\/((stp cs s x).a=x.a+1/\gI γ 76=gI V 76+wd (bk V 0)/\gI γ 8=gI V 8-1) \/
  ((stp cs s x).a=x.a+2/\bk V 0=13/\bk V 1=10/\gI γ 76=gI V 76+2/\gI γ 8=gI V 8-2))
theorem aQO{R0:List UInt8}{cs:List Int}{s v:Int}{x:StX}{V γ:Ren}(d:SZ cs x.a V)(ch:CH cs x.a V v)(k:Kd V γ)(h76:0<=gI V 76)(h75:gI V 75<=1536)(h:Adv cs s x V γ):SY R0 cs (stp cs s x).a γ:=by
 obtain⟨us,z,rs,k1,k2,k3,k4,k5,k6,k7,b5',k8⟩:=ch.dec;have hb:=d.pu.buf;have hle:=d.pu.le;have b5:=d.pu.b5;have hl:=pB hb ⟨h76,hle,h75⟩;rw[k1]at hl;simp only[List.length_append]at hl;have el:=vW us;have e1:=iV v;obtain⟨_,_,_,_,_,h⟩:=h;rcases h with⟨ha,h1,h2⟩|⟨ha,h1,h2⟩|⟨ha,x1,x2,h1,h2⟩
 .rw[ha];exact aOP (R0:=R0) d k h76 h75 [] (v::us) z rs (by rw[k1];simp[encs]) k2 k3 (by simp only[List.length_cons,List.length_nil];omega) (by simp only[List.length_cons,List.length_nil];omega) k6 k7 (by simp[encs,h1]) (by simp[h2]) (by simp only[List.length_cons,List.length_nil];omega)
 .rw[ha];exact aOP (R0:=R0) d k h76 h75 [v] us z rs (by rw[k1];simp[encs]) k2 k3 (by simp only[List.length_cons,List.length_nil];omega) (by simp only[List.length_cons,List.length_nil];omega) k6 k7 (by rw[h1,ch.w];simp[encs]) (by rw[h2];rfl) (by simp only[List.length_cons,List.length_nil];omega)
 .rw[ha];have hv:=ch.c13.1 x1;obtain⟨ls,hls⟩:=k8 hv x2;subst hls;subst hv;have en:(encs [13,10]).length=2:=by decide
  refine aOP (R0:=R0) d k h76 h75 [13,10] ls z rs (by rw[k1];simp[encs]) (by rw[k2];rfl) k3 ?_ ?_ k6 k7 (by rw[h1,en];rfl) (by rw[h2];rfl) ?_;all_goals (simp only[List.length_cons,List.length_nil]at *;omega)
structure Q3(x:StX)(V γ:Ren):Prop where
 l3:gL γ 3=gL V 3
 i75:gI γ 75=gI V 75
 i76:gI γ 76=gI V 76
 i8:gI γ 8=gI V 8
 i77:gI γ 77=x.a
 i45:gI γ 45=x.l
 i78:gI γ 78=x.c
 i39:0<=gI γ 39/\gI γ 39<=x.l
theorem Q3.bk{x:StX}{V γ:Ren}(q:Q3 x V γ)(k:Int):bk γ k=bk V k:=by unfold U.bk;rw[q.l3,q.i76]
theorem qF{R0:List UInt8}{cs:List Int}{v:Int}{x:StX}{V γ:Ren}(t:TXT R0 cs)(b:StB cs x)(d:SZ cs x.a V)(ch:CH cs x.a V v)(h76:0<=gI V 76)(h75:gI V 75<=1536)(q:Q3 x V γ)(hn:Ln γ):KR γ:=by
 have e:=q.bk;obtain⟨q1,q2,q3,q4,q5,q6,q7,q8⟩:=q;obtain⟨b1,b2,b3⟩:=b;have tn:=t.n;have:=d.pu.b5;have:=d.pu.b6;have hw:1<=wd (U.bk V 0):=by rw[ch.w];have:=(iV v).1;omega
 refine⟨⟨hn,by rw[q1];exact d.pu.buf,by omega,by omega,by rw[e];exact hw,by rw[e,q2,q3];exact ch.le,fun _=>by have:=d.tw;omega,by have:=d.un;omega,by rw[e,e,q4];exact ch.u2,by omega,by omega,by omega,by omega,by omega⟩,?_,?_⟩
 .have h:=ch.nel;unfold Nel at *;rw[e,e];exact h
 .have h:=ch.lsp;unfold Lsp at *;rw[e,e,e];exact h
theorem aoD{cs:List Int}{s:Int}{x:StX}(h:s=0\/s=2):(stp cs s x).a=x.a+1/\(stp cs s x).l=x.l/\(stp cs s x).c=x.c+1:=by
 unfold stp;rw[if_pos h];exact⟨rfl,rfl,rfl⟩
theorem E0{cs:List Int}{s:Int}{x:StX}(h:s=1\/s=3)(hv:cs.getD x.a 0=10\/cs.getD x.a 0=13):(stp cs s x).a=(if cs.getD x.a 0=13/\cs.getD (x.a+1) 0=10 then x.a+2 else x.a+1)/\(stp cs s x).l=x.l+1/\(stp cs s x).c=0/\(stp cs s x).w=if s=3 then x.w++[10] else x.w:=by
 unfold stp;rw[if_neg (by omega),if_pos ⟨h,hv⟩];exact⟨rfl,rfl,rfl,rfl⟩
theorem aOD{cs:List Int}{s:Int}{x:StX}(h:s=1\/s=3)(hv:¬ (cs.getD x.a 0=10\/cs.getD x.a 0=13)):stp cs s x=x:=by
 unfold stp;rw[if_neg (by omega),if_neg (fun h=>hv h.2)]
theorem ae7{cs:List Int}{s:Int}{x:StX}(h:s≠0/\s≠1/\s≠2/\s≠3):stp cs s x=x:=by
 unfold stp;rw[if_neg (by omega),if_neg (by omega)]
theorem mR{cs:List Int}{s:Int}{x:StX}{V J1 V2 J2:Ren}(h:s=0\/s=2)(q:Q3 x V J1)(m:wL J1 V2)(i:MI V2 J2):Adv cs s x V J2:=by
 obtain⟨a1,a2,a3⟩:=aoD (cs:=cs) (x:=x) h;unfold wL at m;rw[q.bk]at m;obtain⟨_,m1,m2,m3,m4,m5,m6⟩:=m;have e:=q.bk;obtain⟨q1,q2,q3,q4,q5,q6,q7,q8⟩:=q;obtain⟨i1,i2,i3,i4,i5,i6⟩:=i;unfold Adv;rw[a1,a2,a3];exact⟨by rw[i3,m3,q5];rfl,by rw[i5,m4,q6];omega,by rw[i4,m5,q7];rfl,by omega,by omega,.inr (.inl ⟨rfl,by rw[i1,m1,q3],by rw[i2,m2,q4]⟩)⟩
theorem lA{cs:List Int}{s v:Int}{x:StX}{V J1 V2 J2:Ren}(h:s=1\/s=3)(ch:CH cs x.a V v)(q:Q3 x V J1)(m:nQ J1 V2)(i:MI V2 J2):Adv cs s x V J2/\(stp cs s x).w=if s=3 then x.w++[10] else x.w:=by
 have e:=q.bk;have w:=ch.w;unfold nQ at m;rw[e,e]at m;have hv:=ch.hv;have c13:=ch.c13;have c10:=ch.c10;have cr:=ch.cr;have hvv:cs.getD x.a 0=10\/cs.getD x.a 0=13:=by
  rw[hv];rcases m with m|m|m
  .exact .inr (c13.1 m.1)
  .exact .inr (c13.1 m.1)
  .exact .inl (c10.1 m.1)
 obtain⟨a1,a2,a3,a4⟩:=E0 (cs:=cs) (x:=x) h hvv;refine⟨?_,a4⟩;unfold Adv;rw[a1,a2,a3,hv];obtain⟨q1,q2,q3,q4,q5,q6,q7,q8⟩:=q;obtain⟨i1,i2,i3,i4,i5,i6⟩:=i;rcases m with⟨n1,n2,_,m1,m2,m3,m4,m5,m6⟩|⟨n1,n2,_,m1,m2,m3,m4,m5,m6⟩|⟨n1,_,m1,m2,m3,m4,m5,m6⟩
 .have hv:=c13.1 n1;rw[if_pos ⟨hv,(cr hv).1 n2⟩];exact⟨by omega,by omega,by omega,by omega,by omega,.inr (.inr ⟨rfl,n1,n2,by omega,by omega⟩)⟩
 .have hv:=c13.1 n1;rw[if_neg (fun hh=>n2 ((cr hv).2 hh.2))];have:wd (bk V 0)=1:=by rw[n1];exact yI
  exact⟨by omega,by omega,by omega,by omega,by omega,.inr (.inl ⟨rfl,by omega,by omega⟩)⟩
 .have hv:=c10.1 n1;rw[if_neg (by omega)];have:wd (bk V 0)=1:=by rw[n1];exact vI
  exact⟨by omega,by omega,by omega,by omega,by omega,.inr (.inl ⟨rfl,by omega,by omega⟩)⟩
theorem aPV{cs:List Int}{s:Int}{x:StX}{V J1 V2 J2:Ren}(h:stp cs s x=x)(q:Q3 x V J1)(m:Mv J1 V2 0 0 0 (gI J1 78))(i:MI V2 J2):Adv cs s x V J2:=by
 unfold Adv;rw[h];obtain⟨_,m1,m2,m3,m4,m5,m6⟩:=m;obtain⟨q1,q2,q3,q4,q5,q6,q7,q8⟩:=q;obtain⟨i1,i2,i3,i4,i5,i6⟩:=i;exact⟨by omega,by omega,by omega,by omega,by omega,.inl ⟨rfl,by omega,by omega⟩⟩
theorem bR{cs:List Int}{s v:Int}{x:StX}{V J1 V2 J2:Ren}(h:s=1\/s=3)(ch:CH cs x.a V v)(q:Q3 x V J1)(m:pU J1 V2)(i:MI V2 J2):Adv cs s x V J2/\stp cs s x=x:=by
 unfold pU at m;rw[q.bk]at m;have c13:=ch.c13;have c10:=ch.c10;have hv:=ch.hv;have e:=aOD (cs:=cs) (x:=x) h (by rw[hv];intro hh;rcases hh with hh|hh;exact m.2.1 (c10.2 hh);exact m.1 (c13.2 hh));exact⟨aPV e q m.2.2 i,e⟩
theorem acC{cs:List Int}{v:Int}{x:StX}{V J1 V2 J2:Ren}(ch:CH cs x.a V v)(q:Q3 x V J1)(m:qK J1 V2)(i:MI V2 J2):Adv cs 1 x V J2/\(stp cs 1 x).w=x.w:=by
 have e:=q.bk;have nel:=ch.nel;have lsp:=ch.lsp;unfold Nel at nel;unfold Lsp at lsp;rcases m with m|m|m|m|m|m
 .have:=lA (.inl rfl) ch q (.inl m) i;exact⟨this.1,this.2.trans (if_neg (by decide))⟩
 .have:=lA (.inl rfl) ch q (.inr (.inl m)) i;exact⟨this.1,this.2.trans (if_neg (by decide))⟩
 .have:=lA (.inl rfl) ch q (.inr (.inr m)) i;exact⟨this.1,this.2.trans (if_neg (by decide))⟩
 .exfalso;have m1:=m.1;unfold Nel at m1;rw[e,e]at m1;exact nel m1
 .exfalso;have m1:=m.1;unfold Lsp at m1;rw[e,e,e]at m1;exact lsp m1
 .have:=bR (.inl rfl) ch q ⟨m.1,m.2.1,m.2.2.2.2⟩ i;exact⟨this.1,by rw[this.2]⟩
theorem fG{cs:List Int}{s:Int}{x:StX}{V γ:Ren}(h:stp cs s x=x)(i77:gI γ 77=x.a)(i45:gI γ 45=x.l)(i78:gI γ 78=x.c)(i39:0<=gI γ 39/\gI γ 39<=x.l)(i76:gI γ 76=gI V 76)(i8:gI γ 8=gI V 8):Adv cs s x V γ:=by
 unfold Adv;rw[h];exact⟨i77,i45,i78,i39.1,i39.2,.inl ⟨rfl,i76,i8⟩⟩
structure LY(R0:List UInt8)(cs steps:List Int)(n:Nat)(o m:Bool)(V:Ren):Prop where
 sy:SY R0 cs (sts cs steps n).a V
 i77:gI V 77=(sts cs steps n).a
 i45:gI V 45=(sts cs steps n).l
 i78:gI V 78=(sts cs steps n).c
 i39:0<=gI V 39/\gI V 39<=(sts cs steps n).l
 i36:gI V 36=n
 i86:gI V 86=steps.length
 n85:(gN V 85).take steps.length=steps
 lt:∀ i,i<n->(sts cs steps i).a<cs.length
 le:n<=steps.length
 out:if o then OutIt V (encs (sts cs steps n).w)/\(sts cs steps n).w≠[] else (sts cs steps n).w=[]
 mks:if m then gI V 14=n/\(gN V 89).take (3*n)=fl cs steps n/\gI V 15*3<=(gN V 89).length else n=0
structure LE(cs steps:List Int)(n:Nat)(o m:Bool)(V:Ren):Prop where
 lt:∀ i,i<n->(sts cs steps i).a<cs.length
 le:n<=steps.length
 fin:n=steps.length\/cs.length<=(sts cs steps n).a
 out:if o then OutIt V (encs (sts cs steps n).w)/\(sts cs steps n).w≠[] else (sts cs steps n).w=[]
 mks:if m then gI V 14=n/\(gN V 89).take (3*n)=fl cs steps n else n=0
theorem afA{R0:List UInt8}{cs steps:List Int}{n:Nat}{o m:Bool}{V:Ren}(ly:LY R0 cs steps n o m V):steps.length<=(gN V 85).length:=by
 have h:=congrArg List.length ly.n85;rw[List.length_take]at h;omega
theorem wI{R0:List UInt8}{cs steps:List Int}{n:Nat}{o m:Bool}{V:Ren}(ly:LY R0 cs steps n o m V)(h:gI V 36<gI V 86):(gN V 85).getD (gI V 36).toNat 0=steps.getD n 0:=by
 have e1:=ly.i36;have e2:=ly.i86;have e:(gI V 36).toNat=n:=by omega
 rw[e,<-ly.n85,List.getD_eq_getElem?_getD,List.getD_eq_getElem?_getD,List.getElem?_take,if_pos (by omega)]
theorem nF{R0:List UInt8}{cs steps:List Int}{n:Nat}{o m:Bool}{V:Ren}(ly:LY R0 cs steps n o m V):StB cs (sts cs steps n):=eH n ly.lt
theorem ax7{R0:List UInt8}{cs steps:List Int}{n:Nat}{m:Bool}{V γ:Ren}(t:TXT R0 cs)(ly:LY R0 cs steps n true m V)(e80:gI γ 80=gI V 80)(e81:gI γ 81=gI V 81)(e82:gL γ 82=gL V 82):KO γ:=by
 have o:=ly.out;simp only[if_true]at o;obtain⟨⟨o1,o2,o3⟩,o4⟩:=o;have b:=(nF ly).w;have b1:=(nF ly).a;have hl:=vW (sts cs steps n).w;have tn:=t.n;have:0<(sts cs steps n).w.length:=List.length_pos_iff.2 o4;exact⟨by omega,by omega,by rw[e81,e82];exact o3⟩
theorem aLJ{R0:List UInt8}{cs steps:List Int}{n:Nat}{m:Bool}{V γ:Ren}(ly:LY R0 cs steps n true m V)(e80:gI γ 80=gI V 80)(e82:gL γ 82=gL V 82):OS γ=encs (sts cs steps n).w:=by
 have o:=ly.out;simp only[if_true]at o;unfold OS;rw[e80,e82];exact o.1.out
theorem abU{cs:List Int}{a:Nat}{x:StX}{V J1 V2:Ren}{v:Int}{w:List Int}(ch:CH cs a V v)(q3:Q3 x V J1)(q:RQ J1 V2 (encs w)):OutIt V2 (encs (w++[v])):=by
 obtain⟨_,q1,q2,q4⟩:=q;have e:encs (w++[v])=encs w++enc1 v:=by rw[qL];simp[encs]
 rw[xC,q3.bk]at q1 q2;rw[q3.l3,q3.i76,ch.enc]at q1;exact⟨by rw[q1,e],by rw[q2,e,List.length_append,ch.w];omega,q4⟩
theorem ab7(w:List Int):encs w++[10]=encs (w++[10]):=by
 have:enc1 10=[10]:=by decide
 rw[qL];simp[encs,this]
theorem xO{R0:List UInt8}{cs steps:List Int}{n:Nat}{o m o':Bool}{V V1 γ:Ren}{v:Int}(ly:LY R0 cs steps n o m V)(sz:SZ cs (sts cs steps n).a V1)(ch:CH cs (sts cs steps n).a V1 v)(kd:Kd V1 γ)(h76:0<=gI V1 76)(h75:gI V1 75<=1536)
    (hlt:gI V 36<gI V 86) (adv:Adv cs (steps.getD n 0) (sts cs steps n) V1 γ) (e36:gI γ 36=gI V 36+1) (e86:gI γ 86=gI V 86) (e85:gN γ 85=gN V 85)
    (hout:if o' then OutIt γ (encs (stp cs (steps.getD n 0) (sts cs steps n)).w)/\(stp cs (steps.getD n 0) (sts cs steps n)).w≠[] else (stp cs (steps.getD n 0) (sts cs steps n)).w=[])
    (h14:gI γ 14=(n:Int)+1) (h89:∃ tl:List Int,gN γ 89=fl cs steps n++[gI γ 77,gI γ 45,gI γ 78]++tl/\gI γ 15=(n:Int)+1+(tl.length:Int).tdiv 3):LY R0 cs steps (n+1) o' true γ:=by
 have e1:=ly.i36;have e2:=ly.i86
 refine⟨aQO sz ch kd h76 h75 adv,adv.1,adv.2.1,adv.2.2.1,⟨adv.2.2.2.1,adv.2.2.2.2.1⟩,by rw[e36,e1];rfl,by rw[e86];exact e2,by rw[e85];exact ly.n85,?_,by omega,hout,?_⟩
 .intro i hi
  rcases Nat.lt_or_eq_of_le (Nat.le_of_lt_succ hi) with h|h
  .exact ly.lt i h
  .rw[h];exact ch.lt
 .refine⟨by rw[h14];rfl,?_⟩
  obtain⟨tl,h,h15⟩:=h89
  have hf:fl cs steps (n+1)=fl cs steps n++[gI γ 77,gI γ 45,gI γ 78]:=by
   rw[adv.1,adv.2.1,adv.2.2.1];rfl
  refine⟨by rw[h,<-hf,List.take_append_of_le_length (by rw[qC];exact Nat.le_refl _),List.take_of_length_le (by rw[qC];exact Nat.le_refl _)],?_⟩
  rw[h,<-hf,h15,List.length_append,qC,Int.tdiv_eq_ediv_of_nonneg (by omega)]
  omega
theorem zJ(a b:Int):IOp.fn .mul a b=a*b:=rfl
theorem zI(a b:Int):IOp.fn .quo a b=a.tdiv b:=rfl
theorem vV{P Q:Prop}(h:Q):if false=true then P else Q:=by simpa using h
theorem xQ{P Q:Prop}(h:P):if true=true then P else Q:=by simpa using h
theorem yU{P Q:Prop}(h:if false=true then P else Q):Q:=by simpa using h
theorem zP{P Q:Prop}(h:if true=true then P else Q):P:=by simpa using h
def Mks(cs steps:List Int)(n:Nat)(γ:Ren):Prop:=gI γ 14=(n:Int)+1/\∃ tl:List Int,gN γ 89=fl cs steps n++[gI γ 77,gI γ 45,gI γ 78]++tl/\gI γ 15=(n:Int)+1+(tl.length:Int).tdiv 3
theorem kP{R0:List UInt8}{cs steps tl:List Int}{n:Nat}{o:Bool}{V γ:Ren}{x y z:Int}(ly:LY R0 cs steps n o true V)(h:gN γ 89=List.drop (Int.toNat 0) (List.take (gI V 14*3).toNat (gN V 89))++([x]++([y]++[z]))++tl)(h14:gI γ 14=gI V 14+1)(h15:gI γ 15=gI V 14+1+(tl.length:Int).tdiv 3)(e1:gI γ 77=x)(e2:gI γ 45=y)(e3:gI γ 78=z):Mks cs steps n γ:=by
 have m:=zP ly.mks;have e:(gI V 14*3).toNat=3*n:=by omega
 refine⟨by omega,tl,?_,by rw[h15,m.1]⟩;rw[h,e,m.2.1,e1,e2,e3];rfl
theorem ah8{R0:List UInt8}{cs steps tl:List Int}{n:Nat}{o:Bool}{V γ:Ren}{x y z:Int}(ly:LY R0 cs steps n o false V)(h:gN γ 89=[x]++([y]++[z])++tl)(h14:gI γ 14=1)(h15:gI γ 15=(tl.length:Int).tdiv 3+1)(e1:gI γ 77=x)(e2:gI γ 45=y)(e3:gI γ 78=z):Mks cs steps n γ:=by
 have m:=yU ly.mks;subst m;refine⟨by omega,tl,?_,by rw[h15,Int.add_comm];rfl⟩;rw[h,e1,e2,e3];rfl
theorem af0{cs:List Int}{x:StX}:(stp cs 0 x).w=x.w:=by unfold stp;simp
theorem ag8{cs:List Int}{x:StX}{v:Int}(h:cs.getD x.a 0=v):(stp cs 2 x).w=x.w++[v]:=by unfold stp;rw[if_pos (.inr rfl)];subst h;rfl
theorem mJ{w:List Int}{v:Int}:w++[v]≠[]:=by simp
structure SmZ(V γ:Ren):Prop where
 h84:γ[84]?=V[84]?
 n85:gN γ 85=gN V 85
 i86:gI γ 86=gI V 86
 i87:gI γ 87=gI V 87
 h73:γ[73]?=V[73]?
theorem SmZ.trans{a b c:Ren}(h:SmZ a b)(g:SmZ b c):SmZ a c:=⟨g.h84.trans h.h84,g.n85.trans h.n85,g.i86.trans h.i86,g.i87.trans h.i87,g.h73.trans h.h73⟩
def GZs(R0:List UInt8)(cs steps:List Int)(n:Nat)(o m:Bool)(V:Ren):Goal where
 J:=fun j γ=>SmZ V γ/\match j with
  |0=>LY R0 cs steps (n+1) o true γ
  |2=>LE cs steps n o m γ
  |3=>LY R0 cs steps (n+1) true true γ
  |_=>False
 L:=fun _ _=>False
 O:=fun _ _ _ _=>False
 W:=fun _ _=>False
 CL:=fun j γ=>match j with
  |17=>PU γ
  |23=>KS γ
  |24=>KS γ
  |20=>KS γ/\(o=true->KO γ)
  |25=>KR γ/\(o=true->KO γ)
  |_=>False
 CO:=fun j i γ J1=>Ln J1/\match j,i with
  |17,0=>UT γ J1
  |17,1=>UE γ J1
  |23,0=>wL γ J1
  |24,0=>qK γ J1
  |20,0=>RQ γ J1 (if o then OS γ else [])
  |25,0=>if o then RlS γ J1 (OS γ) else RlN γ J1
  |25,1=>pU γ J1
  |_,_=>False
theorem akY{R0:List UInt8}{cs steps:List Int}{n:Nat}{V:Ren}(t:TXT R0 cs)(hs:steps.length<=4096)(ly:LY R0 cs steps n false false V):M8.Holds (GZs R0 cs steps n false false V) V:=by
 unfold M8;have hβ:=ly.sy.pu.p.n.1;have y36:=ly.i36;have y86:=ly.i86;have y85:=afA ly;have yle:=ly.le;have ymk:=ly.mks;try simp only[if_true]at ymk
 refine (fO (nO hβ ?_ (cO opQ hβ ?_)) (lO [] hβ ?_))
 .intro hA;simp only[DD]at hA ⊢;try simp only[zA,fn_sub,zJ,zI]at *
  omega
 .intro J0 hl0 hA hr0 hid0 hI;simp only[DD]at hA hI;obtain⟨a0,a1⟩:=hA;obtain⟨_,i17,i4,i3,_,_,_,i9,i10,i7,i6,_,_,i8,i76,i75,_,i11,i19,_,i18,_,i12,_,i73⟩:=hI;have ea:AlW V J0:=⟨i17,i18,i3,i4,i6,i7,i8,i9,i10,Bool.eq_iff_iff.2 i11,i19,i75,i76⟩
  have hL0:(GZs R0 cs steps n false false V).CL 17 J0:=ea.pu ly.sy.pu (ly.sy.pu.p.n.of i73 hl0);refine⟨hL0,(aC ?_ (aC ?_ aN))⟩
  .intro V1 hq1 hO1;obtain⟨hn1,ut⟩:=hO1;have ut:UT J0 V1:=ut;have sz:=iE t ly.sy ea i12 ut;have tw:=sz.tw;have ul:=ut.le;have zb:=sz.pu.buf;have hb1:=zE hβ hn1.1;simp only[Nat.reduceAdd]at hb1;refine (nO hb1 ?_ (nO hb1 ?_ (fO (lO [] hb1 ?_) (fO (cO kK hb1 ?_) (fO (cO kK hb1 ?_) (fO (cO kK hb1 ?_) (fO (cO kK hb1 ?_) (nO hb1 ?_ (lG opQ hb1 ?_)))))))))
   .intro hA;simp +decide only[DD,aA hβ]at hA ⊢;try simp only[zA,fn_sub,zJ,zI]at *
    omega
   .intro hA;simp +decide only[DD,aA hβ]at hA ⊢;try simp only[zA,fn_sub,zJ,zI]at *
    omega
   .intro J1 hl1 hA hr1 hid1 hI;simp +decide only[DD,aA hβ]at hA hI;obtain⟨b0,b1,b2,b3,b4⟩:=hA;obtain⟨j85,j87,j86,j84,_,j73⟩:=hI;try simp only[zA,fn_sub,zJ,zI]at *
    exact⟨⟨j84,j85,j86,j87,j73⟩,ly.lt,ly.le,.inr (acT sz (by omega) (by omega) (by rw[<-xC];unfold bb;assumption) t.dr.prn),ly.out,ly.mks⟩
   .intro J1 hl1 hA hr1 hid1 hI;simp +decide only[DD,aA hβ]at hA hI;obtain⟨b0,b1,b2,b3,b4,b5⟩:=hA;obtain⟨_,j3,j78,j45,j77,_,_,_,_,j39,j8,j76,j75,_,_,_,_,_,_,j73⟩:=hI;try simp only[zA,fn_sub,zJ,zI]at *
    have hb0:bk V1 0≠0:=by rw[<-xC];unfold bb;assumption
    obtain⟨v,ch,hpv⟩:=t9 t sz (by omega) (by omega) hb0;have sa:=wI ly (by omega);have hn2:Ln J1:=ly.sy.pu.p.n.of j73 hl1;have q3:Q3 (sts cs steps n) V1 J1:=⟨j3,j75,j76,j8,by rw[j77];exact ly.i77,by rw[j45];exact ly.i45,by rw[j78];exact ly.i78,by rw[j39];exact ly.i39⟩
    have kr:=qF t (nF ly) sz ch (by omega) (by omega) q3 hn2;have hL1:(GZs R0 cs steps n false false V).CL 23 J1:=kr.p;refine⟨hL1,(aC ?_ aN)⟩
    .intro V2 hq2 hO2;obtain⟨hn3,q0⟩:=hO2;have q:wL J1 V2:=q0;clear q0;have hb2:=zE hb1 hn3.1;simp only[Nat.reduceAdd]at hb2;refine (nO hb2 ?_ (lG opQ hb2 ?_))
     .intro hA;simp +decide only[DD,aA hβ,aA hb1]at hA ⊢;try simp only[zA,fn_sub,zJ,zI]at *
      omega
     .intro δ2 J2 hl2 hA hr2 hid2 hI;simp +decide only[DD,aA hβ,aA hb1,aL hb2]at hA hI;obtain⟨c0,c1,c2,c3,c4,c5,c6⟩:=hA;obtain⟨k89,k85,_,k17,k4,k3,k78,k45,k77,k9,k10,k7,k6,_,k39,k8,k76,k75,_,k11,k19,_,k18,_,k36,k87,k86,k84,k15,k14,_,_,k73⟩:=hI;try simp only[zA,fn_sub,zJ,zI]at *
      have kd:Kd V1 J2:=⟨ly.sy.pu.p.n.of k73 hl2,k3,k4,k6,k7,Bool.eq_iff_iff.2 k11,k17.trans (i17.symm.trans ut.s.l17.symm),k18.trans (i18.symm.trans ut.s.i18.symm),k19,k9,k10,k75⟩
      have mi:MI V2 J2:=⟨k76,k8,k77,k78,k45,k39⟩
      have sv:steps.getD n 0=0:=by rw[<-sa];assumption
      have adv:Adv cs (steps.getD n 0) (sts cs steps n) V1 J2:=by rw[sv];exact mR (.inl rfl) q3 q mi
      have hout:if false=true then OutIt J2 (encs (stp cs (steps.getD n 0) (sts cs steps n)).w)/\(stp cs (steps.getD n 0) (sts cs steps n)).w≠[] else (stp cs (steps.getD n 0) (sts cs steps n)).w=[]:=vV (by rw[sv,af0];exact yU ly.out)
      have mk:Mks cs steps n J2:=ah8 ly k89 k14 k15 k77 k45 k78;exact⟨⟨k84,k85,k86,k87,k73⟩,xO ly sz ch kd (by omega) (by omega) (by omega) adv k36 k86 k85 hout mk.1 mk.2⟩
   .intro J1 hl1 hA hr1 hid1 hI;simp +decide only[DD,aA hβ]at hA hI;obtain⟨b0,b1,b2,b3,b4,b5,b6⟩:=hA;obtain⟨_,j3,j78,j45,j77,_,_,_,_,j39,j8,j76,j75,_,_,_,_,_,_,j73⟩:=hI;try simp only[zA,fn_sub,zJ,zI]at *
    have hb0:bk V1 0≠0:=by rw[<-xC];unfold bb;assumption
    obtain⟨v,ch,hpv⟩:=t9 t sz (by omega) (by omega) hb0;have sa:=wI ly (by omega);have hn2:Ln J1:=ly.sy.pu.p.n.of j73 hl1;have q3:Q3 (sts cs steps n) V1 J1:=⟨j3,j75,j76,j8,by rw[j77];exact ly.i77,by rw[j45];exact ly.i45,by rw[j78];exact ly.i78,by rw[j39];exact ly.i39⟩
    have kr:=qF t (nF ly) sz ch (by omega) (by omega) q3 hn2;have hL1:(GZs R0 cs steps n false false V).CL 24 J1:=kr.p;refine⟨hL1,(aC ?_ aN)⟩
    .intro V2 hq2 hO2;obtain⟨hn3,q0⟩:=hO2;have q:qK J1 V2:=q0;clear q0;have hb2:=zE hb1 hn3.1;simp only[Nat.reduceAdd]at hb2;refine (nO hb2 ?_ (lG opQ hb2 ?_))
     .intro hA;simp +decide only[DD,aA hβ,aA hb1]at hA ⊢;try simp only[zA,fn_sub,zJ,zI]at *
      omega
     .intro δ2 J2 hl2 hA hr2 hid2 hI;simp +decide only[DD,aA hβ,aA hb1,aL hb2]at hA hI;obtain⟨c0,c1,c2,c3,c4,c5,c6,c7⟩:=hA;obtain⟨k89,k85,_,k17,k4,k3,k78,k45,k77,k9,k10,k7,k6,_,k39,k8,k76,k75,_,k11,k19,_,k18,_,k36,k87,k86,k84,k15,k14,_,_,k73⟩:=hI;try simp only[zA,fn_sub,zJ,zI]at *
      have kd:Kd V1 J2:=⟨ly.sy.pu.p.n.of k73 hl2,k3,k4,k6,k7,Bool.eq_iff_iff.2 k11,k17.trans (i17.symm.trans ut.s.l17.symm),k18.trans (i18.symm.trans ut.s.i18.symm),k19,k9,k10,k75⟩
      have mi:MI V2 J2:=⟨k76,k8,k77,k78,k45,k39⟩
      have sv:steps.getD n 0=1:=by rw[<-sa];assumption
      have ad:=acC ch q3 q mi;have adv:Adv cs (steps.getD n 0) (sts cs steps n) V1 J2:=by rw[sv];exact ad.1
      have hout:if false=true then OutIt J2 (encs (stp cs (steps.getD n 0) (sts cs steps n)).w)/\(stp cs (steps.getD n 0) (sts cs steps n)).w≠[] else (stp cs (steps.getD n 0) (sts cs steps n)).w=[]:=vV (by rw[sv,ad.2];exact yU ly.out)
      have mk:Mks cs steps n J2:=ah8 ly k89 k14 k15 k77 k45 k78;exact⟨⟨k84,k85,k86,k87,k73⟩,xO ly sz ch kd (by omega) (by omega) (by omega) adv k36 k86 k85 hout mk.1 mk.2⟩
   .intro J1 hl1 hA hr1 hid1 hI;simp +decide only[DD,aA hβ]at hA hI;obtain⟨b0,b1,b2,b3,b4,b5,b6,b7⟩:=hA;obtain⟨_,j3,j78,j45,j77,_,_,_,_,j39,j8,j76,j75,_,_,_,_,_,_,j73⟩:=hI;try simp only[zA,fn_sub,zJ,zI]at *
    have hb0:bk V1 0≠0:=by rw[<-xC];unfold bb;assumption
    obtain⟨v,ch,hpv⟩:=t9 t sz (by omega) (by omega) hb0;have sa:=wI ly (by omega);have hn2:Ln J1:=ly.sy.pu.p.n.of j73 hl1;have q3:Q3 (sts cs steps n) V1 J1:=⟨j3,j75,j76,j8,by rw[j77];exact ly.i77,by rw[j45];exact ly.i45,by rw[j78];exact ly.i78,by rw[j39];exact ly.i39⟩
    have kr:=qF t (nF ly) sz ch (by omega) (by omega) q3 hn2;have hL1:(GZs R0 cs steps n false false V).CL 20 J1:=⟨kr.p,fun h=>by cases h⟩
    refine⟨hL1,(aC ?_ aN)⟩
    .intro V2 hq2 hO2;obtain⟨hn3,q0⟩:=hO2;have q:RQ J1 V2 []:=q0;clear q0;have hb2:=zE hb1 hn3.1;simp only[Nat.reduceAdd]at hb2;refine (nO hb2 ?_ (lG opQ hb2 ?_))
     .intro hA;simp +decide only[DD,aA hβ,aA hb1]at hA ⊢;try simp only[zA,fn_sub,zJ,zI]at *
      omega
     .intro δ2 J2 hl2 hA hr2 hid2 hI;simp +decide only[DD,aA hβ,aA hb1,aL hb2]at hA hI;obtain⟨c0,c1,c2,c3,c4,c5,c6,c7,c8⟩:=hA;obtain⟨k89,k82,k85,_,k17,k4,k3,k78,k45,k77,k9,k10,k7,k6,_,k39,k8,k76,k75,_,k11,k19,_,k18,_,k36,k87,k86,k84,k15,k14,k81,k80,_,_,_,k73⟩:=hI;try simp only[zA,fn_sub,zJ,zI]at *
      have kd:Kd V1 J2:=⟨ly.sy.pu.p.n.of k73 hl2,k3,k4,k6,k7,Bool.eq_iff_iff.2 k11,k17.trans (i17.symm.trans ut.s.l17.symm),k18.trans (i18.symm.trans ut.s.i18.symm),k19,k9,k10,k75⟩
      have mi:MI V2 J2:=⟨k76,k8,k77,k78,k45,k39⟩
      have sv:steps.getD n 0=2:=by rw[<-sa];assumption
      have adv:Adv cs (steps.getD n 0) (sts cs steps n) V1 J2:=by rw[sv];exact mR (.inr rfl) q3 q.m mi
      have oo:OutIt V2 (encs ((sts cs steps n).w++[v])):=by rw[yU ly.out];exact abU (w:=[]) ch q3 q
      have hout:if true=true then OutIt J2 (encs (stp cs (steps.getD n 0) (sts cs steps n)).w)/\(stp cs (steps.getD n 0) (sts cs steps n)).w≠[] else (stp cs (steps.getD n 0) (sts cs steps n)).w=[]:=xQ (by rw[sv,ag8 ch.hv];exact⟨oo.cong k82 k80 k81,mJ⟩)
      have mk:Mks cs steps n J2:=ah8 ly k89 k14 k15 k77 k45 k78;exact⟨⟨k84,k85,k86,k87,k73⟩,xO ly sz ch kd (by omega) (by omega) (by omega) adv k36 k86 k85 hout mk.1 mk.2⟩
   .intro J1 hl1 hA hr1 hid1 hI;simp +decide only[DD,aA hβ]at hA hI;obtain⟨b0,b1,b2,b3,b4,b5,b6,b7,b8⟩:=hA;obtain⟨_,j3,j78,j45,j77,_,_,_,_,j39,j8,j76,j75,_,_,_,_,_,_,j73⟩:=hI;try simp only[zA,fn_sub,zJ,zI]at *
    have hb0:bk V1 0≠0:=by rw[<-xC];unfold bb;assumption
    obtain⟨v,ch,hpv⟩:=t9 t sz (by omega) (by omega) hb0;have sa:=wI ly (by omega);have hn2:Ln J1:=ly.sy.pu.p.n.of j73 hl1;have q3:Q3 (sts cs steps n) V1 J1:=⟨j3,j75,j76,j8,by rw[j77];exact ly.i77,by rw[j45];exact ly.i45,by rw[j78];exact ly.i78,by rw[j39];exact ly.i39⟩
    have kr:=qF t (nF ly) sz ch (by omega) (by omega) q3 hn2;have hL1:(GZs R0 cs steps n false false V).CL 25 J1:=⟨kr,fun h=>by cases h⟩
    refine⟨hL1,(aC ?_ (aC ?_ aN))⟩
    .intro V2 hq2 hO2;obtain⟨hn3,q0⟩:=hO2;have q:RlN J1 V2:=q0;clear q0;have hb2:=zE hb1 hn3.1;simp only[Nat.reduceAdd]at hb2;refine (nO hb2 ?_ (lG opQ hb2 ?_))
     .intro hA;simp +decide only[DD,aA hβ,aA hb1]at hA ⊢;try simp only[zA,fn_sub,zJ,zI]at *
      omega
     .intro δ2 J2 hl2 hA hr2 hid2 hI;simp +decide only[DD,aA hβ,aA hb1,aL hb2]at hA hI;obtain⟨c0,c1,c2,c3,c4,c5,c6,c7,c8,c9⟩:=hA;obtain⟨k89,k82,k85,_,k17,k4,k3,k78,k45,k77,k9,k10,k7,k6,_,k39,k8,k76,k75,_,k11,k19,_,k18,_,k36,k87,k86,k84,k15,k14,k81,k80,_,_,_,k73⟩:=hI;try simp only[zA,fn_sub,zJ,zI]at *
      have kd:Kd V1 J2:=⟨ly.sy.pu.p.n.of k73 hl2,k3,k4,k6,k7,Bool.eq_iff_iff.2 k11,k17.trans (i17.symm.trans ut.s.l17.symm),k18.trans (i18.symm.trans ut.s.i18.symm),k19,k9,k10,k75⟩
      have mi:MI V2 J2:=⟨k76,k8,k77,k78,k45,k39⟩
      have sv:steps.getD n 0=3:=by rw[<-sa];assumption
      have ad:=lA (.inr rfl) ch q3 q.1 mi;have aw:(stp cs (steps.getD n 0) (sts cs steps n)).w=(sts cs steps n).w++[10]:=by rw[sv];exact ad.2.trans (if_pos rfl)
      have adv:Adv cs (steps.getD n 0) (sts cs steps n) V1 J2:=by rw[sv];exact ad.1
      have hout:if true=true then OutIt J2 (encs (stp cs (steps.getD n 0) (sts cs steps n)).w)/\(stp cs (steps.getD n 0) (sts cs steps n)).w≠[] else (stp cs (steps.getD n 0) (sts cs steps n)).w=[]:=xQ (by rw[aw,<-ab7];exact⟨by rw[yU ly.out];exact q.2.cong k82 k80 k81,mJ⟩)
      have mk:Mks cs steps n J2:=ah8 ly k89 k14 k15 k77 k45 k78;exact⟨⟨k84,k85,k86,k87,k73⟩,xO ly sz ch kd (by omega) (by omega) (by omega) adv k36 k86 k85 hout mk.1 mk.2⟩
    .intro V2 hq2 hO2;obtain⟨hn3,q0⟩:=hO2;have q:pU J1 V2:=q0;clear q0;have hb2:=zE hb1 hn3.1;simp only[Nat.reduceAdd]at hb2;refine (nO hb2 ?_ (lG opQ hb2 ?_))
     .intro hA;simp +decide only[DD,aA hβ,aA hb1]at hA ⊢;try simp only[zA,fn_sub,zJ,zI]at *
      omega
     .intro δ2 J2 hl2 hA hr2 hid2 hI;simp +decide only[DD,aA hβ,aA hb1,aL hb2]at hA hI;obtain⟨c0,c1,c2,c3,c4,c5,c6,c7,c8,c9⟩:=hA;obtain⟨k89,k85,_,k17,k4,k3,k78,k45,k77,k9,k10,k7,k6,_,k39,k8,k76,k75,_,k11,k19,_,k18,_,k36,k87,k86,k84,k15,k14,_,_,k73⟩:=hI;try simp only[zA,fn_sub,zJ,zI]at *
      have kd:Kd V1 J2:=⟨ly.sy.pu.p.n.of k73 hl2,k3,k4,k6,k7,Bool.eq_iff_iff.2 k11,k17.trans (i17.symm.trans ut.s.l17.symm),k18.trans (i18.symm.trans ut.s.i18.symm),k19,k9,k10,k75⟩
      have mi:MI V2 J2:=⟨k76,k8,k77,k78,k45,k39⟩
      have sv:steps.getD n 0=3:=by rw[<-sa];assumption
      have ad:=bR (.inr rfl) ch q3 q mi;have adv:Adv cs (steps.getD n 0) (sts cs steps n) V1 J2:=by rw[sv];exact ad.1
      have hout:if false=true then OutIt J2 (encs (stp cs (steps.getD n 0) (sts cs steps n)).w)/\(stp cs (steps.getD n 0) (sts cs steps n)).w≠[] else (stp cs (steps.getD n 0) (sts cs steps n)).w=[]:=vV (by rw[sv,ad.2];exact yU ly.out)
      have mk:Mks cs steps n J2:=ah8 ly k89 k14 k15 k77 k45 k78;exact⟨⟨k84,k85,k86,k87,k73⟩,xO ly sz ch kd (by omega) (by omega) (by omega) adv k36 k86 k85 hout mk.1 mk.2⟩
   .intro hA;simp +decide only[DD,aA hβ]at hA ⊢;try simp only[zA,fn_sub,zJ,zI]at *
    omega
   .intro δ1 J1 hl1 hA hr1 hid1 hI;simp +decide only[DD,aA hβ,aL hb1]at hA hI;obtain⟨b0,b1,b2,b3,b4,b5,b6,b7,b8,b9⟩:=hA;obtain⟨j89,j85,_,j17,j4,j3,j78,j45,j77,j9,j10,j7,j6,_,j39,j8,j76,j75,_,j11,j19,_,j18,_,j36,j87,j86,j84,j15,j14,_,_,j73⟩:=hI;try simp only[zA,fn_sub,zJ,zI]at *
    have hb0:bk V1 0≠0:=by rw[<-xC];unfold bb;assumption
    obtain⟨v,ch,hpv⟩:=t9 t sz (by omega) (by omega) hb0;have sa:=wI ly (by omega);have kd:Kd V1 J1:=⟨ly.sy.pu.p.n.of j73 hl1,j3,j4,j6,j7,Bool.eq_iff_iff.2 j11,j17.trans (i17.symm.trans ut.s.l17.symm),j18.trans (i18.symm.trans ut.s.i18.symm),j19,j9,j10,j75⟩
    have se:stp cs (steps.getD n 0) (sts cs steps n)=sts cs steps n:=ae7 (by rw[<-sa];refine⟨?_,?_,?_,?_⟩<;>assumption);have adv:Adv cs (steps.getD n 0) (sts cs steps n) V1 J1:=fG se (by rw[j77];exact ly.i77) (by rw[j45];exact ly.i45) (by rw[j78];exact ly.i78) (by rw[j39];exact ly.i39) j76 j8;have hout:if false=true then OutIt J1 (encs (stp cs (steps.getD n 0) (sts cs steps n)).w)/\(stp cs (steps.getD n 0) (sts cs steps n)).w≠[] else (stp cs (steps.getD n 0) (sts cs steps n)).w=[]:=vV (by rw[se];exact yU ly.out)
    have mk:Mks cs steps n J1:=ah8 ly j89 j14 j15 j77 j45 j78;exact⟨⟨j84,j85,j86,j87,j73⟩,xO ly sz ch kd (by omega) (by omega) (by omega) adv j36 j86 j85 hout mk.1 mk.2⟩
  .intro V1 hq1 hO1;obtain⟨hn1,ue⟩:=hO1;have hb1:=zE hβ hn1.1;simp only[Nat.reduceAdd]at hb1;refine (lG [] hb1 ?_)
   .intro δ1 J1 hl1 hA hr1 hid1 hI;simp +decide only[DD,aA hβ,aL hb1]at hA hI;exact (acY t ly.sy ea ue).elim
 .intro J0 hl0 hA hr0 hid0 hI;simp only[DD]at hA hI;obtain⟨i85,i87,i86,i84,_,i73⟩:=hI;try simp only[zA,fn_sub,zJ,zI]at *
  exact⟨⟨i84,i85,i86,i87,i73⟩,ly.lt,ly.le,.inl (by omega),ly.out,ly.mks⟩
end U
