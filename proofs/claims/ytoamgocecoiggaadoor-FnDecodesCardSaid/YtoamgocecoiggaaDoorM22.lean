-- the statement of this claim: see YtoamgocecoiggaaDoorRw
import Derived.Test.YtoamgocecoiggaaDoorM21
set_option linter.unusedVariables false
set_option linter.unusedSimpArgs false
open Go Go.SM Go.Proofs
namespace U
def updP:List (Nat × Value):=[(11,.func (.func 47) #[] #[]),(13,sL 16 (Z 0) (x 18) (x 72)),(14,I 19 0 2000000),(15,sB (x 11)),(20,sL 2 (Z 0) (x 6) (Z 512)),(21,I 7 0 512),(18,I 8 0 2000),(22,I 10 1 3),(23,I 9 0 10000000),(16,sL 1 (Z 0) (Z 1536) (Z 1536)),(45,.chan none)]
def HP (upd:List (Nat × Value)):List (Nat × Blk):=[(0,{ cells:=cellsP (upd++updP),elem:=76,ro:=false,live:=true }),
 (1,{ cells:=[],elem:=5,ro:=false,live:=true,seq:=some (x 3) }),(2,{ cells:=[],elem:=5,ro:=false,live:=true,seq:=some (x 4) }),(16,{ cells:=[],elem:=5,ro:=true,live:=true,seq:=some (x 17) }),(73,{ cells:=[.iface 89 (.pointer (some ⟨74,0,none⟩))],elem:=86,ro:=true,live:=true })]
def FP (l:List (Nat × Value)):List (Nat × Value):=[(0,.pointer (some ⟨0,0,none⟩)),(1,I 12 0 100),(5,I 5 0 1536),(6,.bool false)]++l
def errP:List (Nat × Value):=[(0,Z 2),(1,.chan none),(2,.chan none),(3,.chan none)]
def V13:Value:=sI .i32 (x 13) 0 1114111
def tA:Tpl:={ m:=90,F:=FP [],H:=HP [],G:=[73] }
def tE:Tpl:={ m:=90,F:=[(0,.pointer (some ⟨0,0,none⟩)),(4,.bool false)],H:=HP errP,G:=[73] }
def sp4:LSpec:={ j:=4,tin:={ m:=90,F:=FP [(7,.int .i32 0),(8,Z 0),(9,I 15 0 512),(169,I 10 1 3)],H:=HP [],G:=[73] },outs:=[(.normal,{ m:=90,F:=FP [(7,V13),(8,I 14 1 4)],H:=HP [],G:=[73] },[]),(.exit 2,tA,[]),(.ret,tE,[])] }
def sp10:LSpec:={ j:=10,tin:={ m:=90,F:=FP [(7,V13),(8,I 14 1 4)],H:=HP [],G:=[73] },outs:=[(.normal,{ m:=90,F:=FP [(7,V13),(8,I 14 1 4)],H:=HP [],G:=[73] },[]),(.ret,tE,[])] }
def g0:Nat→Option Nat:=fun g=>if g=0 then some 73 else none
def pu0:FuncId→Bool:=fun _=>false
def okU (f:Nat):Bool:=Nat.ble 47 f && Nat.ble f 50
noncomputable def callE:ACall:=acall Tryd.prog g0 pu0 okU noprim 1000 5
noncomputable def EP (bt:Nat→Option LSpec) (ft:AExit→Option (Nat × Tpl)):Env:={ P:=Tryd.prog,pu:=pu0,g:=g0,call:=callE,n:=ntmps 42,lt:=fun _=>none,bt:=bt,ft:=ft,orc:=theOrc Tryd.prog pu0 g0 callE (ntmps 42) }
noncomputable def inner:Code:=(findLoop 25 100 (body 42)).getD .skip
def findBlk (r:Nat):Nat→Code→Option Code
 | 0,_=>none
 | k + 1,c=>match c with
  | .seq x y=>match findBlk r k x with
   | some i=>some i
   | none=>findBlk r k y
  | .cond _ x y=>match findBlk r k x with
   | some i=>some i
   | none=>findBlk r k y
  | .block id c=>if id=r then some (.block id c) else findBlk r k c
  | .loop c=>findBlk r k c
  | .scope c=>findBlk r k c
  | _=>none
noncomputable def blk4:Code:=(findBlk 4 100 (body 42)).getD .skip
noncomputable def blk10:Code:=(findBlk 10 100 (body 42)).getD .skip
def tV:Tpl:={ m:=90,F:=FP [(7,V13),(8,I 14 1 4)],H:=HP [],G:=[73] }
def ft4:AExit→Option (Nat × Tpl):=fun e=>match e with
 | .normal=>some (0,tV)
 | .exit 2=>some (1,tA)
 | .ret=>some (2,tE)
 | _=>none
def ftI:AExit→Option (Nat × Tpl):=fun e=>match e with
 | .normal=>some (0,tA)
 | .exit 2=>some (1,tA)
 | .ret=>some (2,tE)
 | _=>none
def btI:Nat→Option LSpec:=fun n=>if n=4 then some sp4 else if n=10 then some sp10 else none
noncomputable def treI:Tre:=tre (EP btI ftI) 2000 inner [] [] tA.frame tA.heap
noncomputable def tre10:Tre:=tre (EP (fun _=>none) ft4) 2000 blk10 [] [] sp10.tin.frame sp10.tin.heap
noncomputable def tre4 (A:List TB):Tre:=tre (EP (fun _=>none) ft4) 2000 blk4 [] (A.map TB.enc) sp4.tin.frame sp4.tin.heap
def e1:TB:=.eq (.var 10) (.lit 1)
def e2:TB:=.eq (.var 10) (.lit 2)
def e3:TB:=.eq (.var 10) (.lit 3)
def fA1:List TB:=[e1]
def fA2:List TB:=[.not e1,e2]
def fA3:List TB:=[.not e1,.not e2,e3]
end U
