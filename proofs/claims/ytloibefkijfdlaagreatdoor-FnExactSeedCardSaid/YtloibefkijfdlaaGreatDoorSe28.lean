/- The symbolic executor, part 28: pieces of code, told as rounds are, with further numbers that they leave in slots. -/
import Derived.Test.YtloibefkijfdlaaGreatDoorSb
namespace Go.Proofs.YtloibefkijfdlaaGreatDoor
open Go
structure SgI where
 i:LpI
 qs:List Nat
 es:List PSh
def SgI.leaf(g:SgI)(e:Ex)(st:St):Option (List Arg×List Arg):=match g.i.leaf e st with
 | some (true,as)=>(match looks st g.qs with
  |some vs=>(match argsP st g.es vs with
   |some (as2,ms2)=>bif wrOk st.rg ms2 then some (as,as2) else none
   |none=>none)
  |none=>none)
 |_=>none
def SgI.leafB(g:SgI)(m:Nat)(e:Ex)(st:St):Bool:=match g.leaf e st with
 |some (as,as2)=>as.all (·.inM m)&&as2.all (·.inM m)
 |none=>false
def SgI.step(g:SgI)(C:Cx)(ins:List (List Int)):Option (List (List Int)×List (List Int)):=
 match evX C.T (g.i.tree C) (insE ins) with
 |some (ρ,e,st)=>(match g.leaf e st with
  |some (as,as2)=>some (as.map (·.den ρ),as2.map (·.den ρ))
  |none=>none)
 |none=>none
def SgI.chk(g:SgI)(C:Cx):Bool:=okG C.T (g.leafB) (parM g.i.s0.params.length) (g.i.tree C)&&wrOuts g.i.s0.outs 0 g.i.s0.params&&outsOk g.i.s0.params g.i.s0.outs&&Nat.ble g.i.s0.params.length g.i.nt&&Nat.ble g.i.s0.params.length 500&&Nat.beq g.i.ps.length g.i.s0.params.length&&nodup g.i.ps&&g.i.ps.all (fun t=>Nat.blt t g.i.nt&&notIn t g.i.cl)
section
variable{P:Program}{C:Cx}{GB:Nat}{GC:Nat→Nat→Option Value}(hC:CxOk P C GB GC){g:SgI}{ad:Nat→Nat×Nat}(hk:g.chk C=true)(hgl:glsOk GC ad g.i.gls)(hgb:∀ x∈g.i.gls,(base ad x.1).1<GB)
 (hcov:∀ E:En,E.P=P→E.C=C→E.GB=GB→E.GC=GC→Cov E g.i.c∧∀ f j,lk f C.inl=some j→Cov E j.c)
include hC hk hgl hgb hcov
end
end Go.Proofs.YtloibefkijfdlaaGreatDoor
