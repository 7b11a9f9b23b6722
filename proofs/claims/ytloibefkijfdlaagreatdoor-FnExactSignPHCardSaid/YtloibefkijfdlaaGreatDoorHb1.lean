/- blockGeneric on any number of blocks: its pieces. -/
import Derived.Test.YtloibefkijfdlaaGreatDoorSe28
import Derived.Test.YtloibefkijfdlaaGreatDoorShx
namespace Go.Proofs.YtloibefkijfdlaaGreatDoor
open Go
def WF(id:Nat):Code→List Code
 | .seq a b=>WF id a++WF id b
 | .cond _ t e=>WF id t++WF id e
 | .block _ c=>WF id c
 | .loop c=>WF id c
 | .region j o d=>bif Nat.beq j id then [.region j o d] else []
 |_=>[]
def Yi(id:Nat)(c:Code):Code:=match WF id c with
 | [b]=>b
 |_=>.skip
def Sv:Code→List Nat
 | .seq a b=>Sv a++Sv b
 | .cond _ t e=>Sv t++Sv e
 | .block _ c=>Sv c
 | .loop c=>Sv c
 | .region _ o _=>o.toList.filterMap (·.dst)
 |_=>[]
def Sw:Bc→Bool
 | .leaf _ _=>true
 | .evs _ [] t=>Sw t
 |_=>false
theorem Og{T:Tb}:∀ {t:Bc} {ρ:Bl},Sw t=true→Cn T t ρ
 | .leaf _ _,_,_=>trivial
 | .evs _ [] t,_,h=>⟨fun _ hq=>(by cases hq),Og (t:=t) h⟩
noncomputable def bB:Code:=Ab Tryz.f154
noncomputable def rB(k:Nat):Code:=Yi k bB
noncomputable def pcB(c:Code)(ps:List GG)(sl:List Nat)(outs:List (Nat×List IntKind×PF)):I7:=⟨6000,c,Tryz.f154.ntmps,99,[],⟨ps,true,fun _=>True,outs,[],[]⟩,sl,(Sv c).filter (fun t=>Tu t sl),fun _=>1⟩
def i8s:List GG:=List.replicate 8 (.int .u64)
def hS:List Nat:=[5,6,7,8,9,10,11,12]
def vS:List Nat:=[13,14,15,16,17,18,19,20]
noncomputable def g1:XG:=⟨pcB (rB 1) [.mem (List.replicate 8 .u64) 1 false] [0] [],hS,i8s⟩
noncomputable def g3:XG:=⟨pcB (rB 3) i8s hS [],vS,i8s⟩
noncomputable def Sd:I7:= { AP with s0:=⟨List.replicate 8 (.int .u64) ++ [.int .i64,.mem (List.replicate 80 .u64) 1 true,.slm (List.replicate 128 .u8) 0 false],true,fun _=>True,[(9,List.replicate 80 .u64,z1)],[],[]⟩ }
noncomputable def c4B:Code:=.seq (rB 4) (.block 2 (.loop (Sj 2 bB)))
noncomputable def rz:Cx:=aL ((1000000+154,.one (Sd.sum AA (Sd.pre AA))) :: [(191,.one Ej)]) [] [(Sd.id,⟨1000000+154,Sd.ps,Sd.ss,Sd.cl,Sd.nt⟩)]
noncomputable def g4:XG:=⟨pcB c4B (i8s ++ [.mem (List.replicate 80 .u64) 1 true,.slm (List.replicate 128 .u8) 0 false]) (vS ++ [4,1]) [(8,List.replicate 80 .u64,z1)],[],[]⟩
noncomputable def gA(k:Nat):XG:=⟨pcB (rB (26+k)) [.int .u64,.int .u64] [5+k,13+k] [],[],[]⟩
noncomputable def g35:XG:=⟨pcB (rB 35) (.mem (List.replicate 8 .u64) 1 true::i8s) (0::hS) [(0,List.replicate 8 .u64,z1)],[],[]⟩
noncomputable def fq:Cx:=GJ [] []
theorem AOh:(g1.chk fq&&Sw (g1.i.tree fq))=true:=by kernel_rfl
theorem AMa:(g3.chk fq&&Sw (g3.i.tree fq))=true:=by kernel_rfl
theorem AH4:Sd.chk AA=true:=by kernel_rfl
theorem AN9:g4.chk rz=true:=by kernel_rfl
theorem ALo:((List.range 8).all fun k=>(gA k).chk fq&&Sw ((gA k).i.tree fq))=true:=by kernel_rfl
theorem AHC:(g35.chk fq&&Sw (g35.i.tree fq))=true:=by kernel_rfl
noncomputable def xB:Code:=.seq (rB 3) (.seq c4B (.seq (rB 26) (.seq (rB 27) (.seq (rB 28) (.seq (rB 29) (.seq (rB 30) (.seq (rB 31) (.seq (rB 32) (.seq (rB 33) (rB 34))))))))))
theorem ARD:bB= .seq (rB 0) (.seq (rB 1) (.seq (.block 0 (.loop (.seq (.seq (rB 2) (.cond (.tmp 71) .skip (.exit 0))) (.block 1 xB)))) (rB 35))):=by kernel_rfl
end Go.Proofs.YtloibefkijfdlaaGreatDoor
