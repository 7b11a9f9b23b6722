/- blockGeneric on any number of blocks: its pieces. -/
import Derived.Test.YtloibefkijfdlaaGreatDoorSe28
import Derived.Test.YtloibefkijfdlaaGreatDoorShx
namespace Go.Proofs.YtloibefkijfdlaaGreatDoor
open Go
def regsIn(id:Nat):Code→List Code
 | .seq a b=>regsIn id a++regsIn id b
 | .cond _ t e=>regsIn id t++regsIn id e
 | .block _ c=>regsIn id c
 | .loop c=>regsIn id c
 | .region j o d=>bif Nat.beq j id then [.region j o d] else []
 |_=> []
def regIn(id:Nat)(c:Code):Code:=match regsIn id c with
 | [b]=>b
 |_=>.skip
def dstsIn:Code→List Nat
 | .seq a b=>dstsIn a++dstsIn b
 | .cond _ t e=>dstsIn t++dstsIn e
 | .block _ c=>dstsIn c
 | .loop c=>dstsIn c
 | .region _ o _=>o.toList.filterMap (·.dst)
 |_=> []
noncomputable def bB:Code:=bodyOf Tryz.f154
noncomputable def rB(k:Nat):Code:=regIn k bB
noncomputable def pcB(c:Code)(ps:List PSh)(sl:List Nat)(outs:List (Nat×List IntKind×PF)):LpI:=⟨6000,c,Tryz.f154.ntmps,99,[],⟨ps,true,fun _=>True,outs,[],[]⟩,sl,(dstsIn c).filter (fun t=>notIn t sl),fun _=>1⟩
def i8s:List PSh:=List.replicate 8 (.int .u64)
def hS:List Nat:= [5,6,7,8,9,10,11,12]
def vS:List Nat:= [13,14,15,16,17,18,19,20]
noncomputable def g1:SgI:=⟨pcB (rB 1) [.mem (List.replicate 8 .u64) 1 false] [0] [],hS,i8s⟩
noncomputable def g3:SgI:=⟨pcB (rB 3) i8s hS [],vS,i8s⟩
noncomputable def l2B:LpI:= { l_sha512_blockGeneric with s0:=⟨List.replicate 8 (.int .u64) ++ [.int .i64,.mem (List.replicate 80 .u64) 1 true,.slm (List.replicate 128 .u8) 0 false],true,fun _=>True,[(9,List.replicate 80 .u64,z1)],[],[]⟩ }
noncomputable def c4B:Code:=.seq (rB 4) (.block 2 (.loop (loopIn 2 bB)))
noncomputable def C4B:Cx:=mkCL ((1000000+154,.one (l2B.sum Cb_sha512_blockGeneric (l2B.pre Cb_sha512_blockGeneric))) :: [(191,.one s_bits_RotateLeft64)]) [] [(l2B.id,⟨1000000+154,l2B.ps,l2B.ss,l2B.cl,l2B.nt⟩)]
noncomputable def g4:SgI:=⟨pcB c4B (i8s ++ [.mem (List.replicate 80 .u64) 1 true,.slm (List.replicate 128 .u8) 0 false]) (vS ++ [4,1]) [(8,List.replicate 80 .u64,z1)],[],[]⟩
noncomputable def gA(k:Nat):SgI:=⟨pcB (rB (26+k)) [.int .u64,.int .u64] [5+k,13+k] [],[],[]⟩
noncomputable def C0B:Cx:=mkC [] []
end Go.Proofs.YtloibefkijfdlaaGreatDoor
