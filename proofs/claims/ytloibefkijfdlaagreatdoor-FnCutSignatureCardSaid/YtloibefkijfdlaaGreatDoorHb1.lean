/- blockGeneric on any number of blocks: its pieces. -/
import Derived.Test.YtloibefkijfdlaaGreatDoorShx
namespace Go.Proofs.YtloibefkijfdlaaGreatDoor
open Go
def UF(id:Nat):Code->List Code
 | .seq a b=>UF id a++UF id b
 | .cond _ t e=>UF id t++UF id e
 | .block _ c=>UF id c
 | .loop c=>UF id c
 | .region j o d=>bif Nat.beq j id then[.region j o d] else[]
 |_=>[]
def YG(id:Nat)(c:Code):Code:=match UF id c with
 | [b]=>b
 |_=>.skip
def SF:Code->List Nat
 | .seq a b=>SF a++SF b
 | .cond _ t e=>SF t++SF e
 | .block _ c=>SF c
 | .loop c=>SF c
 | .region _ o _=>o.toList.filterMap (·.dst)
 |_=>[]
def Sa:Bz->Bool
 | .leaf _ _=>true
 | .fz _ [] t=>Sa t
 |_=>false
theorem O5{T:Tb}:∀ {t:Bz} {ρ:Br},Sa t=true->EY T t ρ
 | .leaf _ _,_,_=>trivial
 | .fz _ [] t,_,h=>⟨λ_ hq=>(by cases hq),O5 (t:=t) h⟩
noncomputable def bB:Code:=Ak Tryz.f154
noncomputable def rB(k:Nat):Code:=YG k bB
noncomputable def pcB(c:Code)(ps:List GD)(sl:List Nat)(outs:List (Nat×List IntKind×PF)):JJ:=⟨6000,c,Tryz.f154.ntmps,99,[],⟨ps,true,λ_=>True,outs,[],[]⟩,sl,(SF c).filter (λt=>T9 t sl),λ_=>1⟩
def i8s:List GD:=List.replicate 8 (.int .u64)
def hS:List Nat:=[5,6,7,8,9,10,11,12]
def vS:List Nat:=[13,14,15,16,17,18,19,20]
noncomputable def g1:V7:=⟨pcB (rB 1) [.mem (List.replicate 8 .u64) 1 false] [0] [],hS,i8s⟩
noncomputable def g3:V7:=⟨pcB (rB 3) i8s hS [],vS,i8s⟩
noncomputable def Ri:JJ:= { AU with s0:=⟨List.replicate 8 (.int .u64) ++ [.int .i64,.mem (List.replicate 80 .u64) 1 true,.fy (List.replicate 128 .u8) 0 false],true,λ_=>True,[(9,List.replicate 80 .u64,z1)],[],[]⟩ }
noncomputable def c4B:Code:=.seq (rB 4) (.block 2 (.loop (WK 2 bB)))
noncomputable def lg:Cx:=xC ((1000000+154,.one (Ri.sum AL (Ri.pre AL))) :: [(191,.one Eg)]) [] [(Ri.id,⟨1000000+154,Ri.ps,Ri.ss,Ri.cl,Ri.nt⟩)]
noncomputable def g4:V7:=⟨pcB c4B (i8s ++ [.mem (List.replicate 80 .u64) 1 true,.fy (List.replicate 128 .u8) 0 false]) (vS ++ [4,1]) [(8,List.replicate 80 .u64,z1)],[],[]⟩
noncomputable def gA(k:Nat):V7:=⟨pcB (rB (26+k)) [.int .u64,.int .u64] [5+k,13+k] [],[],[]⟩
noncomputable def TO:V7:=⟨pcB (rB 35) (.mem (List.replicate 8 .u64) 1 true::i8s) (0::hS) [(0,List.replicate 8 .u64,z1)],[],[]⟩
noncomputable def bL:Cx:=Ht [] []
theorem AIa:(g1.dc bL&&Sa (g1.i.tree bL))=true:=by kernel_rfl
theorem AMv:(g3.dc bL&&Sa (g3.i.tree bL))=true:=by kernel_rfl
theorem AFv:Ri.dc AL=true:=by kernel_rfl
theorem AMh:g4.dc lg=true:=by kernel_rfl
theorem AMY:((List.range 8).all λk=>(gA k).dc bL&&Sa ((gA k).i.tree bL))=true:=by kernel_rfl
theorem AGp:(TO.dc bL&&Sa (TO.i.tree bL))=true:=by kernel_rfl
noncomputable def xB:Code:=.seq (rB 3) (.seq c4B (.seq (rB 26) (.seq (rB 27) (.seq (rB 28) (.seq (rB 29) (.seq (rB 30) (.seq (rB 31) (.seq (rB 32) (.seq (rB 33) (rB 34))))))))))
theorem AOz:bB= .seq (rB 0) (.seq (rB 1) (.seq (.block 0 (.loop (.seq (.seq (rB 2) (.cond (.tmp 71) .skip (.exit 0))) (.block 1 xB)))) (rB 35))):=by kernel_rfl
end Go.Proofs.YtloibefkijfdlaaGreatDoor
