/- blockGeneric on any number of blocks: its pieces. -/
import Derived.Test.YtkbfdaoohhmgoaaGreatDoorDw
import Derived.Test.YtkbfdaoohhmgoaaGreatDoorSe28
namespace Go.Proofs.YtkbfdaoohhmgoaaGreatDoor
open Go
def VE(id:Nat):Code->List Code
 | .seq a b=>VE id a++VE id b
 | .cond _ t e=>VE id t++VE id e
 | .block _ c=>VE id c
 | .loop c=>VE id c
 | .region j o d=>bif Nat.beq j id then[.region j o d] else[]
 |_=>[]
def Uk(id:Nat)(c:Code):Code:=match VE id c with
 | [b]=>b
 |_=>.skip
def Tm:Code->List Nat
 | .seq a b=>Tm a++Tm b
 | .cond _ t e=>Tm t++Tm e
 | .block _ c=>Tm c
 | .loop c=>Tm c
 | .region _ o _=>o.toList.filterMap (·.dst)
 |_=>[]
def TF:Be->Bool
 | .leaf _ _=>true
 | .ep _ [] t=>TF t
 |_=>false
theorem PK{T:Tb}:∀ {t:Be} {ρ:Bu},TF t=true->Cv T t ρ
 | .leaf _ _,_,_=>trivial
 | .ep _ [] t,_,h=>⟨λ_ hq=>(by cases hq),PK (t:=t) h⟩
noncomputable def bB:Code:=Ab Tryz.f116
noncomputable def rB(k:Nat):Code:=Uk k bB
noncomputable def pcB(c:Code)(ps:List Et)(sl:List Nat)(outs:List (Nat×List IntKind×PF)):Ih:=⟨6000,c,Tryz.f116.ntmps,99,[],⟨ps,true,λ_=>True,outs,[],[]⟩,sl,(Tm c).filter (λt=>Uw t sl),λ_=>1⟩
def i8s:List Et:=List.replicate 8 (.int .u64)
def hS:List Nat:=[5,6,7,8,9,10,11,12]
def vS:List Nat:=[13,14,15,16,17,18,19,20]
noncomputable def g1:Xz:=⟨pcB (rB 1) [.mem (List.replicate 8 .u64) 1 false] [0] [],hS,i8s⟩
noncomputable def g3:Xz:=⟨pcB (rB 3) i8s hS [],vS,i8s⟩
noncomputable def Rt:Ih:= { Sc with s0:=⟨List.replicate 8 (.int .u64) ++ [.int .i64,.mem (List.replicate 80 .u64) 1 true,.fL (List.replicate 128 .u8) 0 false],true,λ_=>True,[(9,List.replicate 80 .u64,z1)],[],[]⟩ }
noncomputable def c4B:Code:=.seq (rB 4) (.block 2 (.loop (PU 2 bB)))
noncomputable def qw:Cx:=kM ((1000000+116,.one (Rt.sum Aa (Rt.pre Aa))) :: [(149,.one Iq)]) [] [(Rt.id,⟨1000000+116,Rt.ps,Rt.ss,Rt.cl,Rt.nt⟩)]
noncomputable def g4:Xz:=⟨pcB c4B (i8s ++ [.mem (List.replicate 80 .u64) 1 true,.fL (List.replicate 128 .u8) 0 false]) (vS ++ [4,1]) [(8,List.replicate 80 .u64,z1)],[],[]⟩
noncomputable def gA(k:Nat):Xz:=⟨pcB (rB (26+k)) [.int .u64,.int .u64] [5+k,13+k] [],[],[]⟩
noncomputable def SU:Xz:=⟨pcB (rB 35) (.mem (List.replicate 8 .u64) 1 true::i8s) (0::hS) [(0,List.replicate 8 .u64,z1)],[],[]⟩
noncomputable def bu:Cx:=F7 [] []
theorem AOm:(g1.cN bu&&TF (g1.i.tree bu))=true:=by kernel_rfl
theorem ALP:(g3.cN bu&&TF (g3.i.tree bu))=true:=by kernel_rfl
theorem AIA:Rt.cN Aa=true:=by kernel_rfl
theorem AK5:g4.cN qw=true:=by kernel_rfl
theorem AMa:((List.range 8).all λk=>(gA k).cN bu&&TF ((gA k).i.tree bu))=true:=by kernel_rfl
theorem AHo:(SU.cN bu&&TF (SU.i.tree bu))=true:=by kernel_rfl
noncomputable def xB:Code:=.seq (rB 3) (.seq c4B (.seq (rB 26) (.seq (rB 27) (.seq (rB 28) (.seq (rB 29) (.seq (rB 30) (.seq (rB 31) (.seq (rB 32) (.seq (rB 33) (rB 34))))))))))
theorem AQw:bB= .seq (rB 0) (.seq (rB 1) (.seq (.block 0 (.loop (.seq (.seq (rB 2) (.cond (.tmp 71) .skip (.exit 0))) (.block 1 xB)))) (rB 35))):=by kernel_rfl
end Go.Proofs.YtkbfdaoohhmgoaaGreatDoor
