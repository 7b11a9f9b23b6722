/- Contracts that the trees give: SHA-512. -/
import Derived.Test.YtkbfdaoohhmgoaaGreatDoorDz
namespace Go.Proofs.YtkbfdaoohhmgoaaGreatDoor
noncomputable section
open Go
section
variable{GB:Nat}{GC:Nat->Nat->Option Value}{ad:Nat->Nat×Nat}(hG:GI GB GC ad)
include hG
def UU:Ac:=⟨6000,Ab Tryz.f149,Tryz.f149.ntmps,Tryz.f149.results.toList,[],⟨[.int .u64,.int .i64],false,λ_=>True,[],[],[.int .u64 z0]⟩⟩
def UY:Cx:=F7 [] []
def Iq:Az:=UU.sum UY
theorem TB:Bv Tryz.prog GB GC 149 (.one Iq):=Ac.fin hG .nil .nil Tryz.func149 rfl rfl rfl (.inl rfl) (by kernel_rfl)
def OG:Ac:=⟨6000,Ab Tryz.f117,Tryz.f117.ntmps,Tryz.f117.results.toList,[],⟨[.sl (List.replicate 64 .u8) 1 true,.int .u64],false,λ_=>True,[(0,List.replicate 64 .u8,z1)],[],[]⟩⟩
def Nr:Cx:=F7 [] []
def TW:Az:=OG.sum Nr
theorem Sg:Bv Tryz.prog GB GC 117 (.one TW):=Ac.fin hG .nil .nil Tryz.func117 rfl rfl rfl (.inl rfl) (by kernel_rfl)
def Lf:Ac:=⟨6000,Ab Tryz.f117,Tryz.f117.ntmps,Tryz.f117.results.toList,[],⟨[.sl (List.replicate 56 .u8) 1 true,.int .u64],false,λ_=>True,[(0,List.replicate 56 .u8,z1)],[],[]⟩⟩
def La:Cx:=F7 [] []
def RQ:Az:=Lf.sum La
theorem Qj:Bv Tryz.prog GB GC 117 (.one RQ):=Ac.fin hG .nil .nil Tryz.func117 rfl rfl rfl (.inl rfl) (by kernel_rfl)
def Ll:Ac:=⟨6000,Ab Tryz.f117,Tryz.f117.ntmps,Tryz.f117.results.toList,[],⟨[.sl (List.replicate 48 .u8) 1 true,.int .u64],false,λ_=>True,[(0,List.replicate 48 .u8,z1)],[],[]⟩⟩
def Lp:Cx:=F7 [] []
def Q4:Az:=Ll.sum Lp
theorem Qk:Bv Tryz.prog GB GC 117 (.one Q4):=Ac.fin hG .nil .nil Tryz.func117 rfl rfl rfl (.inl rfl) (by kernel_rfl)
def Lv:Ac:=⟨6000,Ab Tryz.f117,Tryz.f117.ntmps,Tryz.f117.results.toList,[],⟨[.sl (List.replicate 40 .u8) 1 true,.int .u64],false,λ_=>True,[(0,List.replicate 40 .u8,z1)],[],[]⟩⟩
def Lx:Cx:=F7 [] []
def RL:Az:=Lv.sum Lx
theorem Qh:Bv Tryz.prog GB GC 117 (.one RL):=Ac.fin hG .nil .nil Tryz.func117 rfl rfl rfl (.inl rfl) (by kernel_rfl)
def Lb:Ac:=⟨6000,Ab Tryz.f117,Tryz.f117.ntmps,Tryz.f117.results.toList,[],⟨[.sl (List.replicate 32 .u8) 1 true,.int .u64],false,λ_=>True,[(0,List.replicate 32 .u8,z1)],[],[]⟩⟩
def Lj:Cx:=F7 [] []
def RI:Az:=Lb.sum Lj
theorem QT:Bv Tryz.prog GB GC 117 (.one RI):=Ac.fin hG .nil .nil Tryz.func117 rfl rfl rfl (.inl rfl) (by kernel_rfl)
def L8:Ac:=⟨6000,Ab Tryz.f117,Tryz.f117.ntmps,Tryz.f117.results.toList,[],⟨[.sl (List.replicate 24 .u8) 1 true,.int .u64],false,λ_=>True,[(0,List.replicate 24 .u8,z1)],[],[]⟩⟩
def Lm:Cx:=F7 [] []
def RU:Az:=L8.sum Lm
theorem QZ:Bv Tryz.prog GB GC 117 (.one RU):=Ac.fin hG .nil .nil Tryz.func117 rfl rfl rfl (.inl rfl) (by kernel_rfl)
def Lt:Ac:=⟨6000,Ab Tryz.f117,Tryz.f117.ntmps,Tryz.f117.results.toList,[],⟨[.sl (List.replicate 16 .u8) 1 true,.int .u64],false,λ_=>True,[(0,List.replicate 16 .u8,z1)],[],[]⟩⟩
def Le:Cx:=F7 [] []
def Q7:Az:=Lt.sum Le
theorem QU:Bv Tryz.prog GB GC 117 (.one Q7):=Ac.fin hG .nil .nil Tryz.func117 rfl rfl rfl (.inl rfl) (by kernel_rfl)
def L9:Ac:=⟨6000,Ab Tryz.f117,Tryz.f117.ntmps,Tryz.f117.results.toList,[],⟨[.sl (List.replicate 8 .u8) 1 true,.int .u64],false,λ_=>True,[(0,List.replicate 8 .u8,z1)],[],[]⟩⟩
def Lg:Cx:=F7 [] []
def RP:Az:=L9.sum Lg
theorem QX:Bv Tryz.prog GB GC 117 (.one RP):=Ac.fin hG .nil .nil Tryz.func117 rfl rfl rfl (.inl rfl) (by kernel_rfl)
def Sc:Ih:=⟨6000,PU 2 (Ab Tryz.f116),Tryz.f116.ntmps,2,Uc,⟨[.int .u64,.int .u64,.int .u64,.int .u64,.int .u64,.int .u64,.int .u64,.int .u64,.int .i64,.mem (List.replicate 80 .u64) 1 true,.sl (List.replicate 128 .u8) 0 false],true,λ_=>True,[(9,List.replicate 80 .u64,z1)],[],[]⟩,[13,14,15,16,17,18,19,20,80,4,1],[21,22,23,24,25,26,27,28,81,82,83,84,85,86,87,88,89,90,91,92,93,94,95,96,97,98,99,100,101,102,103,104,105,106,107,108,109,110,111,112,113,114,115,116,117,118,119,120,121,122,123,124,125,126,127,128,129,130,131,132,133,134,135,136,137,138,139,140,141,142,143,144,145,146,147,148,149,150,151,152,153,154,155,156,157,158,159,160,161,162,163,164,165,166,167,168,169,170,171,172,173,174,175,176,177,178,179,180,181,182,183,184,185,186,187,188,189,190,191,192,193,194,195,196,197,198,199,200,201,202,203,204,205,206,207,208,209,210,211,212,213,214,215,216,217,218,219,220,221,222,223,224,225,226,227,228,229,230,231,232,233,234,235,236,237,238,239,240,241,242,243,244,245,246,247,248],(λ_=>81)⟩
def Aa:Cx:=F7 [(149,.one Iq)] []
end
end
section
open Go
section
variable{GB:Nat}{GC:Nat->Nat->Option Value}{ad:Nat->Nat×Nat}(hG:GI GB GC ad)
include hG
end
end
end Go.Proofs.YtkbfdaoohhmgoaaGreatDoor
