/- Contracts of the reference: multiples of a point, the base point. -/
import Derived.Test.YtloibefkijfdlaaGreatDoorNd
namespace Go.Proofs.YtloibefkijfdlaaGreatDoor
section
open Go Ma
section
variable{o a e d:List Int}{n:Nat}
end
theorem ALz{l:List Int}(hl:l.length=32)(h:cM l)(tg:l.getD 31 0<128):elB l=l:=by
 rw[qL hl h]
 match l,hl with
 | [b0,b1,b2,b3,b4,b5,b6,b7,b8,b9,Ξ,Ψ,υ,τ,b14,b15,b16,b17,Ω,ψ,b20,b21,b22,b23,Δ,Γ,Θ,b27,b28,b29,b30,χ],_=>
  have:=h χ (by simp);have e:χ%128=χ:=Th this.1 tg;show[b0,b1,b2,b3,b4,b5,b6,b7,b8,b9,Ξ,Ψ,υ,τ,b14,b15,b16,b17,Ω,ψ,b20,b21,b22,b23,Δ,Γ,Θ,b27,b28,b29,b30,χ%128]=_;rw[e]
theorem AOZ{y:Fp}(h:∃x,LB dE x y)(e:y=yG):(⟨xY y,y,Q7 h⟩:Pt)=JS:=by
 subst e;rfl
section
variable{GB:Nat}{GC:Nat->Nat->Option Value}{ad:Nat->Nat×Nat}(hG:Gw GB GC ad)
include hG
end
end
section
open Go Ma
section
variable{o a b m:List Int}{n:Nat}
end
section
variable{GB:Nat}{GC:Nat->Nat->Option Value}{ad:Nat->Nat×Nat}(hG:Gw GB GC ad)
include hG
end
end
section
open Go
section
variable{GB:Nat}{GC:Nat->Nat->Option Value}{ad:Nat->Nat×Nat}(hG:Gw GB GC ad)
include hG
end
end
noncomputable section
open Go
section
variable{GB:Nat}{GC:Nat->Nat->Option Value}{ad:Nat->Nat×Nat}(hG:Gw GB GC ad)
include hG
def Ou:Ad:=⟨6000,Ak Tryz.f92,Tryz.f92.ntmps,Tryz.f92.results.toList,[],⟨[],false,λ_=>True,[],[(List.replicate 8 .u64++List.replicate 128 .u8 ++ [.i64,.u64,.i64],z1)],[.i7 0]⟩⟩
def Om:Cx:=Ht [] [(108,MU Tryz.f108)]
def dA:BH:=Ou.sum Om
theorem Zn:Ck Tryz.prog GB GC 92 (.one dA):=Ad.fin hG .nil (.cons Tryz.func108 rfl Tryz.call108 .nil) Tryz.func92 rfl rfl rfl (.inl rfl) (by kernel_rfl)
def Et:Ad:=⟨6000,Ak Tryz.f98,Tryz.f98.ntmps,Tryz.f98.results.toList,[],⟨[],false,λ_=>True,[],[(List.replicate 4 .u64,z1)],[.i7 0]⟩⟩
def Eu:Cx:=Ht [] []
def G5:BH:=Et.sum Eu
theorem LK:Ck Tryz.prog GB GC 98 (.one G5):=Ad.fin hG .nil .nil Tryz.func98 rfl rfl rfl (.inl rfl) (by kernel_rfl)
end
end
end Go.Proofs.YtloibefkijfdlaaGreatDoor
