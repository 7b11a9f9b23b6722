/- Contracts that the trees give: the base point. -/
import Derived.Test.YtkbfdaoohhmgoaaGreatDoorBk6
import Derived.Test.YtkbfdaoohhmgoaaGreatDoorDy
namespace Go.Proofs.YtkbfdaoohhmgoaaGreatDoor
noncomputable section
open Go
section
variable{GB:Nat}{GC:Nat->Nat->Option Value}{ad:Nat->Nat×Nat}(hG:GI GB GC ad)
include hG
def Cj:Ac:=⟨6000,Ab Tryz.f126,Tryz.f126.ntmps,Tryz.f126.results.toList,[],⟨[],false,λ_=>True,[],[(List.replicate 20 .u64,z1)],[.kA 0]⟩⟩
def CL:Cx:=F7 [(151,.one F3),(63,.one Dv),(64,.one DJ),(65,.one BI),(66,.one KM),(67,.one Ao),(68,.one JJ),(69,.one Co),(70,.one EM),(71,.one FH),(72,.one E9),(73,.one Il),(74,.one Gp)] [(152,Nk Tryz.f152),(46,Nk Tryz.f46)]
def DK:Az:=Cj.cQ CL
theorem MH:Bv Tryz.prog GB GC 126 (.one DK):=Ac.fg hG (.cons (k:=151) rfl (Pw hG) Tryz.call151 (Ac.fX _ _) (.cons (k:=63) rfl (H6 hG) Tryz.call63 (Ac.len _ _) (.cons (k:=64) rfl (DY hG) Tryz.call64 (Ac.len _ _) (.cons (k:=65) rfl (Bw hG) Tryz.call65 (Ac.len _ _) (.cons (k:=66) rfl (NH hG) Tryz.call66 (Ac.len _ _) (.cons (k:=67) rfl (Ap hG) Tryz.call67 (Ac.len _ _) (.cons (k:=68) rfl (Kn hG) Tryz.call68 (Ac.len _ _) (.cons (k:=69) rfl (Cr hG) Tryz.call69 (Ac.len _ _) (.cons (k:=70) rfl (J5 hG) Tryz.call70 (Ac.fX _ _) (.cons (k:=71) rfl (GY hG) Tryz.call71 (Ac.len _ _) (.cons (k:=72) rfl (GZ hG) Tryz.call72 (Ac.len _ _) (.cons (k:=73) rfl (KD hG) Tryz.call73 (Ac.len _ _) (.cons (k:=74) rfl (II hG) Tryz.call74 (Ac.len _ _) .nil))))))))))))) (.cons Tryz.func152 rfl Tryz.call152 (.cons Tryz.func46 rfl Tryz.call46 .nil)) Tryz.func126 rfl rfl rfl (.inl rfl) (by kernel_rfl)
end
end
section
open Go
section
variable{GB:Nat}{GC:Nat->Nat->Option Value}{ad:Nat->Nat×Nat}(hG:GI GB GC ad)
include hG
end
end
section
open Go
end
section
open Go
def AOV(f:Nat):Option (List (Nat×FT)×List I1×Ex×St)->Bool
 |some (_,[.pre g al],_,_)=>Nat.beq g f&&(match al.drop 8 with
  | .xs [.lit (.ofNat 0)]::_=>true
  |_=>false)
 |_=>false
end
section
open Go
section
variable{GB:Nat}{GC:Nat->Nat->Option Value}{ad:Nat->Nat×Nat}(hG:GI GB GC ad)
include hG
end
end
section
open Go
section
variable{GB:Nat}{GC:Nat->Nat->Option Value}{ad:Nat->Nat×Nat}(hG:GI GB GC ad)
include hG
end
end
noncomputable section
open Go
section
variable{GB:Nat}{GC:Nat->Nat->Option Value}{ad:Nat->Nat×Nat}(hG:GI GB GC ad)
include hG
def Om:Ac:=⟨6000,Ab Tryz.f53,Tryz.f53.ntmps,Tryz.f53.results.toList,[],⟨[],false,λ_=>True,[],[(List.replicate 8 .u64++List.replicate 128 .u8 ++ [.i64,.u64,.i64],z1)],[.kA 0]⟩⟩
def PG:Cx:=F7 [] [(79,Nk Tryz.f79)]
def jb:Az:=Om.sum PG
theorem dC:Bv Tryz.prog GB GC 53 (.one jb):=Ac.fin hG .nil (.cons Tryz.func79 rfl Tryz.call79 .nil) Tryz.func53 rfl rfl rfl (.inl rfl) (by kernel_rfl)
def F8:Ac:=⟨6000,Ab Tryz.f56,Tryz.f56.ntmps,Tryz.f56.results.toList,[],⟨[],false,λ_=>True,[],[(List.replicate 4 .u64,z1)],[.kA 0]⟩⟩
def Fz:Cx:=F7 [] []
def Qm:Az:=F8.sum Fz
theorem Pv:Bv Tryz.prog GB GC 56 (.one Qm):=Ac.fin hG .nil .nil Tryz.func56 rfl rfl rfl (.inl rfl) (by kernel_rfl)
end
end
end Go.Proofs.YtkbfdaoohhmgoaaGreatDoor
