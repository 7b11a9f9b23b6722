/- Contracts that the trees give: keys told, of 32 bytes. -/
import Derived.Test.YtloibefkijfdlaaGreatDoorDw
namespace Go.Proofs.YtloibefkijfdlaaGreatDoor
section
open Go
section
variable{GB:Nat}{GC:Nat→Nat→Option Value}{ad:Nat→Nat×Nat}(hG:Jk GB GC ad)
include hG
end
end
noncomputable section
open Go
section
variable{GB:Nat}{GC:Nat→Nat→Option Value}{ad:Nat→Nat×Nat}(hG:Jk GB GC ad)
include hG
def P9:AQ:=⟨6000,Ab Tryz.f92,Tryz.f92.ntmps,Tryz.f92.results.toList,[],⟨[],false,fun _=>True,[],[(List.replicate 8 .u64++List.replicate 128 .u8 ++ [.i64,.u64,.i64],z1)],[.ptrF 0]⟩⟩
def QA:Cx:=GJ [] [(108,Mc Tryz.f108)]
def jm:Az:=P9.sum QA
theorem fw:Bp Tryz.prog GB GC 92 (.one jm):=AQ.fin hG .nil (.cons Tryz.func108 rfl Tryz.call108 .nil) Tryz.func92 rfl rfl rfl (.inl rfl) (by kernel_rfl)
def E9:AQ:=⟨6000,Ab Tryz.f98,Tryz.f98.ntmps,Tryz.f98.results.toList,[],⟨[],false,fun _=>True,[],[(List.replicate 4 .u64,z1)],[.ptrF 0]⟩⟩
def Ez:Cx:=GJ [] []
def Ha:Az:=E9.sum Ez
theorem Lt:Bp Tryz.prog GB GC 98 (.one Ha):=AQ.fin hG .nil .nil Tryz.func98 rfl rfl rfl (.inl rfl) (by kernel_rfl)
end
end
end Go.Proofs.YtloibefkijfdlaaGreatDoor
