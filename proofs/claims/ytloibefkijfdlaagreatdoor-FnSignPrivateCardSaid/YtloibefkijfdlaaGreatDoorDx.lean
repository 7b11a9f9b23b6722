/- Contracts that the trees give: keys told, of 32 bytes. Contracts that the trees give: a new digest, a new scalar. -/
import Derived.Test.YtloibefkijfdlaaGreatDoorDb7
namespace Go.Proofs.YtloibefkijfdlaaGreatDoor
open Go
section
variable {GB : Nat} {GC : Nat → Nat → Option Value} {ad : Nat → Nat × Nat} (hG : GOk GB GC ad)
include hG
end
end Go.Proofs.YtloibefkijfdlaaGreatDoor

namespace Go.Proofs.YtloibefkijfdlaaGreatDoor
open Go
section
variable {GB : Nat} {GC : Nat → Nat → Option Value} {ad : Nat → Nat × Nat} (hG : GOk GB GC ad)
include hG
noncomputable def i_sha512_New : FnI := ⟨6000, bodyOf Tryz.f92, Tryz.f92.ntmps, Tryz.f92.results.toList, [], ⟨[], false, fun _ => True, [], [(List.replicate 8 .u64 ++ List.replicate 128 .u8 ++ [.i64, .u64, .i64], z1)], [.ptrF 0]⟩⟩
noncomputable def C_sha512_New : Cx := mkC [] [(108, ilF Tryz.f108)]
noncomputable def s_sha512_New : FSum := i_sha512_New.sum C_sha512_New
theorem ok_sha512_New : FEOk Tryz.prog GB GC 92 (.one s_sha512_New) := FnI.fin hG .nil (.cons Tryz.func108 rfl Tryz.call108 .nil) Tryz.func92 rfl rfl rfl (.inl rfl) (by kernel_rfl)
noncomputable def i_edwards25519_NewScalar : FnI := ⟨6000, bodyOf Tryz.f98, Tryz.f98.ntmps, Tryz.f98.results.toList, [], ⟨[], false, fun _ => True, [], [(List.replicate 4 .u64, z1)], [.ptrF 0]⟩⟩
noncomputable def C_edwards25519_NewScalar : Cx := mkC [] []
noncomputable def s_edwards25519_NewScalar : FSum := i_edwards25519_NewScalar.sum C_edwards25519_NewScalar
theorem ok_edwards25519_NewScalar : FEOk Tryz.prog GB GC 98 (.one s_edwards25519_NewScalar) := FnI.fin hG .nil .nil Tryz.func98 rfl rfl rfl (.inl rfl) (by kernel_rfl)
end
end Go.Proofs.YtloibefkijfdlaaGreatDoor
