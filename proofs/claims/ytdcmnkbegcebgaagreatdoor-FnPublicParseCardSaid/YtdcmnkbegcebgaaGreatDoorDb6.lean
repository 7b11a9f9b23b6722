/- Contracts that the trees give: multiples of the base point. -/
import Derived.Test.YtdcmnkbegcebgaaGreatDoorDb5
namespace Go.Proofs.YtdcmnkbegcebgaaGreatDoor
open Go

section
variable {GB : Nat} {GC : Nat → Nat → Option Value} {ad : Nat → Nat × Nat} (hG : GOk GB GC ad)
include hG
noncomputable def i_edwards25519_Point_ScalarBaseMult : FnI := ⟨6000, bodyOf Tryz.f38, Tryz.f38.ntmps, Tryz.f38.results.toList, [], ⟨[.mem (List.replicate 20 .u64) 57 true, .mem (List.replicate 4 .u64) 48 false], false, fun _ => True, [(0, (List.replicate 20 .u64), z1)], [], [.ptrP 0]⟩⟩
noncomputable def C_edwards25519_Point_ScalarBaseMult : Cx := mkC [(60, .one s_edwards25519_basepointTable), (61, .one s_edwards25519_Scalar_signedRadix16), (62, .one s_edwards25519_Point_Set), (63, .one s_edwards25519_NewIdentityPoint), (64, .one s_edwards25519_affineLookupTable_SelectInto), (65, .one s_edwards25519_projP1xP1_AddAffine), (66, .one s_edwards25519_Point_fromP1xP1), (67, .one s_edwards25519_projP2_FromP3), (68, .one s_edwards25519_projP1xP1_Double), (69, .one s_edwards25519_projP2_FromP1xP1)] []
noncomputable def s_edwards25519_Point_ScalarBaseMult : FSum := i_edwards25519_Point_ScalarBaseMult.sumP C_edwards25519_Point_ScalarBaseMult
theorem ok_edwards25519_Point_ScalarBaseMult : FEOk Tryz.prog GB GC 38 (.one s_edwards25519_Point_ScalarBaseMult) := FnI.finP hG (.cons (k := 60) rfl (ok_edwards25519_basepointTable hG) Tryz.call60 (FnI.lenP _ _) (.cons (k := 61) rfl (ok_edwards25519_Scalar_signedRadix16 hG) Tryz.call61 (FnI.lenP _ _) (.cons (k := 62) rfl (ok_edwards25519_Point_Set hG) Tryz.call62 (FnI.lenP _ _) (.cons (k := 63) rfl (ok_edwards25519_NewIdentityPoint hG) Tryz.call63 (FnI.lenP _ _) (.cons (k := 64) rfl (ok_edwards25519_affineLookupTable_SelectInto hG) Tryz.call64 (FnI.lenP _ _) (.cons (k := 65) rfl (ok_edwards25519_projP1xP1_AddAffine hG) Tryz.call65 (FnI.lenP _ _) (.cons (k := 66) rfl (ok_edwards25519_Point_fromP1xP1 hG) Tryz.call66 (FnI.lenP _ _) (.cons (k := 67) rfl (ok_edwards25519_projP2_FromP3 hG) Tryz.call67 (FnI.lenP _ _) (.cons (k := 68) rfl (ok_edwards25519_projP1xP1_Double hG) Tryz.call68 (FnI.lenP _ _) (.cons (k := 69) rfl (ok_edwards25519_projP2_FromP1xP1 hG) Tryz.call69 (FnI.lenP _ _) .nil)))))))))) .nil Tryz.func38 rfl rfl rfl (.inl rfl) (by kernel_rfl)
end
end Go.Proofs.YtdcmnkbegcebgaaGreatDoor
