/- Contracts that the trees give: multiples of the base point. -/
import Derived.Test.YtloibefkijfdlaaGreatDoorDb5
namespace Go.Proofs.YtloibefkijfdlaaGreatDoor
open Go
section
variable {GB : Nat} {GC : Nat → Nat → Option Value} {ad : Nat → Nat × Nat} (hG : GOk GB GC ad)
include hG
noncomputable def i_edwards25519_Point_ScalarBaseMult : FnI := ⟨6000, bodyOf Tryz.f105, Tryz.f105.ntmps, Tryz.f105.results.toList, [], ⟨[.mem (List.replicate 20 .u64) 98 true, .mem (List.replicate 4 .u64) 83 false], false, fun _ => True, [(0, (List.replicate 20 .u64), z1)], [], [.ptrP 0]⟩⟩
noncomputable def C_edwards25519_Point_ScalarBaseMult : Cx := mkC [(135, .one s_edwards25519_projP1xP1_Double), (136, .one s_edwards25519_Point_fromP1xP1), (141, .one s_edwards25519_projP1xP1_AddAffine), (143, .one s_edwards25519_projP2_FromP1xP1), (146, .one s_edwards25519_basepointTable), (147, .one s_edwards25519_Scalar_signedRadix16), (148, .one s_edwards25519_Point_Set), (149, .one s_edwards25519_NewIdentityPoint), (150, .one s_edwards25519_affineLookupTable_SelectInto), (151, .one s_edwards25519_projP2_FromP3)] []
noncomputable def s_edwards25519_Point_ScalarBaseMult : FSum := i_edwards25519_Point_ScalarBaseMult.sumP C_edwards25519_Point_ScalarBaseMult
theorem ok_edwards25519_Point_ScalarBaseMult : FEOk Tryz.prog GB GC 105 (.one s_edwards25519_Point_ScalarBaseMult) := FnI.finP hG (.cons (k := 135) rfl (ok_edwards25519_projP1xP1_Double hG) Tryz.call135 (FnI.lenP _ _) (.cons (k := 136) rfl (ok_edwards25519_Point_fromP1xP1 hG) Tryz.call136 (FnI.lenP _ _) (.cons (k := 141) rfl (ok_edwards25519_projP1xP1_AddAffine hG) Tryz.call141 (FnI.lenP _ _) (.cons (k := 143) rfl (ok_edwards25519_projP2_FromP1xP1 hG) Tryz.call143 (FnI.lenP _ _) (.cons (k := 146) rfl (ok_edwards25519_basepointTable hG) Tryz.call146 (FnI.lenP _ _) (.cons (k := 147) rfl (ok_edwards25519_Scalar_signedRadix16 hG) Tryz.call147 (FnI.lenP _ _) (.cons (k := 148) rfl (ok_edwards25519_Point_Set hG) Tryz.call148 (FnI.lenP _ _) (.cons (k := 149) rfl (ok_edwards25519_NewIdentityPoint hG) Tryz.call149 (FnI.lenP _ _) (.cons (k := 150) rfl (ok_edwards25519_affineLookupTable_SelectInto hG) Tryz.call150 (FnI.lenP _ _) (.cons (k := 151) rfl (ok_edwards25519_projP2_FromP3 hG) Tryz.call151 (FnI.lenP _ _) .nil)))))))))) .nil Tryz.func105 rfl rfl rfl (.inl rfl) (by kernel_rfl)
end
end Go.Proofs.YtloibefkijfdlaaGreatDoor
