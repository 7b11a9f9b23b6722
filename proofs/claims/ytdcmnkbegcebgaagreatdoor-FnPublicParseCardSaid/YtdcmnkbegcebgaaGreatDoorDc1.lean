/- Contracts that the trees give: public keys that are parsed. -/
import Derived.Test.YtdcmnkbegcebgaaGreatDoorDb9
namespace Go.Proofs.YtdcmnkbegcebgaaGreatDoor
open Go

section
variable {GB : Nat} {GC : Nat → Nat → Option Value} {ad : Nat → Nat × Nat} (hG : GOk GB GC ad)
include hG
noncomputable def i_impl_ParsePublic : FnI := ⟨6000, bodyOf Tryz.f9, Tryz.f9.ntmps, Tryz.f9.results.toList, [], ⟨[.sl (List.replicate 32 .u8) 0 false], false, fun _ => True, [], [(List.replicate 32 .u8, z1)], [.slG 0 32, .bool z0]⟩⟩
noncomputable def C_impl_ParsePublic : Cx := mkC [(40, .one s_field_Element_SetBytes), (41, .one s_field_Element_Square), (42, .one s_field_Element_Subtract), (43, .one s_edwards25519_feOne), (44, .one s_field_Element_Multiply), (45, .one s_edwards25519_dOf), (46, .one s_field_Element_Add), (47, .one s_field_Element_SqrtRatio), (48, .one s_field_Element_Negate), (49, .one s_field_Element_Select), (50, .one s_field_Element_Set), (51, .one s_field_Element_One)] [(16, ilF Tryz.f16), (17, ilF Tryz.f17), (25, ilF Tryz.f25), (31, ilF Tryz.f31), (18, ilF Tryz.f18)]
noncomputable def s_impl_ParsePublic : FSum := i_impl_ParsePublic.sumP C_impl_ParsePublic
theorem ok_impl_ParsePublic : FEOk Tryz.prog GB GC 9 (.one s_impl_ParsePublic) := FnI.finP hG (.cons (k := 40) rfl (ok_field_Element_SetBytes hG) Tryz.call40 (FnI.len _ _) (.cons (k := 41) rfl (ok_field_Element_Square hG) Tryz.call41 (FnI.len _ _) (.cons (k := 42) rfl (ok_field_Element_Subtract hG) Tryz.call42 (FnI.len _ _) (.cons (k := 43) rfl (ok_edwards25519_feOne hG) Tryz.call43 (FnI.len _ _) (.cons (k := 44) rfl (ok_field_Element_Multiply hG) Tryz.call44 (FnI.len _ _) (.cons (k := 45) rfl (ok_edwards25519_dOf hG) Tryz.call45 (FnI.len _ _) (.cons (k := 46) rfl (ok_field_Element_Add hG) Tryz.call46 (FnI.len _ _) (.cons (k := 47) rfl (ok_field_Element_SqrtRatio hG) Tryz.call47 (FnI.lenP _ _) (.cons (k := 48) rfl (ok_field_Element_Negate hG) Tryz.call48 (FnI.len _ _) (.cons (k := 49) rfl (ok_field_Element_Select hG) Tryz.call49 (FnI.len _ _) (.cons (k := 50) rfl (ok_field_Element_Set hG) Tryz.call50 (FnI.len _ _) (.cons (k := 51) rfl (ok_field_Element_One hG) Tryz.call51 (FnI.len _ _) .nil)))))))))))) (.cons Tryz.func16 rfl Tryz.call16 (.cons Tryz.func17 rfl Tryz.call17 (.cons Tryz.func25 rfl Tryz.call25 (.cons Tryz.func31 rfl Tryz.call31 (.cons Tryz.func18 rfl Tryz.call18 .nil))))) Tryz.func9 rfl rfl rfl (.inl rfl) (by kernel_rfl)
end
end Go.Proofs.YtdcmnkbegcebgaaGreatDoor
