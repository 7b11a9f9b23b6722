/- Contracts that the trees give: scalars. -/
import Derived.Test.YtdcmnkbegcebgaaGreatDoorDb2
namespace Go.Proofs.YtdcmnkbegcebgaaGreatDoor
open Go

section
variable {GB : Nat} {GC : Nat → Nat → Option Value} {ad : Nat → Nat × Nat} (hG : GOk GB GC ad)
include hG
noncomputable def i_edwards25519_fiatScalarCmovznzU64 : FnI := ⟨6000, bodyOf Tryz.f135, Tryz.f135.ntmps, Tryz.f135.results.toList, [], ⟨[.mem ([.u64]) 44 true, .int .u64, .int .u64, .int .u64], false, fun _ => True, [(0, ([.u64]), z1)], [], []⟩⟩
noncomputable def C_edwards25519_fiatScalarCmovznzU64 : Cx := mkC [] []
noncomputable def s_edwards25519_fiatScalarCmovznzU64 : FSum := i_edwards25519_fiatScalarCmovznzU64.sum C_edwards25519_fiatScalarCmovznzU64
theorem ok_edwards25519_fiatScalarCmovznzU64 : FEOk Tryz.prog GB GC 135 (.one s_edwards25519_fiatScalarCmovznzU64) := FnI.fin hG .nil .nil Tryz.func135 rfl rfl rfl (.inl rfl) (by kernel_rfl)
noncomputable def i_edwards25519_fiatScalarToMontgomery : FnI := ⟨6000, bodyOf Tryz.f114, Tryz.f114.ntmps, Tryz.f114.results.toList, [], ⟨[.mem (List.replicate 4 .u64) 1 true, .mem (List.replicate 4 .u64) 1 false], false, fun _ => True, [(0, List.replicate 4 .u64, z1)], [], []⟩⟩
noncomputable def C_edwards25519_fiatScalarToMontgomery : Cx := mkC [(130, .one s_bits_Mul64), (135, .one s_edwards25519_fiatScalarCmovznzU64)] []
noncomputable def s_edwards25519_fiatScalarToMontgomery : FSum := i_edwards25519_fiatScalarToMontgomery.sum C_edwards25519_fiatScalarToMontgomery
theorem ok_edwards25519_fiatScalarToMontgomery : FEOk Tryz.prog GB GC 114 (.one s_edwards25519_fiatScalarToMontgomery) := FnI.fin hG (.cons (k := 130) rfl (ok_bits_Mul64 hG) Tryz.call130 (FnI.len _ _) (.cons (k := 135) rfl (ok_edwards25519_fiatScalarCmovznzU64 hG) Tryz.call135 (FnI.len _ _) .nil)) .nil Tryz.func114 rfl rfl rfl (.inl rfl) (by kernel_rfl)
noncomputable def i_edwards25519_fiatScalarFromBytes : FnI := ⟨6000, bodyOf Tryz.f113, Tryz.f113.ntmps, Tryz.f113.results.toList, [], ⟨[.mem (List.replicate 4 .u64) 45 true, .mem (List.replicate 32 .u8) 43 false], false, fun _ => True, [(0, (List.replicate 4 .u64), z1)], [], []⟩⟩
noncomputable def C_edwards25519_fiatScalarFromBytes : Cx := mkC [] []
noncomputable def s_edwards25519_fiatScalarFromBytes : FSum := i_edwards25519_fiatScalarFromBytes.sum C_edwards25519_fiatScalarFromBytes
theorem ok_edwards25519_fiatScalarFromBytes : FEOk Tryz.prog GB GC 113 (.one s_edwards25519_fiatScalarFromBytes) := FnI.fin hG .nil .nil Tryz.func113 rfl rfl rfl (.inl rfl) (by kernel_rfl)
noncomputable def i_edwards25519_fiatScalarAdd : FnI := ⟨6000, bodyOf Tryz.f115, Tryz.f115.ntmps, Tryz.f115.results.toList, [], ⟨[.mem (List.replicate 4 .u64) 46 true, .mem (List.replicate 4 .u64) 46 false, .mem (List.replicate 4 .u64) 46 false], false, fun _ => True, [(0, (List.replicate 4 .u64), z1)], [], []⟩⟩
noncomputable def C_edwards25519_fiatScalarAdd : Cx := mkC [(135, .one s_edwards25519_fiatScalarCmovznzU64)] []
noncomputable def s_edwards25519_fiatScalarAdd : FSum := i_edwards25519_fiatScalarAdd.sum C_edwards25519_fiatScalarAdd
theorem ok_edwards25519_fiatScalarAdd : FEOk Tryz.prog GB GC 115 (.one s_edwards25519_fiatScalarAdd) := FnI.fin hG (.cons (k := 135) rfl (ok_edwards25519_fiatScalarCmovznzU64 hG) Tryz.call135 (FnI.len _ _) .nil) .nil Tryz.func115 rfl rfl rfl (.inl rfl) (by kernel_rfl)
noncomputable def i_edwards25519_fiatScalarMul : FnI := ⟨6000, bodyOf Tryz.f116, Tryz.f116.ntmps, Tryz.f116.results.toList, [], ⟨[.mem (List.replicate 4 .u64) 46 true, .mem (List.replicate 4 .u64) 46 false, .mem (List.replicate 4 .u64) 46 false], false, fun _ => True, [(0, (List.replicate 4 .u64), z1)], [], []⟩⟩
noncomputable def C_edwards25519_fiatScalarMul : Cx := mkC [(130, .one s_bits_Mul64), (135, .one s_edwards25519_fiatScalarCmovznzU64)] []
noncomputable def s_edwards25519_fiatScalarMul : FSum := i_edwards25519_fiatScalarMul.sum C_edwards25519_fiatScalarMul
theorem ok_edwards25519_fiatScalarMul : FEOk Tryz.prog GB GC 116 (.one s_edwards25519_fiatScalarMul) := FnI.fin hG (.cons (k := 130) rfl (ok_bits_Mul64 hG) Tryz.call130 (FnI.len _ _) (.cons (k := 135) rfl (ok_edwards25519_fiatScalarCmovznzU64 hG) Tryz.call135 (FnI.len _ _) .nil)) .nil Tryz.func116 rfl rfl rfl (.inl rfl) (by kernel_rfl)
noncomputable def i_edwards25519_fiatScalarFromMontgomery : FnI := ⟨6000, bodyOf Tryz.f117, Tryz.f117.ntmps, Tryz.f117.results.toList, [], ⟨[.mem (List.replicate 4 .u64) 168 true, .mem (List.replicate 4 .u64) 46 false], false, fun _ => True, [(0, (List.replicate 4 .u64), z1)], [], []⟩⟩
noncomputable def C_edwards25519_fiatScalarFromMontgomery : Cx := mkC [(130, .one s_bits_Mul64), (135, .one s_edwards25519_fiatScalarCmovznzU64)] []
noncomputable def s_edwards25519_fiatScalarFromMontgomery : FSum := i_edwards25519_fiatScalarFromMontgomery.sum C_edwards25519_fiatScalarFromMontgomery
theorem ok_edwards25519_fiatScalarFromMontgomery : FEOk Tryz.prog GB GC 117 (.one s_edwards25519_fiatScalarFromMontgomery) := FnI.fin hG (.cons (k := 130) rfl (ok_bits_Mul64 hG) Tryz.call130 (FnI.len _ _) (.cons (k := 135) rfl (ok_edwards25519_fiatScalarCmovznzU64 hG) Tryz.call135 (FnI.len _ _) .nil)) .nil Tryz.func117 rfl rfl rfl (.inl rfl) (by kernel_rfl)
noncomputable def i_edwards25519_fiatScalarToBytes : FnI := ⟨6000, bodyOf Tryz.f118, Tryz.f118.ntmps, Tryz.f118.results.toList, [], ⟨[.mem (List.replicate 32 .u8) 43 true, .mem (List.replicate 4 .u64) 45 false], false, fun _ => True, [(0, (List.replicate 32 .u8), z1)], [], []⟩⟩
noncomputable def C_edwards25519_fiatScalarToBytes : Cx := mkC [] []
noncomputable def s_edwards25519_fiatScalarToBytes : FSum := i_edwards25519_fiatScalarToBytes.sum C_edwards25519_fiatScalarToBytes
theorem ok_edwards25519_fiatScalarToBytes : FEOk Tryz.prog GB GC 118 (.one s_edwards25519_fiatScalarToBytes) := FnI.fin hG .nil .nil Tryz.func118 rfl rfl rfl (.inl rfl) (by kernel_rfl)
noncomputable def i_edwards25519_Scalar_Set : FnI := ⟨6000, bodyOf Tryz.f84, Tryz.f84.ntmps, Tryz.f84.results.toList, [], ⟨[.mem (List.replicate 4 .u64) 48 true, .mem (List.replicate 4 .u64) 48 false], false, fun _ => True, [(0, (List.replicate 4 .u64), z1)], [], [.ptrP 0]⟩⟩
noncomputable def C_edwards25519_Scalar_Set : Cx := mkC [] []
noncomputable def s_edwards25519_Scalar_Set : FSum := i_edwards25519_Scalar_Set.sum C_edwards25519_Scalar_Set
theorem ok_edwards25519_Scalar_Set : FEOk Tryz.prog GB GC 84 (.one s_edwards25519_Scalar_Set) := FnI.fin hG .nil .nil Tryz.func84 rfl rfl rfl (.inl rfl) (by kernel_rfl)
noncomputable def i_edwards25519_Scalar_Add : FnI := ⟨6000, bodyOf Tryz.f82, Tryz.f82.ntmps, Tryz.f82.results.toList, [], ⟨[.mem (List.replicate 4 .u64) 48 true, .mem (List.replicate 4 .u64) 48 false, .mem (List.replicate 4 .u64) 48 false], false, fun _ => True, [(0, (List.replicate 4 .u64), z1)], [], [.ptrP 0]⟩⟩
noncomputable def C_edwards25519_Scalar_Add : Cx := mkC [(115, .one s_edwards25519_fiatScalarAdd)] []
noncomputable def s_edwards25519_Scalar_Add : FSum := i_edwards25519_Scalar_Add.sum C_edwards25519_Scalar_Add
theorem ok_edwards25519_Scalar_Add : FEOk Tryz.prog GB GC 82 (.one s_edwards25519_Scalar_Add) := FnI.fin hG (.cons (k := 115) rfl (ok_edwards25519_fiatScalarAdd hG) Tryz.call115 (FnI.len _ _) .nil) .nil Tryz.func82 rfl rfl rfl (.inl rfl) (by kernel_rfl)
noncomputable def i_edwards25519_Scalar_Multiply : FnI := ⟨6000, bodyOf Tryz.f83, Tryz.f83.ntmps, Tryz.f83.results.toList, [], ⟨[.mem (List.replicate 4 .u64) 48 true, .mem (List.replicate 4 .u64) 48 false, .mem (List.replicate 4 .u64) 48 false], false, fun _ => True, [(0, (List.replicate 4 .u64), z1)], [], [.ptrP 0]⟩⟩
noncomputable def C_edwards25519_Scalar_Multiply : Cx := mkC [(116, .one s_edwards25519_fiatScalarMul)] []
noncomputable def s_edwards25519_Scalar_Multiply : FSum := i_edwards25519_Scalar_Multiply.sum C_edwards25519_Scalar_Multiply
theorem ok_edwards25519_Scalar_Multiply : FEOk Tryz.prog GB GC 83 (.one s_edwards25519_Scalar_Multiply) := FnI.fin hG (.cons (k := 116) rfl (ok_edwards25519_fiatScalarMul hG) Tryz.call116 (FnI.len _ _) .nil) .nil Tryz.func83 rfl rfl rfl (.inl rfl) (by kernel_rfl)
noncomputable def i_edwards25519_Scalar_MultiplyAdd : FnI := ⟨6000, bodyOf Tryz.f57, Tryz.f57.ntmps, Tryz.f57.results.toList, [], ⟨[.mem (List.replicate 4 .u64) 48 true, .mem (List.replicate 4 .u64) 48 false, .mem (List.replicate 4 .u64) 48 false, .mem (List.replicate 4 .u64) 48 false], false, fun _ => True, [(0, (List.replicate 4 .u64), z1)], [], [.ptrP 0]⟩⟩
noncomputable def C_edwards25519_Scalar_MultiplyAdd : Cx := mkC [(82, .one s_edwards25519_Scalar_Add), (83, .one s_edwards25519_Scalar_Multiply), (84, .one s_edwards25519_Scalar_Set)] []
noncomputable def s_edwards25519_Scalar_MultiplyAdd : FSum := i_edwards25519_Scalar_MultiplyAdd.sum C_edwards25519_Scalar_MultiplyAdd
theorem ok_edwards25519_Scalar_MultiplyAdd : FEOk Tryz.prog GB GC 57 (.one s_edwards25519_Scalar_MultiplyAdd) := FnI.fin hG (.cons (k := 82) rfl (ok_edwards25519_Scalar_Add hG) Tryz.call82 (FnI.len _ _) (.cons (k := 83) rfl (ok_edwards25519_Scalar_Multiply hG) Tryz.call83 (FnI.len _ _) (.cons (k := 84) rfl (ok_edwards25519_Scalar_Set hG) Tryz.call84 (FnI.len _ _) .nil))) .nil Tryz.func57 rfl rfl rfl (.inl rfl) (by kernel_rfl)
noncomputable def i_edwards25519_Scalar_setShortBytes : FnI := ⟨6000, bodyOf Tryz.f81, Tryz.f81.ntmps, Tryz.f81.results.toList, [], ⟨[.mem (List.replicate 4 .u64) 1 true, .sl (List.replicate 21 .u8) 0 false], false, fun _ => True, [(0, List.replicate 4 .u64, z1)], [], [.ptrP 0]⟩⟩
noncomputable def C_edwards25519_Scalar_setShortBytes : Cx := mkC [(113, .one s_edwards25519_fiatScalarFromBytes), (114, .one s_edwards25519_fiatScalarToMontgomery)] []
noncomputable def s_edwards25519_Scalar_setShortBytes : FSum := i_edwards25519_Scalar_setShortBytes.sumP C_edwards25519_Scalar_setShortBytes
theorem ok_edwards25519_Scalar_setShortBytes : FEOk Tryz.prog GB GC 81 (.one s_edwards25519_Scalar_setShortBytes) := FnI.finP hG (.cons (k := 113) rfl (ok_edwards25519_fiatScalarFromBytes hG) Tryz.call113 (FnI.len _ _) (.cons (k := 114) rfl (ok_edwards25519_fiatScalarToMontgomery hG) Tryz.call114 (FnI.len _ _) .nil)) .nil Tryz.func81 rfl rfl rfl (.inl rfl) (by kernel_rfl)
noncomputable def i_edwards25519_Scalar_setShortBytes_v1 : FnI := ⟨6000, bodyOf Tryz.f81, Tryz.f81.ntmps, Tryz.f81.results.toList, [], ⟨[.mem (List.replicate 4 .u64) 1 true, .sl (List.replicate 22 .u8) 0 false], false, fun _ => True, [(0, List.replicate 4 .u64, z1)], [], [.ptrP 0]⟩⟩
noncomputable def C_edwards25519_Scalar_setShortBytes_v1 : Cx := mkC [(113, .one s_edwards25519_fiatScalarFromBytes), (114, .one s_edwards25519_fiatScalarToMontgomery)] []
noncomputable def s_edwards25519_Scalar_setShortBytes_v1 : FSum := i_edwards25519_Scalar_setShortBytes_v1.sumP C_edwards25519_Scalar_setShortBytes_v1
theorem ok_edwards25519_Scalar_setShortBytes_v1 : FEOk Tryz.prog GB GC 81 (.one s_edwards25519_Scalar_setShortBytes_v1) := FnI.finP hG (.cons (k := 113) rfl (ok_edwards25519_fiatScalarFromBytes hG) Tryz.call113 (FnI.len _ _) (.cons (k := 114) rfl (ok_edwards25519_fiatScalarToMontgomery hG) Tryz.call114 (FnI.len _ _) .nil)) .nil Tryz.func81 rfl rfl rfl (.inl rfl) (by kernel_rfl)
noncomputable def i_edwards25519_Scalar_SetUniformBytes : FnI := ⟨6000, bodyOf Tryz.f55, Tryz.f55.ntmps, Tryz.f55.results.toList, allG, ⟨[.mem (List.replicate 4 .u64) 1 true, .sl (List.replicate 64 .u8) 0 false], false, fun _ => True, [(0, List.replicate 4 .u64, z1)], [], [.ptrP 0, .nilI]⟩⟩
noncomputable def C_edwards25519_Scalar_SetUniformBytes : Cx := mkC [(81, .one s_edwards25519_Scalar_setShortBytes), (10081, .one s_edwards25519_Scalar_setShortBytes_v1), (82, .one s_edwards25519_Scalar_Add), (83, .one s_edwards25519_Scalar_Multiply)] []
noncomputable def s_edwards25519_Scalar_SetUniformBytes : FSum := i_edwards25519_Scalar_SetUniformBytes.sumP C_edwards25519_Scalar_SetUniformBytes
theorem ok_edwards25519_Scalar_SetUniformBytes : FEOk Tryz.prog GB GC 55 (.one s_edwards25519_Scalar_SetUniformBytes) := FnI.finP hG (.cons (k := 81) rfl (ok_edwards25519_Scalar_setShortBytes hG) Tryz.call81 (FnI.lenP _ _) (.cons (k := 10081) rfl (ok_edwards25519_Scalar_setShortBytes_v1 hG) Tryz.call81 (FnI.lenP _ _) (.cons (k := 82) rfl (ok_edwards25519_Scalar_Add hG) Tryz.call82 (FnI.len _ _) (.cons (k := 83) rfl (ok_edwards25519_Scalar_Multiply hG) Tryz.call83 (FnI.len _ _) .nil)))) .nil Tryz.func55 rfl rfl rfl (.inr rfl) (by kernel_rfl)
noncomputable def i_edwards25519_Scalar_SetBytesWithClamping : FnI := ⟨6000, bodyOf Tryz.f35, Tryz.f35.ntmps, Tryz.f35.results.toList, [], ⟨[.mem (List.replicate 4 .u64) 1 true, .sl (List.replicate 32 .u8) 0 false], false, fun _ => True, [(0, List.replicate 4 .u64, z1)], [], [.ptrP 0, .nilI]⟩⟩
noncomputable def C_edwards25519_Scalar_SetBytesWithClamping : Cx := mkC [(55, .one s_edwards25519_Scalar_SetUniformBytes)] []
noncomputable def s_edwards25519_Scalar_SetBytesWithClamping : FSum := i_edwards25519_Scalar_SetBytesWithClamping.sumP C_edwards25519_Scalar_SetBytesWithClamping
theorem ok_edwards25519_Scalar_SetBytesWithClamping : FEOk Tryz.prog GB GC 35 (.one s_edwards25519_Scalar_SetBytesWithClamping) := FnI.finP hG (.cons (k := 55) rfl (ok_edwards25519_Scalar_SetUniformBytes hG) Tryz.call55 (FnI.lenP _ _) .nil) .nil Tryz.func35 rfl rfl rfl (.inl rfl) (by kernel_rfl)
noncomputable def i_edwards25519_Scalar_Bytes : FnI := ⟨6000, bodyOf Tryz.f58, Tryz.f58.ntmps, Tryz.f58.results.toList, [], ⟨[.mem (List.replicate 4 .u64) 1 false], false, fun _ => True, [], [(List.replicate 32 .u8, z1)], [.slF 0 32 32]⟩⟩
noncomputable def C_edwards25519_Scalar_Bytes : Cx := mkC [(117, .one s_edwards25519_fiatScalarFromMontgomery), (118, .one s_edwards25519_fiatScalarToBytes)] [(85, ilF Tryz.f85)]
noncomputable def s_edwards25519_Scalar_Bytes : FSum := i_edwards25519_Scalar_Bytes.sumP C_edwards25519_Scalar_Bytes
theorem ok_edwards25519_Scalar_Bytes : FEOk Tryz.prog GB GC 58 (.one s_edwards25519_Scalar_Bytes) := FnI.finP hG (.cons (k := 117) rfl (ok_edwards25519_fiatScalarFromMontgomery hG) Tryz.call117 (FnI.len _ _) (.cons (k := 118) rfl (ok_edwards25519_fiatScalarToBytes hG) Tryz.call118 (FnI.len _ _) .nil)) (.cons Tryz.func85 rfl Tryz.call85 .nil) Tryz.func58 rfl rfl rfl (.inl rfl) (by kernel_rfl)
noncomputable def i_edwards25519_Scalar_signedRadix16 : FnI := ⟨6000, bodyOf Tryz.f61, Tryz.f61.ntmps, Tryz.f61.results.toList, [], ⟨[.mem (List.replicate 4 .u64) 48 false], false, fun _ => True, [], [], [.agg (List.replicate 64 .i8) z1]⟩⟩
noncomputable def C_edwards25519_Scalar_signedRadix16 : Cx := mkC [(58, .one s_edwards25519_Scalar_Bytes)] []
noncomputable def s_edwards25519_Scalar_signedRadix16 : FSum := i_edwards25519_Scalar_signedRadix16.sumP C_edwards25519_Scalar_signedRadix16
theorem ok_edwards25519_Scalar_signedRadix16 : FEOk Tryz.prog GB GC 61 (.one s_edwards25519_Scalar_signedRadix16) := FnI.finP hG (.cons (k := 58) rfl (ok_edwards25519_Scalar_Bytes hG) Tryz.call58 (FnI.lenP _ _) .nil) .nil Tryz.func61 rfl rfl rfl (.inl rfl) (by kernel_rfl)
end
end Go.Proofs.YtdcmnkbegcebgaaGreatDoor
