/- Contracts that the trees give: scalars. -/
import Derived.Test.YtloibefkijfdlaaGreatDoorDb2
namespace Go.Proofs.YtloibefkijfdlaaGreatDoor
open Go
section
variable {GB : Nat} {GC : Nat → Nat → Option Value} {ad : Nat → Nat × Nat} (hG : GOk GB GC ad)
include hG
noncomputable def i_edwards25519_fiatScalarCmovznzU64 : FnI := ⟨6000, bodyOf Tryz.f174, Tryz.f174.ntmps, Tryz.f174.results.toList, [], ⟨[.mem ([.u64]) 51 true, .int .u64, .int .u64, .int .u64], false, fun _ => True, [(0, ([.u64]), z1)], [], []⟩⟩
noncomputable def C_edwards25519_fiatScalarCmovznzU64 : Cx := mkC [] []
noncomputable def s_edwards25519_fiatScalarCmovznzU64 : FSum := i_edwards25519_fiatScalarCmovznzU64.sum C_edwards25519_fiatScalarCmovznzU64
theorem ok_edwards25519_fiatScalarCmovznzU64 : FEOk Tryz.prog GB GC 174 (.one s_edwards25519_fiatScalarCmovznzU64) := FnI.fin hG .nil .nil Tryz.func174 rfl rfl rfl (.inl rfl) (by kernel_rfl)
noncomputable def i_edwards25519_fiatScalarToMontgomery : FnI := ⟨6000, bodyOf Tryz.f129, Tryz.f129.ntmps, Tryz.f129.results.toList, [], ⟨[.mem (List.replicate 4 .u64) 1 true, .mem (List.replicate 4 .u64) 1 false], false, fun _ => True, [(0, List.replicate 4 .u64, z1)], [], []⟩⟩
noncomputable def C_edwards25519_fiatScalarToMontgomery : Cx := mkC [(172, .one s_bits_Mul64), (174, .one s_edwards25519_fiatScalarCmovznzU64)] []
noncomputable def s_edwards25519_fiatScalarToMontgomery : FSum := i_edwards25519_fiatScalarToMontgomery.sum C_edwards25519_fiatScalarToMontgomery
theorem ok_edwards25519_fiatScalarToMontgomery : FEOk Tryz.prog GB GC 129 (.one s_edwards25519_fiatScalarToMontgomery) := FnI.fin hG (.cons (k := 172) rfl (ok_bits_Mul64 hG) Tryz.call172 (FnI.len _ _) (.cons (k := 174) rfl (ok_edwards25519_fiatScalarCmovznzU64 hG) Tryz.call174 (FnI.len _ _) .nil)) .nil Tryz.func129 rfl rfl rfl (.inl rfl) (by kernel_rfl)
noncomputable def i_edwards25519_fiatScalarFromBytes : FnI := ⟨6000, bodyOf Tryz.f128, Tryz.f128.ntmps, Tryz.f128.results.toList, [], ⟨[.mem (List.replicate 4 .u64) 80 true, .mem (List.replicate 32 .u8) 49 false], false, fun _ => True, [(0, (List.replicate 4 .u64), z1)], [], []⟩⟩
noncomputable def C_edwards25519_fiatScalarFromBytes : Cx := mkC [] []
noncomputable def s_edwards25519_fiatScalarFromBytes : FSum := i_edwards25519_fiatScalarFromBytes.sum C_edwards25519_fiatScalarFromBytes
theorem ok_edwards25519_fiatScalarFromBytes : FEOk Tryz.prog GB GC 128 (.one s_edwards25519_fiatScalarFromBytes) := FnI.fin hG .nil .nil Tryz.func128 rfl rfl rfl (.inl rfl) (by kernel_rfl)
noncomputable def i_edwards25519_fiatScalarAdd : FnI := ⟨6000, bodyOf Tryz.f168, Tryz.f168.ntmps, Tryz.f168.results.toList, [], ⟨[.mem (List.replicate 4 .u64) 81 true, .mem (List.replicate 4 .u64) 81 false, .mem (List.replicate 4 .u64) 81 false], false, fun _ => True, [(0, (List.replicate 4 .u64), z1)], [], []⟩⟩
noncomputable def C_edwards25519_fiatScalarAdd : Cx := mkC [(174, .one s_edwards25519_fiatScalarCmovznzU64)] []
noncomputable def s_edwards25519_fiatScalarAdd : FSum := i_edwards25519_fiatScalarAdd.sum C_edwards25519_fiatScalarAdd
theorem ok_edwards25519_fiatScalarAdd : FEOk Tryz.prog GB GC 168 (.one s_edwards25519_fiatScalarAdd) := FnI.fin hG (.cons (k := 174) rfl (ok_edwards25519_fiatScalarCmovznzU64 hG) Tryz.call174 (FnI.len _ _) .nil) .nil Tryz.func168 rfl rfl rfl (.inl rfl) (by kernel_rfl)
noncomputable def i_edwards25519_fiatScalarMul : FnI := ⟨6000, bodyOf Tryz.f169, Tryz.f169.ntmps, Tryz.f169.results.toList, [], ⟨[.mem (List.replicate 4 .u64) 81 true, .mem (List.replicate 4 .u64) 81 false, .mem (List.replicate 4 .u64) 81 false], false, fun _ => True, [(0, (List.replicate 4 .u64), z1)], [], []⟩⟩
noncomputable def C_edwards25519_fiatScalarMul : Cx := mkC [(172, .one s_bits_Mul64), (174, .one s_edwards25519_fiatScalarCmovznzU64)] []
noncomputable def s_edwards25519_fiatScalarMul : FSum := i_edwards25519_fiatScalarMul.sum C_edwards25519_fiatScalarMul
theorem ok_edwards25519_fiatScalarMul : FEOk Tryz.prog GB GC 169 (.one s_edwards25519_fiatScalarMul) := FnI.fin hG (.cons (k := 172) rfl (ok_bits_Mul64 hG) Tryz.call172 (FnI.len _ _) (.cons (k := 174) rfl (ok_edwards25519_fiatScalarCmovznzU64 hG) Tryz.call174 (FnI.len _ _) .nil)) .nil Tryz.func169 rfl rfl rfl (.inl rfl) (by kernel_rfl)
noncomputable def i_edwards25519_fiatScalarFromMontgomery : FnI := ⟨6000, bodyOf Tryz.f189, Tryz.f189.ntmps, Tryz.f189.results.toList, [], ⟨[.mem (List.replicate 4 .u64) 234 true, .mem (List.replicate 4 .u64) 81 false], false, fun _ => True, [(0, (List.replicate 4 .u64), z1)], [], []⟩⟩
noncomputable def C_edwards25519_fiatScalarFromMontgomery : Cx := mkC [(172, .one s_bits_Mul64), (174, .one s_edwards25519_fiatScalarCmovznzU64)] []
noncomputable def s_edwards25519_fiatScalarFromMontgomery : FSum := i_edwards25519_fiatScalarFromMontgomery.sum C_edwards25519_fiatScalarFromMontgomery
theorem ok_edwards25519_fiatScalarFromMontgomery : FEOk Tryz.prog GB GC 189 (.one s_edwards25519_fiatScalarFromMontgomery) := FnI.fin hG (.cons (k := 172) rfl (ok_bits_Mul64 hG) Tryz.call172 (FnI.len _ _) (.cons (k := 174) rfl (ok_edwards25519_fiatScalarCmovznzU64 hG) Tryz.call174 (FnI.len _ _) .nil)) .nil Tryz.func189 rfl rfl rfl (.inl rfl) (by kernel_rfl)
noncomputable def i_edwards25519_fiatScalarToBytes : FnI := ⟨6000, bodyOf Tryz.f190, Tryz.f190.ntmps, Tryz.f190.results.toList, [], ⟨[.mem (List.replicate 32 .u8) 49 true, .mem (List.replicate 4 .u64) 80 false], false, fun _ => True, [(0, (List.replicate 32 .u8), z1)], [], []⟩⟩
noncomputable def C_edwards25519_fiatScalarToBytes : Cx := mkC [] []
noncomputable def s_edwards25519_fiatScalarToBytes : FSum := i_edwards25519_fiatScalarToBytes.sum C_edwards25519_fiatScalarToBytes
theorem ok_edwards25519_fiatScalarToBytes : FEOk Tryz.prog GB GC 190 (.one s_edwards25519_fiatScalarToBytes) := FnI.fin hG .nil .nil Tryz.func190 rfl rfl rfl (.inl rfl) (by kernel_rfl)
noncomputable def i_edwards25519_Scalar_Set : FnI := ⟨6000, bodyOf Tryz.f152, Tryz.f152.ntmps, Tryz.f152.results.toList, [], ⟨[.mem (List.replicate 4 .u64) 83 true, .mem (List.replicate 4 .u64) 83 false], false, fun _ => True, [(0, (List.replicate 4 .u64), z1)], [], [.ptrP 0]⟩⟩
noncomputable def C_edwards25519_Scalar_Set : Cx := mkC [] []
noncomputable def s_edwards25519_Scalar_Set : FSum := i_edwards25519_Scalar_Set.sum C_edwards25519_Scalar_Set
theorem ok_edwards25519_Scalar_Set : FEOk Tryz.prog GB GC 152 (.one s_edwards25519_Scalar_Set) := FnI.fin hG .nil .nil Tryz.func152 rfl rfl rfl (.inl rfl) (by kernel_rfl)
noncomputable def i_edwards25519_Scalar_Add : FnI := ⟨6000, bodyOf Tryz.f125, Tryz.f125.ntmps, Tryz.f125.results.toList, [], ⟨[.mem (List.replicate 4 .u64) 83 true, .mem (List.replicate 4 .u64) 83 false, .mem (List.replicate 4 .u64) 83 false], false, fun _ => True, [(0, (List.replicate 4 .u64), z1)], [], [.ptrP 0]⟩⟩
noncomputable def C_edwards25519_Scalar_Add : Cx := mkC [(168, .one s_edwards25519_fiatScalarAdd)] []
noncomputable def s_edwards25519_Scalar_Add : FSum := i_edwards25519_Scalar_Add.sum C_edwards25519_Scalar_Add
theorem ok_edwards25519_Scalar_Add : FEOk Tryz.prog GB GC 125 (.one s_edwards25519_Scalar_Add) := FnI.fin hG (.cons (k := 168) rfl (ok_edwards25519_fiatScalarAdd hG) Tryz.call168 (FnI.len _ _) .nil) .nil Tryz.func125 rfl rfl rfl (.inl rfl) (by kernel_rfl)
noncomputable def i_edwards25519_Scalar_Multiply : FnI := ⟨6000, bodyOf Tryz.f126, Tryz.f126.ntmps, Tryz.f126.results.toList, [], ⟨[.mem (List.replicate 4 .u64) 83 true, .mem (List.replicate 4 .u64) 83 false, .mem (List.replicate 4 .u64) 83 false], false, fun _ => True, [(0, (List.replicate 4 .u64), z1)], [], [.ptrP 0]⟩⟩
noncomputable def C_edwards25519_Scalar_Multiply : Cx := mkC [(169, .one s_edwards25519_fiatScalarMul)] []
noncomputable def s_edwards25519_Scalar_Multiply : FSum := i_edwards25519_Scalar_Multiply.sum C_edwards25519_Scalar_Multiply
theorem ok_edwards25519_Scalar_Multiply : FEOk Tryz.prog GB GC 126 (.one s_edwards25519_Scalar_Multiply) := FnI.fin hG (.cons (k := 169) rfl (ok_edwards25519_fiatScalarMul hG) Tryz.call169 (FnI.len _ _) .nil) .nil Tryz.func126 rfl rfl rfl (.inl rfl) (by kernel_rfl)
noncomputable def i_edwards25519_Scalar_MultiplyAdd : FnI := ⟨6000, bodyOf Tryz.f106, Tryz.f106.ntmps, Tryz.f106.results.toList, [], ⟨[.mem (List.replicate 4 .u64) 83 true, .mem (List.replicate 4 .u64) 83 false, .mem (List.replicate 4 .u64) 83 false, .mem (List.replicate 4 .u64) 83 false], false, fun _ => True, [(0, (List.replicate 4 .u64), z1)], [], [.ptrP 0]⟩⟩
noncomputable def C_edwards25519_Scalar_MultiplyAdd : Cx := mkC [(125, .one s_edwards25519_Scalar_Add), (126, .one s_edwards25519_Scalar_Multiply), (152, .one s_edwards25519_Scalar_Set)] []
noncomputable def s_edwards25519_Scalar_MultiplyAdd : FSum := i_edwards25519_Scalar_MultiplyAdd.sum C_edwards25519_Scalar_MultiplyAdd
theorem ok_edwards25519_Scalar_MultiplyAdd : FEOk Tryz.prog GB GC 106 (.one s_edwards25519_Scalar_MultiplyAdd) := FnI.fin hG (.cons (k := 125) rfl (ok_edwards25519_Scalar_Add hG) Tryz.call125 (FnI.len _ _) (.cons (k := 126) rfl (ok_edwards25519_Scalar_Multiply hG) Tryz.call126 (FnI.len _ _) (.cons (k := 152) rfl (ok_edwards25519_Scalar_Set hG) Tryz.call152 (FnI.len _ _) .nil))) .nil Tryz.func106 rfl rfl rfl (.inl rfl) (by kernel_rfl)
noncomputable def i_edwards25519_Scalar_setShortBytes : FnI := ⟨6000, bodyOf Tryz.f124, Tryz.f124.ntmps, Tryz.f124.results.toList, [], ⟨[.mem (List.replicate 4 .u64) 1 true, .sl (List.replicate 21 .u8) 0 false], false, fun _ => True, [(0, List.replicate 4 .u64, z1)], [], [.ptrP 0]⟩⟩
noncomputable def C_edwards25519_Scalar_setShortBytes : Cx := mkC [(128, .one s_edwards25519_fiatScalarFromBytes), (129, .one s_edwards25519_fiatScalarToMontgomery)] []
noncomputable def s_edwards25519_Scalar_setShortBytes : FSum := i_edwards25519_Scalar_setShortBytes.sumP C_edwards25519_Scalar_setShortBytes
theorem ok_edwards25519_Scalar_setShortBytes : FEOk Tryz.prog GB GC 124 (.one s_edwards25519_Scalar_setShortBytes) := FnI.finP hG (.cons (k := 128) rfl (ok_edwards25519_fiatScalarFromBytes hG) Tryz.call128 (FnI.len _ _) (.cons (k := 129) rfl (ok_edwards25519_fiatScalarToMontgomery hG) Tryz.call129 (FnI.len _ _) .nil)) .nil Tryz.func124 rfl rfl rfl (.inl rfl) (by kernel_rfl)
noncomputable def i_edwards25519_Scalar_setShortBytes_v1 : FnI := ⟨6000, bodyOf Tryz.f124, Tryz.f124.ntmps, Tryz.f124.results.toList, [], ⟨[.mem (List.replicate 4 .u64) 1 true, .sl (List.replicate 22 .u8) 0 false], false, fun _ => True, [(0, List.replicate 4 .u64, z1)], [], [.ptrP 0]⟩⟩
noncomputable def C_edwards25519_Scalar_setShortBytes_v1 : Cx := mkC [(128, .one s_edwards25519_fiatScalarFromBytes), (129, .one s_edwards25519_fiatScalarToMontgomery)] []
noncomputable def s_edwards25519_Scalar_setShortBytes_v1 : FSum := i_edwards25519_Scalar_setShortBytes_v1.sumP C_edwards25519_Scalar_setShortBytes_v1
theorem ok_edwards25519_Scalar_setShortBytes_v1 : FEOk Tryz.prog GB GC 124 (.one s_edwards25519_Scalar_setShortBytes_v1) := FnI.finP hG (.cons (k := 128) rfl (ok_edwards25519_fiatScalarFromBytes hG) Tryz.call128 (FnI.len _ _) (.cons (k := 129) rfl (ok_edwards25519_fiatScalarToMontgomery hG) Tryz.call129 (FnI.len _ _) .nil)) .nil Tryz.func124 rfl rfl rfl (.inl rfl) (by kernel_rfl)
noncomputable def i_edwards25519_Scalar_SetUniformBytes : FnI := ⟨6000, bodyOf Tryz.f99, Tryz.f99.ntmps, Tryz.f99.results.toList, allG, ⟨[.mem (List.replicate 4 .u64) 1 true, .sl (List.replicate 64 .u8) 0 false], false, fun _ => True, [(0, List.replicate 4 .u64, z1)], [], [.ptrP 0, .nilI]⟩⟩
noncomputable def C_edwards25519_Scalar_SetUniformBytes : Cx := mkC [(124, .one s_edwards25519_Scalar_setShortBytes), (10124, .one s_edwards25519_Scalar_setShortBytes_v1), (125, .one s_edwards25519_Scalar_Add), (126, .one s_edwards25519_Scalar_Multiply)] []
noncomputable def s_edwards25519_Scalar_SetUniformBytes : FSum := i_edwards25519_Scalar_SetUniformBytes.sumP C_edwards25519_Scalar_SetUniformBytes
theorem ok_edwards25519_Scalar_SetUniformBytes : FEOk Tryz.prog GB GC 99 (.one s_edwards25519_Scalar_SetUniformBytes) := FnI.finP hG (.cons (k := 124) rfl (ok_edwards25519_Scalar_setShortBytes hG) Tryz.call124 (FnI.lenP _ _) (.cons (k := 10124) rfl (ok_edwards25519_Scalar_setShortBytes_v1 hG) Tryz.call124 (FnI.lenP _ _) (.cons (k := 125) rfl (ok_edwards25519_Scalar_Add hG) Tryz.call125 (FnI.len _ _) (.cons (k := 126) rfl (ok_edwards25519_Scalar_Multiply hG) Tryz.call126 (FnI.len _ _) .nil)))) .nil Tryz.func99 rfl rfl rfl (.inr rfl) (by kernel_rfl)
noncomputable def i_edwards25519_Scalar_SetBytesWithClamping : FnI := ⟨6000, bodyOf Tryz.f95, Tryz.f95.ntmps, Tryz.f95.results.toList, [], ⟨[.mem (List.replicate 4 .u64) 1 true, .sl (List.replicate 32 .u8) 0 false], false, fun _ => True, [(0, List.replicate 4 .u64, z1)], [], [.ptrP 0, .nilI]⟩⟩
noncomputable def C_edwards25519_Scalar_SetBytesWithClamping : Cx := mkC [(99, .one s_edwards25519_Scalar_SetUniformBytes)] []
noncomputable def s_edwards25519_Scalar_SetBytesWithClamping : FSum := i_edwards25519_Scalar_SetBytesWithClamping.sumP C_edwards25519_Scalar_SetBytesWithClamping
theorem ok_edwards25519_Scalar_SetBytesWithClamping : FEOk Tryz.prog GB GC 95 (.one s_edwards25519_Scalar_SetBytesWithClamping) := FnI.finP hG (.cons (k := 99) rfl (ok_edwards25519_Scalar_SetUniformBytes hG) Tryz.call99 (FnI.lenP _ _) .nil) .nil Tryz.func95 rfl rfl rfl (.inl rfl) (by kernel_rfl)
noncomputable def i_edwards25519_Scalar_Bytes : FnI := ⟨6000, bodyOf Tryz.f107, Tryz.f107.ntmps, Tryz.f107.results.toList, [], ⟨[.mem (List.replicate 4 .u64) 1 false], false, fun _ => True, [], [(List.replicate 32 .u8, z1)], [.slF 0 32 32]⟩⟩
noncomputable def C_edwards25519_Scalar_Bytes : Cx := mkC [(189, .one s_edwards25519_fiatScalarFromMontgomery), (190, .one s_edwards25519_fiatScalarToBytes)] [(153, ilF Tryz.f153)]
noncomputable def s_edwards25519_Scalar_Bytes : FSum := i_edwards25519_Scalar_Bytes.sumP C_edwards25519_Scalar_Bytes
theorem ok_edwards25519_Scalar_Bytes : FEOk Tryz.prog GB GC 107 (.one s_edwards25519_Scalar_Bytes) := FnI.finP hG (.cons (k := 189) rfl (ok_edwards25519_fiatScalarFromMontgomery hG) Tryz.call189 (FnI.len _ _) (.cons (k := 190) rfl (ok_edwards25519_fiatScalarToBytes hG) Tryz.call190 (FnI.len _ _) .nil)) (.cons Tryz.func153 rfl Tryz.call153 .nil) Tryz.func107 rfl rfl rfl (.inl rfl) (by kernel_rfl)
noncomputable def i_edwards25519_Scalar_signedRadix16 : FnI := ⟨6000, bodyOf Tryz.f147, Tryz.f147.ntmps, Tryz.f147.results.toList, [], ⟨[.mem (List.replicate 4 .u64) 83 false], false, fun _ => True, [], [], [.agg (List.replicate 64 .i8) z1]⟩⟩
noncomputable def C_edwards25519_Scalar_signedRadix16 : Cx := mkC [(107, .one s_edwards25519_Scalar_Bytes)] []
noncomputable def s_edwards25519_Scalar_signedRadix16 : FSum := i_edwards25519_Scalar_signedRadix16.sumP C_edwards25519_Scalar_signedRadix16
theorem ok_edwards25519_Scalar_signedRadix16 : FEOk Tryz.prog GB GC 147 (.one s_edwards25519_Scalar_signedRadix16) := FnI.finP hG (.cons (k := 107) rfl (ok_edwards25519_Scalar_Bytes hG) Tryz.call107 (FnI.lenP _ _) .nil) .nil Tryz.func147 rfl rfl rfl (.inl rfl) (by kernel_rfl)
end
end Go.Proofs.YtloibefkijfdlaaGreatDoor
