/- Contracts that the trees give: the field. -/
import Derived.Test.YtdcmnkbegcebgaaGreatDoorDa
namespace Go.Proofs.YtdcmnkbegcebgaaGreatDoor
open Go

section
variable {GB : Nat} {GC : Nat → Nat → Option Value} {ad : Nat → Nat × Nat} (hG : GOk GB GC ad)
include hG
noncomputable def i_bits_Mul64 : FnI := ⟨6000, bodyOf Tryz.f130, Tryz.f130.ntmps, Tryz.f130.results.toList, [], ⟨[.int .u64, .int .u64], false, fun _ => True, [], [], [.int .u64 z0, .int .u64 z0]⟩⟩
noncomputable def C_bits_Mul64 : Cx := mkC [] []
noncomputable def s_bits_Mul64 : FSum := i_bits_Mul64.sum C_bits_Mul64
theorem ok_bits_Mul64 : FEOk Tryz.prog GB GC 130 (.one s_bits_Mul64) := FnI.fin hG .nil .nil Tryz.func130 rfl rfl rfl (.inl rfl) (by kernel_rfl)
noncomputable def i_field_mul19 : FnI := ⟨6000, bodyOf Tryz.f107, Tryz.f107.ntmps, Tryz.f107.results.toList, [], ⟨[.int .u64], false, fun _ => True, [], [], [.int .u64 z0]⟩⟩
noncomputable def C_field_mul19 : Cx := mkC [] []
noncomputable def s_field_mul19 : FSum := i_field_mul19.sum C_field_mul19
theorem ok_field_mul19 : FEOk Tryz.prog GB GC 107 (.one s_field_mul19) := FnI.fin hG .nil .nil Tryz.func107 rfl rfl rfl (.inl rfl) (by kernel_rfl)
noncomputable def i_field_Element_Set : FnI := ⟨6000, bodyOf Tryz.f50, Tryz.f50.ntmps, Tryz.f50.results.toList, [], ⟨[.mem (List.replicate 5 .u64) 55 true, .mem (List.replicate 5 .u64) 55 false], false, fun _ => True, [(0, (List.replicate 5 .u64), z1)], [], [.ptrP 0]⟩⟩
noncomputable def C_field_Element_Set : Cx := mkC [] []
noncomputable def s_field_Element_Set : FSum := i_field_Element_Set.sum C_field_Element_Set
theorem ok_field_Element_Set : FEOk Tryz.prog GB GC 50 (.one s_field_Element_Set) := FnI.fin hG .nil .nil Tryz.func50 rfl rfl rfl (.inl rfl) (by kernel_rfl)
noncomputable def i_field_Element_Zero : FnI := ⟨6000, bodyOf Tryz.f128, Tryz.f128.ntmps, Tryz.f128.results.toList, allG, ⟨[.mem (List.replicate 5 .u64) 55 true], false, fun _ => True, [(0, (List.replicate 5 .u64), z1)], [], [.ptrP 0]⟩⟩
noncomputable def C_field_Element_Zero : Cx := mkC [] []
noncomputable def s_field_Element_Zero : FSum := i_field_Element_Zero.sum C_field_Element_Zero
theorem ok_field_Element_Zero : FEOk Tryz.prog GB GC 128 (.one s_field_Element_Zero) := FnI.fin hG .nil .nil Tryz.func128 rfl rfl rfl (.inr rfl) (by kernel_rfl)
noncomputable def i_field_Element_One : FnI := ⟨6000, bodyOf Tryz.f51, Tryz.f51.ntmps, Tryz.f51.results.toList, allG, ⟨[.mem (List.replicate 5 .u64) 55 true], false, fun _ => True, [(0, (List.replicate 5 .u64), z1)], [], [.ptrP 0]⟩⟩
noncomputable def C_field_Element_One : Cx := mkC [] []
noncomputable def s_field_Element_One : FSum := i_field_Element_One.sum C_field_Element_One
theorem ok_field_Element_One : FEOk Tryz.prog GB GC 51 (.one s_field_Element_One) := FnI.fin hG .nil .nil Tryz.func51 rfl rfl rfl (.inr rfl) (by kernel_rfl)
noncomputable def i_field_Element_Add : FnI := ⟨6000, bodyOf Tryz.f46, Tryz.f46.ntmps, Tryz.f46.results.toList, [], ⟨[.mem (List.replicate 5 .u64) 55 true, .mem (List.replicate 5 .u64) 55 false, .mem (List.replicate 5 .u64) 55 false], false, fun _ => True, [(0, (List.replicate 5 .u64), z1)], [], [.ptrP 0]⟩⟩
noncomputable def C_field_Element_Add : Cx := mkC [(107, .one s_field_mul19)] [(73, ilF Tryz.f73)]
noncomputable def s_field_Element_Add : FSum := i_field_Element_Add.sum C_field_Element_Add
theorem ok_field_Element_Add : FEOk Tryz.prog GB GC 46 (.one s_field_Element_Add) := FnI.fin hG (.cons (k := 107) rfl (ok_field_mul19 hG) Tryz.call107 (FnI.len _ _) .nil) (.cons Tryz.func73 rfl Tryz.call73 .nil) Tryz.func46 rfl rfl rfl (.inl rfl) (by kernel_rfl)
noncomputable def i_field_Element_Subtract : FnI := ⟨6000, bodyOf Tryz.f42, Tryz.f42.ntmps, Tryz.f42.results.toList, [], ⟨[.mem (List.replicate 5 .u64) 55 true, .mem (List.replicate 5 .u64) 55 false, .mem (List.replicate 5 .u64) 55 false], false, fun _ => True, [(0, (List.replicate 5 .u64), z1)], [], [.ptrP 0]⟩⟩
noncomputable def C_field_Element_Subtract : Cx := mkC [(107, .one s_field_mul19)] [(73, ilF Tryz.f73)]
noncomputable def s_field_Element_Subtract : FSum := i_field_Element_Subtract.sum C_field_Element_Subtract
theorem ok_field_Element_Subtract : FEOk Tryz.prog GB GC 42 (.one s_field_Element_Subtract) := FnI.fin hG (.cons (k := 107) rfl (ok_field_mul19 hG) Tryz.call107 (FnI.len _ _) .nil) (.cons Tryz.func73 rfl Tryz.call73 .nil) Tryz.func42 rfl rfl rfl (.inl rfl) (by kernel_rfl)
noncomputable def i_field_Element_Negate : FnI := ⟨6000, bodyOf Tryz.f48, Tryz.f48.ntmps, Tryz.f48.results.toList, allG, ⟨[.mem (List.replicate 5 .u64) 55 true, .mem (List.replicate 5 .u64) 55 false], false, fun _ => True, [(0, (List.replicate 5 .u64), z1)], [], [.ptrP 0]⟩⟩
noncomputable def C_field_Element_Negate : Cx := mkC [(42, .one s_field_Element_Subtract)] []
noncomputable def s_field_Element_Negate : FSum := i_field_Element_Negate.sum C_field_Element_Negate
theorem ok_field_Element_Negate : FEOk Tryz.prog GB GC 48 (.one s_field_Element_Negate) := FnI.fin hG (.cons (k := 42) rfl (ok_field_Element_Subtract hG) Tryz.call42 (FnI.len _ _) .nil) .nil Tryz.func48 rfl rfl rfl (.inr rfl) (by kernel_rfl)
noncomputable def i_field_Element_Multiply : FnI := ⟨6000, bodyOf Tryz.f44, Tryz.f44.ntmps, Tryz.f44.results.toList, [], ⟨[.mem (List.replicate 5 .u64) 55 true, .mem (List.replicate 5 .u64) 55 false, .mem (List.replicate 5 .u64) 55 false], false, fun _ => True, [(0, (List.replicate 5 .u64), z1)], [], [.ptrP 0]⟩⟩
noncomputable def C_field_Element_Multiply : Cx := mkC [(130, .one s_bits_Mul64), (107, .one s_field_mul19)] [(74, ilF Tryz.f74), (108, ilF Tryz.f108), (102, ilF Tryz.f102), (104, ilF Tryz.f104), (105, ilF Tryz.f105), (106, ilF Tryz.f106)]
noncomputable def s_field_Element_Multiply : FSum := i_field_Element_Multiply.sum C_field_Element_Multiply
theorem ok_field_Element_Multiply : FEOk Tryz.prog GB GC 44 (.one s_field_Element_Multiply) := FnI.fin hG (.cons (k := 130) rfl (ok_bits_Mul64 hG) Tryz.call130 (FnI.len _ _) (.cons (k := 107) rfl (ok_field_mul19 hG) Tryz.call107 (FnI.len _ _) .nil)) (.cons Tryz.func74 rfl Tryz.call74 (.cons Tryz.func108 rfl Tryz.call108 (.cons Tryz.func102 rfl Tryz.call102 (.cons Tryz.func104 rfl Tryz.call104 (.cons Tryz.func105 rfl Tryz.call105 (.cons Tryz.func106 rfl Tryz.call106 .nil)))))) Tryz.func44 rfl rfl rfl (.inl rfl) (by kernel_rfl)
noncomputable def i_field_Element_Square : FnI := ⟨6000, bodyOf Tryz.f41, Tryz.f41.ntmps, Tryz.f41.results.toList, [], ⟨[.mem (List.replicate 5 .u64) 55 true, .mem (List.replicate 5 .u64) 55 false], false, fun _ => True, [(0, (List.replicate 5 .u64), z1)], [], [.ptrP 0]⟩⟩
noncomputable def C_field_Element_Square : Cx := mkC [(130, .one s_bits_Mul64), (107, .one s_field_mul19)] [(72, ilF Tryz.f72), (102, ilF Tryz.f102), (103, ilF Tryz.f103), (104, ilF Tryz.f104), (105, ilF Tryz.f105), (106, ilF Tryz.f106)]
noncomputable def s_field_Element_Square : FSum := i_field_Element_Square.sum C_field_Element_Square
theorem ok_field_Element_Square : FEOk Tryz.prog GB GC 41 (.one s_field_Element_Square) := FnI.fin hG (.cons (k := 130) rfl (ok_bits_Mul64 hG) Tryz.call130 (FnI.len _ _) (.cons (k := 107) rfl (ok_field_mul19 hG) Tryz.call107 (FnI.len _ _) .nil)) (.cons Tryz.func72 rfl Tryz.call72 (.cons Tryz.func102 rfl Tryz.call102 (.cons Tryz.func103 rfl Tryz.call103 (.cons Tryz.func104 rfl Tryz.call104 (.cons Tryz.func105 rfl Tryz.call105 (.cons Tryz.func106 rfl Tryz.call106 .nil)))))) Tryz.func41 rfl rfl rfl (.inl rfl) (by kernel_rfl)
noncomputable def i_field_Element_Select : FnI := ⟨6000, bodyOf Tryz.f49, Tryz.f49.ntmps, Tryz.f49.results.toList, [], ⟨[.mem (List.replicate 5 .u64) 55 true, .mem (List.replicate 5 .u64) 55 false, .mem (List.replicate 5 .u64) 55 false, .int .i64], false, fun _ => True, [(0, (List.replicate 5 .u64), z1)], [], [.ptrP 0]⟩⟩
noncomputable def C_field_Element_Select : Cx := mkC [] [(78, ilF Tryz.f78)]
noncomputable def s_field_Element_Select : FSum := i_field_Element_Select.sum C_field_Element_Select
theorem ok_field_Element_Select : FEOk Tryz.prog GB GC 49 (.one s_field_Element_Select) := FnI.fin hG .nil (.cons Tryz.func78 rfl Tryz.call78 .nil) Tryz.func49 rfl rfl rfl (.inl rfl) (by kernel_rfl)
noncomputable def i_field_Element_Swap : FnI := ⟨6000, bodyOf Tryz.f129, Tryz.f129.ntmps, Tryz.f129.results.toList, [], ⟨[.mem (List.replicate 5 .u64) 0 true, .mem (List.replicate 5 .u64) 0 true, .int .i64], false, fun _ => True, [(0, List.replicate 5 .u64, z1), (1, List.replicate 5 .u64, z1)], [], []⟩⟩
noncomputable def C_field_Element_Swap : Cx := mkC [] [(78, ilF Tryz.f78)]
noncomputable def s_field_Element_Swap : FSum := i_field_Element_Swap.sum C_field_Element_Swap
theorem ok_field_Element_Swap : FEOk Tryz.prog GB GC 129 (.one s_field_Element_Swap) := FnI.fin hG .nil (.cons Tryz.func78 rfl Tryz.call78 .nil) Tryz.func129 rfl rfl rfl (.inl rfl) (by kernel_rfl)
noncomputable def i_field_Element_Bytes : FnI := ⟨6000, bodyOf Tryz.f110, Tryz.f110.ntmps, Tryz.f110.results.toList, [], ⟨[.mem (List.replicate 5 .u64) 1 false], false, fun _ => True, [], [(List.replicate 32 .u8, z1)], [.slF 0 32 32]⟩⟩
noncomputable def C_field_Element_Bytes : Cx := mkC [(107, .one s_field_mul19)] [(133, ilF Tryz.f133), (139, ilF Tryz.f139), (73, ilF Tryz.f73), (140, ilF Tryz.f140)]
noncomputable def s_field_Element_Bytes : FSum := i_field_Element_Bytes.sum C_field_Element_Bytes
theorem ok_field_Element_Bytes : FEOk Tryz.prog GB GC 110 (.one s_field_Element_Bytes) := FnI.fin hG (.cons (k := 107) rfl (ok_field_mul19 hG) Tryz.call107 (FnI.len _ _) .nil) (.cons Tryz.func133 rfl Tryz.call133 (.cons Tryz.func139 rfl Tryz.call139 (.cons Tryz.func73 rfl Tryz.call73 (.cons Tryz.func140 rfl Tryz.call140 .nil)))) Tryz.func110 rfl rfl rfl (.inl rfl) (by kernel_rfl)
noncomputable def i_field_Element_SetBytes : FnI := ⟨6000, bodyOf Tryz.f40, Tryz.f40.ntmps, Tryz.f40.results.toList, [], ⟨[.mem (List.replicate 5 .u64) 1 true, .sl (List.replicate 32 .u8) 0 false], false, fun _ => True, [(0, List.replicate 5 .u64, z1)], [], [.ptrP 0, .nilI]⟩⟩
noncomputable def C_field_Element_SetBytes : Cx := mkC [] [(71, ilF Tryz.f71)]
noncomputable def s_field_Element_SetBytes : FSum := i_field_Element_SetBytes.sum C_field_Element_SetBytes
theorem ok_field_Element_SetBytes : FEOk Tryz.prog GB GC 40 (.one s_field_Element_SetBytes) := FnI.fin hG .nil (.cons Tryz.func71 rfl Tryz.call71 .nil) Tryz.func40 rfl rfl rfl (.inl rfl) (by kernel_rfl)
noncomputable def i_field_feSquareN : FnI := ⟨6000, bodyOf Tryz.f132, Tryz.f132.ntmps, Tryz.f132.results.toList, [], ⟨[.mem (List.replicate 5 .u64) 3 true, .mem (List.replicate 5 .u64) 3 false, .int .i64], false, fun _ => True, [(0, List.replicate 5 .u64, z1)], [], []⟩⟩
noncomputable def l_field_feSquareN : LpI := ⟨6000, loopIn 0 (bodyOf Tryz.f132), Tryz.f132.ntmps, 0, [], ⟨[.int .u64, .int .u64, .int .u64, .int .u64, .int .u64, .int .i64, .int .i64], true, fun _ => True, [], [], []⟩, [6, 7, 8, 9, 10, 46, 47], [11, 12, 13, 14, 15, 16, 17, 18, 19, 20, 21, 22, 23, 24, 25, 48, 49, 50, 51, 52, 53, 54, 55, 56, 57, 58, 59, 60, 61, 62, 63, 64, 65, 66, 67, 68, 69, 70, 71, 72, 73, 74, 75, 76, 77, 78, 79, 80, 81, 82, 83, 84, 85, 86, 87, 88, 89, 90, 91, 92, 93, 94, 95, 96, 97, 98, 99, 100, 101, 102, 103, 104, 105, 106, 107, 108, 109, 110, 111, 112, 113, 114, 115, 116, 117, 118, 119, 120, 121, 122, 123, 124, 125, 126, 127, 128, 129, 130, 131, 132, 133, 134, 135, 136, 137, 138, 139, 140, 141, 142, 143, 144, 145, 146, 147, 148, 149, 150, 151, 152, 153, 154, 155, 156, 157, 158, 159, 160, 161, 162, 163, 164, 165, 166, 167, 168, 169, 170, 171, 172], (fun a => ((a.getD 5 []).getD 0 0 - (a.getD 6 []).getD 0 0).toNat + 1)⟩
noncomputable def Cb_field_feSquareN : Cx := mkC [(130, .one s_bits_Mul64), (107, .one s_field_mul19)] [(102, ilF Tryz.f102), (103, ilF Tryz.f103), (104, ilF Tryz.f104), (105, ilF Tryz.f105), (106, ilF Tryz.f106)]
noncomputable def C_field_feSquareN : Cx := mkCL ((1000132, .one (l_field_feSquareN.sum Cb_field_feSquareN (l_field_feSquareN.pre Cb_field_feSquareN))) :: [(130, .one s_bits_Mul64), (107, .one s_field_mul19)]) [(102, ilF Tryz.f102), (103, ilF Tryz.f103), (104, ilF Tryz.f104), (105, ilF Tryz.f105), (106, ilF Tryz.f106)] [(l_field_feSquareN.id, ⟨1000132, l_field_feSquareN.ps, l_field_feSquareN.ss, l_field_feSquareN.cl, l_field_feSquareN.nt⟩)]
noncomputable def s_field_feSquareN : FSum := i_field_feSquareN.sumH C_field_feSquareN (fun ins => evOb C_field_feSquareN.T (i_field_feSquareN.tree C_field_feSquareN) (insE ins))
omit hG in
theorem chkl_field_feSquareN : l_field_feSquareN.chk Cb_field_feSquareN = true := by kernel_rfl
theorem ok_field_feSquareN : FEOk Tryz.prog GB GC 132 (.one s_field_feSquareN) := FnI.finL hG (i := i_field_feSquareN) (l := l_field_feSquareN) (T := [(130, .one s_bits_Mul64), (107, .one s_field_mul19)]) (T' := [(130, .one s_bits_Mul64), (107, .one s_field_mul19)]) (L := [(102, ilF Tryz.f102), (103, ilF Tryz.f103), (104, ilF Tryz.f104), (105, ilF Tryz.f105), (106, ilF Tryz.f106)]) (L' := [(102, ilF Tryz.f102), (103, ilF Tryz.f103), (104, ilF Tryz.f104), (105, ilF Tryz.f105), (106, ilF Tryz.f106)]) (lid := 1000132) (Cb := Cb_field_feSquareN) (C1 := C_field_feSquareN) (pl := (l_field_feSquareN.pre Cb_field_feSquareN)) (pre := (fun ins => evOb C_field_feSquareN.T (i_field_feSquareN.tree C_field_feSquareN) (insE ins))) (by decide) rfl rfl (.cons (k := 130) rfl (ok_bits_Mul64 hG) Tryz.call130 (FnI.len _ _) (.cons (k := 107) rfl (ok_field_mul19 hG) Tryz.call107 (FnI.len _ _) .nil)) (.cons Tryz.func102 rfl Tryz.call102 (.cons Tryz.func103 rfl Tryz.call103 (.cons Tryz.func104 rfl Tryz.call104 (.cons Tryz.func105 rfl Tryz.call105 (.cons Tryz.func106 rfl Tryz.call106 .nil))))) (.cons Tryz.func102 rfl Tryz.call102 (.cons Tryz.func103 rfl Tryz.call103 (.cons Tryz.func104 rfl Tryz.call104 (.cons Tryz.func105 rfl Tryz.call105 (.cons Tryz.func106 rfl Tryz.call106 .nil))))) Tryz.func132 rfl rfl rfl (.inl rfl) (.inl rfl) (fun _ _ h => h) (.cons (k := 130) rfl (ok_bits_Mul64 hG) Tryz.call130 (FnI.len _ _) (.cons (k := 107) rfl (ok_field_mul19 hG) Tryz.call107 (FnI.len _ _) .nil)) chkl_field_feSquareN (by kernel_rfl) (by kernel_rfl) (by kernel_rfl) (fun _ _ h => h)
noncomputable def i_field_Element_IsNegative : FnI := ⟨6000, bodyOf Tryz.f101, Tryz.f101.ntmps, Tryz.f101.results.toList, [], ⟨[.mem (List.replicate 5 .u64) 55 false], false, fun _ => True, [], [], [.int .i64 z0]⟩⟩
noncomputable def C_field_Element_IsNegative : Cx := mkC [(110, .one s_field_Element_Bytes)] []
noncomputable def s_field_Element_IsNegative : FSum := i_field_Element_IsNegative.sum C_field_Element_IsNegative
theorem ok_field_Element_IsNegative : FEOk Tryz.prog GB GC 101 (.one s_field_Element_IsNegative) := FnI.fin hG (.cons (k := 110) rfl (ok_field_Element_Bytes hG) Tryz.call110 (FnI.len _ _) .nil) .nil Tryz.func101 rfl rfl rfl (.inl rfl) (by kernel_rfl)
noncomputable def i_field_Element_Equal : FnI := ⟨6000, bodyOf Tryz.f76, Tryz.f76.ntmps, Tryz.f76.results.toList, [], ⟨[.mem (List.replicate 5 .u64) 55 false, .mem (List.replicate 5 .u64) 55 false], false, fun _ => True, [], [], [.int .i64 z0]⟩⟩
noncomputable def C_field_Element_Equal : Cx := mkC [(110, .one s_field_Element_Bytes)] [(111, ilF Tryz.f111)]
noncomputable def s_field_Element_Equal : FSum := i_field_Element_Equal.sum C_field_Element_Equal
theorem ok_field_Element_Equal : FEOk Tryz.prog GB GC 76 (.one s_field_Element_Equal) := FnI.fin hG (.cons (k := 110) rfl (ok_field_Element_Bytes hG) Tryz.call110 (FnI.len _ _) .nil) (.cons Tryz.func111 rfl Tryz.call111 .nil) Tryz.func76 rfl rfl rfl (.inl rfl) (by kernel_rfl)
noncomputable def i_field_Element_Absolute : FnI := ⟨6000, bodyOf Tryz.f77, Tryz.f77.ntmps, Tryz.f77.results.toList, [], ⟨[.mem (List.replicate 5 .u64) 55 true, .mem (List.replicate 5 .u64) 55 false], false, fun _ => True, [(0, (List.replicate 5 .u64), z1)], [], [.ptrP 0]⟩⟩
noncomputable def C_field_Element_Absolute : Cx := mkC [(101, .one s_field_Element_IsNegative), (48, .one s_field_Element_Negate), (49, .one s_field_Element_Select)] []
noncomputable def s_field_Element_Absolute : FSum := i_field_Element_Absolute.sum C_field_Element_Absolute
theorem ok_field_Element_Absolute : FEOk Tryz.prog GB GC 77 (.one s_field_Element_Absolute) := FnI.fin hG (.cons (k := 101) rfl (ok_field_Element_IsNegative hG) Tryz.call101 (FnI.len _ _) (.cons (k := 48) rfl (ok_field_Element_Negate hG) Tryz.call48 (FnI.len _ _) (.cons (k := 49) rfl (ok_field_Element_Select hG) Tryz.call49 (FnI.len _ _) .nil))) .nil Tryz.func77 rfl rfl rfl (.inl rfl) (by kernel_rfl)
noncomputable def i_field_Element_Invert : FnI := ⟨6000, bodyOf Tryz.f99, Tryz.f99.ntmps, Tryz.f99.results.toList, [], ⟨[.mem (List.replicate 5 .u64) 55 true, .mem (List.replicate 5 .u64) 55 false], false, fun _ => True, [(0, (List.replicate 5 .u64), z1)], [], [.ptrP 0]⟩⟩
noncomputable def C_field_Element_Invert : Cx := mkC [(132, .one s_field_feSquareN), (41, .one s_field_Element_Square), (44, .one s_field_Element_Multiply)] [(109, ilF Tryz.f109)]
noncomputable def s_field_Element_Invert : FSum := i_field_Element_Invert.sumP C_field_Element_Invert
theorem ok_field_Element_Invert : FEOk Tryz.prog GB GC 99 (.one s_field_Element_Invert) := FnI.finP hG (.cons (k := 132) rfl (ok_field_feSquareN hG) Tryz.call132 (FnI.lenH _ _ _) (.cons (k := 41) rfl (ok_field_Element_Square hG) Tryz.call41 (FnI.len _ _) (.cons (k := 44) rfl (ok_field_Element_Multiply hG) Tryz.call44 (FnI.len _ _) .nil))) (.cons Tryz.func109 rfl Tryz.call109 .nil) Tryz.func99 rfl rfl rfl (.inl rfl) (by kernel_rfl)
noncomputable def i_field_Element_Pow22523 : FnI := ⟨6000, bodyOf Tryz.f75, Tryz.f75.ntmps, Tryz.f75.results.toList, [], ⟨[.mem (List.replicate 5 .u64) 55 true, .mem (List.replicate 5 .u64) 55 false], false, fun _ => True, [(0, (List.replicate 5 .u64), z1)], [], [.ptrP 0]⟩⟩
noncomputable def C_field_Element_Pow22523 : Cx := mkC [(132, .one s_field_feSquareN), (41, .one s_field_Element_Square), (44, .one s_field_Element_Multiply)] [(109, ilF Tryz.f109)]
noncomputable def s_field_Element_Pow22523 : FSum := i_field_Element_Pow22523.sumP C_field_Element_Pow22523
theorem ok_field_Element_Pow22523 : FEOk Tryz.prog GB GC 75 (.one s_field_Element_Pow22523) := FnI.finP hG (.cons (k := 132) rfl (ok_field_feSquareN hG) Tryz.call132 (FnI.lenH _ _ _) (.cons (k := 41) rfl (ok_field_Element_Square hG) Tryz.call41 (FnI.len _ _) (.cons (k := 44) rfl (ok_field_Element_Multiply hG) Tryz.call44 (FnI.len _ _) .nil))) (.cons Tryz.func109 rfl Tryz.call109 .nil) Tryz.func75 rfl rfl rfl (.inl rfl) (by kernel_rfl)
noncomputable def i_field_Element_SqrtRatio : FnI := ⟨6000, bodyOf Tryz.f47, Tryz.f47.ntmps, Tryz.f47.results.toList, allG, ⟨[.mem (List.replicate 5 .u64) 55 true, .mem (List.replicate 5 .u64) 55 false, .mem (List.replicate 5 .u64) 55 false], false, fun _ => True, [(0, (List.replicate 5 .u64), z1)], [], [.ptrP 0, .int .i64 z0]⟩⟩
noncomputable def C_field_Element_SqrtRatio : Cx := mkC [(41, .one s_field_Element_Square), (44, .one s_field_Element_Multiply), (48, .one s_field_Element_Negate), (49, .one s_field_Element_Select), (75, .one s_field_Element_Pow22523), (76, .one s_field_Element_Equal), (77, .one s_field_Element_Absolute)] []
noncomputable def s_field_Element_SqrtRatio : FSum := i_field_Element_SqrtRatio.sumP C_field_Element_SqrtRatio
theorem ok_field_Element_SqrtRatio : FEOk Tryz.prog GB GC 47 (.one s_field_Element_SqrtRatio) := FnI.finP hG (.cons (k := 41) rfl (ok_field_Element_Square hG) Tryz.call41 (FnI.len _ _) (.cons (k := 44) rfl (ok_field_Element_Multiply hG) Tryz.call44 (FnI.len _ _) (.cons (k := 48) rfl (ok_field_Element_Negate hG) Tryz.call48 (FnI.len _ _) (.cons (k := 49) rfl (ok_field_Element_Select hG) Tryz.call49 (FnI.len _ _) (.cons (k := 75) rfl (ok_field_Element_Pow22523 hG) Tryz.call75 (FnI.lenP _ _) (.cons (k := 76) rfl (ok_field_Element_Equal hG) Tryz.call76 (FnI.len _ _) (.cons (k := 77) rfl (ok_field_Element_Absolute hG) Tryz.call77 (FnI.len _ _) .nil))))))) .nil Tryz.func47 rfl rfl rfl (.inr rfl) (by kernel_rfl)
noncomputable def i_edwards25519_feOne : FnI := ⟨6000, bodyOf Tryz.f43, Tryz.f43.ntmps, Tryz.f43.results.toList, [], ⟨[], false, fun _ => True, [], [((List.replicate 5 .u64), z1)], [.ptrF 0]⟩⟩
noncomputable def C_edwards25519_feOne : Cx := mkC [(51, .one s_field_Element_One)] []
noncomputable def s_edwards25519_feOne : FSum := i_edwards25519_feOne.sum C_edwards25519_feOne
theorem ok_edwards25519_feOne : FEOk Tryz.prog GB GC 43 (.one s_edwards25519_feOne) := FnI.fin hG (.cons (k := 51) rfl (ok_field_Element_One hG) Tryz.call51 (FnI.len _ _) .nil) .nil Tryz.func43 rfl rfl rfl (.inl rfl) (by kernel_rfl)
noncomputable def i_edwards25519_dOf : FnI := ⟨6000, bodyOf Tryz.f45, Tryz.f45.ntmps, Tryz.f45.results.toList, [], ⟨[], false, fun _ => True, [], [((List.replicate 5 .u64), z1)], [.ptrF 0]⟩⟩
noncomputable def C_edwards25519_dOf : Cx := mkC [(40, .one s_field_Element_SetBytes)] []
noncomputable def s_edwards25519_dOf : FSum := i_edwards25519_dOf.sum C_edwards25519_dOf
theorem ok_edwards25519_dOf : FEOk Tryz.prog GB GC 45 (.one s_edwards25519_dOf) := FnI.fin hG (.cons (k := 40) rfl (ok_field_Element_SetBytes hG) Tryz.call40 (FnI.len _ _) .nil) .nil Tryz.func45 rfl rfl rfl (.inl rfl) (by kernel_rfl)
noncomputable def i_edwards25519_d2 : FnI := ⟨6000, bodyOf Tryz.f138, Tryz.f138.ntmps, Tryz.f138.results.toList, [], ⟨[], false, fun _ => True, [], [((List.replicate 5 .u64), z1)], [.ptrF 0]⟩⟩
noncomputable def C_edwards25519_d2 : Cx := mkC [(45, .one s_edwards25519_dOf), (46, .one s_field_Element_Add)] []
noncomputable def s_edwards25519_d2 : FSum := i_edwards25519_d2.sum C_edwards25519_d2
theorem ok_edwards25519_d2 : FEOk Tryz.prog GB GC 138 (.one s_edwards25519_d2) := FnI.fin hG (.cons (k := 45) rfl (ok_edwards25519_dOf hG) Tryz.call45 (FnI.len _ _) (.cons (k := 46) rfl (ok_field_Element_Add hG) Tryz.call46 (FnI.len _ _) .nil)) .nil Tryz.func138 rfl rfl rfl (.inl rfl) (by kernel_rfl)
end
end Go.Proofs.YtdcmnkbegcebgaaGreatDoor
