/- Contracts that the trees give: SHA-512. (further) -/
import Derived.Test.YtdcmnkbegcebgaaGreatDoorDb4
namespace Go.Proofs.YtdcmnkbegcebgaaGreatDoor
open Go

section
variable {GB : Nat} {GC : Nat → Nat → Option Value} {ad : Nat → Nat × Nat} (hG : GOk GB GC ad)
include hG
theorem ok_sha512_blockGeneric : FEOk Tryz.prog GB GC 79 (.one s_sha512_blockGeneric) := FnI.finL hG (i := i_sha512_blockGeneric) (l := l_sha512_blockGeneric) (T := [(112, .one s_bits_RotateLeft64)]) (T' := [(112, .one s_bits_RotateLeft64)]) (L := []) (L' := []) (lid := 1000079) (Cb := Cb_sha512_blockGeneric) (C1 := C_sha512_blockGeneric) (pl := (l_sha512_blockGeneric.pre Cb_sha512_blockGeneric)) (pre := (fun ins => evOb C_sha512_blockGeneric.T (i_sha512_blockGeneric.tree C_sha512_blockGeneric) (insE ins))) (by decide) rfl rfl (.cons (k := 112) rfl (ok_bits_RotateLeft64 hG) Tryz.call112 (FnI.len _ _) .nil) .nil .nil Tryz.func79 rfl rfl rfl (.inr rfl) (.inr rfl) (fun _ _ h => h) (.cons (k := 112) rfl (ok_bits_RotateLeft64 hG) Tryz.call112 (FnI.len _ _) .nil) chkl_sha512_blockGeneric (by kernel_rfl) (by kernel_rfl) (by kernel_rfl) (fun _ _ h => h)
end
end Go.Proofs.YtdcmnkbegcebgaaGreatDoor
