/-
  DERIVED. GIVEN WITH THE SEED: THE PROGRAM's TIES (one call each: nine closed facts by the kernel) AND EACH ROW's TIE, after the 31st guide's Derived/Test/Toyas{Tie, Card}.lean. No idea stands in it: it is a product of the set-up. Laid BY PROGRAM, IN A SANDBOX (cutbox-door.mjs). By AI agents, Wed Nov 11 2026. No macro, syntax, notation, axiom, sorry.
-/
import Derived.Test.YtkbfdaoohhmgoaaGreatDoorRows
import Derived.LaidByTextLater
import Derived.SevenTiedAt
import Derived.LaidSub
import Derived.LaidOnce
namespace Go.Proofs.YtkbfdaoohhmgoaaGreatDoor
open Go
set_option maxRecDepth 100000
theorem seatTie1 : Tryz.prog.laidByTextLater [("math/bits.deBruijn32tab", Rows.laid_math_bits_deBruijn32tab), ("math/bits.deBruijn64tab", Rows.laid_math_bits_deBruijn64tab), ("internal/strconv.uint64pow10", Rows.laid_internal_strconv_uint64pow10), ("loop.example/pub-g03339/pub/field.feZero", Rows.laid_loop_example_pub_g03339_pub_field_feZero), ("loop.example/pub-g03339/pub/field.feOne", Rows.laid_loop_example_pub_g03339_pub_field_feOne), ("loop.example/pub-g03339/pub/field.sqrtM1", Rows.laid_loop_example_pub_g03339_pub_field_sqrtM1), ("loop.example/pub-g03339/pub/edwards25519.scalarTwo168", Rows.laid_loop_example_pub_g03339_pub_edwards25519_scalarTwo168), ("loop.example/pub-g03339/pub/edwards25519.scalarTwo336", Rows.laid_loop_example_pub_g03339_pub_edwards25519_scalarTwo336), ("loop.example/pub-g03339/pub/edwards25519.scalarMinusOneBytes", Rows.laid_loop_example_pub_g03339_pub_edwards25519_scalarMinusOneBytes), ("loop.example/pub-g03339/pub/sha512._K", Rows.laid_loop_example_pub_g03339_pub_sha512_K)] [.data, .data, .data, .widerDeep, .widerDeep, .widerDeep, .widerDeep, .widerDeep, .widerDeep, .data] true :=
  Program.laidByTextLater_by_one 66 8 81 (by kernel_rfl) (by kernel_rfl) (by kernel_rfl) (by kernel_rfl) (by kernel_rfl) (by kernel_rfl) (fun _ _ => by kernel_rfl)
theorem noOwnUnsafe : Tryz.pinned.checked.prog.headLifts.contains "ownunsafe" = false := by kernel_rfl
theorem tie : Tryz.prog.laidByTextLater [("math/bits.deBruijn32tab", Rows.laid_math_bits_deBruijn32tab), ("math/bits.deBruijn64tab", Rows.laid_math_bits_deBruijn64tab), ("internal/strconv.uint64pow10", Rows.laid_internal_strconv_uint64pow10), ("loop.example/pub-g03339/pub/field.feZero", Rows.laid_loop_example_pub_g03339_pub_field_feZero), ("loop.example/pub-g03339/pub/field.feOne", Rows.laid_loop_example_pub_g03339_pub_field_feOne), ("loop.example/pub-g03339/pub/field.sqrtM1", Rows.laid_loop_example_pub_g03339_pub_field_sqrtM1), ("loop.example/pub-g03339/pub/edwards25519.scalarTwo168", Rows.laid_loop_example_pub_g03339_pub_edwards25519_scalarTwo168), ("loop.example/pub-g03339/pub/edwards25519.scalarTwo336", Rows.laid_loop_example_pub_g03339_pub_edwards25519_scalarTwo336), ("loop.example/pub-g03339/pub/edwards25519.scalarMinusOneBytes", Rows.laid_loop_example_pub_g03339_pub_edwards25519_scalarMinusOneBytes), ("loop.example/pub-g03339/pub/sha512._K", Rows.laid_loop_example_pub_g03339_pub_sha512_K)] [.data, .data, .data, .widerDeep, .widerDeep, .widerDeep, .widerDeep, .widerDeep, .widerDeep, .data] true :=
  Program.laidByTextLater.sub seatTie1 ["math/bits.deBruijn32tab", "math/bits.deBruijn64tab", "internal/strconv.uint64pow10", "loop.example/pub-g03339/pub/field.feZero", "loop.example/pub-g03339/pub/field.feOne", "loop.example/pub-g03339/pub/field.sqrtM1", "loop.example/pub-g03339/pub/edwards25519.scalarTwo168", "loop.example/pub-g03339/pub/edwards25519.scalarTwo336", "loop.example/pub-g03339/pub/edwards25519.scalarMinusOneBytes", "loop.example/pub-g03339/pub/sha512._K"] (by kernel_rfl) (by kernel_rfl)
theorem fnExactVerify_row_tie : Rows.fnExactVerifyRow.laidByTextAt .later Tryz.pinned [.data, .data, .data, .widerDeep, .widerDeep, .widerDeep, .widerDeep, .widerDeep, .widerDeep, .data] true :=
  OpenClaim.laidByTextAt_later rfl rfl tie noOwnUnsafe
theorem fnExactVerifyCtx_row_tie : Rows.fnExactVerifyCtxRow.laidByTextAt .later Tryz.pinned [.data, .data, .data, .widerDeep, .widerDeep, .widerDeep, .widerDeep, .widerDeep, .widerDeep, .data] true :=
  OpenClaim.laidByTextAt_later rfl rfl tie noOwnUnsafe
theorem fnExactVerifyPH_row_tie : Rows.fnExactVerifyPHRow.laidByTextAt .later Tryz.pinned [.data, .data, .data, .widerDeep, .widerDeep, .widerDeep, .widerDeep, .widerDeep, .widerDeep, .data] true :=
  OpenClaim.laidByTextAt_later rfl rfl tie noOwnUnsafe
theorem fnExactVerifyUpto_row_tie : Rows.fnExactVerifyUptoRow.laidByTextAt .later Tryz.pinned [.data, .data, .data, .widerDeep, .widerDeep, .widerDeep, .widerDeep, .widerDeep, .widerDeep, .data] true :=
  OpenClaim.laidByTextAt_later rfl rfl tie noOwnUnsafe
theorem fnExactVerifyCtxUpto_row_tie : Rows.fnExactVerifyCtxUptoRow.laidByTextAt .later Tryz.pinned [.data, .data, .data, .widerDeep, .widerDeep, .widerDeep, .widerDeep, .widerDeep, .widerDeep, .data] true :=
  OpenClaim.laidByTextAt_later rfl rfl tie noOwnUnsafe
theorem fnExactVerifyPHUpto_row_tie : Rows.fnExactVerifyPHUptoRow.laidByTextAt .later Tryz.pinned [.data, .data, .data, .widerDeep, .widerDeep, .widerDeep, .widerDeep, .widerDeep, .widerDeep, .data] true :=
  OpenClaim.laidByTextAt_later rfl rfl tie noOwnUnsafe
end Go.Proofs.YtkbfdaoohhmgoaaGreatDoor
