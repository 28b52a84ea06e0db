/-
  DERIVED. GIVEN WITH THE SEED: THE PROGRAM's TIES (one call each: nine closed facts by the kernel) AND EACH ROW's TIE, after the 31st guide's Derived/Test/Toyas{Tie, Card}.lean. No idea stands in it: it is a product of the set-up. Laid BY PROGRAM, IN A SANDBOX (cutbox-door.mjs). By AI agents, Wed Nov 11 2026. No macro, syntax, notation, axiom, sorry.
-/
import Derived.Test.YoeafwDoorRows
import Derived.LaidByTextLater
import Derived.SevenTiedAt
import Derived.LaidSub
import Derived.LaidOnce
namespace Go.Proofs.YoeafwDoor
open Go
set_option maxRecDepth 100000
theorem seatTie1 : Eafg.prog.laidByTextLater [("math/bits.deBruijn32tab", Rows.laid_math_bits_deBruijn32tab), ("math/bits.deBruijn64tab", Rows.laid_math_bits_deBruijn64tab), ("internal/strconv.uint64pow10", Rows.laid_internal_strconv_uint64pow10), ("github.com/d5/tengo/v2/token.tokens", Rows.laid_github_com_d5_tengo_v2_token_tokens)] [.data, .data, .data, .data] true :=
  Program.laidByTextLater_by_one 29 8 76 (by kernel_rfl) (by kernel_rfl) (by kernel_rfl) (by kernel_rfl) (by kernel_rfl) (by kernel_rfl) (fun _ _ => by kernel_rfl)
theorem noOwnUnsafe : Eafg.pinned.checked.prog.headLifts.contains "ownunsafe" = false := by kernel_rfl
theorem tie : Eafg.prog.laidByTextLater [("math/bits.deBruijn32tab", Rows.laid_math_bits_deBruijn32tab), ("math/bits.deBruijn64tab", Rows.laid_math_bits_deBruijn64tab), ("internal/strconv.uint64pow10", Rows.laid_internal_strconv_uint64pow10), ("github.com/d5/tengo/v2/token.tokens", Rows.laid_github_com_d5_tengo_v2_token_tokens)] [.data, .data, .data, .data] true :=
  Program.laidByTextLater.sub seatTie1 ["math/bits.deBruijn32tab", "math/bits.deBruijn64tab", "internal/strconv.uint64pow10", "github.com/d5/tengo/v2/token.tokens"] (by kernel_rfl) (by kernel_rfl)
theorem fnStringCaseTable_row_tie : Rows.fnStringCaseTableRow.laidByTextAt .later Eafg.pinned [.data, .data, .data, .data] true :=
  OpenClaim.laidByTextAt_later rfl rfl tie noOwnUnsafe
theorem fnStringInjective_row_tie : Rows.fnStringInjectiveRow.laidByTextAt .later Eafg.pinned [.data, .data, .data, .data] true :=
  OpenClaim.laidByTextAt_later rfl rfl tie noOwnUnsafe
theorem fnPrecedenceBySpelling_row_tie : Rows.fnPrecedenceBySpellingRow.laidByTextAt .later Eafg.pinned [.data, .data, .data, .data] true :=
  OpenClaim.laidByTextAt_later rfl rfl tie noOwnUnsafe
theorem fnPrecedenceBoundsAndAssign_row_tie : Rows.fnPrecedenceBoundsAndAssignRow.laidByTextAt .later Eafg.pinned [.data, .data, .data, .data] true :=
  OpenClaim.laidByTextAt_later rfl rfl tie noOwnUnsafe
theorem fnIsOperatorBySpelling_row_tie : Rows.fnIsOperatorBySpellingRow.laidByTextAt .later Eafg.pinned [.data, .data, .data, .data] true :=
  OpenClaim.laidByTextAt_later rfl rfl tie noOwnUnsafe
end Go.Proofs.YoeafwDoor
