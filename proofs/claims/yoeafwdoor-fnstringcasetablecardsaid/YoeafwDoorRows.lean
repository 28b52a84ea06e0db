/-
  NARROWER THAN 'FOR EVERY INPUT', by the rows' own cells (each row's printed sentence says how): FnStringCaseTable: laid · FnStringInjective: laid · FnPrecedenceBySpelling: laid · FnPrecedenceBoundsAndAssign: laid · FnIsOperatorBySpelling: laid.
  DERIVED. THE GIVEN ROWS OF THIS SEAT. 5 by the template 'for every input the law returns true; each argument reads behind the call as it read before'; 0 by the template 'total and deterministic' (their statements: YoeafwDoorTotals.lean).
  GIVEN WITH THE SEED: the statements are not yours to turn. If you find one false, say at which input.
  Laid BY PROGRAM, IN A SANDBOX (cutbox-rows.mjs): the forced cells as the released guide's own fill.sh prints them over the translation 7da3ce52e57605ac… (all of the seat's roots in one cut). By AI agents, Wed Nov 11 2026. No macro, syntax, notation, axiom, sorry.
-/
import Derived.Test.YoeafwDoorChecked
import GoSem.Claim
import GoSem.ClaimJoined
import GoSem.ClaimMapViews
import Derived.JoinedTies
import Derived.KernelRfl
namespace Go.Proofs.YoeafwDoor
/- THE CELL 'sum', in the pinned program and in every row, IS THE sha256 OF THE DUMP (.gsa) THAT YoeafwDoorProg.lean LOADS. Nothing in Lean hashes anything: it is a label: what it is worth is what the hold of that sum in a sandbox is worth. -/
noncomputable def Eafg.pinned : Pinned := { name := "yoeafwdoor", sum := "7da3ce52e57605ac21cc109b493b1e7555cc1f54bd950647fd3a3c6d83428c1d", checked := Eafg.checked }
namespace Rows
def none {H : Type} : Left H := { results := [], args := [] }

/- WHAT THE LISTED PACKAGE-LEVEL VARIABLES READ AS WHEN THE CALL BEGINS. Each datum BY PROGRAM (the guide's laid-datum.mjs) off the statement by which the dump's own 'gosem.cut.vars' lays the variable. In a bare row this is a premise. The card (YoeafwDoorCards.lean) ties it to the program's text. -/
def laid_math_bits_deBruijn32tab {H : Type} : DataW H := .agg [.lit (.int .u8 0), .lit (.int .u8 1), .lit (.int .u8 28), .lit (.int .u8 2), .lit (.int .u8 29), .lit (.int .u8 14), .lit (.int .u8 24), .lit (.int .u8 3), .lit (.int .u8 30), .lit (.int .u8 22), .lit (.int .u8 20), .lit (.int .u8 15), .lit (.int .u8 25), .lit (.int .u8 17), .lit (.int .u8 4), .lit (.int .u8 8), .lit (.int .u8 31), .lit (.int .u8 27), .lit (.int .u8 13), .lit (.int .u8 23), .lit (.int .u8 21), .lit (.int .u8 19), .lit (.int .u8 16), .lit (.int .u8 7), .lit (.int .u8 26), .lit (.int .u8 12), .lit (.int .u8 18), .lit (.int .u8 6), .lit (.int .u8 11), .lit (.int .u8 5), .lit (.int .u8 10), .lit (.int .u8 9)]
def laid_math_bits_deBruijn64tab {H : Type} : DataW H := .agg [.lit (.int .u8 0), .lit (.int .u8 1), .lit (.int .u8 56), .lit (.int .u8 2), .lit (.int .u8 57), .lit (.int .u8 49), .lit (.int .u8 28), .lit (.int .u8 3), .lit (.int .u8 61), .lit (.int .u8 58), .lit (.int .u8 42), .lit (.int .u8 50), .lit (.int .u8 38), .lit (.int .u8 29), .lit (.int .u8 17), .lit (.int .u8 4), .lit (.int .u8 62), .lit (.int .u8 47), .lit (.int .u8 59), .lit (.int .u8 36), .lit (.int .u8 45), .lit (.int .u8 43), .lit (.int .u8 51), .lit (.int .u8 22), .lit (.int .u8 53), .lit (.int .u8 39), .lit (.int .u8 33), .lit (.int .u8 30), .lit (.int .u8 24), .lit (.int .u8 18), .lit (.int .u8 12), .lit (.int .u8 5), .lit (.int .u8 63), .lit (.int .u8 55), .lit (.int .u8 48), .lit (.int .u8 27), .lit (.int .u8 60), .lit (.int .u8 41), .lit (.int .u8 37), .lit (.int .u8 16), .lit (.int .u8 46), .lit (.int .u8 35), .lit (.int .u8 44), .lit (.int .u8 21), .lit (.int .u8 52), .lit (.int .u8 32), .lit (.int .u8 23), .lit (.int .u8 11), .lit (.int .u8 54), .lit (.int .u8 26), .lit (.int .u8 40), .lit (.int .u8 15), .lit (.int .u8 34), .lit (.int .u8 20), .lit (.int .u8 31), .lit (.int .u8 10), .lit (.int .u8 25), .lit (.int .u8 14), .lit (.int .u8 19), .lit (.int .u8 9), .lit (.int .u8 13), .lit (.int .u8 8), .lit (.int .u8 7), .lit (.int .u8 6)]
def laid_internal_strconv_uint64pow10 {H : Type} : DataW H := .agg [.lit (.int .u64 1), .lit (.int .u64 10), .lit (.int .u64 100), .lit (.int .u64 1000), .lit (.int .u64 10000), .lit (.int .u64 100000), .lit (.int .u64 1000000), .lit (.int .u64 10000000), .lit (.int .u64 100000000), .lit (.int .u64 1000000000), .lit (.int .u64 10000000000), .lit (.int .u64 100000000000), .lit (.int .u64 1000000000000), .lit (.int .u64 10000000000000), .lit (.int .u64 100000000000000), .lit (.int .u64 1000000000000000), .lit (.int .u64 10000000000000000), .lit (.int .u64 100000000000000000), .lit (.int .u64 1000000000000000000), .lit (.int .u64 10000000000000000000)]
def laid_github_com_d5_tengo_v2_token_tokens {H : Type} : DataW H := .agg [.lit (.string [73, 76, 76, 69, 71, 65, 76]), .lit (.string [69, 79, 70]), .lit (.string [67, 79, 77, 77, 69, 78, 84]), .lit (.string []), .lit (.string [73, 68, 69, 78, 84]), .lit (.string [73, 78, 84]), .lit (.string [70, 76, 79, 65, 84]), .lit (.string [67, 72, 65, 82]), .lit (.string [83, 84, 82, 73, 78, 71]), .lit (.string []), .lit (.string []), .lit (.string [43]), .lit (.string [45]), .lit (.string [42]), .lit (.string [47]), .lit (.string [37]), .lit (.string [38]), .lit (.string [124]), .lit (.string [94]), .lit (.string [60, 60]), .lit (.string [62, 62]), .lit (.string [38, 94]), .lit (.string [43, 61]), .lit (.string [45, 61]), .lit (.string [42, 61]), .lit (.string [47, 61]), .lit (.string [37, 61]), .lit (.string [38, 61]), .lit (.string [124, 61]), .lit (.string [94, 61]), .lit (.string [60, 60, 61]), .lit (.string [62, 62, 61]), .lit (.string [38, 94, 61]), .lit (.string [38, 38]), .lit (.string [124, 124]), .lit (.string [43, 43]), .lit (.string [45, 45]), .lit (.string [61, 61]), .lit (.string [60]), .lit (.string [62]), .lit (.string [61]), .lit (.string [33]), .lit (.string [33, 61]), .lit (.string [60, 61]), .lit (.string [62, 61]), .lit (.string [58, 61]), .lit (.string [46, 46, 46]), .lit (.string [40]), .lit (.string [91]), .lit (.string [123]), .lit (.string [44]), .lit (.string [46]), .lit (.string [41]), .lit (.string [93]), .lit (.string [125]), .lit (.string [59]), .lit (.string [58]), .lit (.string [63]), .lit (.string []), .lit (.string []), .lit (.string [98, 114, 101, 97, 107]), .lit (.string [99, 111, 110, 116, 105, 110, 117, 101]), .lit (.string [101, 108, 115, 101]), .lit (.string [102, 111, 114]), .lit (.string [102, 117, 110, 99]), .lit (.string [101, 114, 114, 111, 114]), .lit (.string [105, 109, 109, 117, 116, 97, 98, 108, 101]), .lit (.string [105, 102]), .lit (.string [114, 101, 116, 117, 114, 110]), .lit (.string [101, 120, 112, 111, 114, 116]), .lit (.string [116, 114, 117, 101]), .lit (.string [102, 97, 108, 115, 101]), .lit (.string [105, 110]), .lit (.string [117, 110, 100, 101, 102, 105, 110, 101, 100]), .lit (.string [105, 109, 112, 111, 114, 116])]

/-- 'zzlaws_token_b1.FnStringCaseTable': WHATEVER THE INPUT: true; the input reads as it did. -/
def fnStringCaseTableSpec : ChangeSpec := { name := "fnStringCaseTable", vars := ["github.com/d5/tengo/v2/token.tokens"], fn := fun _ => fun
  | [d, g1] => { results := [.lit (.bool true)], args := [d], vars := [g1] }
  | _ => none }
def fnStringCaseTableRow : OpenClaim := { program := "yoeafwdoor", sum := "7da3ce52e57605ac21cc109b493b1e7555cc1f54bd950647fd3a3c6d83428c1d", func := "github.com/d5/tengo/v2/zzlaws_token_b1.FnStringCaseTable", spec := "fnStringCaseTable", named := ["github.com/d5/tengo/v2/token.tokens", "internal/strconv.uint64pow10", "math/bits.deBruijn32tab", "math/bits.deBruijn64tab"], apart := false, laid := [("math/bits.deBruijn32tab", laid_math_bits_deBruijn32tab), ("math/bits.deBruijn64tab", laid_math_bits_deBruijn64tab), ("internal/strconv.uint64pow10", laid_internal_strconv_uint64pow10), ("github.com/d5/tengo/v2/token.tokens", laid_github_com_d5_tengo_v2_token_tokens)] }
def FnStringCaseTableSaid : Prop := fnStringCaseTableRow.holds Eafg.pinned (OpenSpec.ofChange fnStringCaseTableSpec)

/-- ITS FALSE NEIGHBOUR: 'it returns false'. Refute it at one input. -/
def fnStringCaseTableWrong : ChangeSpec := { name := "fnStringCaseTable", vars := ["github.com/d5/tengo/v2/token.tokens"], fn := fun _ => fun
  | [d, g1] => { results := [.lit (.bool false)], args := [d], vars := [g1] }
  | _ => none }
def FnStringCaseTableWrongFalsely : Prop := fnStringCaseTableRow.holds Eafg.pinned (OpenSpec.ofChange fnStringCaseTableWrong)

/-- 'zzlaws_token_b1.FnStringInjective': WHATEVER THE INPUT: true; the input reads as it did. -/
def fnStringInjectiveSpec : ChangeSpec := { name := "fnStringInjective", vars := ["github.com/d5/tengo/v2/token.tokens"], fn := fun _ => fun
  | [d1, d2, g1] => { results := [.lit (.bool true)], args := [d1, d2], vars := [g1] }
  | _ => none }
def fnStringInjectiveRow : OpenClaim := { program := "yoeafwdoor", sum := "7da3ce52e57605ac21cc109b493b1e7555cc1f54bd950647fd3a3c6d83428c1d", func := "github.com/d5/tengo/v2/zzlaws_token_b1.FnStringInjective", spec := "fnStringInjective", named := ["github.com/d5/tengo/v2/token.tokens", "internal/strconv.uint64pow10", "math/bits.deBruijn32tab", "math/bits.deBruijn64tab"], apart := false, laid := [("math/bits.deBruijn32tab", laid_math_bits_deBruijn32tab), ("math/bits.deBruijn64tab", laid_math_bits_deBruijn64tab), ("internal/strconv.uint64pow10", laid_internal_strconv_uint64pow10), ("github.com/d5/tengo/v2/token.tokens", laid_github_com_d5_tengo_v2_token_tokens)] }
def FnStringInjectiveSaid : Prop := fnStringInjectiveRow.holds Eafg.pinned (OpenSpec.ofChange fnStringInjectiveSpec)

/-- ITS FALSE NEIGHBOUR: 'it returns false'. Refute it at one input. -/
def fnStringInjectiveWrong : ChangeSpec := { name := "fnStringInjective", vars := ["github.com/d5/tengo/v2/token.tokens"], fn := fun _ => fun
  | [d1, d2, g1] => { results := [.lit (.bool false)], args := [d1, d2], vars := [g1] }
  | _ => none }
def FnStringInjectiveWrongFalsely : Prop := fnStringInjectiveRow.holds Eafg.pinned (OpenSpec.ofChange fnStringInjectiveWrong)

/-- 'zzlaws_token_b1.FnPrecedenceBySpelling': WHATEVER THE INPUT: true; the input reads as it did. -/
def fnPrecedenceBySpellingSpec : ChangeSpec := { name := "fnPrecedenceBySpelling", vars := ["github.com/d5/tengo/v2/token.tokens"], fn := fun _ => fun
  | [d, g1] => { results := [.lit (.bool true)], args := [d], vars := [g1] }
  | _ => none }
def fnPrecedenceBySpellingRow : OpenClaim := { program := "yoeafwdoor", sum := "7da3ce52e57605ac21cc109b493b1e7555cc1f54bd950647fd3a3c6d83428c1d", func := "github.com/d5/tengo/v2/zzlaws_token_b1.FnPrecedenceBySpelling", spec := "fnPrecedenceBySpelling", named := ["github.com/d5/tengo/v2/token.tokens", "internal/strconv.uint64pow10", "math/bits.deBruijn32tab", "math/bits.deBruijn64tab"], apart := false, laid := [("math/bits.deBruijn32tab", laid_math_bits_deBruijn32tab), ("math/bits.deBruijn64tab", laid_math_bits_deBruijn64tab), ("internal/strconv.uint64pow10", laid_internal_strconv_uint64pow10), ("github.com/d5/tengo/v2/token.tokens", laid_github_com_d5_tengo_v2_token_tokens)] }
def FnPrecedenceBySpellingSaid : Prop := fnPrecedenceBySpellingRow.holds Eafg.pinned (OpenSpec.ofChange fnPrecedenceBySpellingSpec)

/-- ITS FALSE NEIGHBOUR: 'it returns false'. Refute it at one input. -/
def fnPrecedenceBySpellingWrong : ChangeSpec := { name := "fnPrecedenceBySpelling", vars := ["github.com/d5/tengo/v2/token.tokens"], fn := fun _ => fun
  | [d, g1] => { results := [.lit (.bool false)], args := [d], vars := [g1] }
  | _ => none }
def FnPrecedenceBySpellingWrongFalsely : Prop := fnPrecedenceBySpellingRow.holds Eafg.pinned (OpenSpec.ofChange fnPrecedenceBySpellingWrong)

/-- 'zzlaws_token_b1.FnPrecedenceBoundsAndAssign': WHATEVER THE INPUT: true; the input reads as it did. -/
def fnPrecedenceBoundsAndAssignSpec : ChangeSpec := { name := "fnPrecedenceBoundsAndAssign", vars := ["github.com/d5/tengo/v2/token.tokens"], fn := fun _ => fun
  | [d, g1] => { results := [.lit (.bool true)], args := [d], vars := [g1] }
  | _ => none }
def fnPrecedenceBoundsAndAssignRow : OpenClaim := { program := "yoeafwdoor", sum := "7da3ce52e57605ac21cc109b493b1e7555cc1f54bd950647fd3a3c6d83428c1d", func := "github.com/d5/tengo/v2/zzlaws_token_b1.FnPrecedenceBoundsAndAssign", spec := "fnPrecedenceBoundsAndAssign", named := ["github.com/d5/tengo/v2/token.tokens", "internal/strconv.uint64pow10", "math/bits.deBruijn32tab", "math/bits.deBruijn64tab"], apart := false, laid := [("math/bits.deBruijn32tab", laid_math_bits_deBruijn32tab), ("math/bits.deBruijn64tab", laid_math_bits_deBruijn64tab), ("internal/strconv.uint64pow10", laid_internal_strconv_uint64pow10), ("github.com/d5/tengo/v2/token.tokens", laid_github_com_d5_tengo_v2_token_tokens)] }
def FnPrecedenceBoundsAndAssignSaid : Prop := fnPrecedenceBoundsAndAssignRow.holds Eafg.pinned (OpenSpec.ofChange fnPrecedenceBoundsAndAssignSpec)

/-- ITS FALSE NEIGHBOUR: 'it returns false'. Refute it at one input. -/
def fnPrecedenceBoundsAndAssignWrong : ChangeSpec := { name := "fnPrecedenceBoundsAndAssign", vars := ["github.com/d5/tengo/v2/token.tokens"], fn := fun _ => fun
  | [d, g1] => { results := [.lit (.bool false)], args := [d], vars := [g1] }
  | _ => none }
def FnPrecedenceBoundsAndAssignWrongFalsely : Prop := fnPrecedenceBoundsAndAssignRow.holds Eafg.pinned (OpenSpec.ofChange fnPrecedenceBoundsAndAssignWrong)

/-- 'zzlaws_token_b1.FnIsOperatorBySpelling': WHATEVER THE INPUT: true; the input reads as it did. -/
def fnIsOperatorBySpellingSpec : ChangeSpec := { name := "fnIsOperatorBySpelling", vars := ["github.com/d5/tengo/v2/token.tokens"], fn := fun _ => fun
  | [d, g1] => { results := [.lit (.bool true)], args := [d], vars := [g1] }
  | _ => none }
def fnIsOperatorBySpellingRow : OpenClaim := { program := "yoeafwdoor", sum := "7da3ce52e57605ac21cc109b493b1e7555cc1f54bd950647fd3a3c6d83428c1d", func := "github.com/d5/tengo/v2/zzlaws_token_b1.FnIsOperatorBySpelling", spec := "fnIsOperatorBySpelling", named := ["github.com/d5/tengo/v2/token.tokens", "internal/strconv.uint64pow10", "math/bits.deBruijn32tab", "math/bits.deBruijn64tab"], apart := false, laid := [("math/bits.deBruijn32tab", laid_math_bits_deBruijn32tab), ("math/bits.deBruijn64tab", laid_math_bits_deBruijn64tab), ("internal/strconv.uint64pow10", laid_internal_strconv_uint64pow10), ("github.com/d5/tengo/v2/token.tokens", laid_github_com_d5_tengo_v2_token_tokens)] }
def FnIsOperatorBySpellingSaid : Prop := fnIsOperatorBySpellingRow.holds Eafg.pinned (OpenSpec.ofChange fnIsOperatorBySpellingSpec)

/-- ITS FALSE NEIGHBOUR: 'it returns false'. Refute it at one input. -/
def fnIsOperatorBySpellingWrong : ChangeSpec := { name := "fnIsOperatorBySpelling", vars := ["github.com/d5/tengo/v2/token.tokens"], fn := fun _ => fun
  | [d, g1] => { results := [.lit (.bool false)], args := [d], vars := [g1] }
  | _ => none }
def FnIsOperatorBySpellingWrongFalsely : Prop := fnIsOperatorBySpellingRow.holds Eafg.pinned (OpenSpec.ofChange fnIsOperatorBySpellingWrong)

end Rows
end Go.Proofs.YoeafwDoor
