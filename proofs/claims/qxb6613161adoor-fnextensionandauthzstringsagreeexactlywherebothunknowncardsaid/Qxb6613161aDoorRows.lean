/-
  NARROWER THAN 'FOR EVERY INPUT', by the rows' own cells (each row's printed sentence says how): FnExtensionTypeStringNamesAreDistinctWords: maps, laid · FnAuthzDataFormatStringNamesAreDistinctWords: maps, laid · FnExtensionAndAuthzStringsAgreeExactlyWhereBothUnknown: maps, laid.
  DERIVED. THE GIVEN ROWS OF THIS SEAT. 3 by the template 'for every input the law returns true; each argument reads behind the call as it read before'; 0 by the template 'total and deterministic' (their statements: Qxb6613161aDoorTotals.lean).
  GIVEN WITH THE SEED: the statements are not yours to turn. If you find one false, say at which input.
  Laid BY PROGRAM, IN A SANDBOX (cutbox-rows.mjs): the forced cells as the released guide's own fill.sh prints them over the translation 2371b397cd8b4a6d… (all of the seat's roots in one cut). By AI agents, Wed Nov 11 2026. No macro, syntax, notation, axiom, sorry.
-/
import Derived.Test.Qxb6613161aDoorChecked
import GoSem.Claim
import GoSem.ClaimJoined
import GoSem.ClaimMapViews
import Derived.JoinedTies
import Derived.KernelRfl
namespace Go.Proofs.Qxb6613161aDoor
/- THE CELL 'sum', in the pinned program and in every row, IS THE sha256 OF THE DUMP (.gsa) THAT Qxb6613161aDoorProg.lean LOADS. Nothing in Lean hashes anything: it is a label: what it is worth is what the hold of that sum in a sandbox is worth. -/
noncomputable def Tryd.pinned : Pinned := { name := "qxb6613161adoor", sum := "2371b397cd8b4a6df3fa08fa422bf5f1cf3f712fa2ff66414d2e4f3ad9edf94b", checked := Tryd.checked }
namespace Rows
def none {H : Type} : Left H := { results := [], args := [] }

/- WHAT THE LISTED PACKAGE-LEVEL VARIABLES READ AS WHEN THE CALL BEGINS. Each datum BY PROGRAM (the guide's laid-datum.mjs) off the statement by which the dump's own 'gosem.cut.vars' lays the variable. In a bare row this is a premise. The card (Qxb6613161aDoorCards.lean) ties it to the program's text. -/
def laid_math_bits_deBruijn32tab {H : Type} : DataW H := .agg [.lit (.int .u8 0), .lit (.int .u8 1), .lit (.int .u8 28), .lit (.int .u8 2), .lit (.int .u8 29), .lit (.int .u8 14), .lit (.int .u8 24), .lit (.int .u8 3), .lit (.int .u8 30), .lit (.int .u8 22), .lit (.int .u8 20), .lit (.int .u8 15), .lit (.int .u8 25), .lit (.int .u8 17), .lit (.int .u8 4), .lit (.int .u8 8), .lit (.int .u8 31), .lit (.int .u8 27), .lit (.int .u8 13), .lit (.int .u8 23), .lit (.int .u8 21), .lit (.int .u8 19), .lit (.int .u8 16), .lit (.int .u8 7), .lit (.int .u8 26), .lit (.int .u8 12), .lit (.int .u8 18), .lit (.int .u8 6), .lit (.int .u8 11), .lit (.int .u8 5), .lit (.int .u8 10), .lit (.int .u8 9)]
def laid_math_bits_deBruijn64tab {H : Type} : DataW H := .agg [.lit (.int .u8 0), .lit (.int .u8 1), .lit (.int .u8 56), .lit (.int .u8 2), .lit (.int .u8 57), .lit (.int .u8 49), .lit (.int .u8 28), .lit (.int .u8 3), .lit (.int .u8 61), .lit (.int .u8 58), .lit (.int .u8 42), .lit (.int .u8 50), .lit (.int .u8 38), .lit (.int .u8 29), .lit (.int .u8 17), .lit (.int .u8 4), .lit (.int .u8 62), .lit (.int .u8 47), .lit (.int .u8 59), .lit (.int .u8 36), .lit (.int .u8 45), .lit (.int .u8 43), .lit (.int .u8 51), .lit (.int .u8 22), .lit (.int .u8 53), .lit (.int .u8 39), .lit (.int .u8 33), .lit (.int .u8 30), .lit (.int .u8 24), .lit (.int .u8 18), .lit (.int .u8 12), .lit (.int .u8 5), .lit (.int .u8 63), .lit (.int .u8 55), .lit (.int .u8 48), .lit (.int .u8 27), .lit (.int .u8 60), .lit (.int .u8 41), .lit (.int .u8 37), .lit (.int .u8 16), .lit (.int .u8 46), .lit (.int .u8 35), .lit (.int .u8 44), .lit (.int .u8 21), .lit (.int .u8 52), .lit (.int .u8 32), .lit (.int .u8 23), .lit (.int .u8 11), .lit (.int .u8 54), .lit (.int .u8 26), .lit (.int .u8 40), .lit (.int .u8 15), .lit (.int .u8 34), .lit (.int .u8 20), .lit (.int .u8 31), .lit (.int .u8 10), .lit (.int .u8 25), .lit (.int .u8 14), .lit (.int .u8 19), .lit (.int .u8 9), .lit (.int .u8 13), .lit (.int .u8 8), .lit (.int .u8 7), .lit (.int .u8 6)]
def laid_internal_strconv_uint64pow10 {H : Type} : DataW H := .agg [.lit (.int .u64 1), .lit (.int .u64 10), .lit (.int .u64 100), .lit (.int .u64 1000), .lit (.int .u64 10000), .lit (.int .u64 100000), .lit (.int .u64 1000000), .lit (.int .u64 10000000), .lit (.int .u64 100000000), .lit (.int .u64 1000000000), .lit (.int .u64 10000000000), .lit (.int .u64 100000000000), .lit (.int .u64 1000000000000), .lit (.int .u64 10000000000000), .lit (.int .u64 100000000000000), .lit (.int .u64 1000000000000000), .lit (.int .u64 10000000000000000), .lit (.int .u64 100000000000000000), .lit (.int .u64 1000000000000000000), .lit (.int .u64 10000000000000000000)]
def laid_example_com_codicil_codicil_extensionNames {H : Type} : DataW H := .map [(.int .u16 0, .lit (.string [115, 101, 114, 118, 101, 114, 95, 110, 97, 109, 101])), (.int .u16 1, .lit (.string [109, 97, 120, 95, 102, 114, 97, 103, 109, 101, 110, 116, 95, 108, 101, 110, 103, 116, 104])), (.int .u16 2, .lit (.string [99, 108, 105, 101, 110, 116, 95, 99, 101, 114, 116, 105, 102, 105, 99, 97, 116, 101, 95, 117, 114, 108])), (.int .u16 3, .lit (.string [116, 114, 117, 115, 116, 101, 100, 95, 99, 97, 95, 107, 101, 121, 115])), (.int .u16 4, .lit (.string [116, 114, 117, 110, 99, 97, 116, 101, 100, 95, 104, 109, 97, 99])), (.int .u16 5, .lit (.string [115, 116, 97, 116, 117, 115, 95, 114, 101, 113, 117, 101, 115, 116])), (.int .u16 7, .lit (.string [99, 108, 105, 101, 110, 116, 95, 97, 117, 116, 104, 122])), (.int .u16 8, .lit (.string [115, 101, 114, 118, 101, 114, 95, 97, 117, 116, 104, 122])), (.int .u16 10, .lit (.string [115, 117, 112, 112, 111, 114, 116, 101, 100, 95, 103, 114, 111, 117, 112, 115])), (.int .u16 11, .lit (.string [101, 99, 95, 112, 111, 105, 110, 116, 95, 102, 111, 114, 109, 97, 116, 115])), (.int .u16 13, .lit (.string [115, 105, 103, 110, 97, 116, 117, 114, 101, 95, 97, 108, 103, 111, 114, 105, 116, 104, 109, 115])), (.int .u16 65281, .lit (.string [114, 101, 110, 101, 103, 111, 116, 105, 97, 116, 105, 111, 110, 95, 105, 110, 102, 111]))]
def laid_example_com_codicil_codicil_authzFormatNames {H : Type} : DataW H := .map [(.int .u8 0, .lit (.string [120, 53, 48, 57, 95, 97, 116, 116, 114, 95, 99, 101, 114, 116])), (.int .u8 1, .lit (.string [115, 97, 109, 108, 95, 97, 115, 115, 101, 114, 116, 105, 111, 110])), (.int .u8 2, .lit (.string [120, 53, 48, 57, 95, 97, 116, 116, 114, 95, 99, 101, 114, 116, 95, 117, 114, 108])), (.int .u8 3, .lit (.string [115, 97, 109, 108, 95, 97, 115, 115, 101, 114, 116, 105, 111, 110, 95, 117, 114, 108]))]

/-- 'zzlaws_root_b1.FnExtensionTypeStringNamesAreDistinctWords': WHATEVER THE INPUT: true; the input reads as it did. -/
def fnExtensionTypeStringNamesAreDistinctWordsSpec : ChangeSpec := { name := "fnExtensionTypeStringNamesAreDistinctWords", vars := ["example.com/codicil/codicil.extensionNames"], fn := fun _ => fun
  | [d1, d2, g1] => { results := [.lit (.bool true)], args := [d1, d2], vars := [g1] }
  | _ => none }
def fnExtensionTypeStringNamesAreDistinctWordsRow : OpenClaim := { program := "qxb6613161adoor", sum := "2371b397cd8b4a6df3fa08fa422bf5f1cf3f712fa2ff66414d2e4f3ad9edf94b", func := "example.com/codicil/codicil/zzlaws_root_b1.FnExtensionTypeStringNamesAreDistinctWords", spec := "fnExtensionTypeStringNamesAreDistinctWords", named := ["example.com/codicil/codicil.extensionNames", "internal/strconv.uint64pow10", "math/bits.deBruijn32tab", "math/bits.deBruijn64tab"], maps := true, apart := false, laid := [("math/bits.deBruijn32tab", laid_math_bits_deBruijn32tab), ("math/bits.deBruijn64tab", laid_math_bits_deBruijn64tab), ("internal/strconv.uint64pow10", laid_internal_strconv_uint64pow10), ("example.com/codicil/codicil.extensionNames", laid_example_com_codicil_codicil_extensionNames)] }
def FnExtensionTypeStringNamesAreDistinctWordsSaid : Prop := fnExtensionTypeStringNamesAreDistinctWordsRow.holds Tryd.pinned (OpenSpec.ofChange fnExtensionTypeStringNamesAreDistinctWordsSpec)

/-- ITS FALSE NEIGHBOUR: 'it returns false'. Refute it at one input. -/
def fnExtensionTypeStringNamesAreDistinctWordsWrong : ChangeSpec := { name := "fnExtensionTypeStringNamesAreDistinctWords", vars := ["example.com/codicil/codicil.extensionNames"], fn := fun _ => fun
  | [d1, d2, g1] => { results := [.lit (.bool false)], args := [d1, d2], vars := [g1] }
  | _ => none }
def FnExtensionTypeStringNamesAreDistinctWordsWrongFalsely : Prop := fnExtensionTypeStringNamesAreDistinctWordsRow.holds Tryd.pinned (OpenSpec.ofChange fnExtensionTypeStringNamesAreDistinctWordsWrong)

/-- 'zzlaws_root_b1.FnAuthzDataFormatStringNamesAreDistinctWords': WHATEVER THE INPUT: true; the input reads as it did. -/
def fnAuthzDataFormatStringNamesAreDistinctWordsSpec : ChangeSpec := { name := "fnAuthzDataFormatStringNamesAreDistinctWords", vars := ["example.com/codicil/codicil.authzFormatNames"], fn := fun _ => fun
  | [d1, d2, g1] => { results := [.lit (.bool true)], args := [d1, d2], vars := [g1] }
  | _ => none }
def fnAuthzDataFormatStringNamesAreDistinctWordsRow : OpenClaim := { program := "qxb6613161adoor", sum := "2371b397cd8b4a6df3fa08fa422bf5f1cf3f712fa2ff66414d2e4f3ad9edf94b", func := "example.com/codicil/codicil/zzlaws_root_b1.FnAuthzDataFormatStringNamesAreDistinctWords", spec := "fnAuthzDataFormatStringNamesAreDistinctWords", named := ["example.com/codicil/codicil.authzFormatNames", "internal/strconv.uint64pow10", "math/bits.deBruijn32tab", "math/bits.deBruijn64tab"], maps := true, apart := false, laid := [("math/bits.deBruijn32tab", laid_math_bits_deBruijn32tab), ("math/bits.deBruijn64tab", laid_math_bits_deBruijn64tab), ("internal/strconv.uint64pow10", laid_internal_strconv_uint64pow10), ("example.com/codicil/codicil.authzFormatNames", laid_example_com_codicil_codicil_authzFormatNames)] }
def FnAuthzDataFormatStringNamesAreDistinctWordsSaid : Prop := fnAuthzDataFormatStringNamesAreDistinctWordsRow.holds Tryd.pinned (OpenSpec.ofChange fnAuthzDataFormatStringNamesAreDistinctWordsSpec)

/-- ITS FALSE NEIGHBOUR: 'it returns false'. Refute it at one input. -/
def fnAuthzDataFormatStringNamesAreDistinctWordsWrong : ChangeSpec := { name := "fnAuthzDataFormatStringNamesAreDistinctWords", vars := ["example.com/codicil/codicil.authzFormatNames"], fn := fun _ => fun
  | [d1, d2, g1] => { results := [.lit (.bool false)], args := [d1, d2], vars := [g1] }
  | _ => none }
def FnAuthzDataFormatStringNamesAreDistinctWordsWrongFalsely : Prop := fnAuthzDataFormatStringNamesAreDistinctWordsRow.holds Tryd.pinned (OpenSpec.ofChange fnAuthzDataFormatStringNamesAreDistinctWordsWrong)

/-- 'zzlaws_root_b1.FnExtensionAndAuthzStringsAgreeExactlyWhereBothUnknown': WHATEVER THE INPUT: true; the input reads as it did. -/
def fnExtensionAndAuthzStringsAgreeExactlyWhereBothUnknownSpec : ChangeSpec := { name := "fnExtensionAndAuthzStringsAgreeExactlyWhereBothUnknown", vars := ["example.com/codicil/codicil.extensionNames", "example.com/codicil/codicil.authzFormatNames"], fn := fun _ => fun
  | [d, g1, g2] => { results := [.lit (.bool true)], args := [d], vars := [g1, g2] }
  | _ => none }
def fnExtensionAndAuthzStringsAgreeExactlyWhereBothUnknownRow : OpenClaim := { program := "qxb6613161adoor", sum := "2371b397cd8b4a6df3fa08fa422bf5f1cf3f712fa2ff66414d2e4f3ad9edf94b", func := "example.com/codicil/codicil/zzlaws_root_b1.FnExtensionAndAuthzStringsAgreeExactlyWhereBothUnknown", spec := "fnExtensionAndAuthzStringsAgreeExactlyWhereBothUnknown", named := ["example.com/codicil/codicil.extensionNames", "internal/strconv.uint64pow10", "math/bits.deBruijn32tab", "math/bits.deBruijn64tab", "example.com/codicil/codicil.authzFormatNames"], maps := true, apart := false, laid := [("math/bits.deBruijn32tab", laid_math_bits_deBruijn32tab), ("math/bits.deBruijn64tab", laid_math_bits_deBruijn64tab), ("internal/strconv.uint64pow10", laid_internal_strconv_uint64pow10), ("example.com/codicil/codicil.extensionNames", laid_example_com_codicil_codicil_extensionNames), ("example.com/codicil/codicil.authzFormatNames", laid_example_com_codicil_codicil_authzFormatNames)] }
def FnExtensionAndAuthzStringsAgreeExactlyWhereBothUnknownSaid : Prop := fnExtensionAndAuthzStringsAgreeExactlyWhereBothUnknownRow.holds Tryd.pinned (OpenSpec.ofChange fnExtensionAndAuthzStringsAgreeExactlyWhereBothUnknownSpec)

/-- ITS FALSE NEIGHBOUR: 'it returns false'. Refute it at one input. -/
def fnExtensionAndAuthzStringsAgreeExactlyWhereBothUnknownWrong : ChangeSpec := { name := "fnExtensionAndAuthzStringsAgreeExactlyWhereBothUnknown", vars := ["example.com/codicil/codicil.extensionNames", "example.com/codicil/codicil.authzFormatNames"], fn := fun _ => fun
  | [d, g1, g2] => { results := [.lit (.bool false)], args := [d], vars := [g1, g2] }
  | _ => none }
def FnExtensionAndAuthzStringsAgreeExactlyWhereBothUnknownWrongFalsely : Prop := fnExtensionAndAuthzStringsAgreeExactlyWhereBothUnknownRow.holds Tryd.pinned (OpenSpec.ofChange fnExtensionAndAuthzStringsAgreeExactlyWhereBothUnknownWrong)

end Rows
end Go.Proofs.Qxb6613161aDoor
