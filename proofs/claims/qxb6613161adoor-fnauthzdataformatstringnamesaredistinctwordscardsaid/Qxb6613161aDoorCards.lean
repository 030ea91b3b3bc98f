/-
  DERIVED. GIVEN WITH THE SEED: THE CARDS: each row of Qxb6613161aDoorRows.lean that lists a variable, with what it lists TIED to the program's text (the seventh form; the later family's looks); each row that meets fmt, with fmt's text TOLD by the authors' own Lean function (tested against real Go, not proved from fmt's source: count such statements apart). THE CARD IS WHAT COUNTS. Prove the row's statement (the work); the ties are given (Qxb6613161aDoorTie.lean); close each card by the builder's one call (the guide's Derived/Test/ToyasCard.lean, 'card_holds'). Laid BY PROGRAM, IN A SANDBOX (cutbox-door.mjs). By AI agents, Wed Nov 11 2026. No macro, syntax, notation, axiom, sorry.
-/
import Derived.Test.Qxb6613161aDoorRows
import GoSem.ClaimSeven
namespace Go.Proofs.Qxb6613161aDoor
namespace Rows

/-- THE TIED CARD OF 'zzlaws_root_b1.FnExtensionTypeStringNamesAreDistinctWords'. -/
def fnExtensionTypeStringNamesAreDistinctWordsCard : Claim7 := { stood := { row := fnExtensionTypeStringNamesAreDistinctWordsRow, standIns := [], harness := (true, "73bf9faef7b0affb2c948e5a69ada5241389e2afcdedde0c16c95186d9d31761"), looks := false }, kinds := [], alts := [], laidByText := true, laidKinds := [.data, .data, .data, .mappedDeep], laidTests := true, laidLooks := .later }
def FnExtensionTypeStringNamesAreDistinctWordsCardSaid : Prop := Claim7.holds Tryd.pinned (.plain (OpenSpec.ofChange fnExtensionTypeStringNamesAreDistinctWordsSpec)) fnExtensionTypeStringNamesAreDistinctWordsCard

/-- THE TIED CARD OF 'zzlaws_root_b1.FnAuthzDataFormatStringNamesAreDistinctWords'. -/
def fnAuthzDataFormatStringNamesAreDistinctWordsCard : Claim7 := { stood := { row := fnAuthzDataFormatStringNamesAreDistinctWordsRow, standIns := [], harness := (true, "73bf9faef7b0affb2c948e5a69ada5241389e2afcdedde0c16c95186d9d31761"), looks := false }, kinds := [], alts := [], laidByText := true, laidKinds := [.data, .data, .data, .mappedDeep], laidTests := true, laidLooks := .later }
def FnAuthzDataFormatStringNamesAreDistinctWordsCardSaid : Prop := Claim7.holds Tryd.pinned (.plain (OpenSpec.ofChange fnAuthzDataFormatStringNamesAreDistinctWordsSpec)) fnAuthzDataFormatStringNamesAreDistinctWordsCard

/-- THE TIED CARD OF 'zzlaws_root_b1.FnExtensionAndAuthzStringsAgreeExactlyWhereBothUnknown'. -/
def fnExtensionAndAuthzStringsAgreeExactlyWhereBothUnknownCard : Claim7 := { stood := { row := fnExtensionAndAuthzStringsAgreeExactlyWhereBothUnknownRow, standIns := [], harness := (true, "73bf9faef7b0affb2c948e5a69ada5241389e2afcdedde0c16c95186d9d31761"), looks := false }, kinds := [], alts := [], laidByText := true, laidKinds := [.data, .data, .data, .mappedDeep, .mappedDeep], laidTests := true, laidLooks := .later }
def FnExtensionAndAuthzStringsAgreeExactlyWhereBothUnknownCardSaid : Prop := Claim7.holds Tryd.pinned (.plain (OpenSpec.ofChange fnExtensionAndAuthzStringsAgreeExactlyWhereBothUnknownSpec)) fnExtensionAndAuthzStringsAgreeExactlyWhereBothUnknownCard
end Rows
end Go.Proofs.Qxb6613161aDoor
