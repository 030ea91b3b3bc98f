/-
  'Rows.FnAuthzDataFormatStringNamesAreDistinctWordsCardSaid': THE TIED CARD, closed: the row is proved in Qxb6613161aDoorAuthProof, the tie is given.
-/
import Derived.Test.Qxb6613161aDoorAuthProof
import Derived.Test.Qxb6613161aDoorTie
import Derived.Test.Qxb6613161aDoorCards
import Derived.SevenTiedAt
namespace Go.Proofs.Qxb6613161aDoor.fnAuthzDataFormatStringNamesAreDistinctWords
open Go
set_option maxRecDepth 100000

/-- THE TIED CARD. -/
theorem proved : Rows.FnAuthzDataFormatStringNamesAreDistinctWordsCardSaid :=
  Claim7.holds_tied_plain_at .later [] [.data, .data, .data, .mappedDeep] true Rows.fnAuthzDataFormatStringNamesAreDistinctWordsCard.stood.harness false
    row_holds (fun _ h => by cases h) (by kernel_rfl) (fun _ h => by cases h) fnAuthzDataFormatStringNamesAreDistinctWords_row_tie rfl ⟨rfl, rfl⟩ (by kernel_rfl) rfl
    (fun f fn hf hfn => by
      obtain rfl : f = 4 := Option.some.inj ((show Tryd.prog.funcNamed Rows.fnAuthzDataFormatStringNamesAreDistinctWordsRow.func = some 4 by kernel_rfl).symm.trans hf) |>.symm
      obtain rfl : fn = Tryd.f4 := (Option.some.inj (Tryd.func4.symm.trans hfn)).symm
      exact ⟨by kernel_rfl, fun j t ht => by
        rw [Tryd.params4] at ht
        have hm : t ∈ [5, 5] := by simpa using Array.mem_of_getElem? ht
        have hall : ([5, 5].all fun u => !Tryd.prog.wantsStandIn u) = true := by kernel_rfl
        exact (show Tryd.prog.wantsStandIn t = false by simpa using List.all_eq_true.1 hall t hm)⟩)
    (by kernel_rfl)
#print axioms proved
end Go.Proofs.Qxb6613161aDoor.fnAuthzDataFormatStringNamesAreDistinctWords
