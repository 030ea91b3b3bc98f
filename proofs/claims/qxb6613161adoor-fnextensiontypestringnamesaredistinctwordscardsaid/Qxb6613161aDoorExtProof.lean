/-
  'Rows.FnExtensionTypeStringNamesAreDistinctWordsSaid', PROVED: the row; the card is closed in the text behind it.
-/
import Derived.Test.Qxb6613161aDoorLaid
import Derived.Stop.Joined
namespace Go.Proofs.Qxb6613161aDoor.fnExtensionTypeStringNamesAreDistinctWords
open Go.ChangeShapes Go.WideShapes Go.ChangeAt Go.RowKit Go.WideElems Go.Maps
set_option linter.unusedVariables false

theorem own : ownKnob Tryd.prog.godebug = none := by kernel_rfl
theorem laidOut : laidOutB Tryd.prog = true := by kernel_rfl

/-- The door's own heap meets the condition. -/
theorem door_met (os : Os) (args : Array Value) : laidMetH Tryd.prog Rows.fnExtensionTypeStringNamesAreDistinctWordsRow.laid ((World.doorLaid Tryd.prog 114 os).forCall (fun _ _ => 0) ⟨#[], args, []⟩).memory :=
  laidMetH_of_parts3 (fuel := 8) (laidMet_of_run' 8 (by kernel_rfl) (by kernel_rfl)) (by kernel_rfl) (by kernel_rfl)

/-- What the condition gives the walk. -/
theorem of_laid {W : World} (h : laidMetH Tryd.prog Rows.fnExtensionTypeStringNamesAreDistinctWordsRow.laid W) : ∀ wr, Below W.heap.size W wr → ExtOk wr := by
  rw [MakeChecks.laidMetH_plain _ _ _ (by kernel_rfl)] at h
  obtain ⟨ps, ⟨g0, t0, cs0, f0, p0, q0, hg0, ht0, hv0, hd0, ⟨g1, t1, cs1, f1, p1, q1, hg1, ht1, hv1, hd1, ⟨g2, t2, cs2, f2, p2, q2, hg2, ht2, hv2, hd2, ⟨g3, t3, cs3, f3, p3, q3, hg3, ht3, hv3, hd3, _, _⟩, _⟩, _⟩, _⟩, _, _⟩ := h
  obtain rfl := Option.some.inj (gPow.symm.trans hg2)
  obtain rfl := Option.some.inj (tPow.symm.trans ht2)
  obtain rfl := Option.some.inj (gExt.symm.trans hg3)
  obtain rfl := Option.some.inj (tExt.symm.trans ht3)
  exact ext_of (pow_of hv2 hd2) hv3 hd3

set_option maxHeartbeats 800000 in
set_option maxRecDepth 100000 in
theorem lifted (os : Os) (started : os.Started) (H : Type) (enc : TypeId × Value → H) :
    ReturnsInHanded {} Tryd.checked os 3 .any (fun w args => (Rows.fnExtensionTypeStringNamesAreDistinctWordsSpec.pre enc Tryd.prog Tryd.f3 [] false w args ∧ laidMetH Tryd.prog Rows.fnExtensionTypeStringNamesAreDistinctWordsRow.laid w) ∧ sizedMet enc Tryd.prog Tryd.f3 (OpenSpec.ofChange Rows.fnExtensionTypeStringNamesAreDistinctWordsSpec) false w args)
      (Rows.fnExtensionTypeStringNamesAreDistinctWordsSpec.post enc Tryd.prog Tryd.f3 false true false false) := by
  refine returnsInHanded_of_change_and (C := Tryd.checked) (X := fun w _ => laidMetH Tryd.prog Rows.fnExtensionTypeStringNamesAreDistinctWordsRow.laid w) (fun _ _ _ hh h => h.of_heap hh) own started (by kernel_rfl) Tryd.func3
    (ChangeSpec.witness_shaped (enc := enc) (C := Tryd.checked) (os := os) (X := fun w _ => laidMetH Tryd.prog Rows.fnExtensionTypeStringNamesAreDistinctWordsRow.laid w) false (World.doorLaid Tryd.prog 114 os) #[.int .u16 0, .int .u16 0] 8 rfl (World.shaped_of_RefB (by kernel_rfl) (by kernel_rfl)) (by kernel_rfl) (by kernel_rfl) (by kernel_rfl) (door_met os _)) ?_
  intro W base args ds gs before hval0 hW _ _ hL _
  have hval : ∀ (j : Nat) t v, Tryd.f3.params[j]? = some t → args[j]? = some v → Value.okWide Tryd.prog W .any base t v := hval0
  have hW' := hW
  obtain ⟨p, q, hA0, hV0, rfl, hfz, hnd⟩ := hW
  have hA : DataW.TrodAll enc Tryd.prog W 0 (fun _ => true) true Tryd.f3.params.toList args.toList ds p := hA0
  have hV : DataW.TrodVars enc Tryd.prog W (fun _ => true) [extVar] gs q := hV0
  rw [Tryd.params3] at hA hval
  obtain ⟨v0, v1, d0, d1, p0, p1, rfl, rfl, rfl, h0, h1⟩ := trodAll_two hA
  obtain ⟨g, t, cs, fuel, d, p', rfl, hg, ht, hvar, hd, rfl⟩ := trodVars_one hV
  obtain rfl := Option.some.inj (gExt.symm.trans hg)
  obtain rfl := Option.some.inj (tExt.symm.trans ht)
  obtain ⟨a, rfl, rfl, rfl, wa⟩ := open_int Tryd.underlying22 (hval 0 22 v0 rfl rfl) h0
  obtain ⟨b, rfl, rfl, rfl, wb⟩ := open_int Tryd.underlying22 (hval 1 22 v1 rfl rfl) h1
  clear hA0 hV0 hval0 hA hV
  have ba := bounds_u16 wa
  have bb := bounds_u16 wb
  obtain ⟨a, rfl⟩ := Int.eq_ofNat_of_zero_le ba.1
  obtain ⟨b, rfl⟩ := Int.eq_ofNat_of_zero_le bb.1
  have hltv : ∀ x ∈ p', x.block < W.heap.size := fun x hx => hW'.lt x (List.mem_append_right _ (List.mem_append_right _ hx))
  obtain ⟨bm, hcs⟩ : ∃ bm, cs = #[.map bm] := by
    rcases open_map Tryd.underlying34 hd with ⟨hcs, _⟩ | ⟨bm, es, clock, m, _, hcs, _, _, _, _⟩
    · exact ⟨_, Array.eq_one_of_toList hcs⟩
    · exact ⟨_, Array.eq_one_of_toList hcs⟩
  subst hcs
  have hgl := lt_of_var gExt hvar (v := .map bm) rfl
  refine (walk3 a b (by omega) (by omega) W (of_laid hL)).mono fun e W' ⟨he, hB⟩ => ?_
  subst he
  obtain ⟨fuel', hd'⟩ := Below.trod laidOut (by kernel_rfl) (of_decide_eq_true (by kernel_rfl)) (v := .map bm) (⟨fuel, by simpa [Value.cells] using hd⟩ : DataW.Trod enc Tryd.prog W 0 (fun _ => true) true 34 (.map bm) d p') hB hltv
  have hv' := trodVars_mk1 (enc := enc) (spare := fun b => decide (b < W.heap.size)) hg ht (var?_below hB hg hgl hvar) (by simpa [Value.cells] using hd')
  exact ⟨_, rfl, _, _, _, [], [], _, hW', trodAll_mk1 (shut_bool Tryd.underlying4 _), trodAll_mk2 (shut_int Tryd.underlying22 wa) (shut_int Tryd.underlying22 wb), hv', hB.frame _, fun h => by cases h⟩

theorem row_holds : Rows.FnExtensionTypeStringNamesAreDistinctWordsSaid :=
  OpenClaim.holds_of_wide 3 Tryd.f3 rfl rfl rfl rfl rfl rfl rfl ⟨rfl, rfl, rfl, rfl, rfl⟩ rfl rfl rfl rfl rfl (by kernel_rfl) Tryd.func3 (by kernel_rfl)
    (of_decide_eq_true (by kernel_rfl)) (by unfold Func.isWrapper; first | (rw [if_pos (by decide +kernel)]; kernel_rfl) | (rw [if_neg (by decide +kernel)]; exact ⟨rfl, rfl⟩))
    (fun os started H enc _ => lifted os started H enc)
#print axioms row_holds
end Go.Proofs.Qxb6613161aDoor.fnExtensionTypeStringNamesAreDistinctWords
