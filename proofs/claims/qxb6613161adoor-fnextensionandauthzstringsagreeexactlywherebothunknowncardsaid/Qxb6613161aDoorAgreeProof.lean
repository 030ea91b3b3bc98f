/-
  'Rows.FnExtensionAndAuthzStringsAgreeExactlyWhereBothUnknownSaid', PROVED: the row; the card is closed in the text behind it.
-/
import Derived.Test.Qxb6613161aDoorLaid
import Derived.Stop.Joined
namespace Go.Proofs.Qxb6613161aDoor.fnExtensionAndAuthzStringsAgreeExactlyWhereBothUnknown
open Go.ChangeShapes Go.WideShapes Go.ChangeAt Go.RowKit Go.WideElems Go.Maps
set_option linter.unusedVariables false

theorem own : ownKnob Tryd.prog.godebug = none := by kernel_rfl
theorem laidOut : laidOutB Tryd.prog = true := by kernel_rfl

/-- The door's own heap meets the condition. -/
theorem door_met (os : Os) (args : Array Value) : laidMetH Tryd.prog Rows.fnExtensionAndAuthzStringsAgreeExactlyWhereBothUnknownRow.laid ((World.doorLaid Tryd.prog 114 os).forCall (fun _ _ => 0) ⟨#[], args, []⟩).memory :=
  laidMetH_of_parts3 (fuel := 8) (laidMet_of_run' 8 (by kernel_rfl) (by kernel_rfl)) (by kernel_rfl) (by kernel_rfl)

/-- What the condition gives the walk. -/
theorem of_laid {W : World} (h : laidMetH Tryd.prog Rows.fnExtensionAndAuthzStringsAgreeExactlyWhereBothUnknownRow.laid W) : (∀ wr, Below W.heap.size W wr → ExtOk wr) ∧ (∀ wr, Below W.heap.size W wr → AuthOk wr) := by
  rw [MakeChecks.laidMetH_plain _ _ _ (by kernel_rfl)] at h
  obtain ⟨ps, ⟨g0, t0, cs0, f0, p0, q0, hg0, ht0, hv0, hd0, ⟨g1, t1, cs1, f1, p1, q1, hg1, ht1, hv1, hd1, ⟨g2, t2, cs2, f2, p2, q2, hg2, ht2, hv2, hd2, ⟨g3, t3, cs3, f3, p3, q3, hg3, ht3, hv3, hd3, ⟨g4, t4, cs4, f4, p4, q4, hg4, ht4, hv4, hd4, _, _⟩, _⟩, _⟩, _⟩, _⟩, _, _⟩ := h
  obtain rfl := Option.some.inj (gPow.symm.trans hg2)
  obtain rfl := Option.some.inj (tPow.symm.trans ht2)
  obtain rfl := Option.some.inj (gExt.symm.trans hg3)
  obtain rfl := Option.some.inj (tExt.symm.trans ht3)
  obtain rfl := Option.some.inj (gAuth.symm.trans hg4)
  obtain rfl := Option.some.inj (tAuth.symm.trans ht4)
  exact ⟨ext_of (pow_of hv2 hd2) hv3 hd3, auth_of (pow_of hv2 hd2) hv4 hd4⟩

theorem one_cell {H : Type} {enc : TypeId × Value → H} {W : World} {f : Nat} {cs : Array Value} {T kt : TypeId} {x : DataW H × List MemPlace} (ht : Tryd.prog.underlying T = some (.map kt 9))
    (hd : DataW.trod enc Tryd.prog W 0 (fun _ => true) true f T cs.toList = some x) : ∃ bm, cs = #[.map bm] := by
  rcases open_map ht hd with ⟨hcs, _⟩ | ⟨bm, es, clock, m, _, hcs, _, _, _, _⟩
  · exact ⟨_, Array.eq_one_of_toList hcs⟩
  · exact ⟨_, Array.eq_one_of_toList hcs⟩

set_option maxHeartbeats 800000 in
set_option maxRecDepth 100000 in
theorem lifted (os : Os) (started : os.Started) (H : Type) (enc : TypeId × Value → H) :
    ReturnsInHanded {} Tryd.checked os 5 .any (fun w args => (Rows.fnExtensionAndAuthzStringsAgreeExactlyWhereBothUnknownSpec.pre enc Tryd.prog Tryd.f5 [] false w args ∧ laidMetH Tryd.prog Rows.fnExtensionAndAuthzStringsAgreeExactlyWhereBothUnknownRow.laid w) ∧ sizedMet enc Tryd.prog Tryd.f5 (OpenSpec.ofChange Rows.fnExtensionAndAuthzStringsAgreeExactlyWhereBothUnknownSpec) false w args)
      (Rows.fnExtensionAndAuthzStringsAgreeExactlyWhereBothUnknownSpec.post enc Tryd.prog Tryd.f5 false true false false) := by
  refine returnsInHanded_of_change_and (C := Tryd.checked) (X := fun w _ => laidMetH Tryd.prog Rows.fnExtensionAndAuthzStringsAgreeExactlyWhereBothUnknownRow.laid w) (fun _ _ _ hh h => h.of_heap hh) own started (by kernel_rfl) Tryd.func5
    (ChangeSpec.witness_shaped (enc := enc) (C := Tryd.checked) (os := os) (X := fun w _ => laidMetH Tryd.prog Rows.fnExtensionAndAuthzStringsAgreeExactlyWhereBothUnknownRow.laid w) false (World.doorLaid Tryd.prog 114 os) #[.int .u8 0] 8 rfl (World.shaped_of_RefB (by kernel_rfl) (by kernel_rfl)) (by kernel_rfl) (by kernel_rfl) (by kernel_rfl) (door_met os _)) ?_
  intro W base args ds gs before hval0 hW _ _ hL _
  have hval : ∀ (j : Nat) t v, Tryd.f5.params[j]? = some t → args[j]? = some v → Value.okWide Tryd.prog W .any base t v := hval0
  have hW' := hW
  obtain ⟨p, q, hA0, hV0, rfl, hfz, hnd⟩ := hW
  have hA : DataW.TrodAll enc Tryd.prog W 0 (fun _ => true) true Tryd.f5.params.toList args.toList ds p := hA0
  have hV : DataW.TrodVars enc Tryd.prog W (fun _ => true) [extVar, authVar] gs q := hV0
  rw [Tryd.params5] at hA hval
  obtain ⟨v0, d0, rfl, rfl, h0⟩ := trodAll_one hA
  obtain ⟨g, t, cs, fuel, d, p', g', t', cs', fuel2, d', p2, rfl, hg, ht, hvar, hd, hg2, ht2, hvar2, hd2, rfl⟩ := trodVars_two hV
  obtain rfl := Option.some.inj (gExt.symm.trans hg)
  obtain rfl := Option.some.inj (tExt.symm.trans ht)
  obtain rfl := Option.some.inj (gAuth.symm.trans hg2)
  obtain rfl := Option.some.inj (tAuth.symm.trans ht2)
  obtain ⟨a, rfl, rfl, rfl, wa⟩ := open_int Tryd.underlying5 (hval 0 5 v0 rfl rfl) h0
  clear hA0 hV0 hval0 hA hV
  have ba := bounds_u8 wa
  obtain ⟨a, rfl⟩ := Int.eq_ofNat_of_zero_le ba.1
  have hltv : ∀ x ∈ p', x.block < W.heap.size := fun x hx => hW'.lt x (List.mem_append_right _ (List.mem_append_left _ (List.mem_append_right _ hx)))
  have hltv2 : ∀ x ∈ p2, x.block < W.heap.size := fun x hx => hW'.lt x (List.mem_append_right _ (List.mem_append_right _ (List.mem_append_right _ hx)))
  obtain ⟨bm, rfl⟩ := one_cell Tryd.underlying34 hd
  obtain ⟨bm2, rfl⟩ := one_cell Tryd.underlying36 hd2
  have hgl := lt_of_var gExt hvar (v := .map bm) rfl
  have hgl2 := lt_of_var gAuth hvar2 (v := .map bm2) rfl
  refine (walk5 a (by omega) W (of_laid hL).1 (of_laid hL).2).mono fun e W' ⟨he, hB⟩ => ?_
  subst he
  obtain ⟨m1, hd'⟩ := Below.trod laidOut (by kernel_rfl) (of_decide_eq_true (by kernel_rfl)) (v := .map bm) (⟨fuel, by simpa [Value.cells] using hd⟩ : DataW.Trod enc Tryd.prog W 0 (fun _ => true) true 34 (.map bm) d p') hB hltv
  obtain ⟨m2, hd2'⟩ := Below.trod laidOut (by kernel_rfl) (of_decide_eq_true (by kernel_rfl)) (v := .map bm2) (⟨fuel2, by simpa [Value.cells] using hd2⟩ : DataW.Trod enc Tryd.prog W 0 (fun _ => true) true 36 (.map bm2) d' p2) hB hltv2
  have hv2 := trodVars_mk1 (enc := enc) (spare := fun b => decide (b < W.heap.size)) hg2 ht2 (var?_below hB hg2 hgl2 hvar2) (by simpa [Value.cells] using hd2')
  have hv' : DataW.TrodVars enc Tryd.prog W' (fun b => decide (b < W.heap.size)) [extVar, authVar] [d, d'] (MemPlace.row ⟨0, 0, none⟩ (#[.map bm] : Array Value).size ++ p' ++ (MemPlace.row ⟨1, 0, none⟩ (#[.map bm2] : Array Value).size ++ p2)) :=
    ⟨0, 34, #[.map bm], m1, p', _, hg, ht, var?_below hB hg hgl hvar, by simpa [Value.cells] using hd', hv2, rfl⟩
  exact ⟨_, rfl, _, _, _, [], [], _, hW', trodAll_mk1 (shut_bool Tryd.underlying4 _), trodAll_mk1 (shut_int Tryd.underlying5 wa), hv', hB.frame _, fun h => by cases h⟩

theorem row_holds : Rows.FnExtensionAndAuthzStringsAgreeExactlyWhereBothUnknownSaid :=
  OpenClaim.holds_of_wide 5 Tryd.f5 rfl rfl rfl rfl rfl rfl rfl ⟨rfl, rfl, rfl, rfl, rfl⟩ rfl rfl rfl rfl rfl (by kernel_rfl) Tryd.func5 (by kernel_rfl)
    (of_decide_eq_true (by kernel_rfl)) (by unfold Func.isWrapper; first | (rw [if_pos (by decide +kernel)]; kernel_rfl) | (rw [if_neg (by decide +kernel)]; exact ⟨rfl, rfl⟩))
    (fun os started H enc _ => lifted os started H enc)
#print axioms row_holds
end Go.Proofs.Qxb6613161aDoor.fnExtensionAndAuthzStringsAgreeExactlyWhereBothUnknown
