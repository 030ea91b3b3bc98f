/-
  THE WALKS OF zzHasUnknown (function 10), zzNameShape (function 7).
-/
import Derived.Test.Qxb6613161aDoorItoa
import Derived.Test.Qxb6613161aDoorTabs
import Derived.WalkSpells
import Derived.Lib.Strings
import Derived.Lib.IndexBytes
import Derived.Deep.RegionWith
namespace Go.Proofs.Qxb6613161aDoor
open Go.RowKit


theorem ret_bool {a b : Bool} (h : a = b) : Ending.returned (.bool a) = .returned (.bool b) := by rw [h]

theorem unk_any (s : ByteArray) (w : World) (hs : s.size ≤ maxLen) :
    Calls Tryd.prog 10 #[.string s] w fun e w' => e = .returned (.bool (hasUnk s.data.toList)) ∧ w' = w := by
  unfold maxLen at hs
  have hl := Lib.size_eq s
  by_cases h : 8 ≤ s.size
  · have hg : hasUnk s.data.toList = ((s.extract 0 8).toList == [117, 110, 107, 110, 111, 119, 110, 95]) := by
      rw [hl] at h
      rw [hasUnk, decide_eq_true h, Bool.true_and, Lib.extract_toList, List.drop_zero]
      rfl
    have HG : Hid (hasUnk s.data.toList = ((s.extract 0 8).toList == [117, 110, 107, 110, 111, 119, 110, 95])) := hg
    clear hg hl
    go_enter Tryd.func10, Tryd.ntmps10
    go_wp2
    go_ret
    exact ⟨ret_bool HG.out.symm, rfl⟩
  · have hg : hasUnk s.data.toList = false := by
      rw [hl] at h
      rw [hasUnk, decide_eq_false h, Bool.false_and]
    have HG : Hid (hasUnk s.data.toList = false) := hg
    clear hg hl
    go_enter Tryd.func10, Tryd.ntmps10
    go_wp2
    go_ret
    exact ⟨ret_bool HG.out.symm, rfl⟩

theorem ok_cases {c : UInt8} (h : okB c = true) : (97 ≤ (c.toNat : Int) ∧ (c.toNat : Int) ≤ 122) ∨ (48 ≤ (c.toNat : Int) ∧ (c.toNat : Int) ≤ 57) ∨ (95 ≤ (c.toNat : Int) ∧ (c.toNat : Int) ≤ 95) := by
  simp [okB] at h
  omega

set_option maxHeartbeats 1600000 in
/-- A word that does not open with 'unknown_'. -/
theorem shape_word (s : ByteArray) (v : Int) (w : World) (hs : s.size ≤ maxLen) (hu : hasUnk s.data.toList = false) (h0 : 0 < s.size) (hall : ∀ (k : Nat) (h : k < s.size), okB s[k] = true) :
    Calls Tryd.prog 7 #[.string s, .int .u64 v] w fun e w' => e = .returned (.bool true) ∧ w' = w := by
  have hc := unk_any s w hs
  rw [hu] at hc
  unfold maxLen at hs
  have HA : Hid (∀ (k : Nat) (h : k < s.size), okB s[k] = true) := hall
  have hz : ((s.size : Int) == 0) = false := beq_eq_false_iff_ne.2 (by omega)
  clear hall hu
  go_enter Tryd.func7, Tryd.ntmps7
  go_wp2_with fail
  refine hc.mono ?_
  rintro e w' ⟨rfl, rfl⟩
  clear hc
  go_wp2
  go_loop [5] (fun i => ∃ k : Nat, k ≤ s.size ∧ i = .int .i64 k) (fun i => s.size - (intOf i).toNat)
  case atStart => exact ⟨0, Nat.zero_le _, rfl⟩
  case round =>
    obtain ⟨k, hk, rfl⟩ := hrel
    by_cases hlt : k < s.size
    · have hok := ok_cases (HA.out k hlt)
      rcases hok with ⟨p1, p2⟩ | ⟨p1, p2⟩ | ⟨p1, p2⟩
      · go_wp2
        go_round
        case rel => exact ⟨k + 1, by omega, by go_num⟩
        case measure => simp [intOf]; omega
      · go_wp2
        go_round
        case rel => exact ⟨k + 1, by omega, by go_num⟩
        case measure => simp [intOf]; omega
      · have f1 : decide (97 ≤ (s[k].toNat : Int)) = false := decide_eq_false (by omega)
        have f2 : decide (48 ≤ (s[k].toNat : Int)) = true := decide_eq_true (by omega)
        have f3 : decide ((s[k].toNat : Int) ≤ 57) = false := decide_eq_false (by omega)
        have f4 : ((s[k].toNat : Int) == 95) = true := beq_iff_eq.2 (by omega)
        clear p1 p2
        go_wp2
        go_round
        case rel => exact ⟨k + 1, by omega, by go_num⟩
        case measure => simp [intOf]; omega
    · go_wp2
      go_ret
      exact ⟨rfl, rfl⟩

set_option maxHeartbeats 1600000 in
/-- 'unknown_' and the numeral. -/
theorem shape_unk (u : Nat) (hu : u < 65536) (w : World) :
    Calls Tryd.prog 7 #[.string ⟨(unk ++ Lib.decDigits u).toArray⟩, .int .u64 u] w fun e w' => e = .returned (.bool true) ∧ Below w.heap.size w w' := by
  have hlen : (Lib.decDigits u).length ≤ 20 := by
    rw [Lib.decDigits_length]
    by_cases h1 : 1 ≤ u
    · have := Lib.numDigits_eq u h1 (by omega)
      split at this <;> omega
    · rw [Lib.nDigits_small (by omega)]; omega
  have hsz : (⟨(unk ++ Lib.decDigits u).toArray⟩ : ByteArray).size = 8 + (Lib.decDigits u).length := by simp [ByteArray.size, unk]; omega
  have hc := unk_any ⟨(unk ++ Lib.decDigits u).toArray⟩ w (by rw [hsz]; unfold maxLen; omega)
  have he : ((⟨(unk ++ Lib.decDigits u).toArray⟩ : ByteArray).extract 8 (⟨(unk ++ Lib.decDigits u).toArray⟩ : ByteArray).size).toList = Lib.decDigits u := by
    rw [Lib.toList_data, Lib.extract_to_end]
    simp [unk]
  rw [show hasUnk (⟨(unk ++ Lib.decDigits u).toArray⟩ : ByteArray).data.toList = true from hasUnk_unk _] at hc
  have hi := fun w => itoa_any u hu w
  clear hu
  generalize hs : (⟨(unk ++ Lib.decDigits u).toArray⟩ : ByteArray) = s at *
  generalize Lib.decDigits u = d at *
  clear hs
  have h8 : 8 ≤ s.size := by omega
  have h28 : s.size ≤ 28 := by omega
  clear hsz
  have HI := Lib.hid hi
  clear hi
  go_enter Tryd.func7, Tryd.ntmps7
  go_wp2_with fail
  refine hc.mono ?_
  rintro e w' ⟨rfl, rfl⟩
  clear hc
  go_wp2_with fail
  go_region_with (go_at_call 9; refine (HI.out _).mono ?_; rintro e w1 ⟨rfl, hb⟩)
  all_goals go_wp2
  all_goals go_ret
  all_goals exact ⟨rfl, (Below.refl _ _).drew.trans hb⟩
end Go.Proofs.Qxb6613161aDoor
