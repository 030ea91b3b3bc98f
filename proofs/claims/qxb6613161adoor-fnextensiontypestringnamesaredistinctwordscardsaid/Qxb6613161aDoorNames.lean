/-
  THE WALKS OF nameOf (functions 11, 12) AND OF THE TWO String METHODS (6, 8).
-/
import Derived.Test.Qxb6613161aDoorFmt
import Derived.Test.Qxb6613161aDoorUnk
namespace Go.Proofs.Qxb6613161aDoor
open Go.RowKit

theorem dec_len (u : Nat) (hu : u < 65536) : (Lib.decDigits u).length ≤ 20 := by
  rw [Lib.decDigits_length]
  by_cases h1 : 1 ≤ u
  · have := Lib.numDigits_eq u h1 (by omega)
    split at this <;> omega
  · rw [Lib.nDigits_small (by omega)]; omega

theorem cat_unk (d : List UInt8) : (⟨#[117, 110, 107, 110, 111, 119, 110, 95]⟩ : ByteArray) ++ ⟨d.toArray⟩ = ⟨(unk ++ d).toArray⟩ := by
  apply ByteArray.ext
  simp [ByteArray.data_append, unk]
theorem ret_string {a b : ByteArray} (h : a = b) : Ending.returned (.string a) = .returned (.string b) := by rw [h]

theorem ext_known (bm v : Nat) (s : ByteArray) (w : World) (hc : w.cell? ⟨0, 0, none⟩ = some (.map (some bm)))
    (hrun : (Instr.lookup 34 (.map (some bm)) (.int .u16 v) true).run Tryd.prog w = .ok (.tuple #[.string s, .bool true]) w) :
    Calls Tryd.prog 6 #[.int .u16 v] w fun e w' => e = .returned (.string s) ∧ w' = w := by
  go_enter Tryd.func6, Tryd.ntmps6
  go_wp2
  go_ret
  exact ⟨rfl, rfl⟩

theorem ext_unknown (bm v : Nat) (hv : v < 65536) (w : World) (hc : w.cell? ⟨0, 0, none⟩ = some (.map (some bm)))
    (hrun : (Instr.lookup 34 (.map (some bm)) (.int .u16 v) true).run Tryd.prog w = .ok (.tuple #[.string ⟨#[]⟩, .bool false]) w)
    (htab : Lib.TabIs Tryd.prog w powVar .u64 Lib.pow10Tab) :
    Calls Tryd.prog 6 #[.int .u16 v] w fun e w' => e = .returned (.string ⟨(unk ++ Lib.decDigits v).toArray⟩) ∧ Below w.heap.size w w' := by
  have hl := dec_len v hv
  have hf := fun w => fmt13 v (by omega) w
  have HF := Lib.hid hf
  have HT := Lib.hid htab
  clear hf htab
  generalize Lib.decDigits v = d at *
  go_enter Tryd.func6, Tryd.ntmps6
  go_wp2_with (go_at_call 11; go_in)
  refine (HF.out _ HT.out).mono ?_
  rintro e w1 ⟨rfl, hb⟩
  go_wp2
  go_ret
  exact ⟨ret_string (cat_unk d), hb⟩
theorem auth_known (bm v : Nat) (s : ByteArray) (w : World) (hc : w.cell? ⟨1, 0, none⟩ = some (.map (some bm)))
    (hrun : (Instr.lookup 36 (.map (some bm)) (.int .u8 v) true).run Tryd.prog w = .ok (.tuple #[.string s, .bool true]) w) :
    Calls Tryd.prog 8 #[.int .u8 v] w fun e w' => e = .returned (.string s) ∧ w' = w := by
  go_enter Tryd.func8, Tryd.ntmps8
  go_wp2
  go_ret
  exact ⟨rfl, rfl⟩

theorem auth_unknown (bm v : Nat) (hv : v < 256) (w : World) (hc : w.cell? ⟨1, 0, none⟩ = some (.map (some bm)))
    (hrun : (Instr.lookup 36 (.map (some bm)) (.int .u8 v) true).run Tryd.prog w = .ok (.tuple #[.string ⟨#[]⟩, .bool false]) w)
    (htab : Lib.TabIs Tryd.prog w powVar .u64 Lib.pow10Tab) :
    Calls Tryd.prog 8 #[.int .u8 v] w fun e w' => e = .returned (.string ⟨(unk ++ Lib.decDigits v).toArray⟩) ∧ Below w.heap.size w w' := by
  have hl := dec_len v (by omega)
  have hf := fun w => fmt13 v (by omega) w
  have HF := Lib.hid hf
  have HT := Lib.hid htab
  clear hf htab
  generalize Lib.decDigits v = d at *
  go_enter Tryd.func8, Tryd.ntmps8
  go_wp2_with (go_at_call 12; go_in)
  refine (HF.out _ HT.out).mono ?_
  rintro e w1 ⟨rfl, hb⟩
  go_wp2
  go_ret
  exact ⟨ret_string (cat_unk d), hb⟩
end Go.Proofs.Qxb6613161aDoor
