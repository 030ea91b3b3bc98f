/-
  THE WALK OF zzItoa (function 9), at every number of 16 bits: it writes the decimal numeral.
-/
import Derived.Test.Qxb6613161aDoorProg
import Derived.Lib.ItoaMem
import Derived.WalkKit
import Derived.LoopN
namespace Go.Proofs.Qxb6613161aDoor
open Go.RowKit
set_option linter.unusedVariables false

theorem byte_dig (x : Nat) : ((UInt8.ofNat (48 + x % 10)).toNat : Int) = 48 + (x : Int) % 10 := by
  rw [UInt8.toNat_ofNat', Nat.mod_eq_of_lt (by omega)]
  omega
theorem dd_small (u : Nat) (h : u < 10) : Lib.decDigits u = [UInt8.ofNat (48 + u % 10)] := by
  rw [Lib.decDigits_one h, Nat.mod_eq_of_lt h]
theorem dd_big (u : Nat) (h : ¬ u < 10) : Lib.decDigits u = Lib.decDigits (u / 10) ++ [UInt8.ofNat (48 + u % 10)] := by
  rw [Lib.decDigits, dif_neg h]

theorem dd1 (u : Nat) (h1 : 1 ≤ u) (h2 : u < 10) : Lib.decDigits u = [UInt8.ofNat (48 + u % 10)] := by
  rw [dd_small u (by omega)]
theorem conv1 (u : Nat) (h1 : 1 ≤ u) (h2 : u < 10) (w : World) :
    (convert 38 9 (.slice (some ⟨w.heap.size, 19, none⟩) 1 1)).run Tryd.prog (w.alloc (.cells #[.int .u8 0, .int .u8 0, .int .u8 0, .int .u8 0, .int .u8 0, .int .u8 0, .int .u8 0, .int .u8 0, .int .u8 0, .int .u8 0, .int .u8 0, .int .u8 0, .int .u8 0, .int .u8 0, .int .u8 0, .int .u8 0, .int .u8 0, .int .u8 0, .int .u8 0, .int .u8 (48 + (u : Int) % 10)] 37)) = .ok (.string ⟨(Lib.decDigits u).toArray⟩) (w.alloc (.cells #[.int .u8 0, .int .u8 0, .int .u8 0, .int .u8 0, .int .u8 0, .int .u8 0, .int .u8 0, .int .u8 0, .int .u8 0, .int .u8 0, .int .u8 0, .int .u8 0, .int .u8 0, .int .u8 0, .int .u8 0, .int .u8 0, .int .u8 0, .int .u8 0, .int .u8 0, .int .u8 (48 + (u : Int) % 10)] 37)) := by
  rw [dd1 u h1 h2]
  refine run_convert_bytes_back (P := Tryd.prog) _ 38 9 5 ⟨w.heap.size, 19, none⟩ 1 [UInt8.ofNat (48 + u % 10)] Tryd.underlying38 Tryd.underlying5 Tryd.underlying9 (fun j hj => ?_)
  have hj' : j < 1 := hj
  rw [Lib.add_plain, World.cell?_alloc_new]
  obtain rfl : j = 0 := by omega
  simp only [List.getElem_cons_zero, byte_dig]; rfl
set_option maxRecDepth 100000 in
set_option maxHeartbeats 1600000 in
theorem itoa1 (u : Nat) (h1 : 1 ≤ u) (h2 : u < 10) (w : World) :
    Calls Tryd.prog 9 #[.int .u64 u] w fun e w' => e = .returned (.string ⟨(Lib.decDigits u).toArray⟩) ∧ Below w.heap.size w w' := by
  have hcv := conv1 u h1 h2 w
  have q1 : (1 : Int) ≤ u := by omega
  have q2 : (u : Int) < 10 := by omega
  go_enter Tryd.func9, Tryd.ntmps9
  go_wp2
  refine wp_loop_rounds 2 ?_
  iterate 2 (rw [rounds_succ]; go_wp2)
  go_ret
  exact ⟨rfl, (Below.refl _ _).alloc (Nat.le_refl _) _⟩
theorem dd2 (u : Nat) (h1 : 10 ≤ u) (h2 : u < 100) : Lib.decDigits u = [UInt8.ofNat (48 + u / 10 % 10), UInt8.ofNat (48 + u % 10)] := by
  rw [dd_big u (by omega), dd_small (u / 10) (by omega)]
  rfl
theorem conv2 (u : Nat) (h1 : 10 ≤ u) (h2 : u < 100) (w : World) :
    (convert 38 9 (.slice (some ⟨w.heap.size, 18, none⟩) 2 2)).run Tryd.prog (w.alloc (.cells #[.int .u8 0, .int .u8 0, .int .u8 0, .int .u8 0, .int .u8 0, .int .u8 0, .int .u8 0, .int .u8 0, .int .u8 0, .int .u8 0, .int .u8 0, .int .u8 0, .int .u8 0, .int .u8 0, .int .u8 0, .int .u8 0, .int .u8 0, .int .u8 0, .int .u8 (48 + (u : Int) / 10 % 10), .int .u8 (48 + (u : Int) % 10)] 37)) = .ok (.string ⟨(Lib.decDigits u).toArray⟩) (w.alloc (.cells #[.int .u8 0, .int .u8 0, .int .u8 0, .int .u8 0, .int .u8 0, .int .u8 0, .int .u8 0, .int .u8 0, .int .u8 0, .int .u8 0, .int .u8 0, .int .u8 0, .int .u8 0, .int .u8 0, .int .u8 0, .int .u8 0, .int .u8 0, .int .u8 0, .int .u8 (48 + (u : Int) / 10 % 10), .int .u8 (48 + (u : Int) % 10)] 37)) := by
  rw [dd2 u h1 h2]
  refine run_convert_bytes_back (P := Tryd.prog) _ 38 9 5 ⟨w.heap.size, 18, none⟩ 2 [UInt8.ofNat (48 + u / 10 % 10), UInt8.ofNat (48 + u % 10)] Tryd.underlying38 Tryd.underlying5 Tryd.underlying9 (fun j hj => ?_)
  have hj' : j < 2 := hj
  rw [Lib.add_plain, World.cell?_alloc_new]
  obtain rfl | rfl : j = 0 ∨ j = 1 := by omega
  all_goals (simp only [List.getElem_cons_succ, List.getElem_cons_zero, byte_dig]; rfl)
set_option maxRecDepth 100000 in
set_option maxHeartbeats 1600000 in
theorem itoa2 (u : Nat) (h1 : 10 ≤ u) (h2 : u < 100) (w : World) :
    Calls Tryd.prog 9 #[.int .u64 u] w fun e w' => e = .returned (.string ⟨(Lib.decDigits u).toArray⟩) ∧ Below w.heap.size w w' := by
  have hcv := conv2 u h1 h2 w
  have q1 : (10 : Int) ≤ u := by omega
  have q2 : (u : Int) < 100 := by omega
  go_enter Tryd.func9, Tryd.ntmps9
  go_wp2
  refine wp_loop_rounds 3 ?_
  iterate 3 (rw [rounds_succ]; go_wp2)
  go_ret
  exact ⟨rfl, (Below.refl _ _).alloc (Nat.le_refl _) _⟩
theorem dd3 (u : Nat) (h1 : 100 ≤ u) (h2 : u < 1000) : Lib.decDigits u = [UInt8.ofNat (48 + u / 10 / 10 % 10), UInt8.ofNat (48 + u / 10 % 10), UInt8.ofNat (48 + u % 10)] := by
  rw [dd_big u (by omega), dd_big (u / 10) (by omega), dd_small (u / 10 / 10) (by omega)]
  rfl
theorem conv3 (u : Nat) (h1 : 100 ≤ u) (h2 : u < 1000) (w : World) :
    (convert 38 9 (.slice (some ⟨w.heap.size, 17, none⟩) 3 3)).run Tryd.prog (w.alloc (.cells #[.int .u8 0, .int .u8 0, .int .u8 0, .int .u8 0, .int .u8 0, .int .u8 0, .int .u8 0, .int .u8 0, .int .u8 0, .int .u8 0, .int .u8 0, .int .u8 0, .int .u8 0, .int .u8 0, .int .u8 0, .int .u8 0, .int .u8 0, .int .u8 (48 + (u : Int) / 10 / 10 % 10), .int .u8 (48 + (u : Int) / 10 % 10), .int .u8 (48 + (u : Int) % 10)] 37)) = .ok (.string ⟨(Lib.decDigits u).toArray⟩) (w.alloc (.cells #[.int .u8 0, .int .u8 0, .int .u8 0, .int .u8 0, .int .u8 0, .int .u8 0, .int .u8 0, .int .u8 0, .int .u8 0, .int .u8 0, .int .u8 0, .int .u8 0, .int .u8 0, .int .u8 0, .int .u8 0, .int .u8 0, .int .u8 0, .int .u8 (48 + (u : Int) / 10 / 10 % 10), .int .u8 (48 + (u : Int) / 10 % 10), .int .u8 (48 + (u : Int) % 10)] 37)) := by
  rw [dd3 u h1 h2]
  refine run_convert_bytes_back (P := Tryd.prog) _ 38 9 5 ⟨w.heap.size, 17, none⟩ 3 [UInt8.ofNat (48 + u / 10 / 10 % 10), UInt8.ofNat (48 + u / 10 % 10), UInt8.ofNat (48 + u % 10)] Tryd.underlying38 Tryd.underlying5 Tryd.underlying9 (fun j hj => ?_)
  have hj' : j < 3 := hj
  rw [Lib.add_plain, World.cell?_alloc_new]
  obtain rfl | rfl | rfl : j = 0 ∨ j = 1 ∨ j = 2 := by omega
  all_goals (simp only [List.getElem_cons_succ, List.getElem_cons_zero, byte_dig]; rfl)
set_option maxRecDepth 100000 in
set_option maxHeartbeats 1600000 in
theorem itoa3 (u : Nat) (h1 : 100 ≤ u) (h2 : u < 1000) (w : World) :
    Calls Tryd.prog 9 #[.int .u64 u] w fun e w' => e = .returned (.string ⟨(Lib.decDigits u).toArray⟩) ∧ Below w.heap.size w w' := by
  have hcv := conv3 u h1 h2 w
  have q1 : (100 : Int) ≤ u := by omega
  have q2 : (u : Int) < 1000 := by omega
  go_enter Tryd.func9, Tryd.ntmps9
  go_wp2
  refine wp_loop_rounds 4 ?_
  iterate 4 (rw [rounds_succ]; go_wp2)
  go_ret
  exact ⟨rfl, (Below.refl _ _).alloc (Nat.le_refl _) _⟩
theorem dd4 (u : Nat) (h1 : 1000 ≤ u) (h2 : u < 10000) : Lib.decDigits u = [UInt8.ofNat (48 + u / 10 / 10 / 10 % 10), UInt8.ofNat (48 + u / 10 / 10 % 10), UInt8.ofNat (48 + u / 10 % 10), UInt8.ofNat (48 + u % 10)] := by
  rw [dd_big u (by omega), dd_big (u / 10) (by omega), dd_big (u / 10 / 10) (by omega), dd_small (u / 10 / 10 / 10) (by omega)]
  rfl
theorem conv4 (u : Nat) (h1 : 1000 ≤ u) (h2 : u < 10000) (w : World) :
    (convert 38 9 (.slice (some ⟨w.heap.size, 16, none⟩) 4 4)).run Tryd.prog (w.alloc (.cells #[.int .u8 0, .int .u8 0, .int .u8 0, .int .u8 0, .int .u8 0, .int .u8 0, .int .u8 0, .int .u8 0, .int .u8 0, .int .u8 0, .int .u8 0, .int .u8 0, .int .u8 0, .int .u8 0, .int .u8 0, .int .u8 0, .int .u8 (48 + (u : Int) / 10 / 10 / 10 % 10), .int .u8 (48 + (u : Int) / 10 / 10 % 10), .int .u8 (48 + (u : Int) / 10 % 10), .int .u8 (48 + (u : Int) % 10)] 37)) = .ok (.string ⟨(Lib.decDigits u).toArray⟩) (w.alloc (.cells #[.int .u8 0, .int .u8 0, .int .u8 0, .int .u8 0, .int .u8 0, .int .u8 0, .int .u8 0, .int .u8 0, .int .u8 0, .int .u8 0, .int .u8 0, .int .u8 0, .int .u8 0, .int .u8 0, .int .u8 0, .int .u8 0, .int .u8 (48 + (u : Int) / 10 / 10 / 10 % 10), .int .u8 (48 + (u : Int) / 10 / 10 % 10), .int .u8 (48 + (u : Int) / 10 % 10), .int .u8 (48 + (u : Int) % 10)] 37)) := by
  rw [dd4 u h1 h2]
  refine run_convert_bytes_back (P := Tryd.prog) _ 38 9 5 ⟨w.heap.size, 16, none⟩ 4 [UInt8.ofNat (48 + u / 10 / 10 / 10 % 10), UInt8.ofNat (48 + u / 10 / 10 % 10), UInt8.ofNat (48 + u / 10 % 10), UInt8.ofNat (48 + u % 10)] Tryd.underlying38 Tryd.underlying5 Tryd.underlying9 (fun j hj => ?_)
  have hj' : j < 4 := hj
  rw [Lib.add_plain, World.cell?_alloc_new]
  obtain rfl | rfl | rfl | rfl : j = 0 ∨ j = 1 ∨ j = 2 ∨ j = 3 := by omega
  all_goals (simp only [List.getElem_cons_succ, List.getElem_cons_zero, byte_dig]; rfl)
set_option maxRecDepth 100000 in
set_option maxHeartbeats 1600000 in
theorem itoa4 (u : Nat) (h1 : 1000 ≤ u) (h2 : u < 10000) (w : World) :
    Calls Tryd.prog 9 #[.int .u64 u] w fun e w' => e = .returned (.string ⟨(Lib.decDigits u).toArray⟩) ∧ Below w.heap.size w w' := by
  have hcv := conv4 u h1 h2 w
  have q1 : (1000 : Int) ≤ u := by omega
  have q2 : (u : Int) < 10000 := by omega
  go_enter Tryd.func9, Tryd.ntmps9
  go_wp2
  refine wp_loop_rounds 5 ?_
  iterate 5 (rw [rounds_succ]; go_wp2)
  go_ret
  exact ⟨rfl, (Below.refl _ _).alloc (Nat.le_refl _) _⟩
theorem dd5 (u : Nat) (h1 : 10000 ≤ u) (h2 : u < 65536) : Lib.decDigits u = [UInt8.ofNat (48 + u / 10 / 10 / 10 / 10 % 10), UInt8.ofNat (48 + u / 10 / 10 / 10 % 10), UInt8.ofNat (48 + u / 10 / 10 % 10), UInt8.ofNat (48 + u / 10 % 10), UInt8.ofNat (48 + u % 10)] := by
  rw [dd_big u (by omega), dd_big (u / 10) (by omega), dd_big (u / 10 / 10) (by omega), dd_big (u / 10 / 10 / 10) (by omega), dd_small (u / 10 / 10 / 10 / 10) (by omega)]
  rfl
theorem conv5 (u : Nat) (h1 : 10000 ≤ u) (h2 : u < 65536) (w : World) :
    (convert 38 9 (.slice (some ⟨w.heap.size, 15, none⟩) 5 5)).run Tryd.prog (w.alloc (.cells #[.int .u8 0, .int .u8 0, .int .u8 0, .int .u8 0, .int .u8 0, .int .u8 0, .int .u8 0, .int .u8 0, .int .u8 0, .int .u8 0, .int .u8 0, .int .u8 0, .int .u8 0, .int .u8 0, .int .u8 0, .int .u8 (48 + (u : Int) / 10 / 10 / 10 / 10 % 10), .int .u8 (48 + (u : Int) / 10 / 10 / 10 % 10), .int .u8 (48 + (u : Int) / 10 / 10 % 10), .int .u8 (48 + (u : Int) / 10 % 10), .int .u8 (48 + (u : Int) % 10)] 37)) = .ok (.string ⟨(Lib.decDigits u).toArray⟩) (w.alloc (.cells #[.int .u8 0, .int .u8 0, .int .u8 0, .int .u8 0, .int .u8 0, .int .u8 0, .int .u8 0, .int .u8 0, .int .u8 0, .int .u8 0, .int .u8 0, .int .u8 0, .int .u8 0, .int .u8 0, .int .u8 0, .int .u8 (48 + (u : Int) / 10 / 10 / 10 / 10 % 10), .int .u8 (48 + (u : Int) / 10 / 10 / 10 % 10), .int .u8 (48 + (u : Int) / 10 / 10 % 10), .int .u8 (48 + (u : Int) / 10 % 10), .int .u8 (48 + (u : Int) % 10)] 37)) := by
  rw [dd5 u h1 h2]
  refine run_convert_bytes_back (P := Tryd.prog) _ 38 9 5 ⟨w.heap.size, 15, none⟩ 5 [UInt8.ofNat (48 + u / 10 / 10 / 10 / 10 % 10), UInt8.ofNat (48 + u / 10 / 10 / 10 % 10), UInt8.ofNat (48 + u / 10 / 10 % 10), UInt8.ofNat (48 + u / 10 % 10), UInt8.ofNat (48 + u % 10)] Tryd.underlying38 Tryd.underlying5 Tryd.underlying9 (fun j hj => ?_)
  have hj' : j < 5 := hj
  rw [Lib.add_plain, World.cell?_alloc_new]
  obtain rfl | rfl | rfl | rfl | rfl : j = 0 ∨ j = 1 ∨ j = 2 ∨ j = 3 ∨ j = 4 := by omega
  all_goals (simp only [List.getElem_cons_succ, List.getElem_cons_zero, byte_dig]; rfl)
set_option maxRecDepth 100000 in
set_option maxHeartbeats 1600000 in
theorem itoa5 (u : Nat) (h1 : 10000 ≤ u) (h2 : u < 65536) (w : World) :
    Calls Tryd.prog 9 #[.int .u64 u] w fun e w' => e = .returned (.string ⟨(Lib.decDigits u).toArray⟩) ∧ Below w.heap.size w w' := by
  have hcv := conv5 u h1 h2 w
  have q1 : 1 ≤ (u : Int) / 10 / 10 / 10 / 10 := by omega
  have q2 : (u : Int) / 10 / 10 / 10 / 10 < 10 := by omega
  clear h1 h2
  go_enter Tryd.func9, Tryd.ntmps9
  go_wp2
  refine wp_loop_rounds 6 ?_
  iterate 6 (rw [rounds_succ]; go_wp2)
  go_ret
  exact ⟨rfl, (Below.refl _ _).alloc (Nat.le_refl _) _⟩

set_option maxRecDepth 100000 in
theorem itoa0 (w : World) :
    Calls Tryd.prog 9 #[.int .u64 0] w fun e w' => e = .returned (.string ⟨(Lib.decDigits 0).toArray⟩) ∧ Below w.heap.size w w' := by
  go_enter Tryd.func9, Tryd.ntmps9
  go_wp2
  go_ret
  refine ⟨?_, Below.refl _ _⟩
  rw [dd_small 0 (by omega)]
  rfl

/-- zzItoa writes the decimal numeral. -/
theorem itoa_any (u : Nat) (h : u < 65536) (w : World) :
    Calls Tryd.prog 9 #[.int .u64 u] w fun e w' => e = .returned (.string ⟨(Lib.decDigits u).toArray⟩) ∧ Below w.heap.size w w' := by
  by_cases h0 : u = 0
  · subst h0
    exact itoa0 w
  by_cases h1 : u < 10
  · exact itoa1 u (by omega) h1 w
  by_cases h2 : u < 100
  · exact itoa2 u (by omega) h2 w
  by_cases h3 : u < 1000
  · exact itoa3 u (by omega) h3 w
  by_cases h4 : u < 10000
  · exact itoa4 u (by omega) h4 w
  exact itoa5 u (by omega) h w
end Go.Proofs.Qxb6613161aDoor
