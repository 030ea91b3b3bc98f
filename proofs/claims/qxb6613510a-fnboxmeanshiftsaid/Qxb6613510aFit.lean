/-
  THE WALK OF zzMeanSumsFit (function 10).
-/
import Derived.Test.Qxb6613510aProg
import Derived.Test.Qxb6613510aPlain
import Derived.WalkKit
import Derived.LoopN
namespace Go.Proofs.Qxb6613510a
open Go.RowKit

def fitB (s0 s1 s2 s3 n : Int) : Bool :=
  decide (1 ≤ n ∧ n ≤ 1073741824 ∧ (0 ≤ s0 ∧ s0 ≤ n * 2147483647) ∧ (0 ≤ s1 ∧ s1 ≤ n * 2147483647) ∧ (0 ≤ s2 ∧ s2 ≤ n * 2147483647) ∧ (0 ≤ s3 ∧ s3 ≤ n * 2147483647))
theorem fit_yes {s0 s1 s2 s3 n : Int} (h : 1 ≤ n ∧ n ≤ 1073741824 ∧ (0 ≤ s0 ∧ s0 ≤ n * 2147483647) ∧ (0 ≤ s1 ∧ s1 ≤ n * 2147483647) ∧ (0 ≤ s2 ∧ s2 ≤ n * 2147483647) ∧ (0 ≤ s3 ∧ s3 ≤ n * 2147483647)) :
    Ending.returned (.bool true) = .returned (.bool (fitB s0 s1 s2 s3 n)) := by
  rw [show fitB s0 s1 s2 s3 n = true from decide_eq_true h]
theorem fit_no {s0 s1 s2 s3 n : Int} (h : ¬ (1 ≤ n ∧ n ≤ 1073741824 ∧ (0 ≤ s0 ∧ s0 ≤ n * 2147483647) ∧ (0 ≤ s1 ∧ s1 ≤ n * 2147483647) ∧ (0 ≤ s2 ∧ s2 ≤ n * 2147483647) ∧ (0 ≤ s3 ∧ s3 ≤ n * 2147483647))) :
    Ending.returned (.bool false) = .returned (.bool (fitB s0 s1 s2 s3 n)) := by
  rw [show fitB s0 s1 s2 s3 n = false from decide_eq_false h]

set_option maxHeartbeats 800000 in
theorem fit_any (s0 s1 s2 s3 n : Int) (w : World) :
    Calls Try.prog 10 #[.agg #[.int .i64 s0, .int .i64 s1, .int .i64 s2, .int .i64 s3], .int .i64 n] w fun e w' => e = .returned (.bool (fitB s0 s1 s2 s3 n)) ∧ Below w.heap.size w w' := by
  go_enter Try.func10, Try.ntmps10
  go_wp2
  · go_ret
    exact ⟨fit_no (by omega), (Below.refl _ _).alloc (Nat.le_refl _) _⟩
  · refine wp_loop_rounds 5 ?_
    repeat any_goals (rw [rounds_succ]; go_wp2)
    all_goals go_ret
    all_goals refine ⟨?_, (Below.refl _ _).alloc (Nat.le_refl _) _⟩
    all_goals first | (refine fit_no ?_; omega) | (refine fit_yes ?_; omega)
  · go_ret
    exact ⟨fit_no (by omega), (Below.refl _ _).alloc (Nat.le_refl _) _⟩
end Go.Proofs.Qxb6613510a
