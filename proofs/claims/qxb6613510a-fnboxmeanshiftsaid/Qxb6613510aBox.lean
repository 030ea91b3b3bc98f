/-
  THE WALKS OF (*box).mean (14), ZZboxMean (11).
-/
import Derived.Test.Qxb6613510aMean
import Derived.Deep.RegionWith
namespace Go.Proofs.Qxb6613510a
open Go.RowKit

set_option maxHeartbeats 1600000 in
theorem zz_any (s0 s1 s2 s3 n : Int) (w : World) (hn : 1 ≤ n) (hn2 : n ≤ 1073741824)
    (c0 : 0 ≤ s0 ∧ s0 ≤ n * 2147483647) (c1 : 0 ≤ s1 ∧ s1 ≤ n * 2147483647) (c2 : 0 ≤ s2 ∧ s2 ≤ n * 2147483647) (c3 : 0 ≤ s3 ∧ s3 ≤ n * 2147483647) :
    Calls Try.prog 11 #[.agg #[.int .i64 s0, .int .i64 s1, .int .i64 s2, .int .i64 s3], .int .i64 n] w
      fun e w' => e = .returned (.agg #[.int .i32 (mn s0 n), .int .i32 (mn s1 n), .int .i32 (mn s2 n), .int .i32 (mn s3 n)]) ∧ Below w.heap.size w w' := by
  go_enter Try.func11, Try.ntmps11
  go_wp2
  go_region_with (go_at_call 15; refine (meanOf_any _ _ _ _ _ _ hn hn2 c0 c1 c2 c3).mono ?_; rintro e w1 ⟨rfl, rfl⟩)
  all_goals go_wp2
  all_goals refine bodyPost_ret (v := .agg #[.int .i32 (mn s0 n), .int .i32 (mn s1 n), .int .i32 (mn s2 n), .int .i32 (mn s3 n)]) (by simp [results, Try.results14, go_sem]) rfl ?_
  all_goals go_wp2
  all_goals refine bodyPost_ret (v := .agg #[.int .i32 (mn s0 n), .int .i32 (mn s1 n), .int .i32 (mn s2 n), .int .i32 (mn s3 n)]) (by simp [results, Try.results11, go_sem]) rfl ?_
  all_goals refine ⟨rfl, ?_⟩
  all_goals exact ((((((((Below.refl _ _).alloc (Nat.le_refl _) _).alloc (by simp) _).alloc (by simp; omega) _).alloc (by simp; omega) _).alloc (by simp; omega) _).alloc (by simp; omega) _).alloc (by simp; omega) _).drew
end Go.Proofs.Qxb6613510a
