/-
  THE WALK OF zzNearest (function 12), at the means themselves.
-/
import Derived.Test.Qxb6613510aProg
import Derived.Test.Qxb6613510aPlain
import Derived.WalkKit
import Derived.LoopN
namespace Go.Proofs.Qxb6613510a
open Go.RowKit

set_option maxHeartbeats 1600000 in
/-- Where each x is nearest its sum, the answer is true. -/
theorem near_any (x0 x1 x2 x3 s0 s1 s2 s3 n : Int) (w : World) (hn : 1 ≤ n) (hn2 : n ≤ 1073741824)
    (b0 : 0 ≤ x0 ∧ x0 ≤ 2147483647) (b1 : 0 ≤ x1 ∧ x1 ≤ 2147483647) (b2 : 0 ≤ x2 ∧ x2 ≤ 2147483647) (b3 : 0 ≤ x3 ∧ x3 ≤ 2147483647)
    (c0 : 0 ≤ s0 ∧ s0 ≤ 2305843008139952128) (c1 : 0 ≤ s1 ∧ s1 ≤ 2305843008139952128) (c2 : 0 ≤ s2 ∧ s2 ≤ 2305843008139952128) (c3 : 0 ≤ s3 ∧ s3 ≤ 2305843008139952128)
    (l0 : 2 * n * x0 - n ≤ 2 * s0) (l1 : 2 * n * x1 - n ≤ 2 * s1) (l2 : 2 * n * x2 - n ≤ 2 * s2) (l3 : 2 * n * x3 - n ≤ 2 * s3)
    (u0 : 2 * s0 < 2 * n * x0 + n) (u1 : 2 * s1 < 2 * n * x1 + n) (u2 : 2 * s2 < 2 * n * x2 + n) (u3 : 2 * s3 < 2 * n * x3 + n) :
    Calls Try.prog 12 #[.agg #[.int .i32 x0, .int .i32 x1, .int .i32 x2, .int .i32 x3], .agg #[.int .i64 s0, .int .i64 s1, .int .i64 s2, .int .i64 s3], .int .i64 n] w
      fun e w' => e = .returned (.bool true) ∧ Below w.heap.size w w' := by
  obtain ⟨p0, q0⟩ := nx_bd n x0 hn hn2 b0.1 b0.2
  obtain ⟨p1, q1⟩ := nx_bd n x1 hn hn2 b1.1 b1.2
  obtain ⟨p2, q2⟩ := nx_bd n x2 hn hn2 b2.1 b2.2
  obtain ⟨p3, q3⟩ := nx_bd n x3 hn hn2 b3.1 b3.2
  go_enter Try.func12, Try.ntmps12
  go_wp2
  refine wp_loop_rounds 5 ?_
  iterate 5 (rw [rounds_succ]; go_wp2)
  go_ret
  exact ⟨rfl, ((Below.refl _ _).alloc (Nat.le_refl _) _).alloc (by simp) _⟩
end Go.Proofs.Qxb6613510a
