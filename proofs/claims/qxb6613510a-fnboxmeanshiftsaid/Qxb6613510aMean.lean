/-
  THE WALKS OF meanOf (function 15), (*box).mean (14), ZZboxMean (11).
-/
import Derived.Test.Qxb6613510aProg
import Derived.Test.Qxb6613510aPlain
import Derived.WalkKit
import Derived.LoopN
namespace Go.Proofs.Qxb6613510a
open Go.RowKit

theorem mn_bd (s n : Int) (h : 1 ≤ n) (h0 : 0 ≤ s) (h1 : s ≤ n * 2147483647) : 0 ≤ (2 * s + n) / (2 * n) ∧ (2 * s + n) / (2 * n) ≤ 2147483647 := ⟨mn_nonneg s n h h0, mn_le s n h h1⟩

set_option maxHeartbeats 1600000 in
theorem meanOf_any (s0 s1 s2 s3 n : Int) (w : World) (hn : 1 ≤ n) (hn2 : n ≤ 1073741824)
    (c0 : 0 ≤ s0 ∧ s0 ≤ n * 2147483647) (c1 : 0 ≤ s1 ∧ s1 ≤ n * 2147483647) (c2 : 0 ≤ s2 ∧ s2 ≤ n * 2147483647) (c3 : 0 ≤ s3 ∧ s3 ≤ n * 2147483647) :
    Calls Try.prog 15 #[.agg #[.int .i64 s0, .int .i64 s1, .int .i64 s2, .int .i64 s3], .int .i64 n] w
      fun e w' => e = .returned (.agg #[.int .i32 (mn s0 n), .int .i32 (mn s1 n), .int .i32 (mn s2 n), .int .i32 (mn s3 n)]) ∧
        w' = ((w.alloc (.cells #[.int .i64 s0, .int .i64 s1, .int .i64 s2, .int .i64 s3] 25)).alloc (.cells #[.int .i32 (mn s0 n), .int .i32 (mn s1 n), .int .i32 (mn s2 n), .int .i32 (mn s3 n)] 37)).alloc (.cells #[.int .i32 (mn s0 n), .int .i32 (mn s1 n), .int .i32 (mn s2 n), .int .i32 (mn s3 n)] 37) := by
  have i0 : ∀ w : World, (Instr.index 25 (.agg #[.int .i64 s0, .int .i64 s1, .int .i64 s2, .int .i64 s3]) (.int .i64 0)).run Try.prog w = .ok (.int .i64 s0) w := fun _ => by kernel_rfl
  have i1 : ∀ w : World, (Instr.index 25 (.agg #[.int .i64 s0, .int .i64 s1, .int .i64 s2, .int .i64 s3]) (.int .i64 1)).run Try.prog w = .ok (.int .i64 s1) w := fun _ => by kernel_rfl
  have i2 : ∀ w : World, (Instr.index 25 (.agg #[.int .i64 s0, .int .i64 s1, .int .i64 s2, .int .i64 s3]) (.int .i64 2)).run Try.prog w = .ok (.int .i64 s2) w := fun _ => by kernel_rfl
  have i3 : ∀ w : World, (Instr.index 25 (.agg #[.int .i64 s0, .int .i64 s1, .int .i64 s2, .int .i64 s3]) (.int .i64 3)).run Try.prog w = .ok (.int .i64 s3) w := fun _ => by kernel_rfl
  have d0 := mn_bd s0 n hn c0.1 c0.2
  have d1 := mn_bd s1 n hn c1.1 c1.2
  have d2 := mn_bd s2 n hn c2.1 c2.2
  have d3 := mn_bd s3 n hn c3.1 c3.2
  unfold mn
  go_enter Try.func15, Try.ntmps15
  go_wp2
  refine wp_loop_rounds 5 ?_
  iterate 5 (rw [rounds_succ]; go_wp2)
  exact bodyPost_ret (v := .agg #[.int .i32 ((2 * s0 + n) / (2 * n)), .int .i32 ((2 * s1 + n) / (2 * n)), .int .i32 ((2 * s2 + n) / (2 * n)), .int .i32 ((2 * s3 + n) / (2 * n))]) (by simp [results, Try.results15, go_sem]) rfl
    ⟨rfl, rfl⟩
end Go.Proofs.Qxb6613510a
