/-
  THE WALK OF FnBoxMeanShift (function 6), where it returns out of its first loop.
-/
import Derived.Test.Qxb6613510aScale
import Derived.Deep.QuietTactic
import Derived.BigQuiet
namespace Go.Proofs.Qxb6613510a
open Go.RowKit

set_option maxHeartbeats 3200000 in
/-- A colour that is below zero, or a sum that does not fit: true at once. -/
theorem shift_early (s0 s1 s2 s3 n x0 x1 x2 x3 : Int) (w : World) (hf : fitB s0 s1 s2 s3 n = true) (hn : 1 ≤ n) (hn2 : n ≤ 1073741824)
    (c0 : 0 ≤ s0 ∧ s0 ≤ n * 2147483647) (c1 : 0 ≤ s1 ∧ s1 ≤ n * 2147483647) (c2 : 0 ≤ s2 ∧ s2 ≤ n * 2147483647) (c3 : 0 ≤ s3 ∧ s3 ≤ n * 2147483647)
    (p0 : -2305843009213693952 ≤ n * x0 ∧ n * x0 ≤ 2305843009213693952) (p1 : -2305843009213693952 ≤ n * x1 ∧ n * x1 ≤ 2305843009213693952)
    (p2 : -2305843009213693952 ≤ n * x2 ∧ n * x2 ≤ 2305843009213693952) (p3 : -2305843009213693952 ≤ n * x3 ∧ n * x3 ≤ 2305843009213693952)
    (q0 : -2147483648 ≤ x0 ∧ x0 ≤ 2147483647) (q1 : -2147483648 ≤ x1 ∧ x1 ≤ 2147483647) (q2 : -2147483648 ≤ x2 ∧ x2 ≤ 2147483647) (q3 : -2147483648 ≤ x3 ∧ x3 ≤ 2147483647)
    (hbad : ¬ ((0 ≤ x0 ∧ s0 + n * x0 ≤ n * 2147483647) ∧ (0 ≤ x1 ∧ s1 + n * x1 ≤ n * 2147483647) ∧ (0 ≤ x2 ∧ s2 + n * x2 ≤ n * 2147483647) ∧ (0 ≤ x3 ∧ s3 + n * x3 ≤ n * 2147483647))) :
    Calls Try.prog 6 #[.agg #[.int .i64 s0, .int .i64 s1, .int .i64 s2, .int .i64 s3], .int .i64 n, .agg #[.int .i32 x0, .int .i32 x1, .int .i32 x2, .int .i32 x3]] w
      fun e w' => e = .returned (.bool true) ∧ Below w.heap.size w w' := by
  go_enter Try.func6, Try.ntmps6
  go_wp2_with fail
  refine (fit_any _ _ _ _ _ _).mono ?_
  rintro e w1 ⟨rfl, hb⟩
  rw [hf]
  obtain ⟨hc, hz⟩ := bcell hb
  have hs1 : w.heap.size + 1 < w1.heap.size := by have := hb.size; simp at this; omega
  have hs : w.heap.size < w1.heap.size := by omega
  have t1 : Below w.heap.size w w1 := (((Below.refl _ _).alloc (Nat.le_refl _) _).alloc (by simp) _).trans (hb.mono (by simp; omega))
  have HB : Hid (¬ ((0 ≤ x0 ∧ s0 + n * x0 ≤ n * 2147483647) ∧ (0 ≤ x1 ∧ s1 + n * x1 ≤ n * 2147483647) ∧ (0 ≤ x2 ∧ s2 + n * x2 ≤ n * 2147483647) ∧ (0 ≤ x3 ∧ s3 + n * x3 ≤ n * 2147483647))) := hbad
  clear hbad
  go_wp2_with fail
  refine wp_loop_rounds 5 ?_
  rw [rounds_succ]; go_wp2_with fail
  · go_ret
    exact ⟨rfl, t1.alloc (by omega) _⟩
  go_region
  go_wp2_with fail
  · go_ret
    exact ⟨rfl, (t1.alloc (by omega) _).drew⟩
  rw [rounds_succ]; go_wp2_with fail
  · go_ret
    exact ⟨rfl, (t1.alloc (by omega) _).drew⟩
  go_region
  go_wp2_with fail
  · go_ret
    exact ⟨rfl, (t1.alloc (by omega) _).drew.drew⟩
  rw [rounds_succ]; go_wp2_with fail
  · go_ret
    exact ⟨rfl, (t1.alloc (by omega) _).drew.drew⟩
  go_region
  go_wp2_with fail
  · go_ret
    exact ⟨rfl, (t1.alloc (by omega) _).drew.drew.drew⟩
  rw [rounds_succ]; go_wp2_with fail
  · go_ret
    exact ⟨rfl, (t1.alloc (by omega) _).drew.drew.drew⟩
  go_region
  go_wp2_with fail
  · go_ret
    exact ⟨rfl, (t1.alloc (by omega) _).drew.drew.drew.drew⟩
  exact absurd HB.out (by omega)
end Go.Proofs.Qxb6613510a
