/-
  THE WALK OF FnBoxMeanShift (function 6).
-/
import Derived.Test.Qxb6613510aScale
import Derived.Deep.QuietTactic
import Derived.BigQuiet
namespace Go.Proofs.Qxb6613510a
open Go.RowKit

set_option maxHeartbeats 800000 in
theorem shift_misfit (s0 s1 s2 s3 n x0 x1 x2 x3 : Int) (w : World) (hf : fitB s0 s1 s2 s3 n = false) :
    Calls Try.prog 6 #[.agg #[.int .i64 s0, .int .i64 s1, .int .i64 s2, .int .i64 s3], .int .i64 n, .agg #[.int .i32 x0, .int .i32 x1, .int .i32 x2, .int .i32 x3]] w
      fun e w' => e = .returned (.bool true) ∧ Below w.heap.size w w' := by
  go_enter Try.func6, Try.ntmps6
  go_wp2_with fail
  refine (fit_any _ _ _ _ _ _).mono ?_
  rintro e w1 ⟨rfl, hb⟩
  rw [hf]
  go_wp2
  go_ret
  exact ⟨rfl, (((Below.refl _ _).alloc (Nat.le_refl _) _).alloc (by simp) _).trans (hb.mono (by simp; omega))⟩

set_option maxHeartbeats 3200000 in
theorem shift_main (s0 s1 s2 s3 n x0 x1 x2 x3 : Int) (w : World) (hf : fitB s0 s1 s2 s3 n = true) (hn : 1 ≤ n) (hn2 : n ≤ 1073741824)
    (c0 : 0 ≤ s0 ∧ s0 ≤ n * 2147483647) (c1 : 0 ≤ s1 ∧ s1 ≤ n * 2147483647) (c2 : 0 ≤ s2 ∧ s2 ≤ n * 2147483647) (c3 : 0 ≤ s3 ∧ s3 ≤ n * 2147483647)
    (b0 : 0 ≤ x0 ∧ x0 ≤ 2147483647) (b1 : 0 ≤ x1 ∧ x1 ≤ 2147483647) (b2 : 0 ≤ x2 ∧ x2 ≤ 2147483647) (b3 : 0 ≤ x3 ∧ x3 ≤ 2147483647)
    (p0 : 0 ≤ n * x0) (p1 : 0 ≤ n * x1) (p2 : 0 ≤ n * x2) (p3 : 0 ≤ n * x3)
    (e0 : s0 + n * x0 ≤ n * 2147483647) (e1 : s1 + n * x1 ≤ n * 2147483647) (e2 : s2 + n * x2 ≤ n * 2147483647) (e3 : s3 + n * x3 ≤ n * 2147483647) :
    Calls Try.prog 6 #[.agg #[.int .i64 s0, .int .i64 s1, .int .i64 s2, .int .i64 s3], .int .i64 n, .agg #[.int .i32 x0, .int .i32 x1, .int .i32 x2, .int .i32 x3]] w
      fun e w' => e = .returned (.bool true) ∧ Below w.heap.size w w' := by
  go_enter Try.func6, Try.ntmps6
  go_wp2_with fail
  refine (fit_any _ _ _ _ _ _).mono ?_
  rintro e w1 ⟨rfl, hb⟩
  rw [hf]
  obtain ⟨hc, hz⟩ := bcell hb
  have hs1 : w.heap.size + 1 < w1.heap.size := by have := hb.size; simp at this; omega
  have hs : w.heap.size < w1.heap.size := by omega
  go_wp2_with fail
  refine wp_loop_rounds 5 ?_
  iterate 4 (rw [rounds_succ]; go_wp2_with fail; go_region; go_wp2_with fail)
  rw [rounds_succ]; go_wp2_with fail
  refine (zz_any _ _ _ _ _ _ hn hn2 c0 c1 c2 c3).mono ?_
  rintro e w2 ⟨rfl, hb2⟩
  obtain ⟨hc2, hz2⟩ := bcell hb2
  have hs2 : w1.heap.size < w2.heap.size := by have := hb2.size; simp at this; omega
  have hs02 : w.heap.size < w2.heap.size := by omega
  have hs12 : w.heap.size + 1 < w2.heap.size := by omega
  go_wp2_with fail
  refine (zz_any _ _ _ _ _ _ hn hn2 ⟨by omega, e0⟩ ⟨by omega, e1⟩ ⟨by omega, e2⟩ ⟨by omega, e3⟩).mono ?_
  rintro e w3 ⟨rfl, hb3⟩
  have m0 : 0 ≤ mn s0 n := mn_nonneg s0 n hn c0.1
  have m1 : 0 ≤ mn s1 n := mn_nonneg s1 n hn c1.1
  have m2 : 0 ≤ mn s2 n := mn_nonneg s2 n hn c2.1
  have m3 : 0 ≤ mn s3 n := mn_nonneg s3 n hn c3.1
  have u0 : mn s0 n + x0 ≤ 2147483647 := by rw [← mn_shift s0 n x0 hn]; exact mn_le _ n hn e0
  have u1 : mn s1 n + x1 ≤ 2147483647 := by rw [← mn_shift s1 n x1 hn]; exact mn_le _ n hn e1
  have u2 : mn s2 n + x2 ≤ 2147483647 := by rw [← mn_shift s2 n x2 hn]; exact mn_le _ n hn e2
  have u3 : mn s3 n + x3 ≤ 2147483647 := by rw [← mn_shift s3 n x3 hn]; exact mn_le _ n hn e3
  rw [mn_shift s0 n x0 hn, mn_shift s1 n x1 hn, mn_shift s2 n x2 hn, mn_shift s3 n x3 hn]
  obtain ⟨hc3, hz3⟩ := bcell hb3
  have hs3 : w2.heap.size < w3.heap.size := by have := hb3.size; simp at this; omega
  have hs13 : w1.heap.size < w3.heap.size := by omega
  have hs03 : w.heap.size < w3.heap.size := by omega
  have hs23 : w.heap.size + 1 < w3.heap.size := by omega
  go_wp2_with fail
  refine wp_loop_rounds 5 ?_
  iterate 4 (rw [rounds_succ]; go_wp2_with fail; go_region; go_wp2_with fail)
  rw [rounds_succ]; go_wp2_with fail
  refine (near_any _ _ _ _ _ _ _ _ _ _ hn hn2 ⟨by omega, u0⟩ ⟨by omega, u1⟩ ⟨by omega, u2⟩ ⟨by omega, u3⟩
    ⟨by omega, by omega⟩ ⟨by omega, by omega⟩ ⟨by omega, by omega⟩ ⟨by omega, by omega⟩
    (by rw [← mn_shift s0 n x0 hn]; exact mn_lo _ n hn) (by rw [← mn_shift s1 n x1 hn]; exact mn_lo _ n hn) (by rw [← mn_shift s2 n x2 hn]; exact mn_lo _ n hn) (by rw [← mn_shift s3 n x3 hn]; exact mn_lo _ n hn)
    (by rw [← mn_shift s0 n x0 hn]; exact mn_hi _ n hn) (by rw [← mn_shift s1 n x1 hn]; exact mn_hi _ n hn) (by rw [← mn_shift s2 n x2 hn]; exact mn_hi _ n hn) (by rw [← mn_shift s3 n x3 hn]; exact mn_hi _ n hn)).mono ?_
  rintro e w4 ⟨rfl, hb4⟩
  go_wp2
  go_ret
  refine ⟨rfl, ?_⟩
  have t1 : Below w.heap.size w w1 := (((Below.refl _ _).alloc (Nat.le_refl _) _).alloc (by simp) _).trans (hb.mono (by simp; omega))
  have t2 : Below w.heap.size w w2 := (t1.alloc (by omega) _).drew.drew.drew.drew.trans (hb2.mono (by simp; omega))
  have t3 : Below w.heap.size w w3 := (t2.alloc (by omega) _).trans (hb3.mono (by simp; omega))
  exact (t3.alloc (by omega) _).drew.drew.drew.drew.trans (hb4.mono (by simp; omega))

end Go.Proofs.Qxb6613510a
