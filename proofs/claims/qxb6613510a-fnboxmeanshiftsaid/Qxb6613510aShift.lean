/-
  THE WALK OF FnBoxMeanShift (function 6).
-/
import Derived.Test.Qxb6613510aScale
import Derived.Deep.QuietTactic
import Derived.BigQuiet
import Derived.WalkSmall
namespace Go.Proofs.Qxb6613510a
open Go.RowKit

set_option maxHeartbeats 800000 in
theorem shift_misfit (s0 s1 s2 s3 n x0 x1 x2 x3 : Int) (w : World) (hf : fitB s0 s1 s2 s3 n = false) :
    Calls Try.prog 6 #[.agg #[.int .i64 s0, .int .i64 s1, .int .i64 s2, .int .i64 s3], .int .i64 n, .agg #[.int .i32 x0, .int .i32 x1, .int .i32 x2, .int .i32 x3]] w
      fun e w' => e = .returned (.bool true) ∧ Below w.heap.size w w' := by
  go_enter Try.func6, Try.ntmps6
  go_wp2_with fail
  refine (fit_any _ _ _ _ _ _).mono ?_
  rintro e w1 ⟨rfl, hb⟩
  rw [hf]
  go_wp2
  go_ret
  exact ⟨rfl, (((Below.refl _ _).alloc (Nat.le_refl _) _).alloc (by simp) _).trans (hb.mono (by simp; omega))⟩

theorem hide {p : Prop} (h : p) : Hid p := h
theorem cap (n s : Int) (h : n ≤ 1073741824) (h1 : s ≤ n * 2147483647) : s ≤ 2305843008139952128 := by omega

set_option maxHeartbeats 3200000 in
theorem shift_main (s0 s1 s2 s3 n x0 x1 x2 x3 : Int) (w : World) (hf : fitB s0 s1 s2 s3 n = true) (hn : 1 ≤ n) (hn2 : n ≤ 1073741824)
    (c0 : 0 ≤ s0 ∧ s0 ≤ n * 2147483647) (c1 : 0 ≤ s1 ∧ s1 ≤ n * 2147483647) (c2 : 0 ≤ s2 ∧ s2 ≤ n * 2147483647) (c3 : 0 ≤ s3 ∧ s3 ≤ n * 2147483647)
    (b0 : 0 ≤ x0 ∧ x0 ≤ 2147483647) (b1 : 0 ≤ x1 ∧ x1 ≤ 2147483647) (b2 : 0 ≤ x2 ∧ x2 ≤ 2147483647) (b3 : 0 ≤ x3 ∧ x3 ≤ 2147483647)
    (p0 : 0 ≤ n * x0) (p1 : 0 ≤ n * x1) (p2 : 0 ≤ n * x2) (p3 : 0 ≤ n * x3)
    (e0 : s0 + n * x0 ≤ n * 2147483647) (e1 : s1 + n * x1 ≤ n * 2147483647) (e2 : s2 + n * x2 ≤ n * 2147483647) (e3 : s3 + n * x3 ≤ n * 2147483647) :
    Calls Try.prog 6 #[.agg #[.int .i64 s0, .int .i64 s1, .int .i64 s2, .int .i64 s3], .int .i64 n, .agg #[.int .i32 x0, .int .i32 x1, .int .i32 x2, .int .i32 x3]] w
      fun e w' => e = .returned (.bool true) ∧ Below w.heap.size w w' := by
  have m0 : 0 ≤ mn s0 n := mn_nonneg s0 n hn c0.1
  have m1 : 0 ≤ mn s1 n := mn_nonneg s1 n hn c1.1
  have m2 : 0 ≤ mn s2 n := mn_nonneg s2 n hn c2.1
  have m3 : 0 ≤ mn s3 n := mn_nonneg s3 n hn c3.1
  have u0 : mn s0 n + x0 ≤ 2147483647 := by rw [← mn_shift s0 n x0 hn]; exact mn_le _ n hn e0
  have u1 : mn s1 n + x1 ≤ 2147483647 := by rw [← mn_shift s1 n x1 hn]; exact mn_le _ n hn e1
  have u2 : mn s2 n + x2 ≤ 2147483647 := by rw [← mn_shift s2 n x2 hn]; exact mn_le _ n hn e2
  have u3 : mn s3 n + x3 ≤ 2147483647 := by rw [← mn_shift s3 n x3 hn]; exact mn_le _ n hn e3
  have hnear := fun w => near_any (mn s0 n + x0) (mn s1 n + x1) (mn s2 n + x2) (mn s3 n + x3) (s0 + n * x0) (s1 + n * x1) (s2 + n * x2) (s3 + n * x3) n w hn hn2
    ⟨Int.add_nonneg m0 b0.1, u0⟩ ⟨Int.add_nonneg m1 b1.1, u1⟩ ⟨Int.add_nonneg m2 b2.1, u2⟩ ⟨Int.add_nonneg m3 b3.1, u3⟩
    ⟨Int.add_nonneg c0.1 p0, cap n (s0 + n * x0) hn2 e0⟩ ⟨Int.add_nonneg c1.1 p1, cap n (s1 + n * x1) hn2 e1⟩ ⟨Int.add_nonneg c2.1 p2, cap n (s2 + n * x2) hn2 e2⟩ ⟨Int.add_nonneg c3.1 p3, cap n (s3 + n * x3) hn2 e3⟩
    (by rw [← mn_shift s0 n x0 hn]; exact mn_lo _ n hn) (by rw [← mn_shift s1 n x1 hn]; exact mn_lo _ n hn) (by rw [← mn_shift s2 n x2 hn]; exact mn_lo _ n hn) (by rw [← mn_shift s3 n x3 hn]; exact mn_lo _ n hn)
    (by rw [← mn_shift s0 n x0 hn]; exact mn_hi _ n hn) (by rw [← mn_shift s1 n x1 hn]; exact mn_hi _ n hn) (by rw [← mn_shift s2 n x2 hn]; exact mn_hi _ n hn) (by rw [← mn_shift s3 n x3 hn]; exact mn_hi _ n hn)
  have HN := hide hnear
  have d0 : 0 ≤ s0 + n * x0 := Int.add_nonneg c0.1 p0
  have d1 : 0 ≤ s1 + n * x1 := Int.add_nonneg c1.1 p1
  have d2 : 0 ≤ s2 + n * x2 := Int.add_nonneg c2.1 p2
  have d3 : 0 ≤ s3 + n * x3 := Int.add_nonneg c3.1 p3
  have hms := fun w => zz_any (s0 + n * x0) (s1 + n * x1) (s2 + n * x2) (s3 + n * x3) n w hn hn2 ⟨d0, e0⟩ ⟨d1, e1⟩ ⟨d2, e2⟩ ⟨d3, e3⟩
  rw [mn_shift s0 n x0 hn, mn_shift s1 n x1 hn, mn_shift s2 n x2 hn, mn_shift s3 n x3 hn] at hms
  have HM := hide hms
  have hm := fun w => zz_any s0 s1 s2 s3 n w hn hn2 c0 c1 c2 c3
  have HZ := hide hm
  clear hnear hms hm
  go_enter Try.func6, Try.ntmps6
  go_wp2_with fail
  refine (fit_any _ _ _ _ _ _).mono ?_
  rintro e w1 ⟨rfl, hb⟩
  rw [hf]
  obtain ⟨hc, hz⟩ := bcell hb
  have hs1 : w.heap.size + 1 < w1.heap.size := by have := hb.size; simp at this; omega
  have hs : w.heap.size < w1.heap.size := by omega
  go_wp2_with fail
  refine wp_loop_rounds 5 ?_
  iterate 4 (rw [rounds_succ]; go_wp2_with fail; go_region; go_wp2_with fail)
  rw [rounds_succ]; go_wp2_with fail
  clear c0 c1 c2 c3 p0 p1 p2 p3 e0 e1 e2 e3 d0 d1 d2 d3 hf hn2
  refine (HZ.out _).mono ?_
  rintro e w2 ⟨rfl, hb2⟩
  obtain ⟨hc2, hz2⟩ := bcell hb2
  have hs2 : w1.heap.size < w2.heap.size := by have := hb2.size; simp at this; omega
  have hs02 : w.heap.size < w2.heap.size := by omega
  have hs12 : w.heap.size + 1 < w2.heap.size := by omega
  go_wp2_with fail
  refine (HM.out _).mono ?_
  rintro e w3 ⟨rfl, hb3⟩
  obtain ⟨hc3, hz3⟩ := bcell hb3
  have hs3 : w2.heap.size < w3.heap.size := by have := hb3.size; simp at this; omega
  have hs13 : w1.heap.size < w3.heap.size := by omega
  have hs03 : w.heap.size < w3.heap.size := by omega
  have hs23 : w.heap.size + 1 < w3.heap.size := by omega
  go_wp2_with fail
  refine wp_loop_rounds 5 ?_
  iterate 4 (rw [rounds_succ]; go_wp2_with fail; go_quiet (fail); go_wp2_with fail)
  rw [rounds_succ]; go_wp2_with fail
  refine (HN.out _).mono ?_
  rintro e w4 ⟨rfl, hb4⟩
  go_wp2
  go_ret
  refine ⟨rfl, ?_⟩
  have t1 : Below w.heap.size w w1 := (((Below.refl _ _).alloc (Nat.le_refl _) _).alloc (by simp) _).trans (hb.mono (by simp; omega))
  have t2 : Below w.heap.size w w2 := (t1.alloc (by omega) _).drew.drew.drew.drew.trans (hb2.mono (by simp; omega))
  have t3 : Below w.heap.size w w3 := (t2.alloc (by omega) _).trans (hb3.mono (by simp; omega))
  refine Below.trans ?_ (hb4.mono ?_)
  · exact below_drewN (t3.alloc (by omega) _) _
  · simp
    omega
end Go.Proofs.Qxb6613510a
