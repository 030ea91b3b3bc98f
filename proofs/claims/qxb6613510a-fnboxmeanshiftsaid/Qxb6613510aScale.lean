/-
  THE WALK OF FnBoxMeanScaleFree (function 5).
-/
import Derived.Test.Qxb6613510aFit
import Derived.Test.Qxb6613510aNear
import Derived.Test.Qxb6613510aBox
import Derived.Test.Qxb6613510aEq
namespace Go.Proofs.Qxb6613510a
open Go.RowKit

theorem bcell {W w1 : World} (hb : Below W.heap.size W w1) : (∀ b o, b < W.heap.size → w1.cell? ⟨b, o, none⟩ = W.cell? ⟨b, o, none⟩) ∧ (∀ b o, b < W.heap.size → w1.frozen? ⟨b, o, none⟩ = W.frozen? ⟨b, o, none⟩) :=
  ⟨fun b o h => hb.cell (p := ⟨b, o, none⟩) h, fun b o h => hb.frozen (p := ⟨b, o, none⟩) h⟩

set_option maxHeartbeats 800000 in
theorem scale_misfit (s0 s1 s2 s3 n k : Int) (w : World) (hf : fitB s0 s1 s2 s3 n = false) :
    Calls Try.prog 5 #[.agg #[.int .i64 s0, .int .i64 s1, .int .i64 s2, .int .i64 s3], .int .i64 n, .int .i64 k] w
      fun e w' => e = .returned (.bool true) ∧ Below w.heap.size w w' := by
  go_enter Try.func5, Try.ntmps5
  go_wp2_with fail
  refine (fit_any _ _ _ _ _ _).mono ?_
  rintro e w1 ⟨rfl, hb⟩
  rw [hf]
  go_wp2
  go_ret
  exact ⟨rfl, ((Below.refl _ _).alloc (Nat.le_refl _) _).trans (hb.mono (by simp))⟩

set_option maxHeartbeats 800000 in
theorem scale_k (s0 s1 s2 s3 n k : Int) (w : World) (hf : fitB s0 s1 s2 s3 n = true) (hn : 1 ≤ n) (hk : k < 1 ∨ 1073741824 / n < k) :
    Calls Try.prog 5 #[.agg #[.int .i64 s0, .int .i64 s1, .int .i64 s2, .int .i64 s3], .int .i64 n, .int .i64 k] w
      fun e w' => e = .returned (.bool true) ∧ Below w.heap.size w w' := by
  go_enter Try.func5, Try.ntmps5
  go_wp2_with fail
  refine (fit_any _ _ _ _ _ _).mono ?_
  rintro e w1 ⟨rfl, hb⟩
  rw [hf]
  go_wp2
  all_goals go_ret
  all_goals exact ⟨rfl, ((Below.refl _ _).alloc (Nat.le_refl _) _).trans (hb.mono (by simp))⟩

set_option maxHeartbeats 3200000 in
theorem scale_main (s0 s1 s2 s3 n k : Int) (w : World) (hf : fitB s0 s1 s2 s3 n = true) (hn : 1 ≤ n) (hn2 : n ≤ 1073741824)
    (c0 : 0 ≤ s0 ∧ s0 ≤ n * 2147483647) (c1 : 0 ≤ s1 ∧ s1 ≤ n * 2147483647) (c2 : 0 ≤ s2 ∧ s2 ≤ n * 2147483647) (c3 : 0 ≤ s3 ∧ s3 ≤ n * 2147483647)
    (hk : 1 ≤ k) (hk2 : k ≤ 1073741824 / n) (kn : 1 ≤ k * n) (kn2 : k * n ≤ 1073741824)
    (e0 : 0 ≤ k * s0 ∧ k * s0 ≤ k * n * 2147483647) (e1 : 0 ≤ k * s1 ∧ k * s1 ≤ k * n * 2147483647) (e2 : 0 ≤ k * s2 ∧ k * s2 ≤ k * n * 2147483647) (e3 : 0 ≤ k * s3 ∧ k * s3 ≤ k * n * 2147483647) :
    Calls Try.prog 5 #[.agg #[.int .i64 s0, .int .i64 s1, .int .i64 s2, .int .i64 s3], .int .i64 n, .int .i64 k] w
      fun e w' => e = .returned (.bool true) ∧ Below w.heap.size w w' := by
  have hnz : ¬ n = 0 := by omega
  go_enter Try.func5, Try.ntmps5
  go_wp2_with fail
  refine (fit_any _ _ _ _ _ _).mono ?_
  rintro e w1 ⟨rfl, hb⟩
  rw [hf]
  obtain ⟨hc, hz⟩ := bcell hb
  have hs : w.heap.size < w1.heap.size := by have := hb.size; simp at this; omega
  go_wp2_with fail
  refine wp_loop_rounds 5 ?_
  iterate 5 (rw [rounds_succ]; go_wp2_with fail)
  refine (zz_any _ _ _ _ _ _ hn hn2 c0 c1 c2 c3).mono ?_
  rintro e w2 ⟨rfl, hb2⟩
  obtain ⟨hc2, hz2⟩ := bcell hb2
  have hs2 : w1.heap.size < w2.heap.size := by have := hb2.size; simp at this; omega
  have hs02 : w.heap.size < w2.heap.size := by omega
  go_wp2_with fail
  refine (zz_any _ _ _ _ _ _ kn kn2 e0 e1 e2 e3).mono ?_
  rintro e w3 ⟨rfl, hb3⟩
  rw [mn_scale s0 n k hk, mn_scale s1 n k hk, mn_scale s2 n k hk, mn_scale s3 n k hk]
  obtain ⟨hc3, hz3⟩ := bcell hb3
  have hs3 : w2.heap.size < w3.heap.size := by have := hb3.size; simp at this; omega
  have hs13 : w1.heap.size < w3.heap.size := by omega
  have hs03 : w.heap.size < w3.heap.size := by omega
  have heq := eq4 (mn s0 n) (mn s1 n) (mn s2 n) (mn s3 n)
  go_wp2_with fail
  refine (near_any _ _ _ _ _ _ _ _ _ _ hn hn2 ⟨mn_nonneg s0 n hn c0.1, mn_le s0 n hn c0.2⟩ ⟨mn_nonneg s1 n hn c1.1, mn_le s1 n hn c1.2⟩ ⟨mn_nonneg s2 n hn c2.1, mn_le s2 n hn c2.2⟩ ⟨mn_nonneg s3 n hn c3.1, mn_le s3 n hn c3.2⟩
    ⟨c0.1, by omega⟩ ⟨c1.1, by omega⟩ ⟨c2.1, by omega⟩ ⟨c3.1, by omega⟩ (mn_lo s0 n hn) (mn_lo s1 n hn) (mn_lo s2 n hn) (mn_lo s3 n hn) (mn_hi s0 n hn) (mn_hi s1 n hn) (mn_hi s2 n hn) (mn_hi s3 n hn)).mono ?_
  rintro e w4 ⟨rfl, hb4⟩
  go_wp2
  go_ret
  refine ⟨rfl, ?_⟩
  have t1 : Below w.heap.size w w1 := ((Below.refl _ _).alloc (Nat.le_refl _) _).trans (hb.mono (by simp))
  have t2 : Below w.heap.size w w2 := (t1.alloc (by omega) _).trans (hb2.mono (by simp; omega))
  have t3 : Below w.heap.size w w3 := (t2.alloc (by omega) _).trans (hb3.mono (by simp; omega))
  exact (t3.alloc (by omega) _).trans (hb4.mono (by simp; omega))
end Go.Proofs.Qxb6613510a
