/-
  THE CONTRACT OF ZZkeyTTL (function 14).
-/
import Derived.Test.Qxb6613559aProg
import Derived.WalkKit
namespace Go.Proofs.Qxb6613559a
open Go.RowKit

theorem tmod_neg (a : Int) (h : a < 0) : a - a.tmod 1000000 ≤ 0 ∧ a ≤ a - a.tmod 1000000 := by
  have e : a.tmod 1000000 = -((-a) % 1000000) := by
    obtain ⟨b, rfl⟩ : ∃ b, a = -b := ⟨-a, by omega⟩
    rw [Int.neg_tmod, Int.neg_neg, Int.tmod_eq_emod_of_nonneg (by omega)]
  rw [e]
  omega

/-- Below one millisecond: just one. -/
theorem ttl_lo (a : Int) (w : World) (h0 : -9223372036854775808 ≤ a) (h : a < 1000000) :
    Calls Try.prog 14 #[.int .i64 a] w fun e w' => e = .returned (.int .i64 1000000) ∧ w' = w := by
  by_cases hn : 0 ≤ a
  · go_enter Try.func14, Try.ntmps14
    go_wp2
    go_ret
    exact ⟨rfl, rfl⟩
  · have ht := tmod_neg a (by omega)
    go_enter Try.func14, Try.ntmps14
    go_wp2
    go_ret
    exact ⟨rfl, rfl⟩

/-- From one millisecond up: the greatest whole count not above a. -/
theorem ttl_hi (a : Int) (w : World) (h : 1000000 ≤ a) (h2 : a ≤ 9223372036854775807) :
    Calls Try.prog 14 #[.int .i64 a] w fun e w' => (∃ r, e = .returned (.int .i64 r) ∧ 1000000 ≤ r ∧ r % 1000000 = 0 ∧ r ≤ a ∧ a - r < 1000000) ∧ w' = w := by
  go_enter Try.func14, Try.ntmps14
  go_wp2
  go_ret
  exact ⟨⟨a - a % 1000000, rfl, by omega, by omega, by omega, by omega⟩, rfl⟩
end Go.Proofs.Qxb6613559a
