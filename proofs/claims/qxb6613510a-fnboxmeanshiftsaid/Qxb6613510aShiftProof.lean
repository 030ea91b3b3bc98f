/-
  'Rows.FnBoxMeanShiftSaid', PROVED.
-/
import Derived.Test.Qxb6613510aRows
import Derived.Test.Qxb6613510aShift
import Derived.Test.Qxb6613510aShiftEarly
import Derived.ProofKit
import Derived.OpenShut
import Derived.Laws.IdiomArrays
import Derived.Below
namespace Go.Proofs.Qxb6613510a.fnBoxMeanShift
open Go.ChangeShapes Go.WideShapes Go.ChangeAt Go.RowKit
set_option linter.unusedVariables false

theorem own : ownKnob Try.prog.godebug = none := by kernel_rfl
theorem cells2 : Try.prog.cellsOf 2 = 1 := by kernel_rfl
theorem cells25 : Try.prog.cellsOf 25 = 4 := by kernel_rfl

theorem cells21 : Try.prog.cellsOf 21 = 1 := by kernel_rfl
theorem cells27 : Try.prog.cellsOf 27 = 4 := by kernel_rfl

theorem nx_any (n x : Int) (h : 1 ≤ n) (h2 : n ≤ 1073741824) (q : -2147483648 ≤ x ∧ x ≤ 2147483647) : -2305843009213693952 ≤ n * x ∧ n * x ≤ 2305843009213693952 := by
  have a1 : n * x ≤ n * 2147483647 := Int.mul_le_mul_of_nonneg_left q.2 (by omega)
  have a2 : n * (-2147483648) ≤ n * x := Int.mul_le_mul_of_nonneg_left q.1 (by omega)
  omega

theorem walk (s0 s1 s2 s3 n x0 x1 x2 x3 : Int) (w : World)
    (q0 : -2147483648 ≤ x0 ∧ x0 ≤ 2147483647) (q1 : -2147483648 ≤ x1 ∧ x1 ≤ 2147483647) (q2 : -2147483648 ≤ x2 ∧ x2 ≤ 2147483647) (q3 : -2147483648 ≤ x3 ∧ x3 ≤ 2147483647) :
    Calls Try.prog 6 #[.agg #[.int .i64 s0, .int .i64 s1, .int .i64 s2, .int .i64 s3], .int .i64 n, .agg #[.int .i32 x0, .int .i32 x1, .int .i32 x2, .int .i32 x3]] w
      fun e w' => e = .returned (.bool true) ∧ Below w.heap.size w w' := by
  cases hf : fitB s0 s1 s2 s3 n with
  | false => exact shift_misfit s0 s1 s2 s3 n x0 x1 x2 x3 w hf
  | true =>
    obtain ⟨hn, hn2, c0, c1, c2, c3⟩ := of_decide_eq_true hf
    by_cases hg : (0 ≤ x0 ∧ s0 + n * x0 ≤ n * 2147483647) ∧ (0 ≤ x1 ∧ s1 + n * x1 ≤ n * 2147483647) ∧ (0 ≤ x2 ∧ s2 + n * x2 ≤ n * 2147483647) ∧ (0 ≤ x3 ∧ s3 + n * x3 ≤ n * 2147483647)
    · obtain ⟨⟨a0, e0⟩, ⟨a1, e1⟩, ⟨a2, e2⟩, ⟨a3, e3⟩⟩ := hg
      exact shift_main s0 s1 s2 s3 n x0 x1 x2 x3 w hf hn hn2 c0 c1 c2 c3 ⟨a0, q0.2⟩ ⟨a1, q1.2⟩ ⟨a2, q2.2⟩ ⟨a3, q3.2⟩
        (Int.mul_nonneg (by omega) a0) (Int.mul_nonneg (by omega) a1) (Int.mul_nonneg (by omega) a2) (Int.mul_nonneg (by omega) a3) e0 e1 e2 e3
    · exact shift_early s0 s1 s2 s3 n x0 x1 x2 x3 w hf hn hn2 c0 c1 c2 c3 (nx_any n x0 hn hn2 q0) (nx_any n x1 hn hn2 q1) (nx_any n x2 hn hn2 q2) (nx_any n x3 hn hn2 q3) q0 q1 q2 q3 hg

theorem list4 {α : Type} (l : List α) (h : (⟨l⟩ : Array α).size = 4) : ∃ a b c d, l = [a, b, c, d] := by
  match l, h with
  | [a, b, c, d], _ => exact ⟨a, b, c, d, rfl⟩

set_option maxHeartbeats 400000 in
set_option maxRecDepth 100000 in
theorem lifted (os : Os) (started : os.Started) (H : Type) (enc : TypeId × Value → H) :
    ReturnsInHanded {} Try.checked os 6 .any (Rows.fnBoxMeanShiftSpec.pre6 enc Try.prog Try.f6 Rows.fnBoxMeanShiftRow.domain false) (Rows.fnBoxMeanShiftSpec.post enc Try.prog Try.f6 false true false false) := by
  refine returnsInHanded_of_change (C := Try.checked) own started (by kernel_rfl) Try.func6
    (ChangeSpec.witness6 (enc := enc) (C := Try.checked) false ⟨#[], #[.agg #[.int .i64 0, .int .i64 0, .int .i64 0, .int .i64 0], .int .i64 0, .agg #[.int .i32 0, .int .i32 0, .int .i32 0, .int .i32 0]], []⟩ 8 (by kernel_rfl) (by kernel_rfl) (by kernel_rfl) (by kernel_rfl)) ?_
  intro W base args ds gs before hval0 hW hcnd _
  have hval : ∀ (j : Nat) t v, Try.f6.params[j]? = some t → args[j]? = some v → Value.okWide Try.prog W .any base t v := hval0
  have hW' := hW
  obtain ⟨p, q, hA0, hV, rfl, hfz, hnd⟩ := hW
  have hA : DataW.TrodAll enc Try.prog W 0 (fun _ => true) true Try.f6.params.toList args.toList ds p := hA0
  rw [Try.params6] at hA hval
  obtain ⟨v0, v1, v2, d0, d1, d2, p0, p1, p2, rfl, rfl, rfl, h0, h1, h2⟩ := trodAll_three hA
  obtain ⟨rfl, rfl⟩ := trodVars_none hV
  obtain ⟨cs, rfl, hsz, _⟩ : ∃ cs, v0 = .agg cs ∧ cs.size = Try.prog.cellsOf 25 ∧ Row.okWide Try.prog W .any base 25 cs := by
    have := hval 0 25 v0 rfl rfl
    simpa [Value.okWide, Try.underlying25] using this
  rw [cells25] at hsz
  obtain ⟨l⟩ := cs
  obtain ⟨x0, x1, x2, x3, rfl⟩ := list4 l hsz
  obtain ⟨fuel, hf⟩ := h0
  obtain ⟨y0, y1, y2, y3, m, hx, hy0, hy1, hy2, hy3⟩ := trod_array4 Try.underlying25 cells2 hf
  obtain ⟨s0, e0, rfl, w0⟩ := DataW.trod_int Try.underlying2 hy0
  obtain ⟨s1, e1, rfl, w1⟩ := DataW.trod_int Try.underlying2 hy1
  obtain ⟨s2, e2, rfl, w2⟩ := DataW.trod_int Try.underlying2 hy2
  obtain ⟨s3, e3, rfl, w3⟩ := DataW.trod_int Try.underlying2 hy3
  simp at e0 e1 e2 e3
  subst e0 e1 e2 e3
  simp only [Prod.mk.injEq] at hx
  obtain ⟨rfl, rfl⟩ := hx
  obtain ⟨n, rfl, rfl, rfl, wn⟩ := open_int Try.underlying2 (hval 1 2 v1 rfl rfl) h1
  obtain ⟨cs, rfl, hsz2, _⟩ : ∃ cs, v2 = .agg cs ∧ cs.size = Try.prog.cellsOf 27 ∧ Row.okWide Try.prog W .any base 27 cs := by
    have := hval 2 27 v2 rfl rfl
    simpa [Value.okWide, Try.underlying27] using this
  rw [cells27] at hsz2
  obtain ⟨l2⟩ := cs
  obtain ⟨z0, z1, z2, z3, rfl⟩ := list4 l2 hsz2
  obtain ⟨fuel2, hf2⟩ := h2
  obtain ⟨u0, u1, u2, u3, m2, hx2, hu0, hu1, hu2, hu3⟩ := trod_array4 Try.underlying27 cells21 hf2
  obtain ⟨x0, g0, rfl, r0⟩ := DataW.trod_int Try.underlying21 hu0
  obtain ⟨x1, g1, rfl, r1⟩ := DataW.trod_int Try.underlying21 hu1
  obtain ⟨x2, g2, rfl, r2⟩ := DataW.trod_int Try.underlying21 hu2
  obtain ⟨x3, g3, rfl, r3⟩ := DataW.trod_int Try.underlying21 hu3
  simp at g0 g1 g2 g3
  subst g0 g1 g2 g3
  simp only [Prod.mk.injEq] at hx2
  obtain ⟨rfl, rfl⟩ := hx2
  clear hA0 hval0
  refine (walk s0 s1 s2 s3 n x0 x1 x2 x3 W (bounds_i32 r0) (bounds_i32 r1) (bounds_i32 r2) (bounds_i32 r3)).mono fun e W' ⟨he, bel⟩ => ?_
  subst he
  have rdA : ∀ sp : Nat → Bool, DataW.Trod enc Try.prog W' 0 sp true 25 (.agg #[.int .i64 s0, .int .i64 s1, .int .i64 s2, .int .i64 s3]) (DataW.agg [.lit (.int .i64 s0), .lit (.int .i64 s1), .lit (.int .i64 s2), .lit (.int .i64 s3)]) [] := fun sp => ⟨2, by simp [DataW.trod, Value.cells, Try.underlying25, Try.underlying2, cells25, cells2, w0, w1, w2, w3, show List.range 4 = [0, 1, 2, 3] from rfl]⟩
  have rdC : ∀ sp : Nat → Bool, DataW.Trod enc Try.prog W' 0 sp true 27 (.agg #[.int .i32 x0, .int .i32 x1, .int .i32 x2, .int .i32 x3]) (DataW.agg [.lit (.int .i32 x0), .lit (.int .i32 x1), .lit (.int .i32 x2), .lit (.int .i32 x3)]) [] := fun sp => ⟨2, by simp [DataW.trod, Value.cells, Try.underlying27, Try.underlying21, cells27, cells21, r0, r1, r2, r3, show List.range 4 = [0, 1, 2, 3] from rfl]⟩
  exact ⟨_, rfl, _, _, _, [], [], [], hW', trodAll_mk1 (shut_bool Try.underlying4 _), trodAll_mk3 (rdA _) (shut_int Try.underlying2 wn) (rdC _), rfl, bel.frame _, fun h => by cases h⟩

theorem over : Rows.fnBoxMeanShiftRow.holds Try.pinned (OpenSpec.ofChange Rows.fnBoxMeanShiftSpec) :=
  OpenClaim.holds_of_wide 6 Try.f6 rfl rfl rfl rfl rfl rfl rfl ⟨rfl, rfl, rfl, rfl, rfl⟩ rfl rfl rfl rfl rfl (by kernel_rfl) Try.func6 (by kernel_rfl)
    (of_decide_eq_true (by kernel_rfl)) (by unfold Func.isWrapper; first | (rw [if_pos (by decide +kernel)]; kernel_rfl) | (rw [if_neg (by decide +kernel)]; exact ⟨rfl, rfl⟩))
    (fun os started H enc _ => lifted os started H enc)

/-- THE STATEMENT. -/
theorem proved : Rows.FnBoxMeanShiftSaid := over
#print axioms proved
end Go.Proofs.Qxb6613510a.fnBoxMeanShift
