/-
  'Rows.FnBoxMeanScaleFreeSaid', PROVED.
-/
import Derived.Test.Qxb6613510aRows
import Derived.Test.Qxb6613510aScale
import Derived.ProofKit
import Derived.OpenShut
import Derived.Laws.IdiomArrays
import Derived.Below
namespace Go.Proofs.Qxb6613510a.fnBoxMeanScaleFree
open Go.ChangeShapes Go.WideShapes Go.ChangeAt Go.RowKit
set_option linter.unusedVariables false

theorem own : ownKnob Try.prog.godebug = none := by kernel_rfl
theorem cells2 : Try.prog.cellsOf 2 = 1 := by kernel_rfl
theorem cells25 : Try.prog.cellsOf 25 = 4 := by kernel_rfl

theorem ks_bd (k s n : Int) (hk : 1 ≤ k) (c : 0 ≤ s ∧ s ≤ n * 2147483647) : 0 ≤ k * s ∧ k * s ≤ k * n * 2147483647 := by
  refine ⟨Int.mul_nonneg (by omega) c.1, ?_⟩
  rw [Int.mul_assoc]
  exact Int.mul_le_mul_of_nonneg_left c.2 (by omega)

theorem walk (s0 s1 s2 s3 n k : Int) (w : World) :
    Calls Try.prog 5 #[.agg #[.int .i64 s0, .int .i64 s1, .int .i64 s2, .int .i64 s3], .int .i64 n, .int .i64 k] w
      fun e w' => e = .returned (.bool true) ∧ Below w.heap.size w w' := by
  cases hf : fitB s0 s1 s2 s3 n with
  | false => exact scale_misfit s0 s1 s2 s3 n k w hf
  | true =>
    obtain ⟨hn, hn2, c0, c1, c2, c3⟩ := of_decide_eq_true hf
    by_cases hk : k < 1 ∨ 1073741824 / n < k
    · exact scale_k s0 s1 s2 s3 n k w hf hn hk
    · have hk1 : 1 ≤ k := by omega
      have hk2 : k ≤ 1073741824 / n := by omega
      have kn2 : k * n ≤ 1073741824 := (Int.le_ediv_iff_mul_le (by omega)).1 hk2
      have kn : 0 < k * n := Int.mul_pos (by omega) (by omega)
      exact scale_main s0 s1 s2 s3 n k w hf hn hn2 c0 c1 c2 c3 hk1 hk2 (by omega) kn2 (ks_bd k s0 n hk1 c0) (ks_bd k s1 n hk1 c1) (ks_bd k s2 n hk1 c2) (ks_bd k s3 n hk1 c3)

theorem list4 {α : Type} (l : List α) (h : (⟨l⟩ : Array α).size = 4) : ∃ a b c d, l = [a, b, c, d] := by
  match l, h with
  | [a, b, c, d], _ => exact ⟨a, b, c, d, rfl⟩

set_option maxHeartbeats 400000 in
set_option maxRecDepth 100000 in
theorem lifted (os : Os) (started : os.Started) (H : Type) (enc : TypeId × Value → H) :
    ReturnsInHanded {} Try.checked os 5 .any (Rows.fnBoxMeanScaleFreeSpec.pre6 enc Try.prog Try.f5 Rows.fnBoxMeanScaleFreeRow.domain false) (Rows.fnBoxMeanScaleFreeSpec.post enc Try.prog Try.f5 false true false false) := by
  refine returnsInHanded_of_change (C := Try.checked) own started (by kernel_rfl) Try.func5
    (ChangeSpec.witness6 (enc := enc) (C := Try.checked) false ⟨#[], #[.agg #[.int .i64 0, .int .i64 0, .int .i64 0, .int .i64 0], .int .i64 0, .int .i64 0], []⟩ 8 (by kernel_rfl) (by kernel_rfl) (by kernel_rfl) (by kernel_rfl)) ?_
  intro W base args ds gs before hval0 hW hcnd _
  have hval : ∀ (j : Nat) t v, Try.f5.params[j]? = some t → args[j]? = some v → Value.okWide Try.prog W .any base t v := hval0
  have hW' := hW
  obtain ⟨p, q, hA0, hV, rfl, hfz, hnd⟩ := hW
  have hA : DataW.TrodAll enc Try.prog W 0 (fun _ => true) true Try.f5.params.toList args.toList ds p := hA0
  rw [Try.params5] at hA hval
  obtain ⟨v0, v1, v2, d0, d1, d2, p0, p1, p2, rfl, rfl, rfl, h0, h1, h2⟩ := trodAll_three hA
  obtain ⟨rfl, rfl⟩ := trodVars_none hV
  obtain ⟨cs, rfl, hsz, _⟩ : ∃ cs, v0 = .agg cs ∧ cs.size = Try.prog.cellsOf 25 ∧ Row.okWide Try.prog W .any base 25 cs := by
    have := hval 0 25 v0 rfl rfl
    simpa [Value.okWide, Try.underlying25] using this
  rw [cells25] at hsz
  obtain ⟨l⟩ := cs
  obtain ⟨x0, x1, x2, x3, rfl⟩ := list4 l hsz
  obtain ⟨fuel, hf⟩ := h0
  obtain ⟨y0, y1, y2, y3, m, hx, hy0, hy1, hy2, hy3⟩ := trod_array4 Try.underlying25 cells2 hf
  obtain ⟨s0, e0, rfl, w0⟩ := DataW.trod_int Try.underlying2 hy0
  obtain ⟨s1, e1, rfl, w1⟩ := DataW.trod_int Try.underlying2 hy1
  obtain ⟨s2, e2, rfl, w2⟩ := DataW.trod_int Try.underlying2 hy2
  obtain ⟨s3, e3, rfl, w3⟩ := DataW.trod_int Try.underlying2 hy3
  simp at e0 e1 e2 e3
  subst e0 e1 e2 e3
  simp only [Prod.mk.injEq] at hx
  obtain ⟨rfl, rfl⟩ := hx
  obtain ⟨n, rfl, rfl, rfl, wn⟩ := open_int Try.underlying2 (hval 1 2 v1 rfl rfl) h1
  obtain ⟨k, rfl, rfl, rfl, wk⟩ := open_int Try.underlying2 (hval 2 2 v2 rfl rfl) h2
  clear hA0 hval0
  refine (walk s0 s1 s2 s3 n k W).mono fun e W' ⟨he, bel⟩ => ?_
  subst he
  have rdA : ∀ sp : Nat → Bool, DataW.Trod enc Try.prog W' 0 sp true 25 (.agg #[.int .i64 s0, .int .i64 s1, .int .i64 s2, .int .i64 s3]) (DataW.agg [.lit (.int .i64 s0), .lit (.int .i64 s1), .lit (.int .i64 s2), .lit (.int .i64 s3)]) [] := fun sp => ⟨2, by simp [DataW.trod, Value.cells, Try.underlying25, Try.underlying2, cells25, cells2, w0, w1, w2, w3, show List.range 4 = [0, 1, 2, 3] from rfl]⟩
  exact ⟨_, rfl, _, _, _, [], [], [], hW', trodAll_mk1 (shut_bool Try.underlying4 _), trodAll_mk3 (rdA _) (shut_int Try.underlying2 wn) (shut_int Try.underlying2 wk), rfl, bel.frame _, fun h => by cases h⟩

theorem over : Rows.fnBoxMeanScaleFreeRow.holds Try.pinned (OpenSpec.ofChange Rows.fnBoxMeanScaleFreeSpec) :=
  OpenClaim.holds_of_wide 5 Try.f5 rfl rfl rfl rfl rfl rfl rfl ⟨rfl, rfl, rfl, rfl, rfl⟩ rfl rfl rfl rfl rfl (by kernel_rfl) Try.func5 (by kernel_rfl)
    (of_decide_eq_true (by kernel_rfl)) (by unfold Func.isWrapper; first | (rw [if_pos (by decide +kernel)]; kernel_rfl) | (rw [if_neg (by decide +kernel)]; exact ⟨rfl, rfl⟩))
    (fun os started H enc _ => lifted os started H enc)

/-- THE STATEMENT. -/
theorem proved : Rows.FnBoxMeanScaleFreeSaid := over
#print axioms proved
end Go.Proofs.Qxb6613510a.fnBoxMeanScaleFree
