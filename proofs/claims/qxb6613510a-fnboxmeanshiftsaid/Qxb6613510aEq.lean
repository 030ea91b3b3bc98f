/-
  TWO EQUAL ARRAYS OF FOUR int32 COMPARE EQUAL.
-/
import Derived.Test.Qxb6613510aProg
import Derived.WalkKit
namespace Go.Proofs.Qxb6613510a
open Go.RowKit

theorem cells21 : Try.prog.cellsOf 21 = 1 := by kernel_rfl

theorem eq4 (x0 x1 x2 x3 : Int) (w : World) :
    Sem.run Try.prog (Op.equalIn 10000 27 (.agg #[.int .i32 x0, .int .i32 x1, .int .i32 x2, .int .i32 x3]) (.agg #[.int .i32 x0, .int .i32 x1, .int .i32 x2, .int .i32 x3])) w = .ok true w := by
  show Sem.run Try.prog (Op.equalIn (9998 + 1 + 1) 27 _ _) w = _
  rw [Op.equalIn]
  simp only [Sem.run_bind, run_underlying Try.underlying27, Result.andThen_ok]
  have e : (sizeOf 21).run Try.prog w = .ok 1 w := by kernel_rfl
  simp only [e, Result.andThen_ok]
  have p0 : ∀ w, (part 21 #[Value.int .i32 x0, .int .i32 x1, .int .i32 x2, .int .i32 x3] (0 * 1)).run Try.prog w = .ok (.int .i32 x0) w := fun _ => by kernel_rfl
  have p1 : ∀ w, (part 21 #[Value.int .i32 x0, .int .i32 x1, .int .i32 x2, .int .i32 x3] (1 * 1)).run Try.prog w = .ok (.int .i32 x1) w := fun _ => by kernel_rfl
  have p2 : ∀ w, (part 21 #[Value.int .i32 x0, .int .i32 x1, .int .i32 x2, .int .i32 x3] (2 * 1)).run Try.prog w = .ok (.int .i32 x2) w := fun _ => by kernel_rfl
  have p3 : ∀ w, (part 21 #[Value.int .i32 x0, .int .i32 x1, .int .i32 x2, .int .i32 x3] (3 * 1)).run Try.prog w = .ok (.int .i32 x3) w := fun _ => by kernel_rfl
  have q : ∀ (x : Int) w, (Op.equalIn (9998 + 1) 21 (.int .i32 x) (.int .i32 x)).run Try.prog w = .ok true w := fun x w => by
    rw [run_equalIn_int w 9998 21 .i32 .i32 x x Try.underlying21]; simp
  rw [Std.Legacy.Range.forIn_eq_forIn_range']
  have r : List.range' 0 (Std.Legacy.Range.size [0:4]) 1 = [0, 1, 2, 3] := by decide
  simp only [r]
  simp only [List.forIn_cons, List.forIn_nil, Sem.run_bind, p0, p1, p2, p3, q, Result.andThen_ok, Bool.not_true, Bool.false_eq_true, if_false, Sem.run_pure]
end Go.Proofs.Qxb6613510a
