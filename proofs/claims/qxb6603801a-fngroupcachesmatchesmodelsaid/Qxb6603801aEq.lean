import Derived.Test.Qxb6603801aCpb
import Derived.ChangeKeysEq
namespace Go.Proofs.Qxb6603801a
open Go.RowKit

theorem part3 (w : World) (xs : Array Value) (j : Nat) (x : Value) (h : xs[j]? = some x) : (part 3 xs j).run Try.prog w = .ok x w := by
  unfold part
  simp [h]
theorem eqI (w : World) (d : Nat) (a c : Int) : (Op.equalIn (d + 1) 3 (.int .i64 a) (.int .i64 c)).run Try.prog w = .ok (decide (a = c)) w := by
  simp [Op.equalIn, run_underlying Try.underlying3]
  try (by_cases h : a = c <;> simp [h])
theorem equal39 (w : World) (a b c d : Int) : (Op.equal 39 (.agg #[.int .i64 a, .int .i64 b]) (.agg #[.int .i64 c, .int .i64 d])).run Try.prog w = .ok (decide (a = c ∧ b = d)) w := by
  obtain ⟨i0, hi, hz0, hz1, hz2⟩ := info_parts Try.info3
  have hc : Try.prog.cellsOf 3 = 1 := by simp [Program.cellsOf, hi, hz1]
  have h1 := run_equalIn_array (P := Try.prog) w (9998 + 1) #[.int .i64 a, .int .i64 b] #[.int .i64 c, .int .i64 d] Try.underlying39 hi
  show (Op.equalIn (9998 + 1 + 1) 39 _ _).run Try.prog w = _
  rw [h1, hc]
  generalize 9998 = D
  rw [show List.range 2 = [0, 1] from rfl]
  simp only [Op.eqItems, Sem.run_bind]
  rw [part3 w _ _ (.int .i64 a) rfl]
  simp only [Result.andThen_ok]
  rw [part3 w _ _ (.int .i64 c) rfl]
  simp only [Result.andThen_ok, eqI]
  by_cases h : a = c
  · simp only [h, decide_true, Bool.not_true, Bool.false_eq_true, if_false, Sem.run_bind]
    rw [part3 w _ _ (.int .i64 b) rfl]
    simp only [Result.andThen_ok]
    rw [part3 w _ _ (.int .i64 d) rfl]
    simp only [Result.andThen_ok, eqI]
    by_cases h' : b = d <;> simp [h']
  · simp [h]
theorem eql39 (w : World) (a b c d : Int) : (binOp .eql 39 (.agg #[.int .i64 a, .int .i64 b]) (.agg #[.int .i64 c, .int .i64 d])).run Try.prog w = .ok (.bool (decide (a = c ∧ b = d))) w := by
  simp only [binOp, Sem.run_bind, equal39, Result.andThen_ok]
  simp
theorem neq39 (w : World) (a b c d : Int) : (binOp .neq 39 (.agg #[.int .i64 a, .int .i64 b]) (.agg #[.int .i64 c, .int .i64 d])).run Try.prog w = .ok (.bool (!decide (a = c ∧ b = d))) w := by
  simp only [binOp, Sem.run_bind, equal39, Result.andThen_ok]
  simp
end Go.Proofs.Qxb6603801a
