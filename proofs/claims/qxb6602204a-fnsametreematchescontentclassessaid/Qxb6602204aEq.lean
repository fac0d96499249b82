import Derived.Test.Qxb6602204aTreeA
import Derived.ChangeKeysEq
namespace Go.Proofs.Qxb6602204a
open Go.RowKit

/-- four words against four words -/
def eqB (a0 a1 a2 a3 b0 b1 b2 b3 : Int) : Bool := a0 == b0 && (a1 == b1 && (a2 == b2 && a3 == b3))

theorem eqB_iff (a0 a1 a2 a3 b0 b1 b2 b3 : Int) : eqB a0 a1 a2 a3 b0 b1 b2 b3 = true ↔ a0 = b0 ∧ a1 = b1 ∧ a2 = b2 ∧ a3 = b3 := by
  unfold eqB; simp

theorem part0 (v0 v1 v2 v3 : Value) (w : World) : (part 24 #[v0, v1, v2, v3] 0).run Try.prog w = .ok v0 w := by kernel_rfl
theorem part1 (v0 v1 v2 v3 : Value) (w : World) : (part 24 #[v0, v1, v2, v3] 1).run Try.prog w = .ok v1 w := by kernel_rfl
theorem part2 (v0 v1 v2 v3 : Value) (w : World) : (part 24 #[v0, v1, v2, v3] 2).run Try.prog w = .ok v2 w := by kernel_rfl
theorem part3 (v0 v1 v2 v3 : Value) (w : World) : (part 24 #[v0, v1, v2, v3] 3).run Try.prog w = .ok v3 w := by kernel_rfl
theorem cells24 : Try.prog.cellsOf 24 = 1 := by kernel_rfl
theorem info24 : ∃ i, Try.prog.info? 24 = some i := by
  cases h : Try.prog.info? 24 with
  | none =>
    have e : (Try.prog.info? 24).isSome = true := by kernel_rfl
    rw [h] at e; cases e
  | some i => exact ⟨i, rfl⟩

theorem items4 (a0 a1 a2 a3 b0 b1 b2 b3 : Int) (w : World) :
    (Op.eqItems 9999 24 1 #[.int .u64 a0, .int .u64 a1, .int .u64 a2, .int .u64 a3] #[.int .u64 b0, .int .u64 b1, .int .u64 b2, .int .u64 b3] [0, 1, 2, 3]).run Try.prog w = .ok (eqB a0 a1 a2 a3 b0 b1 b2 b3) w := by
  have hq := fun a b w => run_equalIn_int w 9998 24 .u64 .u64 a b Try.underlying24
  simp only [Op.eqItems, Sem.run_bind, Nat.mul_one, part0, Result.andThen_ok, hq, eqB]
  cases a0 == b0
  · simp
  · simp only [Bool.not_true, Bool.false_eq_true, if_false, Sem.run_bind, part1, Result.andThen_ok, hq, Bool.true_and]
    cases a1 == b1
    · simp
    · simp only [Bool.not_true, Bool.false_eq_true, if_false, Sem.run_bind, part2, Result.andThen_ok, hq, Bool.true_and]
      cases a2 == b2
      · simp
      · simp only [Bool.not_true, Bool.false_eq_true, if_false, Sem.run_bind, part3, Result.andThen_ok, hq, Bool.true_and]
        cases a3 == b3
        · simp
        · simp

theorem eq43 (a0 a1 a2 a3 b0 b1 b2 b3 : Int) (w : World) :
    (Op.equalIn 10000 43 (.agg #[.int .u64 a0, .int .u64 a1, .int .u64 a2, .int .u64 a3]) (.agg #[.int .u64 b0, .int .u64 b1, .int .u64 b2, .int .u64 b3])).run Try.prog w = .ok (eqB a0 a1 a2 a3 b0 b1 b2 b3) w := by
  obtain ⟨i, hi⟩ := info24
  rw [run_equalIn_array w 9999 _ _ Try.underlying43 hi, cells24]
  exact items4 _ _ _ _ _ _ _ _ w
theorem eq40 (a0 a1 a2 a3 b0 b1 b2 b3 : Int) (w : World) :
    (Op.equalIn 10000 40 (.agg #[.int .u64 a0, .int .u64 a1, .int .u64 a2, .int .u64 a3]) (.agg #[.int .u64 b0, .int .u64 b1, .int .u64 b2, .int .u64 b3])).run Try.prog w = .ok (eqB a0 a1 a2 a3 b0 b1 b2 b3) w := by
  obtain ⟨i, hi⟩ := info24
  rw [run_equalIn_array w 9999 _ _ Try.underlying40 hi, cells24]
  exact items4 _ _ _ _ _ _ _ _ w

end Go.Proofs.Qxb6602204a
