/-
  '==' of two equal arrays of words.
-/
import Derived.Test.Qxb6632417aBase
namespace Go.Proofs.Qxb6632417a
open Go.RowKit

theorem eq25 (g : Nat → Int) (w : World) : (Op.equalIn 10000 25 (.agg (C8 g)) (.agg (C8 g))).run Try.prog w = .ok true w := by
  have u3 := Try.underlying23
  have a3 := Try.isAgg23
  have z3 := Try.sizeOf23
  rw [show (10000 : Nat) = 9999 + 1 from rfl, Op.equalIn]
  simp only [Sem.run_bind, run_underlying Try.underlying25, Result.andThen_ok]
  simp only [Std.Legacy.Range.forIn_eq_forIn_range', Std.Legacy.Range.size, Nat.sub_zero, Nat.add_sub_cancel, Nat.div_one, List.range'_succ, List.range'_zero, List.forIn_cons, List.forIn_nil]
  go_simp
theorem eq24 (g : Nat → Int) (w : World) : (Op.equalIn 10000 24 (.agg (C16 g)) (.agg (C16 g))).run Try.prog w = .ok true w := by
  have u3 := Try.underlying23
  have a3 := Try.isAgg23
  have z3 := Try.sizeOf23
  rw [show (10000 : Nat) = 9999 + 1 from rfl, Op.equalIn]
  simp only [Sem.run_bind, run_underlying Try.underlying24, Result.andThen_ok]
  simp only [Std.Legacy.Range.forIn_eq_forIn_range', Std.Legacy.Range.size, Nat.sub_zero, Nat.add_sub_cancel, Nat.div_one, List.range'_succ, List.range'_zero, List.forIn_cons, List.forIn_nil]
  go_simp
end Go.Proofs.Qxb6632417a
