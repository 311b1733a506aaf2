/-
  SEAT b6605952aM: '==' on two times of one content.
-/
import Derived.Test.Qxb6605952aModsTime
namespace Go.Proofs.Qxb6605952aMods
open Go.RowKit

theorem guard_tm (x y : Operand) (w : World) (xs ys : Array Value) : (eqGuard .eql 25 x y (.agg xs) (.agg ys)).run Trym.prog w = .ok () w :=
  run_eqGuard_agg w .eql 25 x y xs ys (by kernel_rfl)

theorem part0 (n s : Int) (w : World) : (part 22 #[.int .u64 n, .int .i64 s, .pointer none] 0).run Trym.prog w = .ok (.int .u64 n) w := by kernel_rfl
theorem part1 (n s : Int) (w : World) : (part 2 #[.int .u64 n, .int .i64 s, .pointer none] 1).run Trym.prog w = .ok (.int .i64 s) w := by kernel_rfl
theorem part2 (n s : Int) (w : World) : (part 23 #[.int .u64 n, .int .i64 s, .pointer none] 2).run Trym.prog w = .ok (.pointer none) w := by kernel_rfl
theorem eqNil (d : Nat) (w : World) : (Op.equalIn (d + 1) 23 (.pointer none) (.pointer none)).run Trym.prog w = .ok true w := by
  have := run_equalIn_pointer_nil (P := Trym.prog) w d 23 none (by kernel_rfl)
  simpa using this

theorem eq_tm (n s : Int) (w : World) : (binOp .eql 25 (tm n s) (tm n s)).run Trym.prog w = .ok (.bool true) w := by
  rw [run_eql_struct, run_equalIn_struct w 9999 25 _ _ (by kernel_rfl) (by kernel_rfl)]
  simp only [Program.fieldsOf, Trym.underlying25, Op.eqFields]
  simp [part0, part1, part2, run_equalIn_int w 9998 22 .u64 .u64 n n Trym.underlying22, run_equalIn_int w 9998 2 .i64 .i64 s s Trym.underlying2, eqNil 9998 w]

end Go.Proofs.Qxb6605952aMods
