/-
  Seat b6601894a: an int that was read lies in int's range.
-/
import Derived.Test.Qxb6601894aBase
namespace Go.Proofs.Qxb6601894a
theorem wf_range {n : Int} (h : (Lit.int .i64 n).wf = true) : -9223372036854775808 ≤ n ∧ n < 9223372036854775808 := by
  have h1 : (decide (IntKind.min .i64 ≤ n) && decide (n ≤ IntKind.max .i64)) = true := h
  rw [Bool.and_eq_true, decide_eq_true_eq, decide_eq_true_eq] at h1
  have e1 : IntKind.min .i64 = -9223372036854775808 := by decide
  have e2 : IntKind.max .i64 = 9223372036854775807 := by decide
  rw [e1, e2] at h1
  omega
end Go.Proofs.Qxb6601894a
