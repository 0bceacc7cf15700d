import Derived.Test.Qxb6614248aForce
namespace Go.Proofs.Qxb6614248a
open Go.RowKit
set_option linter.unusedVariables false
set_option linter.unusedSimpArgs false

theorem equalIn40 (d : Nat) (w : World) (u1 s1 u2 s2 : Int) : (Op.equalIn (d + 2) 40 (.agg #[.int .u64 u1, .int .i64 s1, .pointer none]) (.agg #[.int .u64 u2, .int .i64 s2, .pointer none])).run Try.prog w = .ok (u1 == u2 && s1 == s2) w := by
  have hS : Try.prog.underlying 40 = some (.struct (Try.prog.fieldsOf 40)) := by kernel_rfl
  have hp : Try.prog.stoodInHeld 40 = false := by kernel_rfl
  have u37 := Try.underlying37
  have u2x := Try.underlying2
  have u38 := Try.underlying38
  have hptr : ∀ d w, (Op.equalIn (d + 1) 38 (.pointer none) (.pointer none)).run Try.prog w = .ok true w := fun d w => by simp [Op.equalIn, run_underlying u38]
  rw [show d + 2 = (d + 1) + 1 from rfl, run_equalIn_agg w (d + 1) 40 _ _ hS hp]
  simp only [Program.fieldsOf, Try.underlying40]
  go_simp
  by_cases h1 : u1 = u2 <;> by_cases h2 : s1 = s2 <;> simp [h1, h2]

theorem eql40 (w : World) (u1 s1 u2 s2 : Int) : (binOp .eql 40 (.agg #[.int .u64 u1, .int .i64 s1, .pointer none]) (.agg #[.int .u64 u2, .int .i64 s2, .pointer none])).run Try.prog w = .ok (.bool (u1 == u2 && s1 == s2)) w := by
  rw [run_eql_struct, show (10000 : Nat) = 9998 + 2 from rfl, equalIn40]; rfl

theorem eql43 (w : World) (u1 s1 n1 u2 s2 n2 : Int) : (binOp .eql 43 (.agg #[.int .u64 u1, .int .i64 s1, .pointer none, .int .i64 n1]) (.agg #[.int .u64 u2, .int .i64 s2, .pointer none, .int .i64 n2])).run Try.prog w = .ok (.bool (u1 == u2 && s1 == s2 && n1 == n2)) w := by
  have hS : Try.prog.underlying 43 = some (.struct (Try.prog.fieldsOf 43)) := by kernel_rfl
  have hp : Try.prog.stoodInHeld 43 = false := by kernel_rfl
  have u2' := Try.underlying2
  have h40 := equalIn40 9997
  rw [run_eql_struct, show (10000 : Nat) = 9999 + 1 from rfl, run_equalIn_agg w 9999 43 _ _ hS hp]
  simp only [Program.fieldsOf, Try.underlying43]
  go_simp

  by_cases h1 : u1 = u2 <;> by_cases h2 : s1 = s2 <;> by_cases h3 : n1 = n2 <;> simp [h1, h2, h3]

end Go.Proofs.Qxb6614248a
