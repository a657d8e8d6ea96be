import Derived.Test.Qxb6601842aFl
namespace Go.Proofs.Qxb6601842a

structure FloatOk (h : Nat) : Prop where
  div : FloatKind.f64.format.div (floatOfInt .f64 h) c100 = some (fx h)
  gt : (FloatKind.f64.format.order (fx h) 0 == some .gt) = decide (0 < h)
  eq : (FloatKind.f64.format.order (fx h) 0 == some .eq) = decide (h = 0)
  le : (FloatKind.f64.format.order (fx h) c100 == some .lt || FloatKind.f64.format.order (fx h) c100 == some .eq) = true
  self : FloatKind.f64.format.order (fx h) (fx h) = some .eq
  mul : FloatKind.f64.format.mul (fx h) c100 = some (fy h)
  add : FloatKind.f64.format.add (fy h) cHalf = some (fz h)
  toInt : floatToIntVal .f64 (fz h) .i64 = some (h : Int)

/-- 1/x at x = 0: plus infinity, not below 0 -/
theorem inv0 : FloatKind.f64.format.div cOne (fx 0) = some 9218868437227405312 := by kernel_rfl
theorem inv0_lt : (FloatKind.f64.format.order 9218868437227405312 0 == some .lt) = false := by kernel_rfl
theorem fx0 : fx 0 = 0 := by kernel_rfl
end Go.Proofs.Qxb6601842a
