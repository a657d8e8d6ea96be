import Derived.Laws.FloatArith
import Derived.KernelRfl
namespace Go.Proofs.Qxb6601842a

/-- the bits of 100, of 1 and of one half -/
def c100 : Nat := 4636737291354636288
def cOne : Nat := 4607182418800017408
def cHalf : Nat := 4602678819172646912

/-- the bits of float64(h) / 100 -/
def fx (h : Nat) : Nat := (FloatKind.f64.format.div (floatOfInt .f64 h) c100).getD 0
def fy (h : Nat) : Nat := (FloatKind.f64.format.mul (fx h) c100).getD 0
def fz (h : Nat) : Nat := (FloatKind.f64.format.add (fy h) cHalf).getD 0

/-- all that the law asks of the floats at h -/
def chk (h : Nat) : Bool :=
  (FloatKind.f64.format.div (floatOfInt .f64 h) c100 == some (fx h)) &&
  ((FloatKind.f64.format.order (fx h) 0 == some .gt) == decide (0 < h)) &&
  ((FloatKind.f64.format.order (fx h) 0 == some .eq) == decide (h = 0)) &&
  (FloatKind.f64.format.order (fx h) c100 == some .lt || FloatKind.f64.format.order (fx h) c100 == some .eq) &&
  (FloatKind.f64.format.order (fx h) (fx h) == some .eq) &&
  (FloatKind.f64.format.mul (fx h) c100 == some (fy h)) &&
  (FloatKind.f64.format.add (fy h) cHalf == some (fz h)) &&
  (floatToIntVal .f64 (fz h) .i64 == some (h : Int))

/-- from 'lo' on, n of them -/
def chkFrom (lo : Nat) : Nat → Bool
  | 0 => true
  | n + 1 => chk (lo + n) && chkFrom lo n

theorem chk_of {lo n : Nat} (h : chkFrom lo n = true) : ∀ k, k < n → chk (lo + k) = true := by
  induction n with
  | zero => intro k hk; omega
  | succ n ih =>
    intro k hk
    simp only [chkFrom, Bool.and_eq_true] at h
    by_cases e : k = n
    · subst e; exact h.1
    · exact ih h.2 k (by omega)

end Go.Proofs.Qxb6601842a
