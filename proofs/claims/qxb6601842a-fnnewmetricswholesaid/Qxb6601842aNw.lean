import Derived.Test.Qxb6601842aNm
import Derived.Test.Qxb6601842aFlAll
namespace Go.Proofs.Qxb6601842a
open Go.RowKit
attribute [local go_sem] run_store_float

/-- the hundredths, and what the law asks of them -/
theorem hund (b r : Int) (hb : 1 ≤ b) (hr : 0 ≤ r) (hrb : r ≤ b) (hm : b ≤ 461145544565510) :
    ∃ h : Nat, h ≤ 10000 ∧ (2 * ((b - r) * 10000) + b) / (2 * b) = (h : Int) ∧ (2 * (h : Int) - 1) * b ≤ 20000 * (b - r) ∧ -461145544565510 ≤ (2 * (h : Int) - 1) * b
      ∧ 20000 * (b - r) < (2 * (h : Int) + 1) * b ∧ (2 * (h : Int) + 1) * b ≤ 9223372036854775807 := by
  obtain ⟨N, hN⟩ : ∃ N, N = 2 * ((b - r) * 10000) + b := ⟨_, rfl⟩
  rw [← hN]
  have p2 : 0 < 2 * b := by omega
  have h0 : 0 ≤ N / (2 * b) := Int.ediv_nonneg (by omega) (by omega)
  have h1 : N / (2 * b) < 10001 := Int.ediv_lt_of_lt_mul p2 (by omega)
  have e1 : N / (2 * b) * (2 * b) ≤ N := Int.ediv_mul_le N (by omega)
  have e2 : N < (N / (2 * b) + 1) * (2 * b) := Int.lt_ediv_add_one_mul_self N p2
  obtain ⟨q, hq⟩ : ∃ q, q = N / (2 * b) := ⟨_, rfl⟩
  rw [← hq] at h0 h1 e1 e2 ⊢
  have f1 : q * (2 * b) = 2 * (q * b) := by rw [Int.mul_left_comm]
  have f2 : (q + 1) * (2 * b) = 2 * (q * b) + 2 * b := by rw [Int.add_mul, f1]; omega
  have f3 : (2 * q - 1) * b = 2 * (q * b) - b := by rw [Int.sub_mul, Int.mul_assoc]; omega
  have f4 : (2 * q + 1) * b = 2 * (q * b) + b := by rw [Int.add_mul, Int.mul_assoc]; omega
  have f5 : 0 ≤ q * b := Int.mul_nonneg h0 (by omega)
  have f6 : q * b ≤ 10000 * b := Int.mul_le_mul_of_nonneg_right (by omega) (by omega)
  refine ⟨q.toNat, by omega, by omega, ?_⟩
  have e : (q.toNat : Int) = q := by omega
  rw [e, f3, f4]
  omega

/-- how a float stands to another, in the walk's four words -/
def Gt (x y : Nat) : Prop := (FloatKind.f64.format.order x y == some .gt) = true ∧ (FloatKind.f64.format.order x y == some .eq) = false ∧ (FloatKind.f64.format.order x y == some .lt) = false
def Lt (x y : Nat) : Prop := (FloatKind.f64.format.order x y == some .gt) = false ∧ (FloatKind.f64.format.order x y == some .eq) = false ∧ (FloatKind.f64.format.order x y == some .lt) = true
def Eqf (x y : Nat) : Prop := (FloatKind.f64.format.order x y == some .gt) = false ∧ (FloatKind.f64.format.order x y == some .eq) = true ∧ (FloatKind.f64.format.order x y == some .lt) = false

theorem gt_of {x y : Nat} (h : FloatKind.f64.format.order x y = some .gt) : Gt x y := by unfold Gt; rw [h]; exact ⟨rfl, rfl, rfl⟩
theorem lt_of {x y : Nat} (h : FloatKind.f64.format.order x y = some .lt) : Lt x y := by unfold Lt; rw [h]; exact ⟨rfl, rfl, rfl⟩
theorem eq_of {x y : Nat} (h : FloatKind.f64.format.order x y = some .eq) : Eqf x y := by unfold Eqf; rw [h]; exact ⟨rfl, rfl, rfl⟩

/-- the float that the law meets, of value k hundredths -/
structure XOk (x k : Nat) : Prop where
  le : Lt x 4636737291354636288 ∨ Eqf x 4636737291354636288
  self : (FloatKind.f64.format.order x x != some .eq) = false
  mul : ∃ y z, FloatKind.f64.format.mul x 4636737291354636288 = some y ∧ FloatKind.f64.format.add y 4602678819172646912 = some z ∧ floatToIntVal .f64 z .i64 = some (k : Int)
  div : FloatKind.f64.format.div (floatOfInt .f64 (k : Int)) 4636737291354636288 = some x
  inv : Gt x 0 ∨ (Eqf x 0 ∧ ∃ y, FloatKind.f64.format.div 4607182418800017408 x = some y ∧ (FloatKind.f64.format.order y 0 == some .lt) = false)

theorem xok_of (h : Nat) (F : FloatOk h) : XOk (fx h) h := by
  refine ⟨?_, by rw [F.self]; rfl, ⟨fy h, fz h, F.mul, F.add, F.toInt⟩, F.div, ?_⟩
  · have := F.le
    simp only [Bool.or_eq_true, beq_iff_eq] at this
    rcases this with e | e
    · exact Or.inl (lt_of e)
    · exact Or.inr (eq_of e)
  · have g := F.gt
    have q := F.eq
    by_cases e : h = 0
    · subst e
      refine Or.inr ⟨eq_of (by simpa using q), _, inv0, inv0_lt⟩
    · exact Or.inl (gt_of (by rw [show decide (0 < h) = true from by simp; omega] at g; simpa using g))

section
variable (W : World)
theorem rm {x y : Nat} (h : FloatKind.f64.format.mul x 4636737291354636288 = some y) : (binOp .mul 22 (.float .f64 x) (.float .f64 4636737291354636288)).run Try.prog W = .ok (.float .f64 y) W := run_float_arith W .mul 22 .f64 _ _ _ h
theorem ra {y z : Nat} (h : FloatKind.f64.format.add y 4602678819172646912 = some z) : (binOp .add 22 (.float .f64 y) (.float .f64 4602678819172646912)).run Try.prog W = .ok (.float .f64 z) W := run_float_arith W .add 22 .f64 _ _ _ h
theorem rd {x y : Nat} (h : FloatKind.f64.format.div 4607182418800017408 x = some y) : (binOp .quo 22 (.float .f64 4607182418800017408) (.float .f64 x)).run Try.prog W = .ok (.float .f64 y) W := run_float_arith W .quo 22 .f64 _ _ _ h
theorem rq {x y : Nat} (h : FloatKind.f64.format.div x 4636737291354636288 = some y) : (binOp .quo 22 (.float .f64 x) (.float .f64 4636737291354636288)).run Try.prog W = .ok (.float .f64 y) W := run_float_arith W .quo 22 .f64 _ _ _ h
theorem rc {z : Nat} {k : Int} (h : floatToIntVal .f64 z .i64 = some k) : (convert 22 2 (.float .f64 z)).run Try.prog W = .ok (.int .i64 k) W := run_convert_float_int W 22 2 .f64 .i64 z k (by kernel_rfl) Try.underlying2 h
end

set_option maxHeartbeats 2000000 in
theorem nw_pos (b r : Int) (hb : 1 ≤ b) (hr : 0 ≤ r) (hrb : r ≤ b) (hm : b ≤ 461145544565510) (w : World) :
    Calls Try.prog 3 #[.int .i64 b, .int .i64 r] w fun e w' => e = .returned (.bool true) ∧ Grown w w' := by
  obtain ⟨h, h1, h2, h3, h4, h5, h6⟩ := hund b r hb hr hrb hm
  have F := float_ok h h1
  have X := xok_of h F
  have NM := hideM (nm_pos b r h hb hr hrb hm h2 F)
  clear h2 F
  generalize fx h = x at X NM
  obtain ⟨le, hself, ⟨y, z, hy, hz, hk⟩, hdv, hinv⟩ := X
  have m1 := fun W => rm W hy
  have m2 := fun W => ra W hz
  have m3 := fun W => rc W hk
  have m4 := fun W => rq W hdv
  clear hy hz hk hdv
  have z0 : (b == 0) = false := by rw [beq_eq_false_iff_ne]; omega
  rcases le with ⟨l1, l2, l3⟩ | ⟨l1, l2, l3⟩
  all_goals
    rcases hinv with ⟨i1, i2, i3⟩ | ⟨⟨i1, i2, i3⟩, y0, hi1, hi2⟩
    · go_enter Try.func3, Try.ntmps3
      go_wp2_with (go_at_call 6; refine (NM.out _).mono ?_; rintro e w1 ⟨rfl, hg⟩)
      go_ret
      exact ⟨rfl, hg.alloc _ _⟩
    · have m5 := fun W => rd W hi1
      go_enter Try.func3, Try.ntmps3
      go_wp2_with (go_at_call 6; refine (NM.out _).mono ?_; rintro e w1 ⟨rfl, hg⟩)
      go_ret
      exact ⟨rfl, hg.alloc _ _⟩

set_option maxHeartbeats 2000000 in
theorem nw_zero (w : World) :
    Calls Try.prog 3 #[.int .i64 0, .int .i64 0] w fun e w' => e = .returned (.bool true) ∧ Grown w w' := by
  have X := xok_of 0 (float_ok 0 (by omega))
  rw [fx0] at X
  obtain ⟨le, hself, ⟨y, z, hy, hz, hk⟩, hdv, hinv⟩ := X
  have hk : floatToIntVal .f64 z .i64 = some 0 := hk
  have hdv : FloatKind.f64.format.div (floatOfInt .f64 0) 4636737291354636288 = some 0 := hdv
  have m1 := fun W => rm W hy
  have m2 := fun W => ra W hz
  have m3 := fun W => rc W hk
  have m4 := fun W => rq W hdv
  clear hy hz
  rcases le with ⟨l1, l2, l3⟩ | ⟨l1, l2, l3⟩
  all_goals
    rcases hinv with ⟨i1, i2, i3⟩ | ⟨⟨i1, i2, i3⟩, y0, hi1, hi2⟩
    · go_enter Try.func3, Try.ntmps3
      go_wp2_with (go_at_call 6; refine (nm_zero 0 _).mono ?_; rintro e w1 ⟨rfl, hg⟩)
      go_ret
      exact ⟨rfl, hg.alloc _ _⟩
    · have m5 := fun W => rd W hi1
      go_enter Try.func3, Try.ntmps3
      go_wp2_with (go_at_call 6; refine (nm_zero 0 _).mono ?_; rintro e w1 ⟨rfl, hg⟩)
      go_ret
      exact ⟨rfl, hg.alloc _ _⟩

theorem nw_any (b r : Int) (w : World) :
    Calls Try.prog 3 #[.int .i64 b, .int .i64 r] w fun e w' => e = .returned (.bool true) ∧ Grown w w' := by
  by_cases h1 : b < 0
  · go_enter Try.func3, Try.ntmps3
    go_wp2
    go_ret
    exact ⟨rfl, Grown.refl _⟩
  · by_cases h2 : r < 0
    · go_enter Try.func3, Try.ntmps3
      go_wp2
      go_ret
      exact ⟨rfl, Grown.refl _⟩
    · by_cases h3 : b < r
      · go_enter Try.func3, Try.ntmps3
        go_wp2
        go_ret
        exact ⟨rfl, Grown.refl _⟩
      · by_cases h4 : 461145544565510 < b
        · go_enter Try.func3, Try.ntmps3
          go_wp2
          go_ret
          exact ⟨rfl, Grown.refl _⟩
        · by_cases h5 : b = 0
          · have h6 : r = 0 := by omega
            subst h5 h6
            exact nw_zero w
          · exact nw_pos b r (by omega) (by omega) (by omega) (by omega) w
end Go.Proofs.Qxb6601842a
