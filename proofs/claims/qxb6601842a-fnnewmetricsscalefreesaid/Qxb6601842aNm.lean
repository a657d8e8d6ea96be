import Derived.Test.Qxb6601842aProg
import Derived.Test.Qxb6601842aFlSpec
import Derived.WalkKit
import Derived.WalkLawsBesides
import Derived.WalkSpells
import Derived.RowKit3
namespace Go.Proofs.Qxb6601842a
open Go.RowKit

theorem run_store_float (P : Program) (w : World) (a : Addr) (m : Mode) (k : FloatKind) (x : Nat) : (store a (.float k x) m).run P w = stored P w a (.float k x) m := run_store P w a _ m rfl
attribute [local go_sem] run_store_float

theorem hideM {p : Prop} (h : p) : Hid p := h

theorem run_quo (h : Nat) (F : FloatOk h) (W : World) : (binOp .quo 22 (.float .f64 (floatOfInt .f64 h)) (.float .f64 4636737291354636288)).run Try.prog W = .ok (.float .f64 (fx h)) W :=
  run_float_arith W .quo 22 .f64 _ _ _ F.div

set_option maxHeartbeats 1000000 in
theorem nm_zero (r : Int) (w : World) :
    Calls Try.prog 6 #[.int .i64 0, .int .i64 r] w fun e w' => e = .returned (.agg #[.int .i64 0, .int .i64 r, .float .f64 0]) ∧ Grown w w' := by
  go_enter Try.func6, Try.ntmps6
  go_wp2
  exact bodyPost_ret (v := .agg #[.int .i64 0, .int .i64 r, .float .f64 0]) (by simp [results, Try.results6, go_sem]) rfl ⟨rfl, ((Grown.refl _).alloc _ _).alloc _ _⟩

set_option maxHeartbeats 1000000 in
theorem nm_pos (b r : Int) (h : Nat) (hb : 1 ≤ b) (hr : 0 ≤ r) (hrb : r ≤ b) (hm : b ≤ 461145544565510) (hh : (2 * ((b - r) * 10000) + b) / (2 * b) = (h : Int)) (F : FloatOk h) (w : World) :
    Calls Try.prog 6 #[.int .i64 b, .int .i64 r] w fun e w' => e = .returned (.agg #[.int .i64 b, .int .i64 r, .float .f64 (fx h)]) ∧ Grown w w' := by
  have hq := run_quo h F
  go_enter Try.func6, Try.ntmps6
  go_wp2
  exact bodyPost_ret (v := .agg #[.int .i64 b, .int .i64 r, .float .f64 (fx h)]) (by simp [results, Try.results6, go_sem]) rfl ⟨rfl, ((Grown.refl _).alloc _ _).alloc _ _⟩
end Go.Proofs.Qxb6601842a
