import Derived.Test.Qxb6601842aNm
import Derived.Test.Qxb6601842aFlAll
namespace Go.Proofs.Qxb6601842a
open Go.RowKit
attribute [local go_sem] run_store_float

theorem hund_s (b r : Int) (hb : 1 ≤ b) (hr : 0 ≤ r) (hrb : r ≤ b) :
    ∃ h : Nat, h ≤ 10000 ∧ (2 * ((b - r) * 10000) + b) / (2 * b) = (h : Int) := by
  have p2 : 0 < 2 * b := by omega
  have h0 : 0 ≤ (2 * ((b - r) * 10000) + b) / (2 * b) := Int.ediv_nonneg (by omega) (by omega)
  have h1 : (2 * ((b - r) * 10000) + b) / (2 * b) < 10001 := Int.ediv_lt_of_lt_mul p2 (by omega)
  exact ⟨((2 * ((b - r) * 10000) + b) / (2 * b)).toNat, by omega, by omega⟩

theorem scaled (b r k : Int) (hk : 1 ≤ k) : (2 * ((b * k - r * k) * 10000) + b * k) / (2 * (b * k)) = (2 * ((b - r) * 10000) + b) / (2 * b) := by
  have e1 : 2 * ((b * k - r * k) * 10000) + b * k = k * (2 * ((b - r) * 10000) + b) := by
    rw [← Int.sub_mul, Int.mul_add, Int.mul_comm b k, Int.mul_comm (b - r) k, Int.mul_assoc k, Int.mul_left_comm 2 k]
  have e2 : 2 * (b * k) = k * (2 * b) := by rw [Int.mul_comm b k, Int.mul_left_comm]
  rw [e1, e2, Int.mul_ediv_mul_of_pos _ _ (by omega)]

theorem prod_bd (b r k : Int) (hb : 0 ≤ b) (hr : 0 ≤ r) (hrb : r ≤ b) (hk : 1 ≤ k) (hq : b ≤ 461145544565510 / k) : 0 ≤ b * k ∧ b * k ≤ 461145544565510 ∧ 0 ≤ r * k ∧ r * k ≤ b * k := by
  refine ⟨Int.mul_nonneg hb (by omega), ?_, Int.mul_nonneg hr (by omega), Int.mul_le_mul_of_nonneg_right hrb (by omega)⟩
  have h1 : b * k ≤ 461145544565510 / k * k := Int.mul_le_mul_of_nonneg_right hq (by omega)
  have h2 : 461145544565510 / k * k ≤ 461145544565510 := Int.ediv_mul_le _ (by omega)
  omega

theorem grown_trans {a b c : World} (h : Grown a b) (k : Grown b c) : Grown a c :=
  ⟨World.keptBut_trans h.1 k.1, fun x => (k.2.1 x).trans (h.2.1 x), Nat.le_trans h.2.2 k.2.2⟩

/-- the first answer's third cell is still there behind the second call -/
theorem kept_cell {w1 w2 : World} {C : Array Value} {t : TypeId} (h : Grown (w1.alloc (.cells C t)) w2) (j : Nat) : w2.cell? ⟨w1.heap.size, j, none⟩ = C[j]? ∧ w1.heap.size < w2.heap.size := by
  have hs : (w1.alloc (.cells C t)).heap.size = w1.heap.size + 1 := by simp
  refine ⟨?_, by have := h.2.2; omega⟩
  rw [h.1.cell (by omega) (fun f => f)]
  exact World.cell?_alloc_mark w1 C t (0, 0) j

set_option maxHeartbeats 2000000 in
theorem ns_pos (b r k : Int) (hb : 1 ≤ b) (hr : 0 ≤ r) (hrb : r ≤ b) (hm : b ≤ 461145544565510) (hk : 1 ≤ k) (hq : b ≤ 461145544565510 / k) (w : World) :
    Calls Try.prog 5 #[.int .i64 b, .int .i64 r, .int .i64 k] w fun e w' => e = .returned (.bool true) ∧ Grown w w' := by
  obtain ⟨h, h1, h2⟩ := hund_s b r hb hr hrb
  obtain ⟨p1, p2, p3, p4⟩ := prod_bd b r k (by omega) hr hrb hk hq
  have p5 : 1 ≤ b * k := by have := Int.mul_le_mul_of_nonneg_left hk (show 0 ≤ b by omega); omega
  have F := float_ok h h1
  have N1 := hideM (nm_pos b r h hb hr hrb hm h2 F)
  have N2 := hideM (nm_pos (b * k) (r * k) h p5 p3 p4 p2 ((scaled b r k hk).trans h2) F)
  have self : (FloatKind.f64.format.order (fx h) (fx h) == some .eq) = true := by rw [F.self]; rfl
  clear h2 F
  generalize fx h = x at N1 N2 self
  go_enter Try.func5, Try.ntmps5
  go_wp2_with fail
  refine (N1.out _).mono ?_
  rintro e w1 ⟨rfl, hg⟩
  go_wp2_with fail
  refine (N2.out _).mono ?_
  rintro e w2 ⟨rfl, hg2⟩
  obtain ⟨hc, hz⟩ := kept_cell hg2 2
  have hc : w2.cell? ⟨w1.heap.size, 2, none⟩ = some (.float .f64 x) := hc
  have HG := hideM hg2
  clear hg2
  go_wp2
  go_ret
  exact ⟨rfl, (grown_trans (hg.alloc _ _) HG.out).alloc _ _⟩

set_option maxHeartbeats 2000000 in
theorem ns_zero (k : Int) (hk : 1 ≤ k) (w : World) :
    Calls Try.prog 5 #[.int .i64 0, .int .i64 0, .int .i64 k] w fun e w' => e = .returned (.bool true) ∧ Grown w w' := by
  have hq : 0 ≤ 461145544565510 / k := Int.ediv_nonneg (by omega) (by omega)
  have self : (FloatKind.f64.format.order 0 0 == some .eq) = true := by
    have := (float_ok 0 (by omega)).self
    rw [fx0] at this
    rw [this]; rfl
  go_enter Try.func5, Try.ntmps5
  go_wp2_with fail
  refine (nm_zero 0 _).mono ?_
  rintro e w1 ⟨rfl, hg⟩
  go_wp2_with fail
  refine (nm_zero 0 _).mono ?_
  rintro e w2 ⟨rfl, hg2⟩
  obtain ⟨hc, hz⟩ := kept_cell hg2 2
  have hc : w2.cell? ⟨w1.heap.size, 2, none⟩ = some (.float .f64 0) := hc
  have HG := hideM hg2
  clear hg2
  go_wp2
  go_ret
  exact ⟨rfl, (grown_trans (hg.alloc _ _) HG.out).alloc _ _⟩

set_option maxHeartbeats 1000000 in
theorem ns_any (b r k : Int) (w : World) :
    Calls Try.prog 5 #[.int .i64 b, .int .i64 r, .int .i64 k] w fun e w' => e = .returned (.bool true) ∧ Grown w w' := by
  by_cases h1 : b < 0
  · go_enter Try.func5, Try.ntmps5
    go_wp2
    go_ret
    exact ⟨rfl, Grown.refl _⟩
  · by_cases h2 : r < 0
    · go_enter Try.func5, Try.ntmps5
      go_wp2
      go_ret
      exact ⟨rfl, Grown.refl _⟩
    · by_cases h3 : b < r
      · go_enter Try.func5, Try.ntmps5
        go_wp2
        go_ret
        exact ⟨rfl, Grown.refl _⟩
      · by_cases h4 : 461145544565510 < b
        · go_enter Try.func5, Try.ntmps5
          go_wp2
          go_ret
          exact ⟨rfl, Grown.refl _⟩
        · by_cases h5 : k < 1
          · go_enter Try.func5, Try.ntmps5
            go_wp2
            go_ret
            exact ⟨rfl, Grown.refl _⟩
          · by_cases h6 : 461145544565510 / k < b
            · go_enter Try.func5, Try.ntmps5
              go_wp2
              go_ret
              exact ⟨rfl, Grown.refl _⟩
            · by_cases h7 : b = 0
              · have h8 : r = 0 := by omega
                subst h7 h8
                exact ns_zero k (by omega) w
              · exact ns_pos b r k (by omega) (by omega) (by omega) (by omega) (by omega) (by omega) w
end Go.Proofs.Qxb6601842a
