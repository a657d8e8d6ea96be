import Derived.Test.Qxb6601812aProg
import Derived.Test.Qxb6601812aSpPlain
import Derived.WalkKit
import Derived.WalkLawsBesides
import Derived.WalkSpells
namespace Go.Proofs.Qxb6601812a
open Go.RowKit

theorem hideS {p : Prop} (h : p) : Hid p := h

theorem bools_any (s : ByteArray) (n : Int) (hm : s.size ≤ maxLen) (w : World) :
    Calls Try.prog 9 #[.string s, .int .i64 n] w fun e w' => e = .returned (.bool (decide (s.size ≤ 1048576))) ∧ w' = w := by
  unfold maxLen at hm
  by_cases h : s.size ≤ 1048576
  · have e : decide (s.size ≤ 1048576) = true := by simpa using h
    rw [e]
    go_enter Try.func9, Try.ntmps9
    go_wp2
    go_ret
    exact ⟨rfl, rfl⟩
  · have e : decide (s.size ≤ 1048576) = false := by simpa using h
    rw [e]
    go_enter Try.func9, Try.ntmps9
    go_wp2
    go_ret
    exact ⟨rfl, rfl⟩

theorem ret2s {b b' : Bool} {q q' : Int} (h : b = b') (hb : q = q') : Ending.returned (.tuple #[.bool b, .int .i64 q]) = .returned (.tuple #[.bool b', .int .i64 q']) := by rw [h, hb]

set_option maxHeartbeats 1000000 in
theorem scan_any (p : ByteArray) (hm : p.size ≤ 1048576) (w : World) :
    Calls Try.prog 11 #[.string p] w fun e w' => e = .returned (.tuple #[.bool (scn p 0 p.size).1, .int .i64 ((scn p 0 p.size).2 : Nat)]) ∧ w' = w := by
  go_enter Try.func11, Try.ntmps11
  go_wp2
  go_loop [4, 5, 6] (fun d t i => ∃ (k D : Nat) (T : Bool), k ≤ p.size ∧ i = .int .i64 k ∧ d = .int .i64 (D : Nat) ∧ t = .bool T ∧ D ≤ k ∧ scn p 0 k = (T, D)) (fun _ _ i => p.size - (intOf i).toNat)
  case atStart => exact ⟨0, 0, false, Nat.zero_le _, rfl, rfl, rfl, Nat.le_refl _, rfl⟩
  case round =>
    obtain ⟨k, D, T, hk, rfl, rfl, rfl, hD, hscn⟩ := hrel
    have HS := hideS hscn
    clear hscn
    by_cases hlt : k < p.size
    · have hb := bt_eq p k hlt
      have HN : Hid (scn p 0 (k + 1) = stp (bt p k) (T, D)) := by show scn p 0 (k + 1) = _; simp only [scn]; rw [HS.out, Nat.zero_add]
      have hb' : (p[k].toNat : Int) = bt p k := hb.symm
      clear hb
      generalize bt p k = c at hb' HN
      by_cases c91 : c = 91
      · subst c91
        go_wp2
        go_round
        case rel => exact ⟨k + 1, D + 1, T, by omega, by go_num, by go_num, rfl, by omega, by rw [HN.out]; simp [stp]⟩
        case measure => simp [intOf]; omega
      · by_cases c93 : c = 93
        · subst c93
          by_cases hz : D = 0
          · subst hz
            go_wp2
            go_round
            case rel => exact ⟨k + 1, 0, T, by omega, by go_num, rfl, rfl, by omega, by rw [HN.out]; simp [stp]⟩
            case measure => simp [intOf]; omega
          · go_wp2
            go_round
            case rel => exact ⟨k + 1, D - 1, T, by omega, by go_num, by go_num, rfl, by omega, by rw [HN.out]; simp [stp]⟩
            case measure => simp [intOf]; omega
        · by_cases c44 : c = 44
          · subst c44
            by_cases hz : D = 0
            · subst hz
              go_wp2
              go_round
              case rel => exact ⟨k + 1, 0, true, by omega, by go_num, rfl, rfl, by omega, by rw [HN.out]; simp [stp]⟩
              case measure => simp [intOf]; omega
            · go_wp2
              go_round
              case rel => exact ⟨k + 1, D, T, by omega, by go_num, rfl, rfl, by omega, by rw [HN.out]; simp [stp, hz]⟩
              case measure => simp [intOf]; omega
          · go_wp2
            go_round
            case rel => exact ⟨k + 1, D, T, by omega, by go_num, rfl, rfl, by omega, by rw [HN.out]; simp [stp, c91, c93, c44]⟩
            case measure => simp [intOf]; omega
    · have e : k = p.size := by omega
      subst e
      go_wp2
      go_ret2
      exact ⟨ret2s (by rw [HS.out]) (by rw [HS.out]), rfl⟩
end Go.Proofs.Qxb6601812a
