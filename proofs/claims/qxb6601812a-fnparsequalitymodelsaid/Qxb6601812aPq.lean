import Derived.Test.Qxb6601812aProg
import Derived.Test.Qxb6601812aPqPlain
import Derived.WalkKit
import Derived.WalkLawsBesides
import Derived.WalkSpells
import Derived.Deep.QuietTactic
import Derived.BigQuiet
namespace Go.Proofs.Qxb6601812a
open Go.RowKit

theorem ret2_eq {q q' : Int} {b b' : Bool} (h : q = q') (hb : b = b') : Ending.returned (.tuple #[.int .i64 q, .bool b]) = .returned (.tuple #[.int .i64 q', .bool b']) := by rw [h, hb]

/-- the empty string, or a first byte that is neither 0 nor 1 -/
theorem pq_head (s : ByteArray) (w : World) (h : s.size = 0 ∨ ∃ h : 0 < s.size, (s[0].toNat : Int) ≠ 48 ∧ (s[0].toNat : Int) ≠ 49) :
    Calls Try.prog 20 #[.string s] w fun e w' => e = .returned (.tuple #[.int .i64 0, .bool false]) ∧ ∃ n, w' = w.drewN n := by
  rcases h with h | ⟨h, h0, h1⟩
  · have hne := isEmpty0 s h
    go_enter Try.func20, Try.ntmps20
    go_wp2
    go_ret2
    exact ⟨rfl, 0, rfl⟩
  · have hne := notEmpty s h
    have b0 : ((s[0].toNat : Int) != 48) = true := by simpa using h0
    have b1 : ((s[0].toNat : Int) != 49) = true := by simpa using h1
    go_enter Try.func20, Try.ntmps20
    go_wp2
    go_ret2
    exact ⟨rfl, 0, rfl⟩

set_option maxHeartbeats 400000 in
theorem pq_mid (s : ByteArray) (w : World) (h : 0 < s.size) (hm : s.size ≤ maxLen) (h0 : (s[0].toNat : Int) = 48 ∨ (s[0].toNat : Int) = 49) (h2 : 2 ≤ s.size) (hb : bt s 1 ≠ 46 ∨ 6 ≤ s.size) :
    Calls Try.prog 20 #[.string s] w fun e w' => e = .returned (.tuple #[.int .i64 0, .bool false]) ∧ ∃ n, w' = w.drewN n := by
  have hne := notEmpty s h
  have hne2 : (s.extract 1 s.size).toList.isEmpty = false := notEmpty _ (by simp; omega)
  unfold maxLen at hm
  have hx : 0 < (s.extract 1 s.size).size := by simp; omega
  have e1 : (((s.extract 1 s.size)[0]'hx).toNat : Int) = bt s 1 := bt_ext s 0 hx
  rcases h0 with h0 | h0
  all_goals
    go_enter Try.func20, Try.ntmps20
    go_wp2
    go_quiet (fail)
    rcases hb with hb | hb
    · go_wp2
      go_ret2
      exact ⟨rfl, _, rfl⟩
    · by_cases hb' : bt s 1 = 46
      · go_wp2
        go_ret2
        exact ⟨rfl, _, rfl⟩
      · go_wp2
        go_ret2
        exact ⟨rfl, _, rfl⟩

theorem hideH {p : Prop} (h : p) : Hid p := h

/-- what the loop leaves at either of its ends -/
def pqEnd (s : ByteArray) (e : Ending) : Prop := e = .returned (.tuple #[.int .i64 (pqV s), .bool (pqB s)])

theorem pqEnd_bad (s : ByteArray) (h : pqOk s = false) : pqEnd s (.returned (.tuple #[.int .i64 0, .bool false])) := by
  unfold pqEnd pqV pqB; rw [h]; rfl

theorem pqEnd_good (s : ByteArray) (h : pqOk s = true) (k : Nat) (hk : k = s.size - 2) (b : Bool) (hb : b = decide (acc s k ≤ 1000)) : pqEnd s (.returned (.tuple #[.int .i64 (acc s k), .bool b])) := by
  unfold pqEnd pqV pqB; rw [h, hb, hk]; rfl

theorem digs_snoc {s : ByteArray} {k : Nat} (h : ∀ j, j < k → 48 ≤ bt s (j + 2) ∧ bt s (j + 2) ≤ 57) (h1 : 48 ≤ bt s (k + 2)) (h2 : bt s (k + 2) ≤ 57) : ∀ j, j < k + 1 → 48 ≤ bt s (j + 2) ∧ bt s (j + 2) ≤ 57 := by
  intro j hj
  by_cases e : j = k
  · subst e; exact ⟨h1, h2⟩
  · exact h j (by omega)

theorem int_eq {k : IntKind} {a b : Int} (h : a = b) : Value.int k a = Value.int k b := by rw [h]

theorem acc_succ (s : ByteArray) (k : Nat) : acc s (k + 1) = acc s k + (bt s (k + 2) - 48) * sc k := rfl

set_option maxHeartbeats 2000000 in
theorem pq_loop (s : ByteArray) (w : World) (h : 0 < s.size) (h5 : s.size ≤ 5) (h0 : (s[0].toNat : Int) = 48 ∨ (s[0].toNat : Int) = 49) (hd : s.size = 1 ∨ bt s 1 = 46) :
    Calls Try.prog 20 #[.string s] w fun e w' => pqEnd s e ∧ ∃ n, w' = w.drewN n := by
  have hne := notEmpty s h
  have g0 : bt s 0 = 48 ∨ bt s 0 = 49 := by rw [bt_eq s 0 h]; exact h0
  have a0 : acc s 0 = ((s[0].toNat : Int) - 48) * 1000 := by rw [← bt_eq s 0 h]; rfl
  have A0 := hideH a0
  have G0 := hideH g0
  have HD := hideH hd
  clear a0 g0
  by_cases h1 : s.size = 1
  · have hne2 : (s.extract 1 s.size).toList.isEmpty = true := isEmpty0 _ (by simp; omega)
    have YES := hideH (pqOk_mk (s := s) (by omega) h5 G0.out HD.out (allDig_mk s fun j hj => absurd hj (by omega)))
    rcases h0 with h0 | h0
    all_goals
      go_enter Try.func20, Try.ntmps20
      go_wp2
      go_quiet (fail)
      go_wp2
      refine wp_loop_rounds 1 ?_
      rw [rounds_succ]
      go_wp2
      go_ret2
      refine ⟨?_, _, rfl⟩
      have e := pqEnd_good s YES.out 0 (by omega) _ rfl
      rw [A0.out, h0] at e
      exact e
  · have hd1 : bt s 1 = 46 := by omega
    clear hd
    have hne2 : (s.extract 1 s.size).toList.isEmpty = false := notEmpty _ (by simp; omega)
    have hx : 0 < (s.extract 1 s.size).size := by simp; omega
    have e1 : (((s.extract 1 s.size)[0]'hx).toNat : Int) = 46 := by rw [bt_ext s 0 hx]; exact hd1
    clear hd1
    rcases h0 with h0 | h0
    all_goals
      go_enter Try.func20, Try.ntmps20
      go_wp2
      go_quiet (fail)
      go_wp2
      clear e1 hne2 hne
      go_loop [4, 6, 7] (fun q i c => ∃ k : Nat, k + 2 ≤ s.size ∧ i = .int .i64 (k + 1) ∧ c = .int .i64 (sc k) ∧ q = .int .i64 (acc s k) ∧ ∀ j, j < k → 48 ≤ bt s (j + 2) ∧ bt s (j + 2) ≤ 57) (fun _ i _ => s.size - (intOf i).toNat)
      case atStart => exact ⟨0, by omega, rfl, rfl, by rw [A0.out, h0]; rfl, fun j hj => absurd hj (by omega)⟩
      case round =>
        obtain ⟨k, hk, rfl, rfl, rfl, hdg⟩ := hrel
        have hbd := acc_bd s G0.out k (by omega) hdg
        have H := hideH hdg
        clear hdg
        by_cases hlt : k + 2 < s.size
        · have hk3 : k = 0 ∨ k = 1 ∨ k = 2 := by omega
          have hx1 : k + 1 < (s.extract 1 s.size).size := by simp; omega
          have e2 := bt_ext s (k + 1) hx1
          have AK := hideH (acc_succ s k)
          by_cases hdig : 48 ≤ bt s (k + 2) ∧ bt s (k + 2) ≤ 57
          · obtain ⟨hd1, hd2⟩ := hdig
            have DS := hideH (digs_snoc H.out hd1 hd2)
            rcases hk3 with rfl | rfl | rfl
            · simp only [Nat.zero_add, Nat.reduceAdd] at e2 hx1 hlt hd1 hd2
              have s0 : sc 0 = 100 := rfl
              go_wp2
              go_round
              case rel => exact ⟨1, by omega, rfl, rfl, int_eq (by rw [AK.out]; rfl), DS.out⟩
              case measure => simp [intOf]; omega
            · simp only [Nat.reduceAdd] at e2 hx1 hlt hd1 hd2
              have s0 : sc 1 = 10 := rfl
              go_wp2
              go_round
              case rel => exact ⟨2, by omega, rfl, rfl, int_eq (by rw [AK.out]; rfl), DS.out⟩
              case measure => simp [intOf]; omega
            · simp only [Nat.reduceAdd] at e2 hx1 hlt hd1 hd2
              have s0 : sc 2 = 1 := rfl
              go_wp2
              go_round
              case rel => exact ⟨3, by omega, rfl, rfl, int_eq (by rw [AK.out, s0, Int.mul_one]), DS.out⟩
              case measure => simp [intOf]; omega
          · have NO := hideH (pqOk_no (s := s) fun hh => hdig (allDig_at hh.2.2.2.2 k (by omega)))
            by_cases hlo : bt s (k + 2) < 48
            · clear hdig
              go_wp2
              go_ret2
              exact ⟨pqEnd_bad s NO.out, _, rfl⟩
            · have hhi : 57 < bt s (k + 2) := by omega
              clear hdig
              go_wp2
              go_ret2
              exact ⟨pqEnd_bad s NO.out, _, rfl⟩
        · have YES := hideH (pqOk_mk (s := s) (by omega) h5 G0.out HD.out (allDig_mk s fun j hj => H.out j (by omega)))
          go_wp2
          go_ret2
          exact ⟨pqEnd_good s YES.out k (by omega) _ rfl, _, rfl⟩

/-- parseQuality, at every string -/
theorem pq_any (s : ByteArray) (hm : s.size ≤ maxLen) (w : World) :
    Calls Try.prog 20 #[.string s] w fun e w' => e = .returned (.tuple #[.int .i64 (pqV s), .bool (pqB s)]) ∧ ∃ n, w' = w.drewN n := by
  by_cases hz : s.size = 0
  · refine (pq_head s w (Or.inl hz)).mono fun e w' ⟨he, hw⟩ => ⟨?_, hw⟩
    rw [he]; exact pqEnd_bad s (pqOk_no fun hh => by omega)
  · have hp : 0 < s.size := by omega
    by_cases h0 : (s[0].toNat : Int) = 48 ∨ (s[0].toNat : Int) = 49
    · by_cases hd : s.size = 1 ∨ bt s 1 = 46
      · by_cases h5 : s.size ≤ 5
        · exact pq_loop s w hp h5 h0 hd
        · refine (pq_mid s w hp hm h0 (by omega) (Or.inr (by omega))).mono fun e w' ⟨he, hw⟩ => ⟨?_, hw⟩
          rw [he]; exact pqEnd_bad s (pqOk_no fun hh => by omega)
      · refine (pq_mid s w hp hm h0 (by omega) (Or.inl (by omega))).mono fun e w' ⟨he, hw⟩ => ⟨?_, hw⟩
        rw [he]; exact pqEnd_bad s (pqOk_no fun hh => hd hh.2.2.2.1)
    · refine (pq_head s w (Or.inr ⟨hp, by omega, by omega⟩)).mono fun e w' ⟨he, hw⟩ => ⟨?_, hw⟩
      rw [he]; exact pqEnd_bad s (pqOk_no fun hh => h0 (by have := hh.2.2.1; rw [bt_eq s 0 hp] at this; exact this))

/-- ZZparseQuality hands it on -/
theorem zzpq_any (s : ByteArray) (hm : s.size ≤ maxLen) (w : World) :
    Calls Try.prog 16 #[.string s] w fun e w' => e = .returned (.tuple #[.int .i64 (pqV s), .bool (pqB s)]) ∧ ∃ n, w' = w.drewN n := by
  go_enter Try.func16, Try.ntmps16
  go_wp2_with (go_at_call 20; refine (pq_any s hm _).mono ?_; rintro e w' ⟨rfl, n, rfl⟩)
  go_ret2
  exact ⟨rfl, n, rfl⟩
end Go.Proofs.Qxb6601812a
