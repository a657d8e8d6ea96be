import Derived.Test.Qxb6601812aPq
import Derived.RowKit3
namespace Go.Proofs.Qxb6601812a
open Go.RowKit

theorem boolsq_any (s : ByteArray) (hm : s.size ≤ maxLen) (w : World) :
    Calls Try.prog 15 #[.string s] w fun e w' => e = .returned (.bool (decide (s.size ≤ 1048576))) ∧ w' = w := by
  unfold maxLen at hm
  by_cases h : s.size ≤ 1048576
  · have e : decide (s.size ≤ 1048576) = true := by simpa using h
    rw [e]
    go_enter Try.func15, Try.ntmps15
    go_wp2
    go_ret
    exact ⟨rfl, rfl⟩
  · have e : decide (s.size ≤ 1048576) = false := by simpa using h
    rw [e]
    go_enter Try.func15, Try.ntmps15
    go_wp2
    go_ret
    exact ⟨rfl, rfl⟩

/-- the three places of the fraction behind k digits -/
structure Frac (s : ByteArray) (k : Nat) (a b c : Int) (Z : Bool) : Prop where
  top : k ≤ 3
  le : k = 0 ∨ k + 2 ≤ s.size
  dig : ∀ j, j < k → 48 ≤ bt s (j + 2) ∧ bt s (j + 2) ≤ 57
  pa : a = if 1 ≤ k then bt s 2 - 48 else 0
  pb : b = if 2 ≤ k then bt s 3 - 48 else 0
  pc : c = if 3 ≤ k then bt s 4 - 48 else 0
  z : (Z = true) ↔ (a = 0 ∧ b = 0 ∧ c = 0)

theorem Frac.bd {s : ByteArray} {k : Nat} {a b c : Int} {Z : Bool} (h : Frac s k a b c Z) : 0 ≤ a ∧ a ≤ 9 ∧ 0 ≤ b ∧ b ≤ 9 ∧ 0 ≤ c ∧ c ≤ 9 := by
  have d0 := h.dig 0
  have d1 := h.dig 1
  have d2 := h.dig 2
  have pa := h.pa
  have pb := h.pb
  have pc := h.pc
  simp only [Nat.zero_add, Nat.reduceAdd] at d0 d1 d2
  have a' : 0 ≤ a ∧ a ≤ 9 := by rw [pa]; split <;> omega
  have b' : 0 ≤ b ∧ b ≤ 9 := by rw [pb]; split <;> omega
  have c' : 0 ≤ c ∧ c ≤ 9 := by rw [pc]; split <;> omega
  omega

theorem frac_start (s : ByteArray) : Frac s 0 0 0 0 true := ⟨by omega, Or.inl rfl, fun j hj => absurd hj (by omega), rfl, rfl, rfl, by simp⟩

theorem frac_0 {s : ByteArray} {a b c : Int} {Z Z' : Bool} (h : Frac s 0 a b c Z) (hk : 0 + 2 < s.size) (h1 : 48 ≤ bt s (0 + 2)) (h2 : bt s (0 + 2) ≤ 57) (hz : Z' = (Z && decide (bt s (0 + 2) = 48))) : Frac s 1 (bt s (0 + 2) - 48) b c Z' := by
  have pb := h.pb; have pc := h.pc; have pa := h.pa; have z := h.z
  simp at pa pb pc
  subst pa pb pc
  refine ⟨by omega, Or.inr (by omega), digs_snoc h.dig h1 h2, by simp, by simp, by simp, ?_⟩
  rw [hz]; simp at z ⊢; rw [z]; simp; omega

theorem frac_1 {s : ByteArray} {a b c : Int} {Z Z' : Bool} (h : Frac s 1 a b c Z) (hk : 1 + 2 < s.size) (h1 : 48 ≤ bt s (1 + 2)) (h2 : bt s (1 + 2) ≤ 57) (hz : Z' = (Z && decide (bt s (1 + 2) = 48))) : Frac s 2 a (bt s (1 + 2) - 48) c Z' := by
  have pb := h.pb; have pc := h.pc; have z := h.z
  have pa := h.pa
  simp at pa pb pc
  subst pb pc
  refine ⟨by omega, Or.inr (by omega), digs_snoc h.dig h1 h2, by simpa using pa, by simp, by simp, ?_⟩
  rw [hz]; simp at z ⊢; rw [z]; omega

theorem frac_2 {s : ByteArray} {a b c : Int} {Z Z' : Bool} (h : Frac s 2 a b c Z) (hk : 2 + 2 < s.size) (h1 : 48 ≤ bt s (2 + 2)) (h2 : bt s (2 + 2) ≤ 57) (hz : Z' = (Z && decide (bt s (2 + 2) = 48))) : Frac s 3 a b (bt s (2 + 2) - 48) Z' := by
  have pb := h.pb; have pc := h.pc; have z := h.z
  have pa := h.pa
  simp at pa pb pc
  subst pc
  refine ⟨by omega, Or.inr (by omega), digs_snoc h.dig h1 h2, by simpa using pa, by simpa using pb, by simp, ?_⟩
  rw [hz]; simp at z ⊢; rw [z]; omega

/-- the value, read place by place, is the one that parseQuality gathers -/
theorem frac_val {s : ByteArray} {k : Nat} {a b c : Int} {Z : Bool} (h : Frac s k a b c Z) (hk : k = s.size - 2) : acc s (s.size - 2) = (bt s 0 - 48) * 1000 + a * 100 + b * 10 + c := by
  have a0 : acc s 0 = (bt s 0 - 48) * 1000 := rfl
  have a1 : acc s 1 = acc s 0 + (bt s 2 - 48) * 100 := rfl
  have a2 : acc s 2 = acc s 1 + (bt s 3 - 48) * 10 := rfl
  have a3 : acc s 3 = acc s 2 + (bt s 4 - 48) * 1 := rfl
  have pa := h.pa; have pb := h.pb; have pc := h.pc
  rw [← hk]
  have top := h.top
  have hk' : k = 0 ∨ k = 1 ∨ k = 2 ∨ k = 3 := by omega
  rcases hk' with rfl | rfl | rfl | rfl <;> simp at pa pb pc <;> omega

/-- both ends at once -/
theorem frac_end {s : ByteArray} {k : Nat} {a b c : Int} {Z : Bool} (h : Frac s k a b c Z) (hk : k = s.size - 2) (h1 : 1 ≤ s.size) (h5 : s.size ≤ 5) (h0 : bt s 0 = 48 ∨ bt s 0 = 49) (hd : s.size = 1 ∨ bt s 1 = 46) :
    pqV s = (bt s 0 - 48) * 1000 + a * 100 + b * 10 + c ∧ pqB s = (decide (bt s 0 = 48) || Z) := by
  have hok : pqOk s = true := pqOk_mk h1 h5 h0 hd (allDig_mk s fun j hj => h.dig j (by omega))
  have hv := frac_val h hk
  have hbd := h.bd
  unfold pqV pqB
  rw [hok]
  refine ⟨by simp only [if_true]; exact hv, ?_⟩
  simp only [if_true]
  rw [hv, Bool.eq_iff_iff]
  simp only [decide_eq_true_eq, Bool.or_eq_true, h.z]
  omega

theorem qm_bad (s : ByteArray) (hm : s.size ≤ maxLen) (w : World) (h : s.size = 0 ∨ 5 < s.size ∨ (0 < s.size ∧ s.size ≤ 5 ∧ bt s 0 ≠ 48 ∧ bt s 0 ≠ 49) ∨ (2 ≤ s.size ∧ s.size ≤ 5 ∧ (bt s 0 = 48 ∨ bt s 0 = 49) ∧ bt s 1 ≠ 46)) :
    Calls Try.prog 17 #[.string s] w fun e w' => e = .returned (.tuple #[.int .i64 0, .bool false]) ∧ w' = w := by
  unfold maxLen at hm
  rcases h with h | h | ⟨h, h5, h1, h2⟩ | ⟨h2, h5, h0, h1⟩
  · go_enter Try.func17, Try.ntmps17
    go_wp2
    go_ret2
    exact ⟨rfl, rfl⟩
  · have z0 : ((s.size : Int) == 0) = false := by rw [beq_eq_false_iff_ne]; omega
    have z5 : decide (5 < (s.size : Int)) = true := by simp; omega
    go_enter Try.func17, Try.ntmps17
    go_wp2
    go_ret2
    exact ⟨rfl, rfl⟩
  · have z0 : ((s.size : Int) == 0) = false := by rw [beq_eq_false_iff_ne]; omega
    have z5 : decide (5 < (s.size : Int)) = false := by simp; omega
    rw [bt_eq s 0 h] at h1 h2
    have b0 : ((s[0].toNat : Int) != 48) = true := by simpa using h1
    have b1 : ((s[0].toNat : Int) != 49) = true := by simpa using h2
    go_enter Try.func17, Try.ntmps17
    go_wp2
    go_ret2
    exact ⟨rfl, rfl⟩
  · have h : 0 < s.size := by omega
    have z0 : ((s.size : Int) == 0) = false := by rw [beq_eq_false_iff_ne]; omega
    have z5 : decide (5 < (s.size : Int)) = false := by simp; omega
    have z2 : decide (2 ≤ (s.size : Int)) = true := by simp; omega
    rw [bt_eq s 0 h] at h0
    rw [bt_eq s 1 (by omega)] at h1
    have b1 : ((s[1].toNat : Int) != 46) = true := by simpa using h1
    rcases h0 with h0 | h0
    all_goals
      go_enter Try.func17, Try.ntmps17
      go_wp2
      go_ret2
      exact ⟨rfl, rfl⟩

theorem qm_end0 {s : ByteArray} {x a b c : Int} {Z : Bool} (h : pqV s = (x - 48) * 1000 + a * 100 + b * 10 + c ∧ pqB s = (decide (x = 48) || Z)) (hx : x = 48) : pqEnd s (.returned (.tuple #[.int .i64 (a * 100 + b * 10 + c), .bool true])) := by
  unfold pqEnd
  rw [h.1, h.2, hx]
  exact ret2_eq (by omega) (by simp)

theorem qm_end1 {s : ByteArray} {x a b c : Int} {Z : Bool} (h : pqV s = (x - 48) * 1000 + a * 100 + b * 10 + c ∧ pqB s = (decide (x = 48) || Z)) (hx : x = 49) : pqEnd s (.returned (.tuple #[.int .i64 (1000 + a * 100 + b * 10 + c), .bool Z])) := by
  unfold pqEnd
  rw [h.1, h.2, hx]
  exact ret2_eq (by omega) (by simp)

set_option maxHeartbeats 4000000 in
theorem qm_loop (s : ByteArray) (w : World) (h : 0 < s.size) (h5 : s.size ≤ 5) (h0 : bt s 0 = 48 ∨ bt s 0 = 49) (hd : s.size = 1 ∨ bt s 1 = 46) :
    Calls Try.prog 17 #[.string s] w fun e w' => pqEnd s e ∧ Grown w w' := by
  have H0 := hideH h0
  have HD := hideH hd
  rw [bt_eq s 0 h] at h0
  have e0 := hideH (bt_eq s 0 h)
  have hd' : s.size = 1 ∨ (2 ≤ s.size ∧ ∃ h : 1 < s.size, (s[1].toNat : Int) = 46) := by
    rcases hd with hd | hd
    · exact Or.inl hd
    · by_cases e : s.size = 1
      · exact Or.inl e
      · have h1 : 1 < s.size := by omega
        exact Or.inr ⟨by omega, h1, by rw [← bt_eq s 1 h1]; exact hd⟩
  clear hd
  have z0 : ((s.size : Int) == 0) = false := by rw [beq_eq_false_iff_ne]; omega
  have z5 : decide (5 < (s.size : Int)) = false := by simp; omega
  rcases hd' with hd1 | ⟨hd2, hd3, hd1⟩
  all_goals
    try have z2 : decide (2 ≤ (s.size : Int)) = true := by simp; omega
    try have z2 : decide (2 ≤ (s.size : Int)) = false := by simp; omega
    rcases h0 with h0 | h0
    all_goals
      go_enter Try.func17, Try.ntmps17
      go_wp2
      go_loopw [5, 6] (fun z j wr => ∃ (k : Nat) (a b c : Int) (Z : Bool), j = .int .i64 (k + 2) ∧ z = .bool Z ∧ Frac s k a b c Z ∧ wr = w.alloc (.cells #[.int .i64 a, .int .i64 b, .int .i64 c] 34)) (fun _ j _ => s.size - (intOf j).toNat)
      case atStart => exact ⟨0, 0, 0, 0, true, rfl, rfl, frac_start s, rfl⟩
      case round =>
        obtain ⟨k, a, b, c, Z, rfl, rfl, hF, rfl⟩ := hrel
        have hb := hF.bd
        have htop := hF.top
        have hle := hF.le
        by_cases hlt : k + 2 < s.size
        · first
          | (exfalso; omega)
          | (have hx := bt_eq s (k + 2) hlt
             have hx' : (s[k + 2].toNat : Int) = bt s (k + 2) := hx.symm
             clear hx
             by_cases hdig : 48 ≤ bt s (k + 2) ∧ bt s (k + 2) ≤ 57
             · obtain ⟨hd1', hd2'⟩ := hdig
               have hk3 : k = 0 ∨ k = 1 ∨ k = 2 := by omega
               rcases hk3 with rfl | rfl | rfl
               · have hz0 : ¬ (bt s (0 + 2) = 48) ∨ bt s (0 + 2) = 48 := by omega
                 simp only [Nat.zero_add] at hx' hlt hd1' hd2' hz0
                 rcases hz0 with hz0 | hz0
                 · have FR := hideH (frac_0 hF hlt hd1' hd2' (Z' := false) (by simp [hz0]))
                   have hb48 : (bt s 2 != 48) = true := by simpa using hz0
                   clear hF
                   go_wp2
                   go_roundw
                   case rel => exact ⟨1, _, _, _, false, rfl, rfl, FR.out, rfl⟩
                   case measure => simp [intOf]; omega
                 · have FR := hideH (frac_0 hF hlt hd1' hd2' (Z' := Z) (by simp [hz0]))
                   have hb48 : (bt s 2 != 48) = false := by simpa using hz0
                   clear hF hz0
                   go_wp2
                   go_roundw
                   case rel => exact ⟨1, _, _, _, Z, rfl, rfl, FR.out, rfl⟩
                   case measure => simp [intOf]; omega
               · have hz0 : ¬ (bt s (1 + 2) = 48) ∨ bt s (1 + 2) = 48 := by omega
                 simp only [Nat.reduceAdd] at hx' hlt hd1' hd2' hz0
                 rcases hz0 with hz0 | hz0
                 · have FR := hideH (frac_1 hF hlt hd1' hd2' (Z' := false) (by simp [hz0]))
                   have hb48 : (bt s 3 != 48) = true := by simpa using hz0
                   clear hF
                   go_wp2
                   go_roundw
                   case rel => exact ⟨2, _, _, _, false, rfl, rfl, FR.out, rfl⟩
                   case measure => simp [intOf]; omega
                 · have FR := hideH (frac_1 hF hlt hd1' hd2' (Z' := Z) (by simp [hz0]))
                   have hb48 : (bt s 3 != 48) = false := by simpa using hz0
                   clear hF hz0
                   go_wp2
                   go_roundw
                   case rel => exact ⟨2, _, _, _, Z, rfl, rfl, FR.out, rfl⟩
                   case measure => simp [intOf]; omega
               · have hz0 : ¬ (bt s (2 + 2) = 48) ∨ bt s (2 + 2) = 48 := by omega
                 simp only [Nat.reduceAdd] at hx' hlt hd1' hd2' hz0
                 rcases hz0 with hz0 | hz0
                 · have FR := hideH (frac_2 hF hlt hd1' hd2' (Z' := false) (by simp [hz0]))
                   have hb48 : (bt s 4 != 48) = true := by simpa using hz0
                   clear hF
                   go_wp2
                   go_roundw
                   case rel => exact ⟨3, _, _, _, false, rfl, rfl, FR.out, rfl⟩
                   case measure => simp [intOf]; omega
                 · have FR := hideH (frac_2 hF hlt hd1' hd2' (Z' := Z) (by simp [hz0]))
                   have hb48 : (bt s 4 != 48) = false := by simpa using hz0
                   clear hF hz0
                   go_wp2
                   go_roundw
                   case rel => exact ⟨3, _, _, _, Z, rfl, rfl, FR.out, rfl⟩
                   case measure => simp [intOf]; omega
             · have NO := hideH (pqOk_no (s := s) fun hh => hdig (allDig_at hh.2.2.2.2 k (by omega)))
               by_cases hlo : bt s (k + 2) < 48
               · clear hdig
                 go_wp2
                 go_ret2
                 exact ⟨pqEnd_bad s NO.out, (Grown.refl w).alloc _ _⟩
               · have hhi : 57 < bt s (k + 2) := by omega
                 clear hdig
                 go_wp2
                 go_ret2
                 exact ⟨pqEnd_bad s NO.out, (Grown.refl w).alloc _ _⟩)
        · have EV := hideH (frac_end hF (by omega) (by omega) h5 H0.out HD.out)
          go_wp2
          go_ret2
          refine ⟨?_, (Grown.refl w).alloc _ _⟩
          first
          | exact qm_end0 EV.out (e0.out.trans h0)
          | exact qm_end1 EV.out (e0.out.trans h0)

/-- zzb1QualityModel, at every string: the same plain function -/
theorem qm_any (s : ByteArray) (hm : s.size ≤ maxLen) (w : World) :
    Calls Try.prog 17 #[.string s] w fun e w' => e = .returned (.tuple #[.int .i64 (pqV s), .bool (pqB s)]) ∧ Grown w w' := by
  by_cases hz : s.size = 0
  · refine (qm_bad s hm w (Or.inl hz)).mono fun e w' ⟨he, hw⟩ => ⟨?_, hw ▸ Grown.refl _⟩
    rw [he]; exact pqEnd_bad s (pqOk_no fun hh => by omega)
  · by_cases h5 : s.size ≤ 5
    · by_cases h0 : bt s 0 = 48 ∨ bt s 0 = 49
      · by_cases hd : s.size = 1 ∨ bt s 1 = 46
        · exact qm_loop s w (by omega) h5 h0 hd
        · refine (qm_bad s hm w (Or.inr (Or.inr (Or.inr ⟨by omega, h5, h0, by omega⟩)))).mono fun e w' ⟨he, hw⟩ => ⟨?_, hw ▸ Grown.refl _⟩
          rw [he]; exact pqEnd_bad s (pqOk_no fun hh => hd hh.2.2.2.1)
      · refine (qm_bad s hm w (Or.inr (Or.inr (Or.inl ⟨by omega, h5, by omega, by omega⟩)))).mono fun e w' ⟨he, hw⟩ => ⟨?_, hw ▸ Grown.refl _⟩
        rw [he]; exact pqEnd_bad s (pqOk_no fun hh => h0 hh.2.2.1)
    · refine (qm_bad s hm w (Or.inr (Or.inl (by omega)))).mono fun e w' ⟨he, hw⟩ => ⟨?_, hw ▸ Grown.refl _⟩
      rw [he]; exact pqEnd_bad s (pqOk_no fun hh => by omega)

set_option maxHeartbeats 1000000 in
theorem pqlaw_any (s : ByteArray) (hm : s.size ≤ maxLen) (w : World) :
    Calls Try.prog 6 #[.string s] w fun e w' => e = .returned (.bool true) ∧ Grown w w' := by
  by_cases h1 : s.size ≤ 1048576
  · have hd : decide (s.size ≤ 1048576) = true := by simpa using h1
    go_enter Try.func6, Try.ntmps6
    go_wp2_with (first | (go_at_call 15; refine (boolsq_any s hm _).mono ?_; rw [hd]; rintro e w' ⟨rfl, rfl⟩) | (go_at_call 16; refine (zzpq_any s hm _).mono ?_; rintro e w' ⟨rfl, n, rfl⟩) | (go_at_call 17; refine (qm_any s hm _).mono ?_; rintro e w2 ⟨rfl, hg⟩))
    go_ret
    exact ⟨rfl, hg⟩
  · have hd : decide (s.size ≤ 1048576) = false := by simpa using h1
    go_enter Try.func6, Try.ntmps6
    go_wp2_with (go_at_call 15; refine (boolsq_any s hm _).mono ?_; rw [hd]; rintro e w' ⟨rfl, rfl⟩)
    go_ret
    exact ⟨rfl, Grown.refl _⟩
end Go.Proofs.Qxb6601812a
