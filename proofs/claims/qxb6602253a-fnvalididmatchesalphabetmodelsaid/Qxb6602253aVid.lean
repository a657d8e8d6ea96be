import Derived.Test.Qxb6602253aProg
import Derived.Test.Qxb6602253aPlain
import Derived.WalkKit
import Derived.WalkLawsBesides
import Derived.WalkSpells
import Derived.RowKit3
namespace Go.Proofs.Qxb6602253a
open Go.RowKit

theorem hideV {p : Prop} (h : p) : Hid p := h

theorem boolsv_any (s : ByteArray) (hm : s.size ≤ maxLen) (w : World) :
    Calls Try.prog 7 #[.string s] w fun e w' => e = .returned (.bool (decide (s.size ≤ 1048576))) ∧ w' = w := by
  unfold maxLen at hm
  by_cases h : s.size ≤ 1048576
  · have e : decide (s.size ≤ 1048576) = true := by simpa using h
    rw [e]
    go_enter Try.func7, Try.ntmps7
    go_wp2
    go_ret
    exact ⟨rfl, rfl⟩
  · have e : decide (s.size ≤ 1048576) = false := by simpa using h
    rw [e]
    go_enter Try.func7, Try.ntmps7
    go_wp2
    go_ret
    exact ⟨rfl, rfl⟩

theorem inB_take (l : List UInt8) (k : Nat) (c : Int) (h : inB (l.take k) c = false) (hk : k < l.length) (hn : ((l[k]'hk).toNat : Int) ≠ c) : inB (l.take (k + 1)) c = false := by
  unfold inB at h ⊢
  rw [List.take_succ_eq_append_getElem hk, List.any_append, h]
  simp [hn]

theorem inB_hit (l : List UInt8) (k : Nat) (c : Int) (hk : k < l.length) (hn : ((l[k]'hk).toNat : Int) = c) : inB l c = true := by
  unfold inB
  rw [List.any_eq_true]
  exact ⟨l[k], List.getElem_mem hk, by simp [hn]⟩

set_option maxHeartbeats 1000000 in
/-- zzB1In: the linear search -/
theorem in_any (c : Int) (set : ByteArray) (hm : set.size ≤ 64) (w : World) :
    Calls Try.prog 13 #[.int .u8 c, .string set] w fun e w' => e = .returned (.bool (inB set.data.toList c)) ∧ w' = w := by
  go_enter Try.func13, Try.ntmps13
  go_wp2
  go_loop [5] (fun i => ∃ k : Nat, k ≤ set.size ∧ i = .int .i64 k ∧ inB (set.data.toList.take k) c = false) (fun i => set.size - (intOf i).toNat)
  case atStart => exact ⟨0, Nat.zero_le _, rfl, by simp [inB]⟩
  case round =>
    obtain ⟨k, hk, rfl, hin⟩ := hrel
    have HI := hideV hin
    clear hin
    by_cases hlt : k < set.size
    · have hl : k < set.data.toList.length := by simpa using hlt
      have hb : ((set.data.toList[k]'hl).toNat : Int) = (set[k].toNat : Int) := rfl
      by_cases he : (set[k].toNat : Int) = c
      · have HH := hideV (inB_hit _ k c hl (hb.trans he))
        have be : ((set[k].toNat : Int) == c) = true := by simpa using he
        clear he hb
        go_wp2
        go_ret
        exact ⟨by rw [HH.out]; rfl, rfl⟩
      · have HH := hideV (inB_take _ k c HI.out hl (fun h => he (hb.symm.trans h)))
        have be : ((set[k].toNat : Int) == c) = false := by simpa using he
        clear he hb
        go_wp2
        go_round
        case rel => exact ⟨k + 1, by omega, by go_num, HH.out⟩
        case measure => simp [intOf]; omega
    · have e : set.data.toList.take k = set.data.toList := List.take_of_length_le (by simp; omega)
      have HH : Hid (inB set.data.toList c = false) := by have := HI.out; rw [e] at this; exact this
      clear e
      go_wp2
      go_ret
      exact ⟨by rw [HH.out]; rfl, rfl⟩

/-- where a byte lies, as the tests of ValidID part it -/
theorem classes (c : Int) : (97 ≤ c ∧ c ≤ 122) ∨ (65 ≤ c ∧ c ≤ 90) ∨ (48 ≤ c ∧ c ≤ 57) ∨ (c < 48 ∧ c < 48) ∨ (58 ≤ c ∧ c ≤ 64) ∨ (91 ≤ c ∧ c ≤ 96) ∨ (123 ≤ c ∧ 123 ≤ c) := by omega

theorem alB_yes {c : Int} (h : (97 ≤ c ∧ c ≤ 122) ∨ (65 ≤ c ∧ c ≤ 90) ∨ (48 ≤ c ∧ c ≤ 57)) : alB c = true := by
  unfold alB; simp; omega
theorem alB_no {c : Int} (h : (c < 48 ∧ c < 48) ∨ (58 ≤ c ∧ c ≤ 64) ∨ (91 ≤ c ∧ c ≤ 96) ∨ (123 ≤ c ∧ 123 ≤ c)) : alB c = false := by
  cases h' : alB c with
  | false => rfl
  | true => unfold alB at h'; simp at h'; omega
theorem mkB_no {c : Int} (h : ¬ (c = 45 ∨ c = 46 ∨ c = 95 ∨ c = 126)) : mkB c = false := by
  cases h' : mkB c with
  | false => rfl
  | true => unfold mkB at h'; simp at h'; omega

theorem vid_size (s : ByteArray) (hm : s.size ≤ maxLen) (w : World) (h : s.size = 0 ∨ 64 < s.size) :
    Calls Try.prog 8 #[.string s] w fun e w' => e = .returned (.bool (vB s)) ∧ w' = w := by
  rw [vB_false_size h]
  unfold maxLen at hm
  rcases h with h | h
  · have hne := isEmpty0 s h
    go_enter Try.func8, Try.ntmps8
    go_wp2
    go_ret
    exact ⟨rfl, rfl⟩
  · have hne := notEmpty s (by omega)
    have z : decide (64 < (s.size : Int)) = true := by simp; omega
    go_enter Try.func8, Try.ntmps8
    go_wp2
    go_ret
    exact ⟨rfl, rfl⟩

set_option maxHeartbeats 4000000 in
theorem vid_loop (s : ByteArray) (w : World) (h1 : 1 ≤ s.size) (h2 : s.size ≤ 64) :
    Calls Try.prog 8 #[.string s] w fun e w' => e = .returned (.bool (vB s)) ∧ w' = w := by
  have hne := notEmpty s (by omega)
  have z : decide (64 < (s.size : Int)) = false := by simp; omega
  go_enter Try.func8, Try.ntmps8
  go_wp2
  go_loop [3] (fun i => ∃ k : Nat, k ≤ s.size ∧ i = .int .i64 k ∧ ∀ j, j < k → okAt s j = true) (fun i => s.size - (intOf i).toNat)
  case atStart => exact ⟨0, Nat.zero_le _, rfl, fun j hj => absurd hj (by omega)⟩
  case round =>
    obtain ⟨k, hk, rfl, hok⟩ := hrel
    have HO := hideV hok
    clear hok
    by_cases hlt : k < s.size
    · have hb : (s[k].toNat : Int) = bt s k := (bt_eq s k hlt).symm
      have NXT : Hid (okAt s k = true → ∀ j, j < k + 1 → okAt s j = true) := fun h j hj => by
        by_cases e : j = k
        · subst e; exact h
        · exact HO.out j (by omega)
      have BAD : Hid (okAt s k = false → vB s = false) := fun h => vB_false_at k hlt h
      have OK : Hid (okAt s k = (alB (bt s k) || (decide (0 < k) && mkB (bt s k)))) := rfl
      have bd := bt_bd s k
      generalize bt s k = c at hb OK bd
      rcases classes c with hc | hc | hc | hc | hc | hc | hc
      · obtain ⟨c1, c2⟩ := hc
        have Y : Hid (okAt s k = true) := by show _ = _; rw [OK.out, alB_yes (by omega)]; rfl
        go_wp2
        go_round
        case rel => exact ⟨k + 1, by omega, by go_num, NXT.out Y.out⟩
        case measure => simp [intOf]; omega
      · obtain ⟨c1, c2⟩ := hc
        have Y : Hid (okAt s k = true) := by show _ = _; rw [OK.out, alB_yes (by omega)]; rfl
        go_wp2
        go_round
        case rel => exact ⟨k + 1, by omega, by go_num, NXT.out Y.out⟩
        case measure => simp [intOf]; omega
      · obtain ⟨c1, c2⟩ := hc
        have Y : Hid (okAt s k = true) := by show _ = _; rw [OK.out, alB_yes (by omega)]; rfl
        go_wp2
        go_round
        case rel => exact ⟨k + 1, by omega, by go_num, NXT.out Y.out⟩
        case measure => simp [intOf]; omega
      all_goals
        obtain ⟨c1, c2⟩ := hc
        have A : Hid (alB c = false) := alB_no (by omega)
        try have d1 : decide (c ≤ 57) = false := by simp; omega
        try have d2 : decide (c ≤ 90) = false := by simp; omega
        try have d3 : decide (c ≤ 122) = false := by simp; omega
        by_cases k0 : k = 0
        · subst k0
          have N : Hid (vB s = false) := BAD.out (by rw [OK.out, A.out]; rfl)
          go_wp2
          go_ret
          exact ⟨by rw [N.out]; rfl, rfl⟩
        · have kb : ((k : Int) == 0) = false := by rw [beq_eq_false_iff_ne]; omega
          by_cases hmk : c = 45 ∨ c = 46 ∨ c = 95 ∨ c = 126
          · have Y : Hid (okAt s k = true) := by
              show _ = _
              rw [OK.out, show mkB c = true from by unfold mkB; simp; omega]; simp; omega
            rcases hmk with e | e | e | e
            all_goals
              first
              | (exfalso; omega)
              | (subst e
                 go_wp2
                 go_round
                 case rel => exact ⟨k + 1, by omega, by go_num, NXT.out Y.out⟩
                 case measure => simp [intOf]; omega)
          · have N : Hid (vB s = false) := BAD.out (by rw [OK.out, A.out, mkB_no hmk]; simp)
            have b1 : (c != 45) = true := by simp; omega
            have b2 : (c != 46) = true := by simp; omega
            have b3 : (c != 95) = true := by simp; omega
            have b4 : (c != 126) = true := by simp; omega
            clear hmk
            go_wp2
            go_ret
            exact ⟨by rw [N.out]; rfl, rfl⟩
    · have Y : Hid (vB s = true) := vB_true h1 h2 fun j hj => HO.out j (by omega)
      go_wp2
      go_ret
      exact ⟨by rw [Y.out]; rfl, rfl⟩

theorem in_al (c : Int) (h0 : 0 ≤ c) (h1 : c ≤ 255) (w : World) :
    Calls Try.prog 13 #[.int .u8 c, .string { data := #[48, 49, 50, 51, 52, 53, 54, 55, 56, 57, 65, 66, 67, 68, 69, 70, 71, 72, 73, 74, 75, 76, 77, 78, 79, 80, 81, 82, 83, 84, 85, 86, 87, 88, 89, 90, 97, 98, 99, 100, 101, 102, 103, 104, 105, 106, 107, 108, 109, 110, 111, 112, 113, 114, 115, 116, 117, 118, 119, 120, 121, 122] }] w fun e w' => e = .returned (.bool (alB c)) ∧ w' = w := by
  have := in_any c alnum (by decide +kernel) w
  rw [alnum_eq c h0 h1] at this
  exact this
theorem in_mk (c : Int) (h0 : 0 ≤ c) (h1 : c ≤ 255) (w : World) :
    Calls Try.prog 13 #[.int .u8 c, .string { data := #[45, 46, 95, 126] }] w fun e w' => e = .returned (.bool (mkB c)) ∧ w' = w := by
  have := in_any c marks (by decide +kernel) w
  rw [marks_eq c h0 h1] at this
  exact this

theorem mod_size (s : ByteArray) (hm : s.size ≤ maxLen) (w : World) (h : s.size = 0 ∨ 64 < s.size) :
    Calls Try.prog 9 #[.string s] w fun e w' => e = .returned (.bool (vB s)) ∧ w' = w := by
  rw [vB_false_size h]
  unfold maxLen at hm
  rcases h with h | h
  · go_enter Try.func9, Try.ntmps9
    go_wp2
    go_ret
    exact ⟨rfl, rfl⟩
  · have z1 : decide ((s.size : Int) < 1) = false := by simp; omega
    have z : decide (64 < (s.size : Int)) = true := by simp; omega
    go_enter Try.func9, Try.ntmps9
    go_wp2
    go_ret
    exact ⟨rfl, rfl⟩

set_option maxHeartbeats 4000000 in
theorem mod_loop (s : ByteArray) (w : World) (h1 : 1 ≤ s.size) (h2 : s.size ≤ 64) :
    Calls Try.prog 9 #[.string s] w fun e w' => e = .returned (.bool (vB s)) ∧ w' = w := by
  have z1 : decide ((s.size : Int) < 1) = false := by simp; omega
  have z : decide (64 < (s.size : Int)) = false := by simp; omega
  have h0 : 0 < s.size := by omega
  have hb0 : (s[0].toNat : Int) = bt s 0 := (bt_eq s 0 h0).symm
  have bd := bt_bd s 0
  have OK0 : Hid (okAt s 0 = alB (bt s 0)) := by show _ = _; unfold okAt; simp
  have BAD0 : Hid (okAt s 0 = false → vB s = false) := fun h => vB_false_at 0 h0 h
  generalize bt s 0 = c at hb0 bd OK0
  obtain ⟨bd1, bd2⟩ := bd
  have HA := hideV (in_al c bd1 bd2)
  cases ha : alB c
  · rw [ha] at HA OK0
    have N := hideV (BAD0.out OK0.out)
    clear ha
    go_enter Try.func9, Try.ntmps9
    go_wp2_with fail
    refine (HA.out _).mono ?_
    rintro e w' ⟨rfl, rfl⟩
    go_wp2
    go_ret
    exact ⟨by rw [N.out]; rfl, rfl⟩
  · rw [ha] at HA OK0
    clear ha
    go_enter Try.func9, Try.ntmps9
    go_wp2_with fail
    refine (HA.out _).mono ?_
    rintro e w' ⟨rfl, rfl⟩
    go_wp2
    go_loop [3] (fun i => ∃ k : Nat, 1 ≤ k ∧ k ≤ s.size ∧ i = .int .i64 k ∧ ∀ j, j < k → okAt s j = true) (fun i => s.size - (intOf i).toNat)
    case atStart => exact ⟨1, by omega, h1, rfl, fun j hj => by have e : j = 0 := by omega
                                                                subst e; exact OK0.out⟩
    case round =>
      obtain ⟨k, hk1, hk, rfl, hok⟩ := hrel
      have HO := hideV hok
      clear hok
      by_cases hlt : k < s.size
      · have hb : (s[k].toNat : Int) = bt s k := (bt_eq s k hlt).symm
        have NXT : Hid (okAt s k = true → ∀ j, j < k + 1 → okAt s j = true) := fun h j hj => by
          by_cases e : j = k
          · subst e; exact h
          · exact HO.out j (by omega)
        have BAD : Hid (okAt s k = false → vB s = false) := fun h => vB_false_at k hlt h
        have OK : Hid (okAt s k = (alB (bt s k) || mkB (bt s k))) := by
          show _ = _
          unfold okAt
          rw [show decide (0 < k) = true from by simp; omega]; simp
        have bd' := bt_bd s k
        generalize bt s k = d at hb OK bd'
        obtain ⟨bd1', bd2'⟩ := bd'
        have HA' := hideV (in_al d bd1' bd2')
        have HM' := hideV (in_mk d bd1' bd2')
        cases ha : alB d
        · cases hm : mkB d
          · rw [ha] at HA' OK
            rw [hm] at HM' OK
            have N := hideV (BAD.out OK.out)
            clear ha hm
            go_wp2_with fail
            refine (HA'.out _).mono ?_
            rintro e w' ⟨rfl, rfl⟩
            go_wp2_with fail
            refine (HM'.out _).mono ?_
            rintro e w' ⟨rfl, rfl⟩
            go_wp2
            go_ret
            exact ⟨by rw [N.out]; rfl, rfl⟩
          · rw [ha] at HA' OK
            rw [hm] at HM' OK
            have Y := hideV (NXT.out OK.out)
            clear ha hm
            go_wp2_with fail
            refine (HA'.out _).mono ?_
            rintro e w' ⟨rfl, rfl⟩
            go_wp2_with fail
            refine (HM'.out _).mono ?_
            rintro e w' ⟨rfl, rfl⟩
            go_wp2
            go_round
            case rel => exact ⟨k + 1, by omega, by omega, by go_num, Y.out⟩
            case measure => simp [intOf]; omega
        · rw [ha] at HA' OK
          have Y := hideV (NXT.out (by rw [OK.out]; rfl))
          clear ha
          go_wp2_with fail
          refine (HA'.out _).mono ?_
          rintro e w' ⟨rfl, rfl⟩
          go_wp2
          go_round
          case rel => exact ⟨k + 1, by omega, by omega, by go_num, Y.out⟩
          case measure => simp [intOf]; omega
      · have Y : Hid (vB s = true) := vB_true h1 h2 fun j hj => HO.out j (by omega)
        go_wp2
        go_ret
        exact ⟨by rw [Y.out]; rfl, rfl⟩

theorem vid_any (s : ByteArray) (hm : s.size ≤ maxLen) (w : World) :
    Calls Try.prog 8 #[.string s] w fun e w' => e = .returned (.bool (vB s)) ∧ w' = w := by
  by_cases h : 1 ≤ s.size ∧ s.size ≤ 64
  · exact vid_loop s w h.1 h.2
  · exact vid_size s hm w (by omega)

theorem mod_any (s : ByteArray) (hm : s.size ≤ maxLen) (w : World) :
    Calls Try.prog 9 #[.string s] w fun e w' => e = .returned (.bool (vB s)) ∧ w' = w := by
  by_cases h : 1 ≤ s.size ∧ s.size ≤ 64
  · exact mod_loop s w h.1 h.2
  · exact mod_size s hm w (by omega)

theorem vlaw_any (s : ByteArray) (hm : s.size ≤ maxLen) (w : World) :
    Calls Try.prog 3 #[.string s] w fun e w' => e = .returned (.bool true) ∧ Grown w w' := by
  by_cases h1 : s.size ≤ 1048576
  · have hd : decide (s.size ≤ 1048576) = true := by simpa using h1
    go_enter Try.func3, Try.ntmps3
    go_wp2_with (first | (go_at_call 7; refine (boolsv_any s hm _).mono ?_; rw [hd]; rintro e w' ⟨rfl, rfl⟩) | (go_at_call 8; refine (vid_any s hm _).mono ?_; rintro e w' ⟨rfl, rfl⟩) | (go_at_call 9; refine (mod_any s hm _).mono ?_; rintro e w2 ⟨rfl, rfl⟩))
    go_ret
    exact ⟨rfl, Grown.refl _⟩
  · have hd : decide (s.size ≤ 1048576) = false := by simpa using h1
    go_enter Try.func3, Try.ntmps3
    go_wp2_with (go_at_call 7; refine (boolsv_any s hm _).mono ?_; rw [hd]; rintro e w' ⟨rfl, rfl⟩)
    go_ret
    exact ⟨rfl, Grown.refl _⟩
end Go.Proofs.Qxb6602253a
