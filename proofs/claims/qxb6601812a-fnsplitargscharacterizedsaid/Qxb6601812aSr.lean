import Derived.Test.Qxb6601812aSq
namespace Go.Proofs.Qxb6601812a
open Go.RowKit

theorem sr_empty (s : ByteArray) (limit : Int) (hs : s.size = 0) (w : World) :
    Calls Try.prog 3 #[.string s, .int .i64 limit] w fun e w' => e = .returned (.bool true) ∧ Below w.heap.size w w' := by
  have hne := isEmpty0 s hs
  have hd : decide (s.size ≤ 1048576) = true := by simp; omega
  have hnil := fun W => Lib.run_eql_slice_nil (P := Try.prog) W 23 9 none 0 0 0 0 Try.underlying23
  go_enter Try.func3, Try.ntmps3
  go_wp2_with (first | (go_at_call 9; refine (bools_any s limit (by unfold maxLen; omega) _).mono ?_; rw [hd]; rintro e w' ⟨rfl, rfl⟩) | (go_at_call 10; refine (zzsplit_empty s limit hs _).mono ?_; rintro e w' ⟨rfl, rfl⟩))
  go_ret
  exact ⟨rfl, Below.refl _ _⟩

/-- where the law's first loop stands ahead of piece j -/
def pos (s : ByteArray) (es : List Nat) (j : Nat) : Nat := if j ≤ es.length then bgn es j else s.size

/-- piece j as the law meets it, at its place P, of length L -/
theorem piece_at {s : ByteArray} {limit : Int} {es : List Nat} (h : SpEnd s limit es) (j : Nat) (hj : j ≤ es.length) (P : Nat) (hP : P = pos s es j) :
    ∃ (pc : ByteArray) (L : Nat), s.extract (bgn es j) (fin s es j) = pc ∧ pc.size = L ∧ P + L ≤ s.size ∧ s.extract P (P + L) = pc
      ∧ (j < es.length → P + L < s.size ∧ bt s (P + L) = 44 ∧ P + L + 1 = pos s es (j + 1) ∧ scn pc 0 L = (false, 0))
      ∧ (j = es.length → P + L = s.size ∧ P + L = pos s es (j + 1) ∧ ((scn pc 0 L).1 = false ∨ (0 < limit ∧ (es.length : Int) + 1 = limit))) := by
  obtain ⟨h1, h2, h3, h4⟩ := spEnd_at h j hj
  have eP : P = bgn es j := by rw [hP]; unfold pos; rw [if_pos hj]
  refine ⟨_, fin s es j - bgn es j, rfl, by simp; omega, by omega, by rw [eP]; congr 1; omega, fun hlt => ?_, fun heq => ?_⟩
  · obtain ⟨a, b, c, d⟩ := h3 hlt
    have e : P + (fin s es j - bgn es j) = fin s es j := by omega
    rw [e]
    refine ⟨a, b, ?_, ?_⟩
    · unfold pos; rw [if_pos (by omega), c]
    · rw [scn_extract s _ _ h2 _ (Nat.le_refl _), d]
  · obtain ⟨a, b⟩ := h4 heq
    have e : P + (fin s es j - bgn es j) = fin s es j := by omega
    rw [e]
    refine ⟨a, ?_, ?_⟩
    · unfold pos; rw [if_neg (by omega), a]
    · rw [scn_extract s _ _ h2 _ (Nat.le_refl _)]; exact b

set_option maxHeartbeats 4000000 in
theorem sr_in (s : ByteArray) (limit : Int) (hs : 0 < s.size) (hm : s.size ≤ 1048576) (hl : (Lit.int .i64 limit).wf = true) (w : World) :
    Calls Try.prog 3 #[.string s, .int .i64 limit] w fun e w' => e = .returned (.bool true) ∧ Below w.heap.size w w' := by
  have hne := notEmpty s hs
  have hd : decide (s.size ≤ 1048576) = true := by simp; omega
  go_enter Try.func3, Try.ntmps3
  go_wp2_with (first | (go_at_call 9; refine (bools_any s limit (by unfold maxLen; omega) _).mono ?_; rw [hd]; rintro e w' ⟨rfl, rfl⟩) | (go_at_call 10; refine (zzsplit_in s limit hs hm hl _).mono ?_; rintro e w' ⟨es, g, cap, rfl, hE, hcell, hnx⟩; refine Hid.out ?_))
  refine hideS ?_
  have HCELL := hideS hcell
  clear hcell
  have hlen := hE.len
  have hlim := hE.lim
  have hcases : (limit ≤ 0 ∧ limit ≤ 0 ∧ limit ≤ 0) ∨ (0 < limit ∧ (es.length : Int) + 1 ≤ limit ∧ limit ≤ (es.length : Int) + 1) ∨ (0 < limit ∧ (es.length : Int) + 1 < limit ∧ 0 < limit) := by omega
  clear hlim
  rcases hcases with ⟨hl0, hl1, hl2⟩ | ⟨hl0, hl1, hl2⟩ | ⟨hl0, hl1, hl2⟩
  all_goals
    try have hgt : decide (limit < (es.length : Int) + 1) = false := by simp; omega
    try have hcp : (((es.length : Int) + 1) == limit) = true := by simp; omega
    try have hcq : (((es.length : Int) + 1) == limit) = false := by simp; omega
    try have hz : (((es.length : Int) + 1) == 0) = false := by simp; omega
    go_wp2
    go_loop [7, 8] (fun p i => ∃ j P : Nat, j ≤ es.length + 1 ∧ i = .int .i64 j ∧ p = .int .i64 P ∧ P = pos s es j ∧ P ≤ s.size) (fun _ i => es.length + 1 - (intOf i).toNat)
    case atStart => exact ⟨0, 0, by omega, rfl, rfl, by simp [pos, bgn], by omega⟩
    case round =>
      obtain ⟨j, P, hj, rfl, rfl, hP, hPs⟩ := hrel
      by_cases hlt : j ≤ es.length
      · obtain ⟨pc, L, e1, e2, e3, e4, e5, e6⟩ := piece_at hE j hlt P hP
        have hc := HCELL.out j hlt
        rw [e1] at hc
        have HP := hideS hP
        have E5 := hideS e5
        have E6 := hideS e6
        clear hP e1 e5 e6
        by_cases hlast : j < es.length
        · obtain ⟨f1, f2, f3, -⟩ := E5.out hlast
          have F3 := hideS f3
          have hb : (s[P + L].toNat : Int) = 44 := by rw [← bt_eq s (P + L) f1]; exact f2
          clear f2 f3
          go_wp2
          go_round
          case rel => exact ⟨j + 1, P + L + 1, by omega, by go_num, by go_num, F3.out, by omega⟩
          case measure => simp [intOf]; omega
        · obtain ⟨f1, f2, -⟩ := E6.out (by omega)
          have F2 := hideS f2
          have F1 := hideS f1
          clear f1 f2
          go_wp2
          go_round
          case rel => exact ⟨j + 1, P + L, by omega, by go_num, by go_num, F2.out, by omega⟩
          case measure => simp [intOf]; omega
      · have hPe : P = s.size := by rw [hP]; unfold pos; rw [if_neg hlt]
        have HPe := hideS hPe
        subst hPe
        clear hP
        go_wp2
        go_loop [11] (fun i => ∃ j : Nat, j ≤ es.length + 1 ∧ i = .int .i64 j) (fun i => es.length + 1 - (intOf i).toNat)
        case atStart => exact ⟨0, by omega, rfl⟩
        case round =>
          obtain ⟨j2, hj2, rfl⟩ := hrel
          by_cases hlt2 : j2 ≤ es.length
          · obtain ⟨pc, L, e1, e2, e3, e4, e5, e6⟩ := piece_at hE j2 hlt2 _ rfl
            have hc := HCELL.out j2 hlt2
            rw [e1] at hc
            have E5 := hideS e5
            have E6 := hideS e6
            have hsc := scan_any pc (by omega)
            rw [e2] at hsc
            have HSC := hideS hsc
            clear hsc e1 e3 e4 e5 e6
            by_cases hlast : j2 < es.length
            · obtain ⟨-, -, -, f4⟩ := E5.out hlast
              have hsc := HSC.out
              rw [f4] at hsc
              have HS2 := hideS hsc
              clear hsc f4
              go_wp2_with (go_at_call 11; refine (HS2.out _).mono ?_; rintro e w2 ⟨rfl, rfl⟩)
              go_round
              case rel => exact ⟨j2 + 1, by omega, by go_num⟩
              case measure => simp [intOf]; omega
            · obtain ⟨-, -, f4⟩ := E6.out (by omega)
              obtain ⟨T, D, hTD⟩ : ∃ T D, scn pc 0 L = (T, D) := ⟨_, _, rfl⟩
              have hsc := HSC.out
              rw [hTD] at hsc f4
              have HS2 := hideS hsc
              have F4 := hideS f4
              clear hsc f4 hTD
              cases T
              · go_wp2_with (go_at_call 11; refine (HS2.out _).mono ?_; rintro e w2 ⟨rfl, rfl⟩)
                go_round
                case rel => exact ⟨j2 + 1, by omega, by go_num⟩
                case measure => simp [intOf]; omega
              · rcases F4.out with f | ⟨f, f'⟩
                · cases f
                · first
                  | (exfalso; omega)
                  | (clear f f'
                     go_wp2_with (go_at_call 11; refine (HS2.out _).mono ?_; rintro e w2 ⟨rfl, rfl⟩)
                     go_round
                     case rel => exact ⟨j2 + 1, by omega, by go_num⟩
                     case measure => simp [intOf]; omega)
          · go_wp2
            go_ret
            exact ⟨rfl, hnx⟩

theorem sr_any (s : ByteArray) (limit : Int) (hm : s.size ≤ maxLen) (hl : (Lit.int .i64 limit).wf = true) (w : World) :
    Calls Try.prog 3 #[.string s, .int .i64 limit] w fun e w' => e = .returned (.bool true) ∧ Below w.heap.size w w' := by
  by_cases h0 : s.size = 0
  · exact sr_empty s limit h0 w
  · by_cases h1 : s.size ≤ 1048576
    · exact sr_in s limit (by omega) h1 hl w
    · have hd : decide (s.size ≤ 1048576) = false := by simpa using h1
      go_enter Try.func3, Try.ntmps3
      go_wp2_with (go_at_call 9; refine (bools_any s limit hm _).mono ?_; rw [hd]; rintro e w' ⟨rfl, rfl⟩)
      go_ret
      exact ⟨rfl, Below.refl _ _⟩
end Go.Proofs.Qxb6601812a
