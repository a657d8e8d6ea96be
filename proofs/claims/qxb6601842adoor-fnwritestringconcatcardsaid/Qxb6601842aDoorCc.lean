import Derived.Test.Qxb6601842aDoorZz
import Derived.Deep.QuietTactic
import Derived.BigQuiet
namespace Go.Proofs.Qxb6601842aDoor
open Go.RowKit

/-- byte j of a list, as a number -/
def bc (l : List UInt8) (j : Nat) : Int := ((l.getD j 0).toNat : Int)

theorem cell_bc {w : World} {B g N cap : Nat} {l : List UInt8} (h : w.ownsRow B 5 1 (.slice (some ⟨g, 0, none⟩) N cap) N (Lib.byteCells l)) (hN : l.length = N) (j : Nat) (hj : j < N) : w.cell? ⟨g, j, none⟩ = some (.int .u8 (bc l j)) := by
  rw [h.cellAt j (by omega)]
  have hj' : j < l.length := by omega
  simp only [Lib.byteCells, List.getElem?_map, List.getElem?_eq_getElem hj', Option.map_some, bc, List.getD, Option.getD_some]

/-- at a nil slice of head bytes -/
theorem zz_nil (s : ByteArray) (E : Nat) (hE : (esc s.data.toList).length = E) (w : World) (hlim : 6 * s.size + 2 ≤ 140737488355328) :
    Calls Tryd.prog 8 #[.slice none 0 0, .string s] w fun e w' => ∃ g cap, e = .returned (.slice (some ⟨g, 0, none⟩) (E + 2) cap) ∧ (∀ j, j < E + 2 → w'.cell? ⟨g, j, none⟩ = some (.int .u8 (bc (quo s.data.toList) j))) ∧ g < w'.heap.size ∧ Below w.heap.size w w' := by
  have hq : ([] ++ quo s.data.toList).length = E + 2 := by rw [List.nil_append, quo_len, hE]
  refine (zz_any w.heap.size [] (.slice none 0 0) s w (World.ownsRow_nil _ _ _ _) (Nat.le_refl _) (by simpa using hlim)).mono ?_
  rintro e w' ⟨g, cap, he, ho, hb⟩
  rw [hq] at he ho
  exact ⟨g, cap, he, fun j hj => cell_bc (l := quo s.data.toList) ho hq j hj, (ho.lt g rfl).2, hb⟩

theorem boolsc_any (s t : ByteArray) (hs : s.size ≤ maxLen) (ht : t.size ≤ maxLen) (w : World) :
    Calls Tryd.prog 11 #[.string s, .string t] w fun e w' => e = .returned (.bool (decide (s.size + t.size ≤ 1048576))) ∧ w' = w := by
  unfold maxLen at hs ht
  by_cases h : s.size + t.size ≤ 1048576
  · rw [show decide (s.size + t.size ≤ 1048576) = true from by simpa using h]
    go_enter Tryd.func11, Tryd.ntmps11
    go_wp2
    go_ret
    exact ⟨rfl, rfl⟩
  · rw [show decide (s.size + t.size ≤ 1048576) = false from by simpa using h]
    by_cases h1 : s.size ≤ 1048576
    · by_cases h2 : t.size ≤ 1048576
      · go_enter Tryd.func11, Tryd.ntmps11
        go_wp2
        go_ret
        exact ⟨rfl, rfl⟩
      · go_enter Tryd.func11, Tryd.ntmps11
        go_wp2
        go_ret
        exact ⟨rfl, rfl⟩
    · go_enter Tryd.func11, Tryd.ntmps11
      go_wp2
      go_ret
      exact ⟨rfl, rfl⟩

theorem quo_cat (s t : ByteArray) : quo (s ++ t).data.toList = 34 :: (esc s.data.toList ++ esc t.data.toList ++ [34]) := by
  have e : (s ++ t).data.toList = s.data.toList ++ t.data.toList := by simp
  rw [e]
  simp [quo, esc_append]

theorem esc_cat (s t : ByteArray) : (esc (s ++ t).data.toList).length = (esc s.data.toList).length + (esc t.data.toList).length := by
  have e : (s ++ t).data.toList = s.data.toList ++ t.data.toList := by simp
  rw [e, esc_append, List.length_append]

/-- the plain law, first part -/
theorem cat_lo (s t : ByteArray) (i : Nat) (h : i < (esc s.data.toList).length + 1) : bc (quo (s ++ t).data.toList) i = bc (quo s.data.toList) i := by
  rw [quo_cat]
  unfold bc quo
  rw [List.getD, List.getD]
  cases i with
  | zero => rfl
  | succ i =>
    simp only [List.getElem?_cons_succ]
    rw [List.append_assoc, List.getElem?_append_left (by omega), List.getElem?_append_left (by omega)]

/-- the plain law, second part -/
theorem cat_hi (s t : ByteArray) (j : Nat) : bc (quo (s ++ t).data.toList) ((esc s.data.toList).length + 1 + j) = bc (quo t.data.toList) (j + 1) := by
  rw [quo_cat]
  unfold bc quo
  rw [List.getD, List.getD]
  have e : (esc s.data.toList).length + 1 + j = ((esc s.data.toList).length + j) + 1 := by omega
  rw [e]
  simp only [List.getElem?_cons_succ]
  rw [List.append_assoc, List.getElem?_append_right (by omega)]
  congr 4
  omega

set_option maxHeartbeats 2000000 in
theorem cc_in (s t : ByteArray) (h : s.size + t.size ≤ 1048576) (w : World) :
    Calls Tryd.prog 4 #[.string s, .string t] w fun e w' => e = .returned (.bool true) ∧ Below w.heap.size w w' := by
  have hd : decide (s.size + t.size ≤ 1048576) = true := by simpa using h
  have d1 : decide (1048576 < (s.size : Int)) = false := by simp; omega
  have d2 : decide (1048576 < (t.size : Int)) = false := by simp; omega
  have d3 : decide (1048576 < (s.size : Int) + (t.size : Int)) = false := by simp; omega
  obtain ⟨E, hE⟩ : ∃ E, (esc s.data.toList).length = E := ⟨_, rfl⟩
  obtain ⟨F, hF⟩ : ∃ F, (esc t.data.toList).length = F := ⟨_, rfl⟩
  have hEF : (esc (s ++ t).data.toList).length = E + F := by rw [esc_cat, hE, hF]
  have hE6 : E ≤ 6 * s.size := by rw [← hE]; have := esc_len s.data.toList; simpa using this
  have hF6 : F ≤ 6 * t.size := by rw [← hF]; have := esc_len t.data.toList; simpa using this
  have hst : (s ++ t).size = s.size + t.size := by simp
  have LO := hideD (cat_lo s t)
  have HI := hideD (cat_hi s t)
  rw [hE] at LO HI
  have Z0 := hideD (fun w => zz_nil (s ++ t) (E + F) hEF w (by rw [hst]; omega))
  have Z1 := hideD (fun w => zz_nil s E hE w (by omega))
  have Z2 := hideD (fun w => zz_nil t F hF w (by omega))
  clear hE hF hEF hst
  generalize quo (s ++ t).data.toList = QW at LO HI Z0
  generalize quo s.data.toList = QA at LO Z1
  generalize quo t.data.toList = QC at HI Z2
  go_enter Tryd.func4, Tryd.ntmps4
  go_wp2_with (go_at_call 11; refine (boolsc_any s t (by unfold maxLen; omega) (by unfold maxLen; omega) _).mono ?_; rw [hd]; rintro e w' ⟨rfl, rfl⟩)
  refine (Z0.out _).mono ?_
  rintro e w1 ⟨g0, cap0, rfl, c0, l0, b0⟩
  have C0 := hideD c0
  clear c0
  go_wp2_with fail
  refine (Z1.out _).mono ?_
  rintro e w2 ⟨g1, cap1, rfl, c1, l1, b1⟩
  have C1 := hideD c1
  clear c1
  go_wp2_with fail
  refine (Z2.out _).mono ?_
  rintro e w3 ⟨g2, cap2, rfl, c2, l2, b2⟩
  have C2 := hideD c2
  clear c2
  have BEL : Hid (Below w'.heap.size w' w3) := (b0.trans (b1.mono b0.size)).trans (b2.mono (Nat.le_trans b0.size b1.size))
  have K0 : Hid (∀ j, j < E + F + 2 → w3.cell? ⟨g0, j, none⟩ = some (.int .u8 (bc QW j))) := fun j hj => by
    rw [b2.cell (p := ⟨g0, j, none⟩) (Nat.lt_of_lt_of_le l0 b1.size), b1.cell (p := ⟨g0, j, none⟩) l0]; exact C0.out j hj
  have K1 : Hid (∀ j, j < E + 2 → w3.cell? ⟨g1, j, none⟩ = some (.int .u8 (bc QA j))) := fun j hj => by
    rw [b2.cell (p := ⟨g1, j, none⟩) l1]; exact C1.out j hj
  clear b0 b1 b2 l0 l1 l2
  have f1 : decide ((E : Int) + 2 < 2) = false := by simp; omega
  have f2 : decide ((F : Int) + 2 < 2) = false := by simp; omega
  have f3 : ((E : Int) + F + 2 != (E : Int) + 2 - 1 + ((F : Int) + 2) - 1) = false := by simp; omega
  go_wp2
  go_loopw [9] (fun i wr => ∃ k m : Nat, k ≤ E + 1 ∧ i = .int .i64 k ∧ wr = w3.drewN m) (fun i _ => E + 1 - (intOf i).toNat)
  case atStart => exact ⟨0, 0, by omega, rfl, rfl⟩
  case round =>
    obtain ⟨k, m, hk, rfl, rfl⟩ := hrel
    by_cases hlt : k < E + 1
    · have x0 : w3.cell? ⟨g0, k, none⟩ = some (.int .u8 (bc QA k)) := by rw [← LO.out k hlt]; exact K0.out k (by omega)
      have x1 : w3.cell? ⟨g1, k, none⟩ = some (.int .u8 (bc QA k)) := K1.out k (by omega)
      generalize bc QA k = x at x0 x1
      have i1 : (k : Int) < (E : Int) + F + 2 := by omega
      have i2 : (k : Int) < (E : Int) + 2 := by omega
      have i3 : k < E + F + 2 := by omega
      have i4 : k < E + 2 := by omega
      go_wp2
      go_quiet (fail)
      go_wp2
      go_roundw
      case rel => exact ⟨k + 1, _, by omega, by go_num, rfl⟩
      case measure => simp [intOf]; omega
    · go_wp2
      go_loopw [10] (fun i wr => ∃ k m : Nat, 1 ≤ k ∧ k ≤ F + 2 ∧ i = .int .i64 k ∧ wr = w3.drewN m) (fun i _ => F + 2 - (intOf i).toNat)
      case atStart => exact ⟨1, m, by omega, by omega, rfl, rfl⟩
      case round =>
        obtain ⟨q, m2, hq1, hq2, rfl, rfl⟩ := hrel
        by_cases hlt2 : q < F + 2
        · have x0 : w3.cell? ⟨g0, E + 1 + (q - 1), none⟩ = some (.int .u8 (bc QC q)) := by
            have e := HI.out (q - 1)
            rw [show q - 1 + 1 = q from by omega] at e
            rw [← e]; exact K0.out _ (by omega)
          have x2 : w3.cell? ⟨g0, E + 2 - 1 + q - 1, none⟩ = some (.int .u8 (bc QC q)) := by
            rw [show E + 2 - 1 + q - 1 = E + 1 + (q - 1) from by omega]; exact x0
          have x3 : w3.cell? ⟨g0, E + 1 + q - 1, none⟩ = some (.int .u8 (bc QC q)) := by
            rw [show E + 1 + q - 1 = E + 1 + (q - 1) from by omega]; exact x0
          have x4 : w3.cell? ⟨g0, E + q, none⟩ = some (.int .u8 (bc QC q)) := by
            rw [show E + q = E + 1 + (q - 1) from by omega]; exact x0
          have x1 : w3.cell? ⟨g2, q, none⟩ = some (.int .u8 (bc QC q)) := C2.out q (by omega)
          clear x0
          generalize bc QC q = x at x2 x3 x4 x1
          go_wp2
          go_quiet (fail)
          go_wp2
          go_roundw
          case rel => exact ⟨q + 1, _, by omega, by omega, by go_num, rfl⟩
          case measure => simp [intOf]; omega
        · go_wp2
          go_ret
          exact ⟨rfl, BEL.out.trans ⟨rfl, rfl, rfl, Nat.le_refl _, fun _ _ => rfl⟩⟩

theorem cc_any (s t : ByteArray) (hs : s.size ≤ maxLen) (ht : t.size ≤ maxLen) (w : World) :
    Calls Tryd.prog 4 #[.string s, .string t] w fun e w' => e = .returned (.bool true) ∧ Below w.heap.size w w' := by
  by_cases h : s.size + t.size ≤ 1048576
  · exact cc_in s t h w
  · have hd : decide (s.size + t.size ≤ 1048576) = false := by simpa using h
    go_enter Tryd.func4, Tryd.ntmps4
    go_wp2_with (go_at_call 11; refine (boolsc_any s t hs ht _).mono ?_; rw [hd]; rintro e w' ⟨rfl, rfl⟩)
    go_ret
    exact ⟨rfl, Below.refl _ _⟩
end Go.Proofs.Qxb6601842aDoor
