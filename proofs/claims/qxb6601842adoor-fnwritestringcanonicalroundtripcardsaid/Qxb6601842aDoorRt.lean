import Derived.Test.Qxb6601842aDoorEq
import Derived.Test.Qxb6601842aDoorDec
namespace Go.Proofs.Qxb6601842aDoor
open Go.RowKit

theorem boolsr_any (a : Option Addr) (n c : Nat) (t : ByteArray) (hs : n ≤ maxLen) (ht : t.size ≤ maxLen) (w : World) :
    Calls Tryd.prog 6 #[.slice a n c, .string t] w fun e w' => e = .returned (.bool (decide (n + t.size ≤ 1048576))) ∧ w' = w := by
  unfold maxLen at hs ht
  by_cases h : n + t.size ≤ 1048576
  · rw [show decide (n + t.size ≤ 1048576) = true from by simpa using h]
    go_enter Tryd.func6, Tryd.ntmps6
    go_wp2
    go_ret
    exact ⟨rfl, rfl⟩
  · rw [show decide (n + t.size ≤ 1048576) = false from by simpa using h]
    by_cases h1 : n ≤ 1048576
    · by_cases h2 : t.size ≤ 1048576
      · go_enter Tryd.func6, Tryd.ntmps6
        go_wp2
        go_ret
        exact ⟨rfl, rfl⟩
      · go_enter Tryd.func6, Tryd.ntmps6
        go_wp2
        go_ret
        exact ⟨rfl, rfl⟩
    · go_enter Tryd.func6, Tryd.ntmps6
      go_wp2
      go_ret
      exact ⟨rfl, rfl⟩

/-- ZZWriteStringAppend once more, its length and cells spelt for the law -/
theorem zz_pre (B n E : Nat) (zs : List UInt8) (hz : zs.length = n) (v : Value) (s : ByteArray) (hE : (esc s.data.toList).length = E) (w : World) (h : w.ownsRow B 5 1 v n (Lib.byteCells zs)) (hB : B ≤ w.heap.size) (hlim : n + 6 * s.size + 2 ≤ 140737488355328) :
    Calls Tryd.prog 8 #[v, .string s] w fun e w' => ∃ g cap, e = .returned (.slice (some ⟨g, 0, none⟩) (n + E + 2) cap) ∧ n + E + 2 ≤ cap ∧ (∀ j, j < n + E + 2 → w'.cell? ⟨g, j, none⟩ = some (.int .u8 (bc (zs ++ quo s.data.toList) j))) ∧ g < w'.heap.size ∧ Below B w w' := by
  subst hz
  have hq : (zs ++ quo s.data.toList).length = zs.length + E + 2 := by rw [List.length_append, quo_len, hE]; omega
  refine (zz_any B zs v s w h hB hlim).mono ?_
  rintro e w' ⟨g, cap, he, ho, hb⟩
  rw [hq] at he ho
  refine ⟨g, cap, he, ?_, fun j hj => cell_bc ho hq j hj, (ho.lt g rfl).2, hb⟩
  rcases ho.2 with ⟨h', -⟩ | ⟨g', cap', cur, h', -, -, hc, -⟩
  · cases h'
  · simp only [Value.slice.injEq, Option.some.injEq, Addr.mk.injEq, and_true, true_and] at h'
    obtain ⟨rfl, rfl⟩ := h'
    exact hc

/-- the head bytes and the writing's, place by place -/
theorem rt_pre (zs q : List UInt8) (j : Nat) (hj : j < zs.length) : bc (zs ++ q) j = bc zs j := by
  unfold bc; rw [List.getD, List.getD, List.getElem?_append_left hj]
theorem rt_quo (zs l : List UInt8) : bc (zs ++ quo l) zs.length = 34 := by
  unfold bc quo; rw [List.getD, List.getElem?_append_right (Nat.le_refl _)]; simp
theorem rt_in (zs l : List UInt8) (j : Nat) (hj : j < (esc l).length) : bc (zs ++ quo l) (zs.length + 1 + j) = bc (esc l) j := by
  unfold bc quo
  rw [List.getD, List.getD, List.getElem?_append_right (by omega)]
  have e : zs.length + 1 + j - zs.length = j + 1 := by omega
  rw [e, List.getElem?_cons_succ, List.getElem?_append_left hj]
theorem rt_end (zs l : List UInt8) : bc (zs ++ quo l) (zs.length + (esc l).length + 1) = 34 := by
  unfold bc quo
  rw [List.getD, List.getElem?_append_right (by omega)]
  have e : zs.length + (esc l).length + 1 - zs.length = (esc l).length + 1 := by omega
  rw [e, List.getElem?_cons_succ, List.getElem?_append_right (Nat.le_refl _)]
  simp

theorem rt_eq (a1 : Option Addr) (c1 g n cap : Nat) (hn : n ≤ 1048576) (zs : List UInt8) (hz : zs.length = n) (q : List UInt8) (B0 : Nat) (w1 w3 : World) (o1 : w1.ownsRow B0 5 1 (.slice a1 n c1) n (Lib.byteCells zs)) (b : Below w1.heap.size w1 w3) (N : Nat) (hN : n ≤ N)
    (k3 : ∀ j, j < N → w3.cell? ⟨g, j, none⟩ = some (.int .u8 (bc (zs ++ q) j))) :
    Calls Tryd.prog 9 #[.slice (some ⟨g, 0, none⟩) n cap, .slice a1 n c1] w3 fun e w' => e = .returned (.bool true) ∧ ∃ m, w' = w3.drewN m := by
  by_cases h0 : n = 0
  · subst h0; exact eq_zero _ _ _ _ _
  · rcases o1.2 with ⟨h', hn0⟩ | ⟨gw, cap', cur, h', -⟩
    · omega
    · simp only [Value.slice.injEq, true_and] at h'
      obtain ⟨rfl, rfl⟩ := h'
      refine eq_pos g gw n cap c1 hn (bc zs) w3 (fun j hj => ?_) (fun j hj => ?_)
      · rw [k3 j (by omega), rt_pre zs q j (by omega)]
      · rw [b.cell (p := ⟨gw, j, none⟩) (o1.lt gw rfl).2]
        exact cell_bc o1 hz j hj

set_option maxRecDepth 100000 in
set_option maxHeartbeats 4000000 in
theorem rt_in_walk (a : Option Addr) (n c : Nat) (zs : List UInt8) (hz : zs.length = n) (s : ByteArray) (h : n + s.size ≤ 1048576) (w : World)
    (hcl : ∀ wx, Below w.heap.size w wx → Calls Tryd.prog 7 #[.slice a n c] wx fun e w' => ∃ v, e = .returned v ∧ w'.ownsRow wx.heap.size 5 1 v n (Lib.byteCells zs) ∧ Below wx.heap.size wx w') :
    Calls Tryd.prog 3 #[.slice a n c, .string s] w fun e w' => e = .returned (.bool true) ∧ Below w.heap.size w w' := by
  have hd : decide (n + s.size ≤ 1048576) = true := by simpa using h
  have d1 : decide (1048576 < (n : Int)) = false := by simp; omega
  have d2 : decide (1048576 < (s.size : Int)) = false := by simp; omega
  have d3 : decide (1048576 < (n : Int) + (s.size : Int)) = false := by simp; omega
  obtain ⟨E, hE⟩ : ∃ E, (esc s.data.toList).length = E := ⟨_, rfl⟩
  have hE6 : E ≤ 6 * s.size := by rw [← hE]; have := esc_len s.data.toList; simpa using this
  have CL := hideD hcl
  have HZ := hideD hz
  have HE := hideD hE
  clear hcl hz hE
  go_enter Tryd.func3, Tryd.ntmps3
  go_wp2_with (go_at_call 6; refine (boolsr_any a n c s (by unfold maxLen; omega) (by unfold maxLen; omega) _).mono ?_; rw [hd]; rintro e w' ⟨rfl, hw⟩; have hw := hw.symm; subst hw)
  refine (CL.out _ (Below.refl _ _)).mono ?_
  rintro e w1 ⟨v1, rfl, o1, b1⟩
  obtain ⟨a1, c1, rfl⟩ := shape5 o1
  have O1 := hideD o1
  have B1 := hideD b1
  clear o1 b1
  go_wp2_with fail
  refine (CL.out _ B1.out).mono ?_
  rintro e w2 ⟨v2, rfl, o2, b2⟩
  obtain ⟨a2, c2, rfl⟩ := shape5 o2
  have O2 := hideD o2
  have B2 := hideD b2
  clear o2 b2
  go_wp2_with fail
  refine (zz_pre w1.heap.size n E zs HZ.out _ s HE.out w2 O2.out B2.out.size (by omega)).mono ?_
  rintro e w3 ⟨g, cap, rfl, hcap, k3, l3, b3⟩
  have K3 := hideD k3
  have B3 := hideD b3
  clear k3 b3
  have f1 : decide ((n : Int) + E + 2 < (n : Int) + 2) = false := by simp; omega
  have BW : Hid (Below w1.heap.size w1 w3) := B2.out.trans B3.out
  have EQ := hideD (rt_eq a1 c1 g n cap (by omega) zs HZ.out (quo s.data.toList) _ w1 w3 O1.out BW.out (n + E + 2) (by omega) K3.out)
  have y0 : w3.cell? ⟨g, n, none⟩ = some (.int .u8 34) := by rw [K3.out n (by omega), ← HZ.out, rt_quo]
  have y1 : w3.cell? ⟨g, n + E + 1, none⟩ = some (.int .u8 34) := by rw [K3.out (n + E + 1) (by omega), ← HZ.out, ← HE.out, rt_end]
  have CI : Hid (∀ j, j < E → w3.cell? ⟨g, n + 1 + j, none⟩ = some (.int .u8 (bc (esc s.data.toList) j))) := fun j hj => by
    rw [K3.out (n + 1 + j) (by omega), ← HZ.out, rt_in zs _ j (by rw [HE.out]; exact hj)]
  go_wp2_with fail
  refine EQ.out.mono ?_
  rintro e w4 ⟨rfl, m, rfl⟩
  go_wp2_with fail
  refine (dec_any s.data.toList E HE.out (by omega) (by simp; omega) g (n + 1) (cap - (n + 1)) (w3.drewN m) l3 CI.out).mono ?_
  rintro e w5 ⟨v5, rfl, o5, b5⟩
  have hsl : s.data.toList.length = s.size := by simp
  rw [hsl] at o5
  clear hsl y0 y1
  obtain ⟨a5, c5, rfl⟩ := shape5 o5
  have O5 := hideD o5
  have END : Hid (Below w.heap.size w w5) :=
    ((B1.out.trans (BW.out.mono B1.out.size)).trans (⟨rfl, rfl, rfl, Nat.le_refl _, fun _ _ => rfl⟩ : Below w.heap.size w3 (w3.drewN m))).trans (b5.mono (Nat.le_trans B1.out.size BW.out.size))
  clear o5 b5
  by_cases h0 : s.size = 0
  · go_wp2
    refine wp_loop_rounds 1 ?_
    rw [rounds_succ]
    go_wp2
    go_ret
    exact ⟨rfl, END.out⟩
  · obtain ⟨g5, hg5⟩ : ∃ g5, a5 = some ⟨g5, 0, none⟩ := by
      rcases O5.out.2 with ⟨h', hn0⟩ | ⟨gw, cap', cur, h', -⟩
      · omega
      · simp only [Value.slice.injEq] at h'
        exact ⟨gw, h'.1⟩
    subst hg5
    have K5 : Hid (∀ j (hj : j < s.size), w5.cell? ⟨g5, j, none⟩ = some (.int .u8 (s[j].toNat : Int))) := fun j hj => by
      rw [cell_bc (l := s.data.toList) O5.out (by simp) j hj]
      unfold bc
      rw [List.getD, List.getElem?_eq_getElem (by simpa using hj)]
      rfl
    go_wp2
    go_loopw [10] (fun i wr => ∃ k m2 : Nat, k ≤ s.size ∧ i = .int .i64 k ∧ wr = w5.drewN m2) (fun i _ => s.size - (intOf i).toNat)
    case atStart => exact ⟨0, 0, by omega, rfl, rfl⟩
    case round =>
      obtain ⟨k, m2, hk, rfl, rfl⟩ := hrel
      by_cases hlt : k < s.size
      · have x0 := K5.out k hlt
        have i1 : (k : Int) < (s.size : Int) := by omega
        go_wp2
        go_quiet (fail)
        go_wp2
        go_roundw
        case rel => exact ⟨k + 1, _, by omega, by go_num, rfl⟩
        case measure => simp [intOf]; omega
      · go_wp2
        go_ret
        exact ⟨rfl, END.out.trans ⟨rfl, rfl, rfl, Nat.le_refl _, fun _ _ => rfl⟩⟩

theorem rt_any (a : Option Addr) (n c : Nat) (zs : List UInt8) (hz : zs.length = n) (hm : n ≤ maxLen) (s : ByteArray) (hs : s.size ≤ maxLen) (w : World)
    (hcl : n ≤ 1048576 → ∀ wx, Below w.heap.size w wx → Calls Tryd.prog 7 #[.slice a n c] wx fun e w' => ∃ v, e = .returned v ∧ w'.ownsRow wx.heap.size 5 1 v n (Lib.byteCells zs) ∧ Below wx.heap.size wx w') :
    Calls Tryd.prog 3 #[.slice a n c, .string s] w fun e w' => e = .returned (.bool true) ∧ Below w.heap.size w w' := by
  by_cases h : n + s.size ≤ 1048576
  · exact rt_in_walk a n c zs hz s h w (hcl (by omega))
  · have hd : decide (n + s.size ≤ 1048576) = false := by simpa using h
    go_enter Tryd.func3, Tryd.ntmps3
    go_wp2_with (go_at_call 6; refine (boolsr_any a n c s hm hs _).mono ?_; rw [hd]; rintro e w' ⟨rfl, rfl⟩)
    go_ret
    exact ⟨rfl, Below.refl _ _⟩
end Go.Proofs.Qxb6601842aDoor
