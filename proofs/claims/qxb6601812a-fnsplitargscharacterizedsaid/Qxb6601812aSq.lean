import Derived.Test.Qxb6601812aSp
namespace Go.Proofs.Qxb6601812a
open Go.RowKit

theorem info9 : (Try.prog.info? 9).map (fun i => (i.zero, i.size, i.bytes)) = some (some (.string ByteArray.empty), 1, 16) := by kernel_rfl

/-- the pieces that end at a comma, as values -/
def pcs (s : ByteArray) (es : List Nat) : List Value := (List.range es.length).map fun j => .string (s.extract (bgn es j) (es.getD j 0))

theorem pcs_snoc (s : ByteArray) (es : List Nat) (i : Nat) : pcs s (es ++ [i]) = pcs s es ++ [.string (s.extract (bgn es es.length) i)] := by
  unfold pcs
  rw [List.length_append, List.length_singleton, List.range_succ, List.map_append]
  congr 1
  · refine List.map_congr_left fun j hj => ?_
    have hj' : j < es.length := by simpa using hj
    rw [bgn_snoc es i j (by omega), getD_snoc es i j hj']
  · simp only [List.map_cons, List.map_nil]
    rw [bgn_snoc es i _ (Nat.le_refl _), getD_last]

theorem pcs_length (s : ByteArray) (es : List Nat) : (pcs s es).length = es.length := by simp [pcs]

/-- all the pieces -/
def allPcs (s : ByteArray) (es : List Nat) : List Value := pcs s es ++ [.string (s.extract (bgn es es.length) s.size)]

theorem allPcs_at (s : ByteArray) (es : List Nat) (j : Nat) (hj : j ≤ es.length) : (allPcs s es)[j]? = some (.string (s.extract (bgn es j) (fin s es j))) := by
  unfold allPcs fin
  by_cases e : j < es.length
  · rw [List.getElem?_append_left (by rw [pcs_length]; exact e), if_pos e]
    simp [pcs, e]
  · have : j = es.length := by omega
    subst this
    rw [List.getElem?_append_right (by rw [pcs_length]; exact Nat.le_refl _), if_neg e, pcs_length]
    simp

theorem owned_shape {w : World} {B n : Nat} {v : Value} {xs : List Value} (h : w.ownsRow B 9 1 v n xs) : ∃ ao cap, v = .slice ao n cap := by
  rcases h.2 with ⟨h', h0⟩ | ⟨g, cap, cur, h', -⟩
  · exact ⟨none, 0, by rw [h', h0]⟩
  · exact ⟨_, _, h'⟩

theorem lim_bd {limit : Int} (hl : (Lit.int .i64 limit).wf = true) : -9223372036854775808 ≤ limit ∧ limit ≤ 9223372036854775807 := by
  have e1 : IntKind.i64.min = -9223372036854775808 := by decide
  have e2 : IntKind.i64.max = 9223372036854775807 := by decide
  have h : (decide (IntKind.i64.min ≤ limit) && decide (limit ≤ IntKind.i64.max)) = true := hl
  rw [e1, e2] at h
  simpa using h

theorem wrap_lim {limit : Int} (hl : (Lit.int .i64 limit).wf = true) (n : Nat) (hn : n ≤ 1048576) : ((n : Int) = wrap64 (limit - 1)) ↔ ((n : Int) = limit - 1) := by
  have := lim_bd hl
  unfold wrap64
  omega

theorem split_done {s : ByteArray} {es : List Nat} {w wr w1 : World} {v v' : Value} {o : Obj} (hown : wr.ownsRow w.heap.size 9 1 v es.length (pcs s es)) (hnx : Below w.heap.size w wr)
    (hown' : w1.ownsRow w.heap.size 9 1 v' (es.length + 1) (pcs s es ++ [.string (s.extract (bgn es es.length) s.size)])) (hgrow : (wr.alloc o).grownBy w1 v.ownBlock) :
    w1.ownsRow w.heap.size 9 1 v' (es.length + 1) (allPcs s es) ∧ Below w.heap.size w w1 := by
  have := hnx.size
  exact ⟨hown', (hnx.alloc (by omega) o).grown hgrow (by simp; omega) fun k hk => (hown.lt k hk).1⟩

theorem split_more {s : ByteArray} {es : List Nat} {w wr w1 : World} {v v' : Value} {o : Obj} {k : Nat} (hown : wr.ownsRow w.heap.size 9 1 v es.length (pcs s es)) (hnx : Below w.heap.size w wr)
    (hown' : w1.ownsRow w.heap.size 9 1 v' (es.length + 1) (pcs s es ++ [.string (s.extract (bgn es es.length) k)])) (hgrow : (wr.alloc o).grownBy w1 v.ownBlock) :
    Value.int .i64 ((k : Int) + 1) = Value.int .i64 (bgn (es ++ [k]) (es ++ [k]).length : Nat) ∧ w1.ownsRow w.heap.size 9 1 v' (es ++ [k]).length (pcs s (es ++ [k])) ∧ Below w.heap.size w w1 := by
  have := hnx.size
  refine ⟨?_, ?_, (hnx.alloc (by omega) o).grown hgrow (by simp; omega) fun k hk => (hown.lt k hk).1⟩
  · rw [List.length_append, List.length_singleton, bgn_last]; simp
  · rw [pcs_snoc, List.length_append, List.length_singleton]; exact hown'

set_option maxHeartbeats 2000000 in
theorem split_in (s : ByteArray) (limit : Int) (hs : 0 < s.size) (hm : s.size ≤ 1048576) (hl : (Lit.int .i64 limit).wf = true) (w : World) :
    Calls Try.prog 19 #[.string s, .int .i64 limit] w fun e w' => ∃ es v, e = .returned v ∧ SpEnd s limit es ∧ w'.ownsRow w.heap.size 9 1 v (es.length + 1) (allPcs s es) ∧ Below w.heap.size w w' := by
  have hne := notEmpty s hs
  obtain ⟨i0, hi, hz0, hz1, hz2⟩ := info_parts info9
  go_enter Try.func19, Try.ntmps19
  go_wp2
  go_loopw [5, 6, 7, 8] (fun v b d i wr => ∃ (es : List Nat) (k D : Nat), i = .int .i64 k ∧ d = .int .i64 (D : Nat) ∧ b = .int .i64 (bgn es es.length : Nat) ∧ SpInv s limit es D k ∧ wr.ownsRow w.heap.size 9 1 v es.length (pcs s es) ∧ Below w.heap.size w wr)
    (fun _ _ _ i _ => s.size - (intOf i).toNat)
  case atStart => exact ⟨[], 0, 0, rfl, rfl, rfl, spInv_start s limit, World.ownsRow_nil _ _ _ _, Below.refl _ _⟩
  case round =>
    obtain ⟨es, k, D, rfl, rfl, rfl, inv, hown, hnx⟩ := hrel
    obtain ⟨ao, cap, rfl⟩ := owned_shape hown
    have hk := inv.top
    have hlen := inv.len
    have hbg := inv.le
    have hsz := hnx.size
    have hD : D ≤ k := by have := scn_le s (bgn es es.length) (k - bgn es es.length); rw [inv.cur] at this; simp only at this; omega
    have WL := hideS (wrap_lim hl es.length (by omega))
    by_cases hlt : k < s.size
    · by_cases hcap : (es.length : Int) = wrap64 (limit - 1)
      · have hb : ((es.length : Int) != wrap64 (limit - 1)) = false := by simpa using hcap
        have EN := hideS (spEnd_cap inv (WL.out.1 hcap))
        clear hcap
        go_wp2_with (at_builtin; refine wpList_append_own _ rfl _ _ 23 rfl w.heap.size 9 i0 (.string ByteArray.empty) 1 16 Try.underlying23 hi hz0 hz1 hz2 rfl (by decide) _ _ _ rfl (hown.alloc _) ⟨wr.heap.size, 0, none⟩ 1 1 [.string (s.extract (bgn es es.length) s.size)] rfl rfl (cell_one_new _ _ _) (by intro u hu; simp at hu; subst hu; rfl) (by unfold maxLen; omega) (by omega) (by simp; omega) ?_)
        intro v' w1 hown' hgrow _
        have R := split_done hown hnx hown' hgrow
        clear hown' hgrow hown
        go_wp2
        go_ret
        exact ⟨es, v', rfl, EN.out, R.1, R.2⟩
      · have hb : ((es.length : Int) != wrap64 (limit - 1)) = true := by simpa using hcap
        have NC := hideS (fun h => hcap (WL.out.2 h))
        clear hcap
        have hbt := bt_eq s k hlt
        have hb' : (s[k].toNat : Int) = bt s k := hbt.symm
        clear hbt
        have NX := hideS (fun d' => spInv_next (d' := d') inv hlt)
        obtain ⟨c, hc⟩ : ∃ c, bt s k = c := ⟨_, rfl⟩
        have HC := hideS hc
        rw [hc] at hb'
        clear hc
        by_cases c91 : c = 91
        · subst c91
          go_wp2
          go_roundw
          case rel => exact ⟨es, k + 1, D + 1, by go_num, by go_num, rfl, NX.out _ (by rw [HC.out]; exact stp_open D), hown, hnx⟩
          case measure => simp [intOf]; omega
        · by_cases c93 : c = 93
          · subst c93
            by_cases hz : D = 0
            · subst hz
              go_wp2
              go_roundw
              case rel => exact ⟨es, k + 1, 0, by go_num, by go_num, rfl, NX.out _ (by rw [HC.out]; exact stp_shut 0), hown, hnx⟩
              case measure => simp [intOf]; omega
            · go_wp2
              go_roundw
              case rel => exact ⟨es, k + 1, D - 1, by go_num, by go_num, rfl, NX.out _ (by rw [HC.out]; exact stp_shut D), hown, hnx⟩
              case measure => simp [intOf]; omega
          · by_cases c44 : c = 44
            · subst c44
              by_cases hz : D = 0
              · subst hz
                have CM := hideS (spInv_comma inv hlt HC.out NC.out)
                go_wp2_with (at_builtin; refine wpList_append_own _ rfl _ _ 23 rfl w.heap.size 9 i0 (.string ByteArray.empty) 1 16 Try.underlying23 hi hz0 hz1 hz2 rfl (by decide) _ _ _ rfl (hown.alloc _) ⟨wr.heap.size, 0, none⟩ 1 1 [.string (s.extract (bgn es es.length) k)] rfl rfl (cell_one_new _ _ _) (by intro u hu; simp at hu; subst hu; rfl) (by unfold maxLen; omega) (by omega) (by simp; omega) ?_)
                intro v' w1 hown' hgrow _
                have R := split_more hown hnx hown' hgrow
                clear hown' hgrow hown
                go_wp2
                go_roundw
                case rel => exact ⟨es ++ [k], k + 1, 0, by go_num, rfl, R.1, CM.out, R.2.1, R.2.2⟩
                case measure => simp [intOf]; omega
              · go_wp2
                go_roundw
                case rel => exact ⟨es, k + 1, D, by go_num, rfl, rfl, NX.out _ (by rw [HC.out]; exact stp_deep D hz), hown, hnx⟩
                case measure => simp [intOf]; omega
            · go_wp2
              go_roundw
              case rel => exact ⟨es, k + 1, D, by go_num, rfl, rfl, NX.out _ (by rw [HC.out]; exact stp_other c D c91 c93 c44), hown, hnx⟩
              case measure => simp [intOf]; omega
    · have EN := hideS (spEnd_all inv (by omega))
      go_wp2_with (at_builtin; refine wpList_append_own _ rfl _ _ 23 rfl w.heap.size 9 i0 (.string ByteArray.empty) 1 16 Try.underlying23 hi hz0 hz1 hz2 rfl (by decide) _ _ _ rfl (hown.alloc _) ⟨wr.heap.size, 0, none⟩ 1 1 [.string (s.extract (bgn es es.length) s.size)] rfl rfl (cell_one_new _ _ _) (by intro u hu; simp at hu; subst hu; rfl) (by unfold maxLen; omega) (by omega) (by simp; omega) ?_)
      intro v' w1 hown' hgrow _
      have R := split_done hown hnx hown' hgrow
      clear hown' hgrow hown
      go_wp2
      go_ret
      exact ⟨es, v', rfl, EN.out, R.1, R.2⟩

theorem split_empty (s : ByteArray) (limit : Int) (hs : s.size = 0) (w : World) :
    Calls Try.prog 19 #[.string s, .int .i64 limit] w fun e w' => e = .returned (.slice none 0 0) ∧ w' = w := by
  have hne := isEmpty0 s hs
  go_enter Try.func19, Try.ntmps19
  go_wp2
  go_ret
  exact ⟨rfl, rfl⟩

theorem zzsplit_empty (s : ByteArray) (limit : Int) (hs : s.size = 0) (w : World) :
    Calls Try.prog 10 #[.string s, .int .i64 limit] w fun e w' => e = .returned (.slice none 0 0) ∧ w' = w := by
  go_enter Try.func10, Try.ntmps10
  go_wp2_with (go_at_call 19; refine (split_empty s limit hs _).mono ?_; rintro e w' ⟨rfl, rfl⟩)
  go_ret
  exact ⟨rfl, rfl⟩

/-- ZZsplitArgs at a text that is not empty: a slice, not nil, of the pieces -/
theorem zzsplit_in (s : ByteArray) (limit : Int) (hs : 0 < s.size) (hm : s.size ≤ 1048576) (hl : (Lit.int .i64 limit).wf = true) (w : World) :
    Calls Try.prog 10 #[.string s, .int .i64 limit] w fun e w' => ∃ es g cap, e = .returned (.slice (some ⟨g, 0, none⟩) (es.length + 1) cap) ∧ SpEnd s limit es ∧ (∀ j, j ≤ es.length → w'.cell? ⟨g, j, none⟩ = some (.string (s.extract (bgn es j) (fin s es j)))) ∧ Below w.heap.size w w' := by
  go_enter Try.func10, Try.ntmps10
  go_wp2_with (go_at_call 19; refine (split_in s limit hs hm hl _).mono ?_; rintro e w' ⟨es, v, rfl, hE, hown, hnx⟩)
  go_ret
  rcases hown.2 with ⟨-, h0⟩ | ⟨g, cap, cur, h', -⟩
  · omega
  · subst h'
    refine ⟨es, g, cap, rfl, hE, fun j hj => ?_, hnx⟩
    rw [hown.cellAt j (by omega), allPcs_at s es j hj]
end Go.Proofs.Qxb6601812a
