import Derived.Test.Qxb6601842aDoorCc
namespace Go.Proofs.Qxb6601842aDoor
open Go.RowKit

theorem info5 : (Tryd.prog.info? 5).map (fun i => (i.zero, i.size, i.bytes)) = some (some (.int .u8 0), 1, 1) := by kernel_rfl

/-- zzHexVal of a lower-case digit -/
def hexV (c : Int) : Int := if 48 ≤ c ∧ c ≤ 57 then c - 48 else if 97 ≤ c ∧ c ≤ 102 then c - 97 + 10 else -1

theorem hex_dig (c : Int) (h1 : 48 ≤ c) (h2 : c ≤ 57) (w : World) :
    Calls Tryd.prog 19 #[.int .u8 c] w fun e w' => e = .returned (.int .i64 (c - 48)) ∧ w' = w := by
  go_enter Tryd.func19, Tryd.ntmps19
  go_wp2
  go_ret
  exact ⟨rfl, rfl⟩

theorem hex_let (c : Int) (h1 : 97 ≤ c) (h2 : c ≤ 102) (w : World) :
    Calls Tryd.prog 19 #[.int .u8 c] w fun e w' => e = .returned (.int .i64 (c - 97 + 10)) ∧ w' = w := by
  have d1 : decide (c ≤ 57) = false := by simp; omega
  go_enter Tryd.func19, Tryd.ntmps19
  go_wp2
  go_ret
  exact ⟨rfl, rfl⟩

theorem hex_any (c D : Int) (h : hexV c = D) (hD : 0 ≤ D) (w : World) :
    Calls Tryd.prog 19 #[.int .u8 c] w fun e w' => e = .returned (.int .i64 D) ∧ w' = w := by
  unfold hexV at h
  by_cases h1 : 48 ≤ c ∧ c ≤ 57
  · rw [if_pos h1] at h
    rw [← h]
    exact hex_dig c h1.1 h1.2 w
  · rw [if_neg h1] at h
    by_cases h2 : 97 ≤ c ∧ c ≤ 102
    · rw [if_pos h2] at h
      rw [← h]
      exact hex_let c h2.1 h2.2 w
    · rw [if_neg h2] at h
      omega

/-! the plain facts at a place of the writing -/

theorem esc_split (l : List UInt8) (k : Nat) (hk : k < l.length) : esc l = esc (l.take k) ++ (esc1 l[k] ++ esc (l.drop (k + 1))) := by
  have e : l = l.take k ++ (l[k] :: l.drop (k + 1)) := by rw [← List.drop_eq_getElem_cons hk, List.take_append_drop]
  conv => lhs; rw [e]
  rw [esc_append]
  congr 1

theorem esc_take_succ (l : List UInt8) (k : Nat) (hk : k < l.length) : (esc (l.take (k + 1))).length = (esc (l.take k)).length + (esc1 l[k]).length := by
  rw [List.take_succ_eq_append_getElem hk, esc_snoc, List.length_append]

theorem esc_bc (l : List UInt8) (k : Nat) (hk : k < l.length) (j : Nat) (hj : j < (esc1 l[k]).length) : bc (esc l) ((esc (l.take k)).length + j) = bc (esc1 l[k]) j := by
  rw [esc_split l k hk]
  unfold bc
  rw [List.getD, List.getD, List.getElem?_append_right (by omega), Nat.add_sub_cancel_left, List.getElem?_append_left hj]

theorem esc_room (l : List UInt8) (k : Nat) (hk : k < l.length) : (esc (l.take k)).length + (esc1 l[k]).length ≤ (esc l).length := by
  have := congrArg List.length (esc_split l k hk)
  simp only [List.length_append] at this
  omega

theorem hexA_val : ∀ d : Fin 16, hexV (((⟨#[48, 49, 50, 51, 52, 53, 54, 55, 56, 57, 97, 98, 99, 100, 101, 102]⟩ : ByteArray)[d.val]'d.isLt).toNat : Int) = (d.val : Int) := by decide +kernel

/-- what the reader meets at byte k: the six kinds of writing -/
theorem kinds (l : List UInt8) (k : Nat) (hk : k < l.length) (n : Nat) (hn : l[k].toNat = n) :
    (esc1 l[k] = [l[k]] ∧ 32 ≤ n ∧ n ≠ 34 ∧ n ≠ 92) ∨ (esc1 l[k] = [92, l[k]] ∧ (n = 34 ∨ n = 92)) ∨ (n = 8 ∧ esc1 l[k] = [92, 98]) ∨ (n = 9 ∧ esc1 l[k] = [92, 116]) ∨ (n = 10 ∧ esc1 l[k] = [92, 110]) ∨ (n = 12 ∧ esc1 l[k] = [92, 102]) ∨ (n = 13 ∧ esc1 l[k] = [92, 114])
    ∨ (n < 32 ∧ n ≠ 8 ∧ n ≠ 9 ∧ n ≠ 10 ∧ n ≠ 12 ∧ n ≠ 13 ∧ ∃ a b : UInt8, esc1 l[k] = [92, 117, 48, 48, a, b] ∧ hexV (a.toNat : Int) = ((n / 16 : Nat) : Int) ∧ hexV (b.toNat : Int) = ((n % 16 : Nat) : Int)) := by
  have hlt : n < 256 := by have := l[k].toNat_lt; omega
  have hu : l[k] = UInt8.ofNat n := u8_of hlt (by rw [hn])
  by_cases h32 : n < 32
  · by_cases hsp : n = 8 ∨ n = 9 ∨ n = 10 ∨ n = 12 ∨ n = 13
    · rcases hsp with rfl | rfl | rfl | rfl | rfl
      · exact Or.inr (Or.inr (Or.inl ⟨rfl, by rw [hu]; rfl⟩))
      · exact Or.inr (Or.inr (Or.inr (Or.inl ⟨rfl, by rw [hu]; rfl⟩)))
      · exact Or.inr (Or.inr (Or.inr (Or.inr (Or.inl ⟨rfl, by rw [hu]; rfl⟩))))
      · exact Or.inr (Or.inr (Or.inr (Or.inr (Or.inr (Or.inl ⟨rfl, by rw [hu]; rfl⟩)))))
      · exact Or.inr (Or.inr (Or.inr (Or.inr (Or.inr (Or.inr (Or.inl ⟨rfl, by rw [hu]; rfl⟩))))))
    · refine Or.inr (Or.inr (Or.inr (Or.inr (Or.inr (Or.inr (Or.inr ⟨h32, by omega, by omega, by omega, by omega, by omega, _, _, by rw [hu]; exact esc1_hex n h32 hsp, ?_, ?_⟩))))))
      · exact hexA_val ⟨n / 16, by omega⟩
      · exact hexA_val ⟨n % 16, by omega⟩
  · by_cases h34 : n = 34
    · subst h34
      exact Or.inr (Or.inl ⟨by rw [hu]; rfl, by omega⟩)
    · by_cases h92 : n = 92
      · subst h92
        exact Or.inr (Or.inl ⟨by rw [hu]; rfl, by omega⟩)
      · exact Or.inl ⟨by rw [hu]; exact esc1_plain n hlt h32 h34 h92, by omega, h34, h92⟩

/-- behind an append of one byte -/
theorem dec_more {l : List UInt8} {k : Nat} (hk : k < l.length) {w wr w2 : World} {v v2 : Value} {ob : Obj} (hown : wr.ownsRow w.heap.size 5 1 v k (Lib.byteCells (l.take k))) (hnx : Below w.heap.size w wr)
    (hown' : w2.ownsRow w.heap.size 5 1 v2 (k + 1) (Lib.byteCells (l.take k) ++ [.int .u8 (l[k].toNat : Int)])) (hgrow : (wr.alloc ob).grownBy w2 v.ownBlock) :
    w2.ownsRow w.heap.size 5 1 v2 (k + 1) (Lib.byteCells (l.take (k + 1))) ∧ Below w.heap.size w w2 := by
  have := hnx.size
  refine ⟨?_, (hnx.alloc (by omega) ob).grown hgrow (by simp; omega) fun q hq => (hown.lt q hq).1⟩
  rw [List.take_succ_eq_append_getElem hk, Lib.byteCells_append]
  exact hown'

set_option maxRecDepth 100000 in
set_option maxHeartbeats 8000000 in
theorem dec_any (l : List UInt8) (E : Nat) (hE : (esc l).length = E) (hEm : E ≤ 6291456) (hlm : l.length ≤ 1048576) (g o cap : Nat) (w : World) (hg : g < w.heap.size)
    (hcell : ∀ j, j < E → w.cell? ⟨g, o + j, none⟩ = some (.int .u8 (bc (esc l) j))) :
    Calls Tryd.prog 10 #[.slice (some ⟨g, o, none⟩) E cap] w fun e w' => ∃ v, e = .returned (.tuple #[v, .bool true]) ∧ w'.ownsRow w.heap.size 5 1 v l.length (Lib.byteCells l) ∧ Below w.heap.size w w' := by
  obtain ⟨i0, hi, hz0, hz1, hz2⟩ := info_parts info5
  obtain ⟨w1, hrun, hown1, hgr⟩ := run_make_own (P := Tryd.prog) w w.heap.size 22 5 i0 (.int .u8 0) 1 Tryd.underlying22 hi hz0 hz1 .i64 .i64 E (by rw [hz2]; omega) (by unfold maxLen; omega) (Nat.le_refl _)
  have B1 : Hid (Below w.heap.size w w1) := (Below.refl _ w).grown hgr (Nat.le_refl _) (fun q hq => by cases hq)
  have O1 := hideD hown1
  have HC := hideD hcell
  have HE := hideD hE
  clear hown1 hgr hcell hE
  go_enter Tryd.func10, Tryd.ntmps10
  go_wp2
  go_loopw [4, 5] (fun v t wr => ∃ k i : Nat, t = .int .i64 i ∧ k ≤ l.length ∧ i = (esc (l.take k)).length ∧ i ≤ E ∧ wr.ownsRow w.heap.size 5 1 v k (Lib.byteCells (l.take k)) ∧ Below w.heap.size w wr) (fun _ t _ => E - (intOf t).toNat)
  case atStart => exact ⟨0, 0, rfl, by omega, by simp [esc], by omega, by simpa [Lib.byteCells] using O1.out, B1.out⟩
  case round =>
    clear hrun O1 B1
    obtain ⟨k, i, rfl, hk, hi2, hiE, hown, hnx⟩ := hrel
    have hsz := hnx.size
    have HI := hideD hi2
    by_cases hlt : k < l.length
    · have RM := esc_room l k hlt
      have SU := hideD (esc_take_succ l k hlt)
      have CE : Hid (∀ j, j < (esc1 l[k]).length → wr.cell? ⟨g, o + (i + j), none⟩ = some (.int .u8 (bc (esc1 l[k]) j))) := fun j hj => by
        rw [hnx.cell (p := ⟨g, o + (i + j), none⟩) hg, HC.out (i + j) (by rw [HE.out, ← hi2] at RM; omega), hi2, esc_bc l k hlt j hj]
      rw [HE.out, ← hi2] at RM
      rw [← hi2] at SU
      have MORE := hideD (fun (w2 : World) (v2 : Value) (ob : Obj) => dec_more (w2 := w2) (v2 := v2) (ob := ob) hlt hown hnx)
      obtain ⟨n, hn⟩ : ∃ n, l[k].toNat = n := ⟨_, rfl⟩
      have KD := kinds l k hlt n hn
      have HN := hideD hn
      clear hi2
      rcases KD with ⟨e1, q1, q2, q3⟩ | ⟨e1, q1⟩ | ⟨q1, e1⟩ | ⟨q1, e1⟩ | ⟨q1, e1⟩ | ⟨q1, e1⟩ | ⟨q1, e1⟩ | ⟨q1, q2, q3, q4, q5, q6, a, b, e1, e2, e3⟩
      · -- a plain byte
        rw [e1] at CE RM SU
        have c0 : wr.cell? ⟨g, o + i, none⟩ = some (.int .u8 (n : Int)) := by have := CE.out 0 (by simp); simpa [bc, hn] using this
        simp only [List.length_cons, List.length_nil, Nat.zero_add] at RM
        have b1 : ((n : Int) == 34) = false := by rw [beq_eq_false_iff_ne]; omega
        have b2 : ((n : Int) != 92) = true := by simp; omega
        have b3 : decide ((n : Int) < 32) = false := by simp; omega
        have hn' : ((l[k].toNat : Nat) : Int) = (n : Int) := by rw [hn]
        rw [hn'] at MORE
        clear hn hn' e1
        go_wp2_with (at_builtin; refine wpList_append_own _ rfl _ _ 22 rfl w.heap.size 5 i0 (.int .u8 0) 1 1 Tryd.underlying22 hi hz0 hz1 hz2 rfl (by decide) _ _ _ rfl (hown.alloc _) ⟨wr.heap.size, 0, none⟩ 1 1 [.int .u8 (n : Int)] rfl rfl (cell_one_new _ _ _) (by intro u hu; simp at hu; subst hu; rfl) (by unfold maxLen; omega) (by omega) (by simp; omega) ?_)
        intro v2 w2 hown' hgrow _
        have R := MORE.out w2 v2 _ hown' hgrow
        clear hown' hgrow hown
        go_wp2
        go_roundw
        case rel => exact ⟨k + 1, i + 1, by go_num, by omega, by rw [SU.out]; rfl, by omega, R.1, R.2⟩
        case measure => simp [intOf]; omega
      · -- a quote or a backslash
        rcases q1 with rfl | rfl
        · rw [e1] at CE RM SU
          have c0 : wr.cell? ⟨g, o + i, none⟩ = some (.int .u8 92) := by have := CE.out 0 (by simp); simpa [bc] using this
          have c1 : wr.cell? ⟨g, o + (i + 1), none⟩ = some (.int .u8 34) := by have := CE.out 1 (by simp); simpa [bc, hn] using this
          simp only [List.length_cons, List.length_nil, Nat.zero_add, Nat.reduceAdd] at RM
          have hn' : ((l[k].toNat : Nat) : Int) = 34 := by rw [hn]; rfl
          rw [hn'] at MORE
          clear hn hn' e1
          go_wp2_with (at_builtin; refine wpList_append_own _ rfl _ _ 22 rfl w.heap.size 5 i0 (.int .u8 0) 1 1 Tryd.underlying22 hi hz0 hz1 hz2 rfl (by decide) _ _ _ rfl (hown.alloc _) ⟨wr.heap.size, 0, none⟩ 1 1 [.int .u8 34] rfl rfl (cell_one_new _ _ _) (by intro u hu; simp at hu; subst hu; rfl) (by unfold maxLen; omega) (by omega) (by simp; omega) ?_)
          intro v2 w2 hown' hgrow _
          have R := MORE.out w2 v2 _ hown' hgrow
          clear hown' hgrow hown
          go_wp2
          go_roundw
          case rel => exact ⟨k + 1, i + 2, by go_num, by omega, by rw [SU.out]; rfl, by omega, R.1, R.2⟩
          case measure => simp [intOf]; omega
        · rw [e1] at CE RM SU
          have c0 : wr.cell? ⟨g, o + i, none⟩ = some (.int .u8 92) := by have := CE.out 0 (by simp); simpa [bc] using this
          have c1 : wr.cell? ⟨g, o + (i + 1), none⟩ = some (.int .u8 92) := by have := CE.out 1 (by simp); simpa [bc, hn] using this
          simp only [List.length_cons, List.length_nil, Nat.zero_add, Nat.reduceAdd] at RM
          have hn' : ((l[k].toNat : Nat) : Int) = 92 := by rw [hn]; rfl
          rw [hn'] at MORE
          clear hn hn' e1
          go_wp2_with (at_builtin; refine wpList_append_own _ rfl _ _ 22 rfl w.heap.size 5 i0 (.int .u8 0) 1 1 Tryd.underlying22 hi hz0 hz1 hz2 rfl (by decide) _ _ _ rfl (hown.alloc _) ⟨wr.heap.size, 0, none⟩ 1 1 [.int .u8 92] rfl rfl (cell_one_new _ _ _) (by intro u hu; simp at hu; subst hu; rfl) (by unfold maxLen; omega) (by omega) (by simp; omega) ?_)
          intro v2 w2 hown' hgrow _
          have R := MORE.out w2 v2 _ hown' hgrow
          clear hown' hgrow hown
          go_wp2
          go_roundw
          case rel => exact ⟨k + 1, i + 2, by go_num, by omega, by rw [SU.out]; rfl, by omega, R.1, R.2⟩
          case measure => simp [intOf]; omega
      · subst q1
        rw [e1] at CE RM SU
        have c0 : wr.cell? ⟨g, o + i, none⟩ = some (.int .u8 92) := by have := CE.out 0 (by simp); simpa [bc] using this
        have c1 : wr.cell? ⟨g, o + (i + 1), none⟩ = some (.int .u8 98) := by have := CE.out 1 (by simp); simpa [bc] using this
        simp only [List.length_cons, List.length_nil, Nat.zero_add, Nat.reduceAdd] at RM
        have hn' : ((l[k].toNat : Nat) : Int) = 8 := by rw [hn]; rfl
        rw [hn'] at MORE
        clear hn hn' e1
        go_wp2_with (at_builtin; refine wpList_append_own _ rfl _ _ 22 rfl w.heap.size 5 i0 (.int .u8 0) 1 1 Tryd.underlying22 hi hz0 hz1 hz2 rfl (by decide) _ _ _ rfl (hown.alloc _) ⟨wr.heap.size, 0, none⟩ 1 1 [.int .u8 8] rfl rfl (cell_one_new _ _ _) (by intro u hu; simp at hu; subst hu; rfl) (by unfold maxLen; omega) (by omega) (by simp; omega) ?_)
        intro v2 w2 hown' hgrow _
        have R := MORE.out w2 v2 _ hown' hgrow
        clear hown' hgrow hown
        go_wp2
        go_roundw
        case rel => exact ⟨k + 1, i + 2, by go_num, by omega, by rw [SU.out]; rfl, by omega, R.1, R.2⟩
        case measure => simp [intOf]; omega
      · subst q1
        rw [e1] at CE RM SU
        have c0 : wr.cell? ⟨g, o + i, none⟩ = some (.int .u8 92) := by have := CE.out 0 (by simp); simpa [bc] using this
        have c1 : wr.cell? ⟨g, o + (i + 1), none⟩ = some (.int .u8 116) := by have := CE.out 1 (by simp); simpa [bc] using this
        simp only [List.length_cons, List.length_nil, Nat.zero_add, Nat.reduceAdd] at RM
        have hn' : ((l[k].toNat : Nat) : Int) = 9 := by rw [hn]; rfl
        rw [hn'] at MORE
        clear hn hn' e1
        go_wp2_with (at_builtin; refine wpList_append_own _ rfl _ _ 22 rfl w.heap.size 5 i0 (.int .u8 0) 1 1 Tryd.underlying22 hi hz0 hz1 hz2 rfl (by decide) _ _ _ rfl (hown.alloc _) ⟨wr.heap.size, 0, none⟩ 1 1 [.int .u8 9] rfl rfl (cell_one_new _ _ _) (by intro u hu; simp at hu; subst hu; rfl) (by unfold maxLen; omega) (by omega) (by simp; omega) ?_)
        intro v2 w2 hown' hgrow _
        have R := MORE.out w2 v2 _ hown' hgrow
        clear hown' hgrow hown
        go_wp2
        go_roundw
        case rel => exact ⟨k + 1, i + 2, by go_num, by omega, by rw [SU.out]; rfl, by omega, R.1, R.2⟩
        case measure => simp [intOf]; omega
      · subst q1
        rw [e1] at CE RM SU
        have c0 : wr.cell? ⟨g, o + i, none⟩ = some (.int .u8 92) := by have := CE.out 0 (by simp); simpa [bc] using this
        have c1 : wr.cell? ⟨g, o + (i + 1), none⟩ = some (.int .u8 110) := by have := CE.out 1 (by simp); simpa [bc] using this
        simp only [List.length_cons, List.length_nil, Nat.zero_add, Nat.reduceAdd] at RM
        have hn' : ((l[k].toNat : Nat) : Int) = 10 := by rw [hn]; rfl
        rw [hn'] at MORE
        clear hn hn' e1
        go_wp2_with (at_builtin; refine wpList_append_own _ rfl _ _ 22 rfl w.heap.size 5 i0 (.int .u8 0) 1 1 Tryd.underlying22 hi hz0 hz1 hz2 rfl (by decide) _ _ _ rfl (hown.alloc _) ⟨wr.heap.size, 0, none⟩ 1 1 [.int .u8 10] rfl rfl (cell_one_new _ _ _) (by intro u hu; simp at hu; subst hu; rfl) (by unfold maxLen; omega) (by omega) (by simp; omega) ?_)
        intro v2 w2 hown' hgrow _
        have R := MORE.out w2 v2 _ hown' hgrow
        clear hown' hgrow hown
        go_wp2
        go_roundw
        case rel => exact ⟨k + 1, i + 2, by go_num, by omega, by rw [SU.out]; rfl, by omega, R.1, R.2⟩
        case measure => simp [intOf]; omega
      · subst q1
        rw [e1] at CE RM SU
        have c0 : wr.cell? ⟨g, o + i, none⟩ = some (.int .u8 92) := by have := CE.out 0 (by simp); simpa [bc] using this
        have c1 : wr.cell? ⟨g, o + (i + 1), none⟩ = some (.int .u8 102) := by have := CE.out 1 (by simp); simpa [bc] using this
        simp only [List.length_cons, List.length_nil, Nat.zero_add, Nat.reduceAdd] at RM
        have hn' : ((l[k].toNat : Nat) : Int) = 12 := by rw [hn]; rfl
        rw [hn'] at MORE
        clear hn hn' e1
        go_wp2_with (at_builtin; refine wpList_append_own _ rfl _ _ 22 rfl w.heap.size 5 i0 (.int .u8 0) 1 1 Tryd.underlying22 hi hz0 hz1 hz2 rfl (by decide) _ _ _ rfl (hown.alloc _) ⟨wr.heap.size, 0, none⟩ 1 1 [.int .u8 12] rfl rfl (cell_one_new _ _ _) (by intro u hu; simp at hu; subst hu; rfl) (by unfold maxLen; omega) (by omega) (by simp; omega) ?_)
        intro v2 w2 hown' hgrow _
        have R := MORE.out w2 v2 _ hown' hgrow
        clear hown' hgrow hown
        go_wp2
        go_roundw
        case rel => exact ⟨k + 1, i + 2, by go_num, by omega, by rw [SU.out]; rfl, by omega, R.1, R.2⟩
        case measure => simp [intOf]; omega
      · subst q1
        rw [e1] at CE RM SU
        have c0 : wr.cell? ⟨g, o + i, none⟩ = some (.int .u8 92) := by have := CE.out 0 (by simp); simpa [bc] using this
        have c1 : wr.cell? ⟨g, o + (i + 1), none⟩ = some (.int .u8 114) := by have := CE.out 1 (by simp); simpa [bc] using this
        simp only [List.length_cons, List.length_nil, Nat.zero_add, Nat.reduceAdd] at RM
        have hn' : ((l[k].toNat : Nat) : Int) = 13 := by rw [hn]; rfl
        rw [hn'] at MORE
        clear hn hn' e1
        go_wp2_with (at_builtin; refine wpList_append_own _ rfl _ _ 22 rfl w.heap.size 5 i0 (.int .u8 0) 1 1 Tryd.underlying22 hi hz0 hz1 hz2 rfl (by decide) _ _ _ rfl (hown.alloc _) ⟨wr.heap.size, 0, none⟩ 1 1 [.int .u8 13] rfl rfl (cell_one_new _ _ _) (by intro u hu; simp at hu; subst hu; rfl) (by unfold maxLen; omega) (by omega) (by simp; omega) ?_)
        intro v2 w2 hown' hgrow _
        have R := MORE.out w2 v2 _ hown' hgrow
        clear hown' hgrow hown
        go_wp2
        go_roundw
        case rel => exact ⟨k + 1, i + 2, by go_num, by omega, by rw [SU.out]; rfl, by omega, R.1, R.2⟩
        case measure => simp [intOf]; omega
      · -- a control byte by its number
        rw [e1] at CE RM SU
        have c0 : wr.cell? ⟨g, o + i, none⟩ = some (.int .u8 92) := by have := CE.out 0 (by simp); simpa [bc] using this
        have c1 : wr.cell? ⟨g, o + (i + 1), none⟩ = some (.int .u8 117) := by have := CE.out 1 (by simp); simpa [bc] using this
        have c2 : wr.cell? ⟨g, o + (i + 2), none⟩ = some (.int .u8 48) := by have := CE.out 2 (by simp); simpa [bc] using this
        have c3 : wr.cell? ⟨g, o + (i + 3), none⟩ = some (.int .u8 48) := by have := CE.out 3 (by simp); simpa [bc] using this
        have c4 : wr.cell? ⟨g, o + (i + 4), none⟩ = some (.int .u8 (a.toNat : Int)) := by have := CE.out 4 (by simp); simpa [bc] using this
        have c5 : wr.cell? ⟨g, o + (i + 5), none⟩ = some (.int .u8 (b.toNat : Int)) := by have := CE.out 5 (by simp); simpa [bc] using this
        simp only [List.length_cons, List.length_nil, Nat.zero_add, Nat.reduceAdd] at RM
        have hn' : ((l[k].toNat : Nat) : Int) = (n : Int) := by rw [hn]
        rw [hn'] at MORE
        generalize (a.toNat : Int) = A at c4 e2
        generalize (b.toNat : Int) = C at c5 e3
        obtain ⟨D1, hD1⟩ : ∃ D1 : Int, ((n / 16 : Nat) : Int) = D1 := ⟨_, rfl⟩
        obtain ⟨D2, hD2⟩ : ∃ D2 : Int, ((n % 16 : Nat) : Int) = D2 := ⟨_, rfl⟩
        have d1 : 0 ≤ D1 := by omega
        have d2 : D1 ≤ 1 := by omega
        have d3 : 0 ≤ D2 := by omega
        have d4 : D2 ≤ 15 := by omega
        have hv : D1 * 16 + D2 = (n : Int) := by omega
        have X1 := hideD (hex_any A D1 (by rw [e2]; exact hD1) d1)
        have X2 := hideD (hex_any C D2 (by rw [e3]; exact hD2) d3)
        have b1 : ((n : Int) == 8) = false := by rw [beq_eq_false_iff_ne]; omega
        have b2 : ((n : Int) == 9) = false := by rw [beq_eq_false_iff_ne]; omega
        have b3 : ((n : Int) == 10) = false := by rw [beq_eq_false_iff_ne]; omega
        have b4 : ((n : Int) == 12) = false := by rw [beq_eq_false_iff_ne]; omega
        have b5 : ((n : Int) == 13) = false := by rw [beq_eq_false_iff_ne]; omega
        have b6 : decide (D1 < 0) = false := by simp; omega
        have b7 : decide (1 < D1) = false := by simp; omega
        have b8 : decide (D2 < 0) = false := by simp; omega
        clear hn hn' e1 e2 e3 hD1 hD2
        go_wp2_with fail
        refine (X1.out _).mono ?_
        rintro e w' ⟨rfl, hw⟩
        have hw := hw.symm
        subst hw
        go_wp2_with fail
        refine (X2.out _).mono ?_
        rintro e w' ⟨rfl, hw⟩
        have hw := hw.symm
        subst hw
        go_wp2_with (at_builtin; refine wpList_append_own _ rfl _ _ 22 rfl w.heap.size 5 i0 (.int .u8 0) 1 1 Tryd.underlying22 hi hz0 hz1 hz2 rfl (by decide) _ _ _ rfl (hown.alloc _) ⟨wr.heap.size, 0, none⟩ 1 1 [.int .u8 (n : Int)] rfl rfl (cell_one_new _ _ _) (by intro u hu; simp at hu; subst hu; rfl) (by unfold maxLen; omega) (by omega) (by simp; omega) ?_)
        intro v2 w2 hown' hgrow _
        have R := MORE.out w2 v2 _ hown' hgrow
        clear hown' hgrow hown
        go_wp2
        go_roundw
        case rel => exact ⟨k + 1, i + 6, by go_num, by omega, by rw [SU.out]; rfl, by omega, R.1, R.2⟩
        case measure => simp [intOf]; omega
    · have e : l.take k = l := List.take_of_length_le (by omega)
      have ek : k = l.length := by omega
      have eE : i = E := by rw [HI.out, e, HE.out]
      rw [e] at hown
      subst ek
      subst eE
      clear e
      go_wp2
      go_ret2
      exact ⟨_, rfl, hown, hnx⟩
end Go.Proofs.Qxb6601842aDoor
