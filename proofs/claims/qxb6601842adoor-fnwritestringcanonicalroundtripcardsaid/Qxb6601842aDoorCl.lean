import Derived.Test.Qxb6601842aDoorCc
import Derived.Laws.CopyOwn
namespace Go.Proofs.Qxb6601842aDoor
open Go.RowKit

theorem info5c : (Tryd.prog.info? 5).map (fun i => (i.zero, i.size, i.bytes)) = some (some (.int .u8 0), 1, 1) := by kernel_rfl

theorem clone_nil (w : World) :
    Calls Tryd.prog 7 #[.slice none 0 0] w fun e w' => e = .returned (.slice none 0 0) ∧ w' = w := by
  have hnil := fun W => Lib.run_eql_slice_nil (P := Tryd.prog) W 22 5 none 0 0 0 0 Tryd.underlying22
  go_enter Tryd.func7, Tryd.ntmps7
  go_wp2
  go_ret
  exact ⟨rfl, rfl⟩

set_option maxRecDepth 100000 in
set_option maxHeartbeats 2000000 in
/-- zzCloneBytes of a slice that is not nil: a row of the call's own with the same bytes -/
theorem clone_row (x : Addr) (n c : Nat) (zs : List UInt8) (hz : zs.length = n) (hn : n ≤ 1048576) (w : World) (hcell : ∀ j v, (Lib.byteCells zs)[j]? = some v → w.cell? (x.add j) = some v) (hx : 0 < n → x.block < w.heap.size) :
    Calls Tryd.prog 7 #[.slice (some x) n c] w fun e w' => ∃ g cap, e = .returned (.slice (some ⟨g, 0, none⟩) n cap) ∧ w'.ownsRow w.heap.size 5 1 (.slice (some ⟨g, 0, none⟩) n cap) n (Lib.byteCells zs) ∧ Below w.heap.size w w' := by
  obtain ⟨i0, hi, hz0, hz1, hz2⟩ := info_parts info5c
  obtain ⟨w1, hrun, hown1, hgr⟩ := run_make_full (P := Tryd.prog) w w.heap.size 22 5 i0 (.int .u8 0) 1 Tryd.underlying22 hi hz0 hz1 .i64 .i64 n (by rw [hz2]; omega) (by unfold maxLen; omega) (Nat.le_refl _)
  have B1 : Below w.heap.size w w1 := (Below.refl _ w).grown hgr (Nat.le_refl _) (fun q hq => by cases hq)
  obtain ⟨cur, hcur, hsz⟩ : ∃ cur : List Value, w1.heap[w.heap.size]? = some (.cells cur.toArray 5 (0, 0)) ∧ cur.length = n := by
    rcases hown1.2 with ⟨h', -⟩ | ⟨g', cap', cur, h', -, hgg, -, -, hs, -⟩
    · cases h'
    · simp only [Value.slice.injEq, Option.some.injEq, Addr.mk.injEq, and_true, true_and] at h'
      obtain ⟨rfl, rfl⟩ := h'
      exact ⟨cur.toList, by simpa using hgg, by simpa using hs⟩
  have hc1 : ∀ j v, (Lib.byteCells zs)[j]? = some v → w1.cell? (x.add j) = some v := fun j v hj => by
    have hj' : j < n := by
      have := (List.getElem?_eq_some_iff.1 hj).1
      rw [Lib.byteCells_length] at this; omega
    have hb : (x.add j).block = x.block := by unfold Addr.add; split <;> rfl
    rw [B1.cell (p := x.add j) (by rw [hb]; exact hx (by omega))]
    exact hcell j v hj
  have hnil := fun W => Lib.run_eql_slice_nil (P := Tryd.prog) W 22 5 (some x) n c 0 0 Tryd.underlying22
  obtain ⟨w2, hcopy, hr, hb⟩ : ∃ w2, (Builtin.copy_ #[22, 22] 3 #[.slice (some ⟨w.heap.size, 0, none⟩) n n, .slice (some x) n c]).run Tryd.prog w1 = .ok (goInt (Lib.byteCells zs).length) w2 ∧ w2.heap[w.heap.size]? = some (.cells (Lib.byteCells zs).toArray 5 (0, 0)) ∧ Below w.heap.size w w2 := by
    refine ⟨_, run_copy_row (P := Tryd.prog) w1 22 22 3 5 w.heap.size 0 n n x n c cur.toArray 5 (Lib.byteCells zs) Tryd.underlying22 (by kernel_rfl) hcur (by rw [Lib.byteCells_length, hz]; simp) hc1 (by rw [Lib.byteCells_length]; simp; omega) (Lib.byteCells_one _), ?_, below_setRow B1 (Nat.le_refl _) _⟩
    rw [setRow_heap w1 w.heap.size _ _ 5 (0, 0) hcur]
    simp only [List.take_zero, List.nil_append, Nat.zero_add]
    rw [List.drop_of_length_le (by rw [Lib.byteCells_length]; omega), List.append_nil]
  have OWN : Hid (w2.ownsRow w.heap.size 5 1 (.slice (some ⟨w.heap.size, 0, none⟩) n n) n (Lib.byteCells zs)) := by
    refine ⟨by rw [Lib.byteCells_length]; omega, Or.inr ⟨_, n, _, rfl, Nat.le_refl _, hr, Nat.le_refl _, by unfold maxLen; omega, ?_, ?_⟩⟩
    · simp [Lib.byteCells_length]; omega
    · simp only [Nat.mul_one]
      rw [List.take_of_length_le (by simp [Lib.byteCells_length]; omega)]
  have HB := hideD hb
  clear hc1 hcur B1 hown1 hgr hcell hx hr hb
  go_enter Tryd.func7, Tryd.ntmps7
  go_wp2
  go_ret
  exact ⟨_, _, rfl, OWN.out, HB.out⟩
end Go.Proofs.Qxb6601842aDoor
