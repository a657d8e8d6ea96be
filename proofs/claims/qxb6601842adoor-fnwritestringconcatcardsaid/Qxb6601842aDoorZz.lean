import Derived.Test.Qxb6601842aDoorWs
namespace Go.Proofs.Qxb6601842aDoor
open Go.RowKit

/-- bytes.NewBuffer: a new block that holds the slice -/
theorem newBuf (a : Option Addr) (n c : Nat) (w : World) :
    Calls Tryd.prog 16 #[.slice a n c] w fun e w' => e = .returned (.pointer (some ⟨w.heap.size, 0, none⟩)) ∧ w' = w.alloc (.cells #[.slice a n c, .int .i64 0, .int .i8 0] 46) := by
  go_enter Tryd.func16, Tryd.ntmps16
  go_wp2
  go_ret
  exact ⟨rfl, rfl⟩

theorem bf_new {B : Nat} {l : List UInt8} {v : Value} {w : World} (h : w.ownsRow B 5 1 v l.length (Lib.byteCells l)) (hB : B ≤ w.heap.size) :
    Bf B w.heap.size w l (w.alloc (.cells #[v, .int .i64 0, .int .i8 0] 46)) := by
  refine ⟨⟨hB, v, 0, heap_alloc_new w _, ?_, ?_⟩, (Below.refl _ _).alloc hB _, by simp; omega⟩
  · rw [Lib.byteCells_length]; exact h.alloc _
  · intro e
    have := (h.lt _ e).2
    omega

theorem shape5 {w : World} {B n : Nat} {v : Value} {xs : List Value} (h : w.ownsRow B 5 1 v n xs) : ∃ ao cap, v = .slice ao n cap := by
  rcases h.2 with ⟨h', h0⟩ | ⟨g, cap, cur, h', -⟩
  · exact ⟨none, 0, by rw [h', h0]⟩
  · exact ⟨_, _, h'⟩

set_option maxHeartbeats 1000000 in
/-- ZZWriteStringAppend: the head bytes, then the string's writing, in a row of the call's own -/
theorem zz_any (B : Nat) (l : List UInt8) (v : Value) (s : ByteArray) (w : World) (h : w.ownsRow B 5 1 v l.length (Lib.byteCells l)) (hB : B ≤ w.heap.size) (hlim : l.length + 6 * s.size + 2 ≤ 140737488355328) :
    Calls Tryd.prog 8 #[v, .string s] w fun e w' => ∃ g cap, e = .returned (.slice (some ⟨g, 0, none⟩) (l ++ quo s.data.toList).length cap) ∧ w'.ownsRow B 5 1 (.slice (some ⟨g, 0, none⟩) (l ++ quo s.data.toList).length cap) (l ++ quo s.data.toList).length (Lib.byteCells (l ++ quo s.data.toList)) ∧ Below B w w' := by
  obtain ⟨ao, cap, rfl⟩ := shape5 h
  have N := hideD (bf_new h hB)
  clear h
  go_enter Tryd.func8, Tryd.ntmps8
  go_wp2_with (first | (go_at_call 16; refine (newBuf _ _ _ _).mono ?_; rintro e w1 ⟨rfl, rfl⟩) | (go_at_call 17; refine (ws_any B _ l s w _ N.out hlim).mono ?_; rintro e w2 ⟨rfl, h2⟩; have H2 := hideD h2; clear h2) | (go_at_call 18; refine (bufBytes B _ _ _ H2.out.buf).mono ?_; rintro e w3 ⟨v3, rfl, ho3, m, rfl⟩))
  go_ret
  rw [Lib.byteCells_length] at ho3
  have hq := quo_len s.data.toList
  rcases ho3.2 with ⟨-, h0⟩ | ⟨g, cap3, cur, hv, -⟩
  · simp only [List.length_append] at h0; omega
  · subst hv
    exact ⟨g, cap3, rfl, ho3, H2.out.below.trans ⟨rfl, rfl, rfl, Nat.le_refl _, fun _ _ => rfl⟩⟩
end Go.Proofs.Qxb6601842aDoor
