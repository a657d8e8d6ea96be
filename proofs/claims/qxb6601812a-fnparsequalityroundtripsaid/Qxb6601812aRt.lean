import Derived.Test.Qxb6601812aPq
import Derived.Test.Qxb6601812aRtPlain
import Derived.RowKit3
namespace Go.Proofs.Qxb6601812a
open Go.RowKit

/-- the block of the five bytes -/
def fiveObj (n : Int) : Obj := .cells #[.int .u8 (48 + n / 1000), .int .u8 46, .int .u8 (48 + n / 100 % 10), .int .u8 (48 + n / 10 % 10), .int .u8 (48 + n % 10)] 31

theorem five_conv (n : Int) (w w' : World) (hw : ∃ m, w' = (w.alloc (fiveObj n)).drewN m) (k : Nat) (hk : k ≤ 5) (cap : Nat) :
    (convert 32 9 (.slice (some ⟨w.heap.size, 0, none⟩) k cap)).run Try.prog w' = .ok (.string (strOfNums ((five n).take k))) w' := by
  refine run_convert_bytes_arg w' 32 5 Try.underlying32 Try.underlying5 w.heap.size 0 k cap _ (by simp [five]; omega) ?_ 9 Try.underlying9
  obtain ⟨m, rfl⟩ := hw
  intro i hi
  have hc : ((w.alloc (fiveObj n)).drewN m).cell? ⟨w.heap.size, 0 + i, none⟩ = (w.alloc (fiveObj n)).cell? ⟨w.heap.size, i, none⟩ := by rw [Nat.zero_add]; rfl
  rw [hc]
  unfold fiveObj
  rw [World.cell?_alloc_mark]
  have hi' : i = 0 ∨ i = 1 ∨ i = 2 ∨ i = 3 ∨ i = 4 := by omega
  rw [List.getD, List.getElem?_take_of_lt hi]
  rcases hi' with rfl | rfl | rfl | rfl | rfl <;> rfl

theorem five_len (n : Int) (k : Nat) : (strOfNums ((five n).take k)).size ≤ maxLen := by
  rw [strOfNums_size]
  have : ((five n).take k).length ≤ 5 := by simp [five]; omega
  unfold maxLen; omega

/-- behind the stores and the first call: all that the rest asks of the world -/
structure AtFive (n : Int) (w W : World) : Prop where
  conv : ∀ k, k ≤ 5 → ∀ cap, (convert 32 9 (.slice (some ⟨w.heap.size, 0, none⟩) k cap)).run Try.prog W = .ok (.string (strOfNums ((five n).take k))) W
  c2 : W.cell? ⟨w.heap.size, 2, none⟩ = some (.int .u8 (48 + n / 100 % 10))
  c3 : W.cell? ⟨w.heap.size, 3, none⟩ = some (.int .u8 (48 + n / 10 % 10))
  c4 : W.cell? ⟨w.heap.size, 4, none⟩ = some (.int .u8 (48 + n % 10))
  grown : Grown w W

theorem atFive (n : Int) (w : World) (m : Nat) : AtFive n w ((w.alloc (fiveObj n)).drewN m) := by
  refine ⟨fun k hk cap => five_conv n w _ ⟨m, rfl⟩ k hk cap, ?_, ?_, ?_, ?_⟩
  · show (w.alloc (fiveObj n)).cell? _ = _; unfold fiveObj; rw [World.cell?_alloc_mark]; rfl
  · show (w.alloc (fiveObj n)).cell? _ = _; unfold fiveObj; rw [World.cell?_alloc_mark]; rfl
  · show (w.alloc (fiveObj n)).cell? _ = _; unfold fiveObj; rw [World.cell?_alloc_mark]; rfl
  · exact (Grown.refl w).alloc _ _

set_option maxHeartbeats 2000000 in
theorem rt_in (n : Int) (h0 : 0 ≤ n) (h1 : n ≤ 1999) (w : World) :
    Calls Try.prog 7 #[.int .i64 n] w fun e w' => e = .returned (.bool true) ∧ Grown w w' := by
  have hc := five_conv n w (w.alloc (fiveObj n)) ⟨0, rfl⟩ 5 (by omega) 5
  unfold fiveObj at hc
  have r5 := five_reads n h0 h1 5 (by omega) (by omega) (by omega) (by omega) (by omega)
  obtain ⟨r5a, r5b⟩ := r5
  have R5A := hideH r5a
  have R5B := hideH r5b
  clear r5a r5b
  by_cases hle : n ≤ 1000
  all_goals
    go_enter Try.func7, Try.ntmps7
    go_wp2_with (go_at_call 16; refine (zzpq_any _ (five_len n 5) _).mono ?_; rw [R5A.out, R5B.out]; rintro e w' ⟨rfl, m, rfl⟩)
    have AF := atFive n w m
    unfold fiveObj at AF
    clear hc
    generalize (w.alloc (Obj.cells #[Value.int IntKind.u8 (48 + n / 1000), Value.int IntKind.u8 46, Value.int IntKind.u8 (48 + n / 100 % 10), Value.int IntKind.u8 (48 + n / 10 % 10), Value.int IntKind.u8 (48 + n % 10)] 31)).drewN m = W at AF
    go_loop [6] (fun t => ∃ k : Nat, 2 ≤ k ∧ k ≤ 5 ∧ t = .int .i64 k ∧ (k < 3 → n / 100 % 10 = 0) ∧ (k < 4 → n / 10 % 10 = 0) ∧ (k < 5 → n % 10 = 0)) (fun t => (intOf t).toNat)
    case atStart => exact ⟨5, by omega, by omega, rfl, by omega, by omega, by omega⟩
    case round =>
      obtain ⟨k, hk2, hk5, rfl, z2, z3, z4⟩ := hrel
      have RD := hideH (five_reads n h0 h1)
      have Z2 := hideH z2
      have Z3 := hideH z3
      have Z4 := hideH z4
      clear z2 z3 z4
      have hk : k = 5 ∨ k = 4 ∨ k = 3 ∨ k = 2 := by omega
      rcases hk with rfl | rfl | rfl | rfl
      · have cc := AF.c4
        by_cases hz : n % 10 ≤ 0
        · go_wp2
          go_round
          case rel => exact ⟨4, by omega, by omega, rfl, fun h => by first | omega | exact Z2.out (by omega), fun h => by first | omega | exact Z3.out (by omega), fun h => by first | omega | exact Z4.out (by omega)⟩
          case measure => simp [intOf]
        · have hcv := AF.conv 5 (by omega)
          obtain ⟨ra, rb⟩ := RD.out 5 (by omega) (by omega) (by omega) (fun h => Z3.out (by omega)) (fun h => Z4.out (by omega))
          have RA := hideH ra
          have RB := hideH rb
          clear ra rb
          go_wp2_with (go_at_call 16; refine (zzpq_any _ (five_len n 5) _).mono ?_; rw [RA.out, RB.out]; rintro e w' ⟨rfl, m2, rfl⟩)
          go_ret
          exact ⟨rfl, AF.grown⟩
      · have cc := AF.c3
        by_cases hz : n / 10 % 10 ≤ 0
        · go_wp2
          go_round
          case rel => exact ⟨3, by omega, by omega, rfl, fun h => by first | omega | exact Z2.out (by omega), fun h => by first | omega | exact Z3.out (by omega), fun h => by first | omega | exact Z4.out (by omega)⟩
          case measure => simp [intOf]
        · have hcv := AF.conv 4 (by omega)
          obtain ⟨ra, rb⟩ := RD.out 4 (by omega) (by omega) (by omega) (fun h => Z3.out (by omega)) (fun h => Z4.out (by omega))
          have RA := hideH ra
          have RB := hideH rb
          clear ra rb
          go_wp2_with (go_at_call 16; refine (zzpq_any _ (five_len n 4) _).mono ?_; rw [RA.out, RB.out]; rintro e w' ⟨rfl, m2, rfl⟩)
          go_ret
          exact ⟨rfl, AF.grown⟩
      · have cc := AF.c2
        by_cases hz : n / 100 % 10 ≤ 0
        · go_wp2
          go_round
          case rel => exact ⟨2, by omega, by omega, rfl, fun h => by first | omega | exact Z2.out (by omega), fun h => by first | omega | exact Z3.out (by omega), fun h => by first | omega | exact Z4.out (by omega)⟩
          case measure => simp [intOf]
        · have hcv := AF.conv 3 (by omega)
          obtain ⟨ra, rb⟩ := RD.out 3 (by omega) (by omega) (by omega) (fun h => Z3.out (by omega)) (fun h => Z4.out (by omega))
          have RA := hideH ra
          have RB := hideH rb
          clear ra rb
          go_wp2_with (go_at_call 16; refine (zzpq_any _ (five_len n 3) _).mono ?_; rw [RA.out, RB.out]; rintro e w' ⟨rfl, m2, rfl⟩)
          go_ret
          exact ⟨rfl, AF.grown⟩
      · have hcv := AF.conv 1 (by omega)
        obtain ⟨ra, rb⟩ := RD.out 1 (by omega) (by omega) (fun h => Z2.out (by omega)) (fun h => Z3.out (by omega)) (fun h => Z4.out (by omega))
        have RA := hideH ra
        have RB := hideH rb
        clear ra rb
        go_wp2_with (go_at_call 16; refine (zzpq_any _ (five_len n 1) _).mono ?_; rw [RA.out, RB.out]; rintro e w' ⟨rfl, m2, rfl⟩)
        go_ret
        exact ⟨rfl, AF.grown⟩

theorem rt_any (n : Int) (w : World) :
    Calls Try.prog 7 #[.int .i64 n] w fun e w' => e = .returned (.bool true) ∧ Grown w w' := by
  by_cases h0 : 0 ≤ n
  · by_cases h1 : n ≤ 1999
    · exact rt_in n h0 h1 w
    · go_enter Try.func7, Try.ntmps7
      go_wp2
      go_ret
      exact ⟨rfl, Grown.refl _⟩
  · go_enter Try.func7, Try.ntmps7
    go_wp2
    go_ret
    exact ⟨rfl, Grown.refl _⟩
end Go.Proofs.Qxb6601812a
