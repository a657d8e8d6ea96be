import Derived.Test.Qxb6601812aPqPlain
import Derived.Laws.BytesArg
namespace Go.Proofs.Qxb6601812a

/-- the five bytes that FnParseQualityRoundTrip writes -/
def five (n : Int) : List Int := [48 + n / 1000, 46, 48 + n / 100 % 10, 48 + n / 10 % 10, 48 + n % 10]

theorem bt_nums (xs : List Int) (j : Nat) (h : j < xs.length) (h0 : 0 ≤ xs[j]) (h1 : xs[j] ≤ 255) : bt (strOfNums xs) j = xs[j] := by
  unfold bt
  rw [strOfNums_data]
  have h' : j < (xs.map fun n => UInt8.ofNat n.toNat).length := by simpa using h
  rw [List.getD, List.getElem?_eq_getElem h']
  simp only [Option.getD_some, List.getElem_map, UInt8.toNat_ofNat']
  have : xs[j].toNat < 2 ^ 8 := by omega
  rw [Nat.mod_eq_of_lt this]
  omega

theorem five_at (n : Int) (h0 : 0 ≤ n) (h1 : n ≤ 1999) (k : Nat) (hk : k ≤ 5) :
    (strOfNums ((five n).take k)).size = k ∧ (1 ≤ k → bt (strOfNums ((five n).take k)) 0 = 48 + n / 1000) ∧ (2 ≤ k → bt (strOfNums ((five n).take k)) 1 = 46) ∧ (3 ≤ k → bt (strOfNums ((five n).take k)) 2 = 48 + n / 100 % 10)
    ∧ (4 ≤ k → bt (strOfNums ((five n).take k)) 3 = 48 + n / 10 % 10) ∧ (5 ≤ k → bt (strOfNums ((five n).take k)) 4 = 48 + n % 10) := by
  have hl : ((five n).take k).length = k := by simp [five]; omega
  have key : ∀ j (hj : j < k), 0 ≤ (five n).getD j 0 → (five n).getD j 0 ≤ 255 → bt (strOfNums ((five n).take k)) j = (five n).getD j 0 := by
    intro j hj a b
    have hj' : j < ((five n).take k).length := by omega
    have e : ((five n).take k)[j] = (five n).getD j 0 := by
      rw [List.getElem_take]
      have : j < (five n).length := by simp [five]; omega
      rw [List.getD, List.getElem?_eq_getElem this]; rfl
    rw [bt_nums _ j hj' (by rw [e]; exact a) (by rw [e]; exact b), e]
  refine ⟨by rw [strOfNums_size, hl], fun h => ?_, fun h => ?_, fun h => ?_, fun h => ?_, fun h => ?_⟩
  · exact key 0 (by omega) (show 0 ≤ 48 + n / 1000 by omega) (show 48 + n / 1000 ≤ 255 by omega)
  · exact key 1 (by omega) (show (0 : Int) ≤ 46 by omega) (show (46 : Int) ≤ 255 by omega)
  · exact key 2 (by omega) (show 0 ≤ 48 + n / 100 % 10 by omega) (show 48 + n / 100 % 10 ≤ 255 by omega)
  · exact key 3 (by omega) (show 0 ≤ 48 + n / 10 % 10 by omega) (show 48 + n / 10 % 10 ≤ 255 by omega)
  · exact key 4 (by omega) (show 0 ≤ 48 + n % 10 by omega) (show 48 + n % 10 ≤ 255 by omega)

/-- the plain law: cut behind its last digit that is not 0 the text reads n -/
theorem five_reads (n : Int) (h0 : 0 ≤ n) (h1 : n ≤ 1999) (k : Nat) (hk : k ≤ 5) (hk1 : 1 ≤ k)
    (z2 : k < 3 → n / 100 % 10 = 0) (z3 : k < 4 → n / 10 % 10 = 0) (z4 : k < 5 → n % 10 = 0) :
    pqV (strOfNums ((five n).take k)) = n ∧ pqB (strOfNums ((five n).take k)) = decide (n ≤ 1000) := by
  obtain ⟨hs, e0, e1, e2, e3, e4⟩ := five_at n h0 h1 k hk
  generalize strOfNums ((five n).take k) = s at hs e0 e1 e2 e3 e4
  have e0' := e0 hk1
  have hok : pqOk s = true := by
    refine pqOk_mk (by omega) (by omega) (by omega) (by omega) (allDig_mk s fun j hj => ?_)
    have hj' : j = 0 ∨ j = 1 ∨ j = 2 := by omega
    rcases hj' with rfl | rfl | rfl
    · have := e2 (by omega); simp only [Nat.zero_add]; omega
    · have := e3 (by omega); simp only [Nat.reduceAdd]; omega
    · have := e4 (by omega); simp only [Nat.reduceAdd]; omega
  have a0 : acc s 0 = (bt s 0 - 48) * 1000 := rfl
  have a1 : acc s 1 = acc s 0 + (bt s 2 - 48) * 100 := rfl
  have a2 : acc s 2 = acc s 1 + (bt s 3 - 48) * 10 := rfl
  have a3 : acc s 3 = acc s 2 + (bt s 4 - 48) * 1 := rfl
  have ha : acc s (s.size - 2) = n := by
    rw [hs]
    have hk' : k = 1 ∨ k = 2 ∨ k = 3 ∨ k = 4 ∨ k = 5 := by omega
    rcases hk' with rfl | rfl | rfl | rfl | rfl
    · show acc s 0 = n; omega
    · show acc s 0 = n; omega
    · show acc s 1 = n; omega
    · show acc s 2 = n; omega
    · show acc s 3 = n; omega
  unfold pqV pqB
  rw [hok, ha]
  exact ⟨rfl, rfl⟩
end Go.Proofs.Qxb6601812a
