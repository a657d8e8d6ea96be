import Derived.Laws.Strings
namespace Go.Proofs.Qxb6601812a

/-- the j-th byte as a number (0 beyond the end) -/
def bt (s : ByteArray) (j : Nat) : Int := ((s.data.toList.getD j 0).toNat : Int)

theorem bt_eq (s : ByteArray) (j : Nat) (h : j < s.size) : bt s j = ((s[j]'h).toNat : Int) := by
  have h' : j < s.data.toList.length := by simpa using h
  unfold bt
  rw [List.getD, List.getElem?_eq_getElem h']
  rfl

theorem bt_ext (s : ByteArray) (j : Nat) (h : j < (s.extract 1 s.size).size) : (((s.extract 1 s.size)[j]'h).toNat : Int) = bt s (j + 1) := by
  have h' : j < s.size - 1 := by simpa using h
  rw [bt_eq s (j + 1) (by omega), ByteArray.getElem_extract]
  congr 3
  omega

theorem notEmpty (s : ByteArray) (h : 0 < s.size) : s.toList.isEmpty = false := by
  rw [ByteArray.toList_eq]
  have : 0 < s.data.toList.length := by simpa using h
  cases hl : s.data.toList with
  | nil => rw [hl] at this; simp at this
  | cons a l => rfl

theorem isEmpty0 (s : ByteArray) (h : s.size = 0) : s.toList.isEmpty = true := by
  rw [ByteArray.toList_eq]
  have : s.data.toList.length = 0 := by simpa using h
  cases hl : s.data.toList with
  | nil => rfl
  | cons a l => rw [hl] at this; simp at this

def sc : Nat → Int
  | 0 => 100
  | k + 1 => sc k / 10

def acc (s : ByteArray) : Nat → Int
  | 0 => (bt s 0 - 48) * 1000
  | k + 1 => acc s k + (bt s (k + 2) - 48) * sc k

def allDig (s : ByteArray) : Bool := (List.range (s.size - 2)).all fun j => decide (48 ≤ bt s (j + 2)) && decide (bt s (j + 2) ≤ 57)

theorem allDig_mk (s : ByteArray) (h : ∀ j, j < s.size - 2 → 48 ≤ bt s (j + 2) ∧ bt s (j + 2) ≤ 57) : allDig s = true := by
  unfold allDig
  rw [List.all_eq_true]
  intro j hj
  have := h j (by simpa using hj)
  simp [this.1, this.2]

theorem allDig_at {s : ByteArray} (h : allDig s = true) (j : Nat) (hj : j < s.size - 2) : 48 ≤ bt s (j + 2) ∧ bt s (j + 2) ≤ 57 := by
  unfold allDig at h
  rw [List.all_eq_true] at h
  have := h j (by simpa using hj)
  simpa using this

theorem allDig_no {s : ByteArray} (j : Nat) (hj : j < s.size - 2) (h : ¬ (48 ≤ bt s (j + 2) ∧ bt s (j + 2) ≤ 57)) : allDig s = false := by
  cases hd : allDig s with
  | false => rfl
  | true => exact absurd (allDig_at hd j hj) h

/-- THE PLAIN FUNCTION that parseQuality computes -/
def pqOk (s : ByteArray) : Bool := decide (1 ≤ s.size) && decide (s.size ≤ 5) && (decide (bt s 0 = 48) || decide (bt s 0 = 49)) && (decide (s.size = 1) || decide (bt s 1 = 46)) && allDig s

def pqV (s : ByteArray) : Int := if pqOk s then acc s (s.size - 2) else 0
def pqB (s : ByteArray) : Bool := if pqOk s then decide (acc s (s.size - 2) ≤ 1000) else false

theorem pqOk_mk {s : ByteArray} (h1 : 1 ≤ s.size) (h5 : s.size ≤ 5) (h0 : bt s 0 = 48 ∨ bt s 0 = 49) (hd : s.size = 1 ∨ bt s 1 = 46) (ha : allDig s = true) : pqOk s = true := by
  unfold pqOk
  simp [h1, h5, ha]
  exact ⟨h0, hd⟩

theorem pqOk_iff {s : ByteArray} : pqOk s = true ↔ (1 ≤ s.size ∧ s.size ≤ 5 ∧ (bt s 0 = 48 ∨ bt s 0 = 49) ∧ (s.size = 1 ∨ bt s 1 = 46) ∧ allDig s = true) := by
  unfold pqOk
  simp only [Bool.and_eq_true, Bool.or_eq_true, decide_eq_true_eq, and_assoc]

theorem pqOk_no {s : ByteArray} (h : ¬ (1 ≤ s.size ∧ s.size ≤ 5 ∧ (bt s 0 = 48 ∨ bt s 0 = 49) ∧ (s.size = 1 ∨ bt s 1 = 46) ∧ allDig s = true)) : pqOk s = false := by
  cases hp : pqOk s with
  | false => rfl
  | true => exact absurd (pqOk_iff.1 hp) h

theorem sc_le (k : Nat) : 0 ≤ sc k ∧ sc k ≤ 100 := by
  induction k with
  | zero => simp [sc]
  | succ k ih => simp only [sc]; omega

/-- the accumulator's bounds over digits -/
theorem acc_bd (s : ByteArray) (h0 : bt s 0 = 48 ∨ bt s 0 = 49) (k : Nat) (hk : k ≤ 3) (hd : ∀ j, j < k → 48 ≤ bt s (j + 2) ∧ bt s (j + 2) ≤ 57) : 0 ≤ acc s k ∧ acc s k ≤ 1999 := by
  have e0 : acc s 0 = (bt s 0 - 48) * 1000 := rfl
  have e1 : acc s 1 = acc s 0 + (bt s 2 - 48) * 100 := rfl
  have e2 : acc s 2 = acc s 1 + (bt s 3 - 48) * 10 := rfl
  have e3 : acc s 3 = acc s 2 + (bt s 4 - 48) * 1 := rfl
  have hk' : k = 0 ∨ k = 1 ∨ k = 2 ∨ k = 3 := by omega
  rcases hk' with rfl | rfl | rfl | rfl
  · omega
  · have := hd 0 (by omega); simp only [Nat.zero_add] at this; omega
  · have := hd 0 (by omega); have := hd 1 (by omega); simp only [Nat.zero_add, Nat.reduceAdd] at *; omega
  · have := hd 0 (by omega); have := hd 1 (by omega); have := hd 2 (by omega); simp only [Nat.zero_add, Nat.reduceAdd] at *; omega
end Go.Proofs.Qxb6601812a
