import Derived.Laws.Strings
import Derived.KernelRfl
namespace Go.Proofs.Qxb6602253a

/-- the j-th byte as a number (0 beyond the end) -/
def bt (s : ByteArray) (j : Nat) : Int := ((s.data.toList.getD j 0).toNat : Int)

theorem bt_eq (s : ByteArray) (j : Nat) (h : j < s.size) : bt s j = ((s[j]'h).toNat : Int) := by
  have h' : j < s.data.toList.length := by simpa using h
  unfold bt
  rw [List.getD, List.getElem?_eq_getElem h']
  rfl

theorem bt_bd (s : ByteArray) (j : Nat) : 0 ≤ bt s j ∧ bt s j ≤ 255 := by
  unfold bt
  have := (s.data.toList.getD j 0).toNat_lt
  omega

theorem notEmpty (s : ByteArray) (h : 0 < s.size) : s.toList.isEmpty = false := by
  rw [ByteArray.toList_eq]
  have : 0 < s.data.toList.length := by simpa using h
  cases hl : s.data.toList with
  | nil => rw [hl] at this; simp at this
  | cons a l => rfl

theorem isEmpty0 (s : ByteArray) (h : s.size = 0) : s.toList.isEmpty = true := by
  rw [ByteArray.toList_eq]
  have : s.data.toList.length = 0 := by simpa using h
  cases hl : s.data.toList with
  | nil => rfl
  | cons a l => rw [hl] at this; simp at this

def alB (c : Int) : Bool := (decide (97 ≤ c) && decide (c ≤ 122)) || (decide (65 ≤ c) && decide (c ≤ 90)) || (decide (48 ≤ c) && decide (c ≤ 57))
def mkB (c : Int) : Bool := decide (c = 45) || decide (c = 46) || decide (c = 95) || decide (c = 126)

/-- the linear search's answer -/
def inB (l : List UInt8) (c : Int) : Bool := l.any fun x => decide ((x.toNat : Int) = c)

def alnum : ByteArray := { data := #[48, 49, 50, 51, 52, 53, 54, 55, 56, 57, 65, 66, 67, 68, 69, 70, 71, 72, 73, 74, 75, 76, 77, 78, 79, 80, 81, 82, 83, 84, 85, 86, 87, 88, 89, 90, 97, 98, 99, 100, 101, 102, 103, 104, 105, 106, 107, 108, 109, 110, 111, 112, 113, 114, 115, 116, 117, 118, 119, 120, 121, 122] }
def marks : ByteArray := { data := #[45, 46, 95, 126] }

theorem alnum_all : ∀ n : Fin 256, inB alnum.data.toList (n.val : Int) = alB (n.val : Int) := by decide +kernel
theorem marks_all : ∀ n : Fin 256, inB marks.data.toList (n.val : Int) = mkB (n.val : Int) := by decide +kernel

theorem alnum_eq (c : Int) (h0 : 0 ≤ c) (h1 : c ≤ 255) : inB alnum.data.toList c = alB c := by
  have := alnum_all ⟨c.toNat, by omega⟩
  have e : ((c.toNat : Nat) : Int) = c := by omega
  simp only [e] at this
  exact this
theorem marks_eq (c : Int) (h0 : 0 ≤ c) (h1 : c ≤ 255) : inB marks.data.toList c = mkB c := by
  have := marks_all ⟨c.toNat, by omega⟩
  have e : ((c.toNat : Nat) : Int) = c := by omega
  simp only [e] at this
  exact this

/-- may byte j stand there? -/
def okAt (s : ByteArray) (j : Nat) : Bool := alB (bt s j) || (decide (0 < j) && mkB (bt s j))

/-- THE PLAIN FUNCTION that both compute -/
def vB (s : ByteArray) : Bool := decide (1 ≤ s.size) && decide (s.size ≤ 64) && (List.range s.size).all fun j => okAt s j

theorem vB_true {s : ByteArray} (h1 : 1 ≤ s.size) (h2 : s.size ≤ 64) (h : ∀ j, j < s.size → okAt s j = true) : vB s = true := by
  unfold vB
  simp only [h1, h2, decide_true, Bool.true_and, List.all_eq_true, List.mem_range]
  exact h

theorem vB_false_at {s : ByteArray} (j : Nat) (hj : j < s.size) (h : okAt s j = false) : vB s = false := by
  unfold vB
  rw [Bool.and_eq_false_iff]
  right
  rw [List.all_eq_false]
  exact ⟨j, by simpa using hj, by simp [h]⟩

theorem vB_false_size {s : ByteArray} (h : s.size = 0 ∨ 64 < s.size) : vB s = false := by
  unfold vB
  rcases h with h | h
  · simp [h]
  · have : decide (s.size ≤ 64) = false := by simpa using h
    simp [this]
end Go.Proofs.Qxb6602253a
