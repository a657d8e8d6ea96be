import Derived.Test.Qxb6601812aPqPlain
namespace Go.Proofs.Qxb6601812a

/-- one byte of an argument list: whether a comma outside every bracket was met, and the depth -/
def stp (c : Int) (t : Bool × Nat) : Bool × Nat :=
  if c = 91 then (t.1, t.2 + 1) else if c = 93 then (t.1, t.2 - 1) else if c = 44 ∧ t.2 = 0 then (true, t.2) else t

def scn (s : ByteArray) (a : Nat) : Nat → Bool × Nat
  | 0 => (false, 0)
  | k + 1 => stp (bt s (a + k)) (scn s a k)

theorem stp_le (c : Int) (t : Bool × Nat) : (stp c t).2 ≤ t.2 + 1 := by
  unfold stp
  split
  · simp
  · split
    · show t.2 - 1 ≤ t.2 + 1; omega
    · split
      · simp
      · omega

theorem scn_le (s : ByteArray) (a k : Nat) : (scn s a k).2 ≤ k := by
  induction k with
  | zero => simp [scn]
  | succ k ih => have := stp_le (bt s (a + k)) (scn s a k); simp only [scn]; omega

theorem bt_extract (s : ByteArray) (a b j : Nat) (hb : b ≤ s.size) (hj : j < b - a) : bt (s.extract a b) j = bt s (a + j) := by
  have h' : j < (s.extract a b).size := by simp; omega
  rw [bt_eq _ j h', bt_eq s (a + j) (by omega), ByteArray.getElem_extract]

theorem scn_extract (s : ByteArray) (a b : Nat) (hb : b ≤ s.size) (k : Nat) (hk : k ≤ b - a) : scn (s.extract a b) 0 k = scn s a k := by
  induction k with
  | zero => rfl
  | succ k ih => simp only [scn]; rw [ih (by omega), Nat.zero_add, bt_extract s a b k hb (by omega)]

/-- where piece j begins, the pieces' ends being es -/
def bgn (es : List Nat) : Nat → Nat
  | 0 => 0
  | j + 1 => es.getD j 0 + 1

theorem bgn_snoc (es : List Nat) (i j : Nat) (h : j ≤ es.length) : bgn (es ++ [i]) j = bgn es j := by
  cases j with
  | zero => rfl
  | succ j => simp only [bgn]; rw [List.getD, List.getElem?_append_left (by omega)]; rfl

theorem bgn_last (es : List Nat) (i : Nat) : bgn (es ++ [i]) (es.length + 1) = i + 1 := by
  simp only [bgn]; rw [List.getD, List.getElem?_append_right (Nat.le_refl _)]; simp

theorem getD_snoc (es : List Nat) (i j : Nat) (h : j < es.length) : (es ++ [i]).getD j 0 = es.getD j 0 := by
  rw [List.getD, List.getElem?_append_left h]; rfl

theorem getD_last (es : List Nat) (i : Nat) : (es ++ [i]).getD es.length 0 = i := by
  rw [List.getD, List.getElem?_append_right (Nat.le_refl _)]; simp

/-- the pieces that end at a comma -/
def PcOk (s : ByteArray) (es : List Nat) : Prop :=
  ∀ j, j < es.length → bgn es j ≤ es.getD j 0 ∧ es.getD j 0 < s.size ∧ bt s (es.getD j 0) = 44 ∧ scn s (bgn es j) (es.getD j 0 - bgn es j) = (false, 0)

theorem pcOk_snoc {s : ByteArray} {es : List Nat} (h : PcOk s es) (i : Nat) (h1 : bgn es es.length ≤ i) (h2 : i < s.size) (h3 : bt s i = 44) (h4 : scn s (bgn es es.length) (i - bgn es es.length) = (false, 0)) : PcOk s (es ++ [i]) := by
  intro j hj
  simp only [List.length_append, List.length_cons, List.length_nil, Nat.zero_add] at hj
  by_cases e : j = es.length
  · subst e
    rw [bgn_snoc es i _ (Nat.le_refl _), getD_last]
    exact ⟨h1, h2, h3, h4⟩
  · rw [bgn_snoc es i j (by omega), getD_snoc es i j (by omega)]
    exact h j (by omega)

/-- what holds at the head of splitArgs' loop -/
structure SpInv (s : ByteArray) (limit : Int) (es : List Nat) (d i : Nat) : Prop where
  ok : PcOk s es
  le : bgn es es.length ≤ i
  top : i ≤ s.size
  cur : scn s (bgn es es.length) (i - bgn es es.length) = (false, d)
  len : es.length ≤ i
  lim : 0 < limit → (es.length : Int) + 1 ≤ limit

/-- what holds of the ends when splitArgs is through -/
structure SpEnd (s : ByteArray) (limit : Int) (es : List Nat) : Prop where
  ok : PcOk s es
  le : bgn es es.length ≤ s.size
  last : (scn s (bgn es es.length) (s.size - bgn es es.length)).1 = false ∨ (0 < limit ∧ (es.length : Int) + 1 = limit)
  len : es.length ≤ s.size
  lim : 0 < limit → (es.length : Int) + 1 ≤ limit

theorem spInv_start (s : ByteArray) (limit : Int) : SpInv s limit [] 0 0 :=
  ⟨fun j hj => absurd hj (by simp), Nat.le_refl _, Nat.zero_le _, rfl, Nat.le_refl _, fun h => by simp; omega⟩

theorem cur_succ {s : ByteArray} {limit : Int} {es : List Nat} {d i : Nat} (h : SpInv s limit es d i) : scn s (bgn es es.length) (i + 1 - bgn es es.length) = stp (bt s i) (false, d) := by
  have e : i + 1 - bgn es es.length = (i - bgn es es.length) + 1 := by have := h.le; omega
  rw [e]
  simp only [scn]
  rw [h.cur]
  congr 2
  have := h.le; omega

theorem spInv_next {s : ByteArray} {limit : Int} {es : List Nat} {d d' i : Nat} (h : SpInv s limit es d i) (hi : i < s.size) (hs : stp (bt s i) (false, d) = (false, d')) : SpInv s limit es d' (i + 1) :=
  ⟨h.ok, by have := h.le; omega, by omega, by rw [cur_succ h, hs], by have := h.len; omega, h.lim⟩

theorem spInv_comma {s : ByteArray} {limit : Int} {es : List Nat} {i : Nat} (h : SpInv s limit es 0 i) (hi : i < s.size) (hc : bt s i = 44) (hl : (es.length : Int) ≠ limit - 1) : SpInv s limit (es ++ [i]) 0 (i + 1) := by
  have hb : bgn (es ++ [i]) (es ++ [i]).length = i + 1 := by
    rw [List.length_append]; exact bgn_last es i
  refine ⟨pcOk_snoc h.ok i h.le hi hc h.cur, by rw [hb]; omega, by omega, ?_, by have := h.len; simp; omega, fun hp => ?_⟩
  · rw [hb, Nat.sub_self]; rfl
  · have := h.lim hp; simp; omega

theorem spEnd_all {s : ByteArray} {limit : Int} {es : List Nat} {d i : Nat} (h : SpInv s limit es d i) (hi : i = s.size) : SpEnd s limit es := by
  subst hi
  exact ⟨h.ok, h.le, Or.inl (by rw [h.cur]), h.len, h.lim⟩

theorem spEnd_cap {s : ByteArray} {limit : Int} {es : List Nat} {d i : Nat} (h : SpInv s limit es d i) (hl : (es.length : Int) = limit - 1) : SpEnd s limit es :=
  ⟨h.ok, Nat.le_trans h.le h.top, Or.inr ⟨by omega, by omega⟩, Nat.le_trans h.len h.top, h.lim⟩

theorem stp_open (d : Nat) : stp 91 (false, d) = (false, d + 1) := by simp [stp]
theorem stp_shut (d : Nat) : stp 93 (false, d) = (false, d - 1) := by simp [stp]
theorem stp_deep (d : Nat) (h : d ≠ 0) : stp 44 (false, d) = (false, d) := by simp [stp, h]
theorem stp_other (c : Int) (d : Nat) (h1 : c ≠ 91) (h2 : c ≠ 93) (h3 : c ≠ 44) : stp c (false, d) = (false, d) := by simp [stp, h1, h2, h3]

/-- where piece j ends -/
def fin (s : ByteArray) (es : List Nat) (j : Nat) : Nat := if j < es.length then es.getD j 0 else s.size

/-- all that the law's loops ask of piece j -/
theorem spEnd_at {s : ByteArray} {limit : Int} {es : List Nat} (h : SpEnd s limit es) (j : Nat) (hj : j ≤ es.length) :
    bgn es j ≤ fin s es j ∧ fin s es j ≤ s.size ∧ (j < es.length → fin s es j < s.size ∧ bt s (fin s es j) = 44 ∧ bgn es (j + 1) = fin s es j + 1 ∧ scn s (bgn es j) (fin s es j - bgn es j) = (false, 0))
    ∧ (j = es.length → fin s es j = s.size ∧ ((scn s (bgn es j) (fin s es j - bgn es j)).1 = false ∨ (0 < limit ∧ (es.length : Int) + 1 = limit))) := by
  unfold fin
  by_cases e : j < es.length
  · obtain ⟨a, b, c, d⟩ := h.ok j e
    simp only [e, if_true]
    exact ⟨a, by omega, fun _ => ⟨b, c, rfl, d⟩, fun e' => absurd e' (by omega)⟩
  · have e' : j = es.length := by omega
    subst e'
    rw [if_neg (Nat.lt_irrefl _)]
    exact ⟨h.le, Nat.le_refl _, fun hh => absurd hh (by omega), fun _ => ⟨rfl, h.last⟩⟩
end Go.Proofs.Qxb6601812a
