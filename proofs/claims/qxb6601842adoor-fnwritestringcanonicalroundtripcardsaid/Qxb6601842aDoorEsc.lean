import Derived.Laws.Strings
import Derived.KernelRfl
namespace Go.Proofs.Qxb6601842aDoor

/-- the writing of one byte inside a JSON string -/
def esc1 (c : UInt8) : List UInt8 :=
  if c = 34 ∨ c = 92 then [92, c]
  else if c = 10 then [92, 110]
  else if c = 13 then [92, 114]
  else if c = 9 then [92, 116]
  else if c = 8 then [92, 98]
  else if c = 12 then [92, 102]
  else if c < 32 then [92, 117, 48, 48, (if c < 16 then 48 else 49), (if c % 16 < 10 then 48 + c % 16 else 87 + c % 16)]
  else [c]

def esc (l : List UInt8) : List UInt8 := l.flatMap esc1

theorem esc_snoc (l : List UInt8) (c : UInt8) : esc (l ++ [c]) = esc l ++ esc1 c := by simp [esc]
theorem esc_append (l m : List UInt8) : esc (l ++ m) = esc l ++ esc m := by simp [esc]

theorem esc1_len : ∀ c : UInt8, (esc1 c).length ≤ 6 := by
  intro c
  unfold esc1
  split
  · simp
  · split
    · simp
    · split
      · simp
      · split
        · simp
        · split
          · simp
          · split
            · simp
            · split
              · simp
              · simp

theorem esc_len (l : List UInt8) : (esc l).length ≤ 6 * l.length := by
  induction l with
  | nil => simp [esc]
  | cons c l ih =>
    have := esc1_len c
    simp only [esc, List.flatMap_cons, List.length_append, List.length_cons] at *
    omega

/-- a whole string -/
def quo (l : List UInt8) : List UInt8 := 34 :: (esc l ++ [34])

theorem quo_len (l : List UInt8) : (quo l).length = (esc l).length + 2 := by simp [quo]
end Go.Proofs.Qxb6601842aDoor
