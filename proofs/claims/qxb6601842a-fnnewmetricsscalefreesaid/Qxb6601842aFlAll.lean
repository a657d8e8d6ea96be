import Derived.Test.Qxb6601842aFlA
import Derived.Test.Qxb6601842aFlB
import Derived.Test.Qxb6601842aFlSpec
namespace Go.Proofs.Qxb6601842a

theorem chk_all (h : Nat) (hh : h ≤ 10000) : chk h = true := by
  have key : ∀ lo n, chkFrom lo n = true → lo ≤ h → h < lo + n → chk h = true := by
    intro lo n hc h1 h2
    have := chk_of hc (h - lo) (by omega)
    have e : lo + (h - lo) = h := by omega
    rwa [e] at this
  by_cases h0 : h < 1000
  · exact key 0 1000 part0 (by omega) (by omega)
  by_cases h1 : h < 2000
  · exact key 1000 1000 part1 (by omega) (by omega)
  by_cases h2 : h < 3000
  · exact key 2000 1000 part2 (by omega) (by omega)
  by_cases h3 : h < 4000
  · exact key 3000 1000 part3 (by omega) (by omega)
  by_cases h4 : h < 5000
  · exact key 4000 1000 part4 (by omega) (by omega)
  by_cases h5 : h < 6000
  · exact key 5000 1000 part5 (by omega) (by omega)
  by_cases h6 : h < 7000
  · exact key 6000 1000 part6 (by omega) (by omega)
  by_cases h7 : h < 8000
  · exact key 7000 1000 part7 (by omega) (by omega)
  by_cases h8 : h < 9000
  · exact key 8000 1000 part8 (by omega) (by omega)
  exact key 9000 1001 part9 (by omega) (by omega)

theorem float_ok (h : Nat) (hh : h ≤ 10000) : FloatOk h := by
  have := chk_all h hh
  unfold chk at this
  simp only [Bool.and_eq_true, beq_iff_eq, Bool.or_eq_true] at this
  obtain ⟨⟨⟨⟨⟨⟨⟨a, b⟩, c⟩, d⟩, e⟩, f⟩, g⟩, i⟩ := this
  exact ⟨a, b, c, by simp only [Bool.or_eq_true, beq_iff_eq]; exact d, e, f, g, i⟩

end Go.Proofs.Qxb6601842a
