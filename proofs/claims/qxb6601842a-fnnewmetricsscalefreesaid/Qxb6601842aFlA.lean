import Derived.Test.Qxb6601842aFl
namespace Go.Proofs.Qxb6601842a

theorem part0 : chkFrom 0 1000 = true := by kernel_rfl
theorem part1 : chkFrom 1000 1000 = true := by kernel_rfl
theorem part2 : chkFrom 2000 1000 = true := by kernel_rfl
theorem part3 : chkFrom 3000 1000 = true := by kernel_rfl
theorem part4 : chkFrom 4000 1000 = true := by kernel_rfl
end Go.Proofs.Qxb6601842a
