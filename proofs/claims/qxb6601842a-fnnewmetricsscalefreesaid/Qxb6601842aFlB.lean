import Derived.Test.Qxb6601842aFl
namespace Go.Proofs.Qxb6601842a

theorem part5 : chkFrom 5000 1000 = true := by kernel_rfl
theorem part6 : chkFrom 6000 1000 = true := by kernel_rfl
theorem part7 : chkFrom 7000 1000 = true := by kernel_rfl
theorem part8 : chkFrom 8000 1000 = true := by kernel_rfl
theorem part9 : chkFrom 9000 1001 = true := by kernel_rfl
end Go.Proofs.Qxb6601842a
