/-
  PLAIN: the placement goes well for each size of Data Matrix symbols, by reckoning.
-/
import Derived.Test.YtknipefcihkofaaDp2
import Derived.KernelRfl
namespace Go.Proofs.Ytknipefcihkofaa
theorem goes_k0 : goesB 8 8 8 = true := by kernel_rfl
theorem goes_k1 : goesB 10 10 12 = true := by kernel_rfl
theorem goes_k2 : goesB 6 16 12 = true := by kernel_rfl
theorem goes_k3 : goesB 12 12 18 = true := by kernel_rfl
theorem goes_k4 : goesB 6 28 21 = true := by kernel_rfl
theorem goes_k5 : goesB 14 14 24 = true := by kernel_rfl
theorem goes_k6 : goesB 10 24 30 = true := by kernel_rfl
theorem goes_k7 : goesB 16 16 32 = true := by kernel_rfl
theorem goes_k8 : goesB 18 18 40 = true := by kernel_rfl
theorem goes_k9 : goesB 10 32 40 = true := by kernel_rfl
theorem goes_k10 : goesB 20 20 50 = true := by kernel_rfl
theorem goes_k11 : goesB 14 32 56 = true := by kernel_rfl
theorem goes_k12 : goesB 22 22 60 = true := by kernel_rfl
theorem goes_k13 : goesB 24 24 72 = true := by kernel_rfl
theorem goes_k14 : goesB 14 44 77 = true := by kernel_rfl
theorem goes_k15 : goesB 28 28 98 = true := by kernel_rfl
theorem goes_k16 : goesB 32 32 128 = true := by kernel_rfl
theorem goes_k17 : goesB 36 36 162 = true := by kernel_rfl
theorem goes_k18 : goesB 40 40 200 = true := by kernel_rfl
theorem goes_k19 : goesB 44 44 242 = true := by kernel_rfl
theorem goes_k20 : goesB 48 48 288 = true := by kernel_rfl
theorem goes_k21 : goesB 56 56 392 = true := by kernel_rfl
theorem goes_k22 : goesB 64 64 512 = true := by kernel_rfl
theorem goes_k23 : goesB 72 72 648 = true := by kernel_rfl
theorem goes_k24 : goesB 80 80 800 = true := by kernel_rfl
theorem goes_k25 : goesB 88 88 968 = true := by kernel_rfl
theorem goes_k26 : goesB 96 96 1152 = true := by kernel_rfl
theorem goes_k27 : goesB 108 108 1458 = true := by kernel_rfl
theorem goes_k28 : goesB 120 120 1800 = true := by kernel_rfl
theorem goes_k29 : goesB 132 132 2178 = true := by kernel_rfl
end Go.Proofs.Ytknipefcihkofaa
