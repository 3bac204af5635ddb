import Derived.Test.Qxb6601695aProg
import Derived.Test.Qxb6601695aMem
import Derived.KernelRfl
namespace Go.Proofs.Qxb6601695a
theorem kS9 : isSliceT Try.prog 9 = false := by kernel_rfl
theorem kS28 : isSliceT Try.prog 28 = true := by kernel_rfl
theorem kS47 : isSliceT Try.prog 47 = true := by kernel_rfl
theorem kT9 : isStringT Try.prog 9 = true := by kernel_rfl
theorem kE28 : eltSz Try.prog 28 = some 1 := by kernel_rfl
theorem kE47 : eltSz Try.prog 47 = some 1 := by kernel_rfl
theorem kP3 : plainT Try.prog 3 = true := by kernel_rfl
theorem kP5 : plainT Try.prog 5 = true := by kernel_rfl
theorem kZ3 : sizeT Try.prog 3 = some 1 := by kernel_rfl
theorem kZ5 : sizeT Try.prog 5 = some 1 := by kernel_rfl
theorem kM28 : mkZ Try.prog 28 = some (3, 8, .int .i64 0) := by kernel_rfl
theorem kM47 : mkZ Try.prog 47 = some (5, 1, .int .u8 0) := by kernel_rfl
theorem kC8 : callable Try.prog 8 = true := by kernel_rfl
theorem kC9 : callable Try.prog 9 = true := by kernel_rfl
theorem kC10 : callable Try.prog 10 = true := by kernel_rfl
theorem kC11 : callable Try.prog 11 = true := by kernel_rfl
theorem kC12 : callable Try.prog 12 = true := by kernel_rfl
theorem kC13 : callable Try.prog 13 = true := by kernel_rfl
theorem kC30 : callable Try.prog 30 = true := by kernel_rfl
theorem kC31 : callable Try.prog 31 = true := by kernel_rfl
theorem kV3_5 : convT Try.prog 3 5 = some .u8 := by kernel_rfl
theorem kV5_3 : convT Try.prog 5 3 = some .i64 := by kernel_rfl
theorem kV47_9 : convT Try.prog 47 9 = none := by kernel_rfl
theorem kY47_9 : byteStrT Try.prog 47 9 = true := by kernel_rfl
theorem kmixed : Try.prog.follows .mixedOrders = true := by kernel_rfl
end Go.Proofs.Qxb6601695a
