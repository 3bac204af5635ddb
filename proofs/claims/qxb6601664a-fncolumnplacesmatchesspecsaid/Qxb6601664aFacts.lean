import Derived.Test.Qxb6601664aProg
import Derived.Test.Qxb6601664aMem
import Derived.KernelRfl
namespace Go.Proofs.Qxb6601664a
theorem kS9 : isSliceT Try.prog 9 = false := by kernel_rfl
theorem kS22 : isSliceT Try.prog 22 = true := by kernel_rfl
theorem kS26 : isSliceT Try.prog 26 = true := by kernel_rfl
theorem kT9 : isStringT Try.prog 9 = true := by kernel_rfl
theorem kE22 : eltSz Try.prog 22 = some 1 := by kernel_rfl
theorem kE26 : eltSz Try.prog 26 = some 1 := by kernel_rfl
theorem kP3 : plainT Try.prog 3 = true := by kernel_rfl
theorem kP9 : plainT Try.prog 9 = true := by kernel_rfl
theorem kZ3 : sizeT Try.prog 3 = some 1 := by kernel_rfl
theorem kZ9 : sizeT Try.prog 9 = some 1 := by kernel_rfl
theorem kM22 : mkZ Try.prog 22 = some (9, 16, .string .empty) := by kernel_rfl
theorem kM26 : mkZ Try.prog 26 = some (3, 8, .int .i64 0) := by kernel_rfl
theorem kC9 : callable Try.prog 9 = true := by kernel_rfl
theorem kC10 : callable Try.prog 10 = true := by kernel_rfl
theorem kC11 : callable Try.prog 11 = true := by kernel_rfl
theorem kC12 : callable Try.prog 12 = true := by kernel_rfl
theorem kC13 : callable Try.prog 13 = true := by kernel_rfl
theorem kC26 : callable Try.prog 26 = true := by kernel_rfl
theorem kC32 : callable Try.prog 32 = true := by kernel_rfl
theorem kC33 : callable Try.prog 33 = true := by kernel_rfl
theorem kC34 : callable Try.prog 34 = true := by kernel_rfl
theorem kmixed : Try.prog.follows .mixedOrders = true := by kernel_rfl
end Go.Proofs.Qxb6601664a
