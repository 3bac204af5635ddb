import Derived.Test.Qxb6601548aProg
import Derived.Test.Qxb6601548aMem
import Derived.KernelRfl
namespace Go.Proofs.Qxb6601548a
theorem kS22 : isSliceT Try.prog 22 = true := by kernel_rfl
theorem kS23 : isSliceT Try.prog 23 = true := by kernel_rfl
theorem kS24 : isSliceT Try.prog 24 = true := by kernel_rfl
theorem kS25 : isSliceT Try.prog 25 = true := by kernel_rfl
theorem kE22 : eltSz Try.prog 22 = some 1 := by kernel_rfl
theorem kE23 : eltSz Try.prog 23 = some 1 := by kernel_rfl
theorem kE24 : eltSz Try.prog 24 = some 1 := by kernel_rfl
theorem kE25 : eltSz Try.prog 25 = some 1 := by kernel_rfl
theorem kE50 : eltSz Try.prog 50 = some 1 := by kernel_rfl
theorem kE53 : eltSz Try.prog 53 = some 1 := by kernel_rfl
theorem kP3 : plainT Try.prog 3 = true := by kernel_rfl
theorem kP4 : plainT Try.prog 4 = true := by kernel_rfl
theorem kP21 : plainT Try.prog 21 = true := by kernel_rfl
theorem kP22 : plainT Try.prog 22 = true := by kernel_rfl
theorem kP24 : plainT Try.prog 24 = true := by kernel_rfl
theorem kP25 : plainT Try.prog 25 = true := by kernel_rfl
theorem kP34 : plainT Try.prog 34 = true := by kernel_rfl
theorem kP35 : plainT Try.prog 35 = true := by kernel_rfl
theorem kP38 : plainT Try.prog 38 = false := by kernel_rfl
theorem kP50 : plainT Try.prog 50 = true := by kernel_rfl
theorem kP51 : plainT Try.prog 51 = true := by kernel_rfl
theorem kZ3 : sizeT Try.prog 3 = some 1 := by kernel_rfl
theorem kZ4 : sizeT Try.prog 4 = some 1 := by kernel_rfl
theorem kZ21 : sizeT Try.prog 21 = some 1 := by kernel_rfl
theorem kZ22 : sizeT Try.prog 22 = some 1 := by kernel_rfl
theorem kZ24 : sizeT Try.prog 24 = some 1 := by kernel_rfl
theorem kZ25 : sizeT Try.prog 25 = some 1 := by kernel_rfl
theorem kZ34 : sizeT Try.prog 34 = some 1 := by kernel_rfl
theorem kZ35 : sizeT Try.prog 35 = some 1 := by kernel_rfl
theorem kZ38 : sizeT Try.prog 38 = some 19 := by kernel_rfl
theorem kZ51 : sizeT Try.prog 51 = some 1 := by kernel_rfl
theorem kM22 : mkZ Try.prog 22 = some (34, 8, .float .f64 0) := by kernel_rfl
theorem kM23 : mkZ Try.prog 23 = some (35, 1, .int .i8 0) := by kernel_rfl
theorem kM24 : mkZ Try.prog 24 = some (21, 4, .int .i32 0) := by kernel_rfl
theorem kM25 : mkZ Try.prog 25 = some (3, 8, .int .i64 0) := by kernel_rfl
theorem kM50 : mkZ Try.prog 50 = some (51, 1, .int .i8 0) := by kernel_rfl
theorem kM53 : mkZ Try.prog 53 = some (4, 1, .bool false) := by kernel_rfl
theorem kC8 : callable Try.prog 8 = true := by kernel_rfl
theorem kC9 : callable Try.prog 9 = true := by kernel_rfl
theorem kC10 : callable Try.prog 10 = true := by kernel_rfl
theorem kC11 : callable Try.prog 11 = true := by kernel_rfl
theorem kC12 : callable Try.prog 12 = true := by kernel_rfl
theorem kC13 : callable Try.prog 13 = true := by kernel_rfl
theorem kC14 : callable Try.prog 14 = true := by kernel_rfl
theorem kC15 : callable Try.prog 15 = true := by kernel_rfl
theorem kC16 : callable Try.prog 16 = true := by kernel_rfl
theorem kC17 : callable Try.prog 17 = true := by kernel_rfl
theorem kC19 : callable Try.prog 19 = true := by kernel_rfl
theorem kC20 : callable Try.prog 20 = true := by kernel_rfl
theorem kC21 : callable Try.prog 21 = true := by kernel_rfl
theorem kC22 : callable Try.prog 22 = true := by kernel_rfl
theorem kC23 : callable Try.prog 23 = true := by kernel_rfl
theorem kC24 : callable Try.prog 24 = true := by kernel_rfl
theorem kC25 : callable Try.prog 25 = true := by kernel_rfl
theorem kC26 : callable Try.prog 26 = true := by kernel_rfl
theorem kC27 : callable Try.prog 27 = true := by kernel_rfl
theorem kC28 : callable Try.prog 28 = true := by kernel_rfl
theorem kC29 : callable Try.prog 29 = true := by kernel_rfl
theorem kC30 : callable Try.prog 30 = true := by kernel_rfl
theorem kC31 : callable Try.prog 31 = true := by kernel_rfl
theorem kC32 : callable Try.prog 32 = true := by kernel_rfl
theorem kC33 : callable Try.prog 33 = true := by kernel_rfl
theorem kC34 : callable Try.prog 34 = true := by kernel_rfl
theorem kC35 : callable Try.prog 35 = true := by kernel_rfl
theorem kC36 : callable Try.prog 36 = true := by kernel_rfl
theorem kC37 : callable Try.prog 37 = true := by kernel_rfl
theorem kC38 : callable Try.prog 38 = true := by kernel_rfl
theorem kC39 : callable Try.prog 39 = true := by kernel_rfl
theorem kC40 : callable Try.prog 40 = true := by kernel_rfl
theorem kC41 : callable Try.prog 41 = true := by kernel_rfl
theorem kF38_0 : fieldOff Try.prog 38 0 = some 0 := by kernel_rfl
theorem kF38_1 : fieldOff Try.prog 38 1 = some 1 := by kernel_rfl
theorem kF38_2 : fieldOff Try.prog 38 2 = some 2 := by kernel_rfl
theorem kF38_3 : fieldOff Try.prog 38 3 = some 3 := by kernel_rfl
theorem kF38_4 : fieldOff Try.prog 38 4 = some 4 := by kernel_rfl
theorem kF38_5 : fieldOff Try.prog 38 5 = some 5 := by kernel_rfl
theorem kF38_6 : fieldOff Try.prog 38 6 = some 6 := by kernel_rfl
theorem kF38_7 : fieldOff Try.prog 38 7 = some 7 := by kernel_rfl
theorem kF38_8 : fieldOff Try.prog 38 8 = some 8 := by kernel_rfl
theorem kF38_9 : fieldOff Try.prog 38 9 = some 9 := by kernel_rfl
theorem kF38_10 : fieldOff Try.prog 38 10 = some 10 := by kernel_rfl
theorem kF38_11 : fieldOff Try.prog 38 11 = some 11 := by kernel_rfl
theorem kF38_12 : fieldOff Try.prog 38 12 = some 12 := by kernel_rfl
theorem kF38_13 : fieldOff Try.prog 38 13 = some 13 := by kernel_rfl
theorem kF38_14 : fieldOff Try.prog 38 14 = some 14 := by kernel_rfl
theorem kF38_15 : fieldOff Try.prog 38 15 = some 15 := by kernel_rfl
theorem kF38_16 : fieldOff Try.prog 38 16 = some 16 := by kernel_rfl
theorem kF38_17 : fieldOff Try.prog 38 17 = some 17 := by kernel_rfl
theorem kF38_18 : fieldOff Try.prog 38 18 = some 18 := by kernel_rfl
theorem kF58_0 : fieldOff Try.prog 58 0 = some 0 := by kernel_rfl
theorem kF58_1 : fieldOff Try.prog 58 1 = some 1 := by kernel_rfl
theorem kF58_2 : fieldOff Try.prog 58 2 = some 2 := by kernel_rfl
theorem kF60_1 : fieldOff Try.prog 60 1 = some 1 := by kernel_rfl
theorem kF60_2 : fieldOff Try.prog 60 2 = some 2 := by kernel_rfl
theorem kF60_3 : fieldOff Try.prog 60 3 = some 3 := by kernel_rfl
theorem kF60_4 : fieldOff Try.prog 60 4 = some 4 := by kernel_rfl
theorem kF60_5 : fieldOff Try.prog 60 5 = some 5 := by kernel_rfl
theorem kF60_6 : fieldOff Try.prog 60 6 = some 6 := by kernel_rfl
theorem kF60_7 : fieldOff Try.prog 60 7 = some 7 := by kernel_rfl
theorem kF60_8 : fieldOff Try.prog 60 8 = some 10 := by kernel_rfl
theorem kF60_9 : fieldOff Try.prog 60 9 = some 13 := by kernel_rfl
theorem kF60_10 : fieldOff Try.prog 60 10 = some 16 := by kernel_rfl
theorem kF60_11 : fieldOff Try.prog 60 11 = some 17 := by kernel_rfl
theorem kF60_13 : fieldOff Try.prog 60 13 = some 19 := by kernel_rfl
theorem kF62_0 : fieldOff Try.prog 62 0 = some 0 := by kernel_rfl
theorem kF62_1 : fieldOff Try.prog 62 1 = some 1 := by kernel_rfl
theorem kF62_3 : fieldOff Try.prog 62 3 = some 3 := by kernel_rfl
theorem kF62_4 : fieldOff Try.prog 62 4 = some 4 := by kernel_rfl
theorem kF62_8 : fieldOff Try.prog 62 8 = some 8 := by kernel_rfl
theorem kF62_11 : fieldOff Try.prog 62 11 = some 11 := by kernel_rfl
theorem kF62_12 : fieldOff Try.prog 62 12 = some 31 := by kernel_rfl
theorem kF62_17 : fieldOff Try.prog 62 17 = some 36 := by kernel_rfl
theorem kF62_18 : fieldOff Try.prog 62 18 = some 37 := by kernel_rfl
theorem kV21_3 : convT Try.prog 21 3 = some .i64 := by kernel_rfl
theorem kmixed : Try.prog.follows .mixedOrders = true := by kernel_rfl
end Go.Proofs.Qxb6601548a
