import Derived.Test.Qxb6601738aProg
import Derived.Test.Qxb6601738aMem
import Derived.KernelRfl
namespace Go.Proofs.Qxb6601738a
theorem kS9 : isSliceT Try.prog 9 = false := by kernel_rfl
theorem kS32 : isSliceT Try.prog 32 = true := by kernel_rfl
theorem kS33 : isSliceT Try.prog 33 = true := by kernel_rfl
theorem kS34 : isSliceT Try.prog 34 = true := by kernel_rfl
theorem kS53 : isSliceT Try.prog 53 = true := by kernel_rfl
theorem kT9 : isStringT Try.prog 9 = true := by kernel_rfl
theorem kE32 : eltSz Try.prog 32 = some 1 := by kernel_rfl
theorem kE33 : eltSz Try.prog 33 = some 4 := by kernel_rfl
theorem kE34 : eltSz Try.prog 34 = some 1 := by kernel_rfl
theorem kE42 : eltSz Try.prog 42 = none := by kernel_rfl
theorem kR42 : arrSz Try.prog 42 = some (4, 1) := by kernel_rfl
theorem kE53 : eltSz Try.prog 53 = some 4 := by kernel_rfl
theorem kE89 : eltSz Try.prog 89 = none := by kernel_rfl
theorem kR89 : arrSz Try.prog 89 = some (4, 1) := by kernel_rfl
theorem kP4 : plainT Try.prog 4 = true := by kernel_rfl
theorem kP5 : plainT Try.prog 5 = true := by kernel_rfl
theorem kP34 : plainT Try.prog 34 = true := by kernel_rfl
theorem kP41 : plainT Try.prog 41 = true := by kernel_rfl
theorem kP42 : plainT Try.prog 42 = false := by kernel_rfl
theorem kP53 : plainT Try.prog 53 = true := by kernel_rfl
theorem kP54 : plainT Try.prog 54 = true := by kernel_rfl
theorem kP55 : plainT Try.prog 55 = true := by kernel_rfl
theorem kP58 : plainT Try.prog 58 = false := by kernel_rfl
theorem kP60 : plainT Try.prog 60 = false := by kernel_rfl
theorem kP65 : plainT Try.prog 65 = false := by kernel_rfl
theorem kA42 : aggN Try.prog 42 = some 4 := by kernel_rfl
theorem kA58 : aggN Try.prog 58 = some 4 := by kernel_rfl
theorem kA60 : aggN Try.prog 60 = some 3 := by kernel_rfl
theorem kA65 : aggN Try.prog 65 = some 2 := by kernel_rfl
theorem kZ4 : sizeT Try.prog 4 = some 1 := by kernel_rfl
theorem kZ5 : sizeT Try.prog 5 = some 1 := by kernel_rfl
theorem kN32 : (mkN Try.prog 32).isSome = false := by kernel_rfl
theorem kN33 : (mkN Try.prog 33).isSome = true := by kernel_rfl
theorem kN34 : (mkN Try.prog 34).isSome = false := by kernel_rfl
theorem kN53 : (mkN Try.prog 53).isSome = true := by kernel_rfl
theorem kM32 : mkZ Try.prog 32 = some (5, 1, .int .u8 0) := by kernel_rfl
theorem kM34 : mkZ Try.prog 34 = some (4, 1, .bool false) := by kernel_rfl
theorem kC14 : callable Try.prog 14 = true := by kernel_rfl
theorem kC15 : callable Try.prog 15 = true := by kernel_rfl
theorem kC16 : callable Try.prog 16 = true := by kernel_rfl
theorem kC17 : callable Try.prog 17 = true := by kernel_rfl
theorem kC18 : callable Try.prog 18 = true := by kernel_rfl
theorem kC19 : callable Try.prog 19 = true := by kernel_rfl
theorem kC20 : callable Try.prog 20 = true := by kernel_rfl
theorem kC22 : callable Try.prog 22 = true := by kernel_rfl
theorem kC30 : callable Try.prog 30 = true := by kernel_rfl
theorem kC33 : callable Try.prog 33 = true := by kernel_rfl
theorem kC34 : callable Try.prog 34 = true := by kernel_rfl
theorem kC35 : callable Try.prog 35 = true := by kernel_rfl
theorem kC36 : callable Try.prog 36 = true := by kernel_rfl
theorem kC37 : callable Try.prog 37 = true := by kernel_rfl
theorem kC38 : callable Try.prog 38 = true := by kernel_rfl
theorem kC40 : callable Try.prog 40 = true := by kernel_rfl
theorem kF58_0 : fieldOff Try.prog 58 0 = some 0 := by kernel_rfl
theorem kF58_1 : fieldOff Try.prog 58 1 = some 1 := by kernel_rfl
theorem kF58_2 : fieldOff Try.prog 58 2 = some 2 := by kernel_rfl
theorem kF58_3 : fieldOff Try.prog 58 3 = some 3 := by kernel_rfl
theorem kF60_0 : fieldOff Try.prog 60 0 = some 0 := by kernel_rfl
theorem kF60_1 : fieldOff Try.prog 60 1 = some 1 := by kernel_rfl
theorem kF60_2 : fieldOff Try.prog 60 2 = some 2 := by kernel_rfl
theorem kF65_0 : fieldOff Try.prog 65 0 = some 0 := by kernel_rfl
theorem kF65_1 : fieldOff Try.prog 65 1 = some 1 := by kernel_rfl
theorem kB4 : isBoolT Try.prog 4 = true := by kernel_rfl
theorem kLoadB (t : TypeId) (p : Addr) (w : World) (k : Value → Prop) : loadB Try.prog t p w k = (match aggN Try.prog t with | some m => (match loadN w p 0 m with | some vs => k (.agg vs.toArray) | none => False) | none => False) := nr rfl
theorem kStoreB (t : TypeId) (p : Addr) (vs : List Value) (w : World) (k : World → Prop) : storeB Try.prog t (.pointer (some p)) (.agg vs.toArray) w k = ((aggN Try.prog t = some vs.length ∧ vs.all (·.oneCell') = true) ∧ roomAt w p vs.length ∧ k (w.setCells p.block p.off vs)) := nr rfl
theorem kMk33 : mkN Try.prog 33 = some (42, 32, [.int .u64 0, .int .u64 0, .int .u64 0, .int .u64 0]) := by kernel_rfl
theorem kMk53 : mkN Try.prog 53 = some (58, 24, [.int .u8 0, .int .u8 0, .pointer none, .bool false]) := by kernel_rfl
theorem kz58 : zeroC Try.prog 58 = some #[.int .u8 0, .int .u8 0, .pointer none, .bool false] := by kernel_rfl
theorem kz65 : zeroC Try.prog 65 = some #[.slice none 0 0, .slice none 0 0] := by kernel_rfl
theorem kCells (cs : Array Value) : (Value.agg cs).cells = cs := nr rfl
theorem kmixed : Try.prog.follows .mixedOrders = true := by kernel_rfl
end Go.Proofs.Qxb6601738a
