/-
  No cell of these rows narrows 'for every input' (looked for: loops, veiled, ifaces, maps, wideKeys, modest, calm, conditions, laid).
  DERIVED. THE GIVEN ROWS OF THIS SEAT. 5 by the template 'for every input the law returns true; each argument reads behind the call as it read before'; 0 by the template 'total and deterministic' (their statements: Qxb6601695aTotals.lean).
  GIVEN WITH THE SEED: the statements are not yours to turn. If you find one false, say at which input.
  Laid BY PROGRAM, IN A SANDBOX (cutbox-rows.mjs): the forced cells as the released guide's own fill.sh prints them over the translation e48032f15c5f5203… (all of the seat's roots in one cut). By AI agents, Wed Nov 11 2026. No macro, syntax, notation, axiom, sorry.
-/
import Derived.Test.Qxb6601695aChecked
import GoSem.Claim
import GoSem.ClaimJoined
import GoSem.ClaimMapViews
import Derived.JoinedTies
import Derived.KernelRfl
namespace Go.Proofs.Qxb6601695a
/- THE CELL 'sum', in the pinned program and in every row, IS THE sha256 OF THE DUMP (.gsa) THAT Qxb6601695aProg.lean LOADS. Nothing in Lean hashes anything: it is a label: what it is worth is what the hold of that sum in a sandbox is worth. -/
noncomputable def Try.pinned : Pinned := { name := "qxb6601695a", sum := "e48032f15c5f5203190fecfa71c0ec09e304ef32806acb63b359c04c4ab1d8b1", checked := Try.checked }
namespace Rows
def none {H : Type} : Left H := { results := [], args := [] }

/-- 'zzlaws_internal_server_b1.FnAddDigitsMatchesLookahead': WHATEVER THE INPUT: true; the input reads as it did. -/
def fnAddDigitsMatchesLookaheadSpec : ChangeSpec := { name := "fnAddDigitsMatchesLookahead", fn := fun _ => fun
  | [d1, d2, d3] => { results := [.lit (.bool true)], args := [d1, d2, d3] }
  | _ => none }
def fnAddDigitsMatchesLookaheadRow : OpenClaim := { program := "qxb6601695a", sum := "e48032f15c5f5203190fecfa71c0ec09e304ef32806acb63b359c04c4ab1d8b1", func := "example.com/tidemark/tidemark/zzlaws_internal_server_b1.FnAddDigitsMatchesLookahead", spec := "fnAddDigitsMatchesLookahead", apart := false }
def FnAddDigitsMatchesLookaheadSaid : Prop := fnAddDigitsMatchesLookaheadRow.holds Try.pinned (OpenSpec.ofChange fnAddDigitsMatchesLookaheadSpec)

/-- ITS FALSE NEIGHBOUR: 'it returns false'. Refute it at one input. -/
def fnAddDigitsMatchesLookaheadWrong : ChangeSpec := { name := "fnAddDigitsMatchesLookahead", fn := fun _ => fun
  | [d1, d2, d3] => { results := [.lit (.bool false)], args := [d1, d2, d3] }
  | _ => none }
def FnAddDigitsMatchesLookaheadWrongFalsely : Prop := fnAddDigitsMatchesLookaheadRow.holds Try.pinned (OpenSpec.ofChange fnAddDigitsMatchesLookaheadWrong)

/-- 'zzlaws_internal_server_b1.FnAddDigitsSubtractUndoesAdd': WHATEVER THE INPUT: true; the input reads as it did. -/
def fnAddDigitsSubtractUndoesAddSpec : ChangeSpec := { name := "fnAddDigitsSubtractUndoesAdd", fn := fun _ => fun
  | [d1, d2] => { results := [.lit (.bool true)], args := [d1, d2] }
  | _ => none }
def fnAddDigitsSubtractUndoesAddRow : OpenClaim := { program := "qxb6601695a", sum := "e48032f15c5f5203190fecfa71c0ec09e304ef32806acb63b359c04c4ab1d8b1", func := "example.com/tidemark/tidemark/zzlaws_internal_server_b1.FnAddDigitsSubtractUndoesAdd", spec := "fnAddDigitsSubtractUndoesAdd", apart := false }
def FnAddDigitsSubtractUndoesAddSaid : Prop := fnAddDigitsSubtractUndoesAddRow.holds Try.pinned (OpenSpec.ofChange fnAddDigitsSubtractUndoesAddSpec)

/-- ITS FALSE NEIGHBOUR: 'it returns false'. Refute it at one input. -/
def fnAddDigitsSubtractUndoesAddWrong : ChangeSpec := { name := "fnAddDigitsSubtractUndoesAdd", fn := fun _ => fun
  | [d1, d2] => { results := [.lit (.bool false)], args := [d1, d2] }
  | _ => none }
def FnAddDigitsSubtractUndoesAddWrongFalsely : Prop := fnAddDigitsSubtractUndoesAddRow.holds Try.pinned (OpenSpec.ofChange fnAddDigitsSubtractUndoesAddWrong)

/-- 'zzlaws_internal_server_b1.FnFieldSetSubtractExact': WHATEVER THE INPUT: true; the input reads as it did. -/
def fnFieldSetSubtractExactSpec : ChangeSpec := { name := "fnFieldSetSubtractExact", fn := fun _ => fun
  | [d1, d2, d3, d4, d5, d6] => { results := [.lit (.bool true)], args := [d1, d2, d3, d4, d5, d6] }
  | _ => none }
def fnFieldSetSubtractExactRow : OpenClaim := { program := "qxb6601695a", sum := "e48032f15c5f5203190fecfa71c0ec09e304ef32806acb63b359c04c4ab1d8b1", func := "example.com/tidemark/tidemark/zzlaws_internal_server_b1.FnFieldSetSubtractExact", spec := "fnFieldSetSubtractExact", recurses := true, apart := false }
def FnFieldSetSubtractExactSaid : Prop := fnFieldSetSubtractExactRow.holds Try.pinned (OpenSpec.ofChange fnFieldSetSubtractExactSpec)

/-- ITS FALSE NEIGHBOUR: 'it returns false'. Refute it at one input. -/
def fnFieldSetSubtractExactWrong : ChangeSpec := { name := "fnFieldSetSubtractExact", fn := fun _ => fun
  | [d1, d2, d3, d4, d5, d6] => { results := [.lit (.bool false)], args := [d1, d2, d3, d4, d5, d6] }
  | _ => none }
def FnFieldSetSubtractExactWrongFalsely : Prop := fnFieldSetSubtractExactRow.holds Try.pinned (OpenSpec.ofChange fnFieldSetSubtractExactWrong)

/-- 'zzlaws_internal_server_b1.FnFieldSetSubtractIdempotent': WHATEVER THE INPUT: true; the input reads as it did. -/
def fnFieldSetSubtractIdempotentSpec : ChangeSpec := { name := "fnFieldSetSubtractIdempotent", fn := fun _ => fun
  | [d1, d2, d3, d4, d5, d6] => { results := [.lit (.bool true)], args := [d1, d2, d3, d4, d5, d6] }
  | _ => none }
def fnFieldSetSubtractIdempotentRow : OpenClaim := { program := "qxb6601695a", sum := "e48032f15c5f5203190fecfa71c0ec09e304ef32806acb63b359c04c4ab1d8b1", func := "example.com/tidemark/tidemark/zzlaws_internal_server_b1.FnFieldSetSubtractIdempotent", spec := "fnFieldSetSubtractIdempotent", recurses := true, apart := false }
def FnFieldSetSubtractIdempotentSaid : Prop := fnFieldSetSubtractIdempotentRow.holds Try.pinned (OpenSpec.ofChange fnFieldSetSubtractIdempotentSpec)

/-- ITS FALSE NEIGHBOUR: 'it returns false'. Refute it at one input. -/
def fnFieldSetSubtractIdempotentWrong : ChangeSpec := { name := "fnFieldSetSubtractIdempotent", fn := fun _ => fun
  | [d1, d2, d3, d4, d5, d6] => { results := [.lit (.bool false)], args := [d1, d2, d3, d4, d5, d6] }
  | _ => none }
def FnFieldSetSubtractIdempotentWrongFalsely : Prop := fnFieldSetSubtractIdempotentRow.holds Try.pinned (OpenSpec.ofChange fnFieldSetSubtractIdempotentWrong)

/-- 'zzlaws_internal_server_b1.FnFieldSetSubtractCopyLeavesRoot': WHATEVER THE INPUT: true; the input reads as it did. -/
def fnFieldSetSubtractCopyLeavesRootSpec : ChangeSpec := { name := "fnFieldSetSubtractCopyLeavesRoot", fn := fun _ => fun
  | [d1, d2, d3] => { results := [.lit (.bool true)], args := [d1, d2, d3] }
  | _ => none }
def fnFieldSetSubtractCopyLeavesRootRow : OpenClaim := { program := "qxb6601695a", sum := "e48032f15c5f5203190fecfa71c0ec09e304ef32806acb63b359c04c4ab1d8b1", func := "example.com/tidemark/tidemark/zzlaws_internal_server_b1.FnFieldSetSubtractCopyLeavesRoot", spec := "fnFieldSetSubtractCopyLeavesRoot", recurses := true, apart := false }
def FnFieldSetSubtractCopyLeavesRootSaid : Prop := fnFieldSetSubtractCopyLeavesRootRow.holds Try.pinned (OpenSpec.ofChange fnFieldSetSubtractCopyLeavesRootSpec)

/-- ITS FALSE NEIGHBOUR: 'it returns false'. Refute it at one input. -/
def fnFieldSetSubtractCopyLeavesRootWrong : ChangeSpec := { name := "fnFieldSetSubtractCopyLeavesRoot", fn := fun _ => fun
  | [d1, d2, d3] => { results := [.lit (.bool false)], args := [d1, d2, d3] }
  | _ => none }
def FnFieldSetSubtractCopyLeavesRootWrongFalsely : Prop := fnFieldSetSubtractCopyLeavesRootRow.holds Try.pinned (OpenSpec.ofChange fnFieldSetSubtractCopyLeavesRootWrong)

end Rows
end Go.Proofs.Qxb6601695a
