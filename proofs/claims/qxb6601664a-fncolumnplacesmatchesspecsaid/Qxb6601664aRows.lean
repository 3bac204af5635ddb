/-
  No cell of these rows narrows 'for every input' (looked for: loops, veiled, ifaces, maps, wideKeys, modest, calm, conditions, laid).
  DERIVED. THE GIVEN ROWS OF THIS SEAT. 6 by the template 'for every input the law returns true; each argument reads behind the call as it read before'; 0 by the template 'total and deterministic' (their statements: Qxb6601664aTotals.lean).
  GIVEN WITH THE SEED: the statements are not yours to turn. If you find one false, say at which input.
  Laid BY PROGRAM, IN A SANDBOX (cutbox-rows.mjs): the forced cells as the released guide's own fill.sh prints them over the translation b77f1391f4bfedc0… (all of the seat's roots in one cut). By AI agents, Wed Nov 11 2026. No macro, syntax, notation, axiom, sorry.
-/
import Derived.Test.Qxb6601664aChecked
import GoSem.Claim
import GoSem.ClaimJoined
import GoSem.ClaimMapViews
import Derived.JoinedTies
import Derived.KernelRfl
namespace Go.Proofs.Qxb6601664a
/- THE CELL 'sum', in the pinned program and in every row, IS THE sha256 OF THE DUMP (.gsa) THAT Qxb6601664aProg.lean LOADS. Nothing in Lean hashes anything: it is a label: what it is worth is what the hold of that sum in a sandbox is worth. -/
noncomputable def Try.pinned : Pinned := { name := "qxb6601664a", sum := "b77f1391f4bfedc0b802a7cc620a093e8a8fb33c63e8627660f2b963e16df0c3", checked := Try.checked }
namespace Rows
def none {H : Type} : Left H := { results := [], args := [] }

/-- 'zzlaws_fund_b1.FnColumnPlacesMatchesSpec': WHATEVER THE INPUT: true; the input reads as it did. -/
def fnColumnPlacesMatchesSpecSpec : ChangeSpec := { name := "fnColumnPlacesMatchesSpec", fn := fun _ => fun
  | [d1, d2, d3] => { results := [.lit (.bool true)], args := [d1, d2, d3] }
  | _ => none }
def fnColumnPlacesMatchesSpecRow : OpenClaim := { program := "qxb6601664a", sum := "b77f1391f4bfedc0b802a7cc620a093e8a8fb33c63e8627660f2b963e16df0c3", func := "example.com/tuoguan/tuoguan/zzlaws_fund_b1.FnColumnPlacesMatchesSpec", spec := "fnColumnPlacesMatchesSpec", apart := false }
def FnColumnPlacesMatchesSpecSaid : Prop := fnColumnPlacesMatchesSpecRow.holds Try.pinned (OpenSpec.ofChange fnColumnPlacesMatchesSpecSpec)

/-- ITS FALSE NEIGHBOUR: 'it returns false'. Refute it at one input. -/
def fnColumnPlacesMatchesSpecWrong : ChangeSpec := { name := "fnColumnPlacesMatchesSpec", fn := fun _ => fun
  | [d1, d2, d3] => { results := [.lit (.bool false)], args := [d1, d2, d3] }
  | _ => none }
def FnColumnPlacesMatchesSpecWrongFalsely : Prop := fnColumnPlacesMatchesSpecRow.holds Try.pinned (OpenSpec.ofChange fnColumnPlacesMatchesSpecWrong)

/-- 'zzlaws_fund_b1.FnColumnPlacesDistinctSlots': WHATEVER THE INPUT: true; the input reads as it did. -/
def fnColumnPlacesDistinctSlotsSpec : ChangeSpec := { name := "fnColumnPlacesDistinctSlots", fn := fun _ => fun
  | [d1, d2, d3] => { results := [.lit (.bool true)], args := [d1, d2, d3] }
  | _ => none }
def fnColumnPlacesDistinctSlotsRow : OpenClaim := { program := "qxb6601664a", sum := "b77f1391f4bfedc0b802a7cc620a093e8a8fb33c63e8627660f2b963e16df0c3", func := "example.com/tuoguan/tuoguan/zzlaws_fund_b1.FnColumnPlacesDistinctSlots", spec := "fnColumnPlacesDistinctSlots", apart := false }
def FnColumnPlacesDistinctSlotsSaid : Prop := fnColumnPlacesDistinctSlotsRow.holds Try.pinned (OpenSpec.ofChange fnColumnPlacesDistinctSlotsSpec)

/-- ITS FALSE NEIGHBOUR: 'it returns false'. Refute it at one input. -/
def fnColumnPlacesDistinctSlotsWrong : ChangeSpec := { name := "fnColumnPlacesDistinctSlots", fn := fun _ => fun
  | [d1, d2, d3] => { results := [.lit (.bool false)], args := [d1, d2, d3] }
  | _ => none }
def FnColumnPlacesDistinctSlotsWrongFalsely : Prop := fnColumnPlacesDistinctSlotsRow.holds Try.pinned (OpenSpec.ofChange fnColumnPlacesDistinctSlotsWrong)

/-- 'zzlaws_fund_b1.FnMoreMatchesSpec': WHATEVER THE INPUT: true; the input reads as it did. -/
def fnMoreMatchesSpecSpec : ChangeSpec := { name := "fnMoreMatchesSpec", fn := fun _ => fun
  | [d1, d2, d3] => { results := [.lit (.bool true)], args := [d1, d2, d3] }
  | _ => none }
def fnMoreMatchesSpecRow : OpenClaim := { program := "qxb6601664a", sum := "b77f1391f4bfedc0b802a7cc620a093e8a8fb33c63e8627660f2b963e16df0c3", func := "example.com/tuoguan/tuoguan/zzlaws_fund_b1.FnMoreMatchesSpec", spec := "fnMoreMatchesSpec", apart := false }
def FnMoreMatchesSpecSaid : Prop := fnMoreMatchesSpecRow.holds Try.pinned (OpenSpec.ofChange fnMoreMatchesSpecSpec)

/-- ITS FALSE NEIGHBOUR: 'it returns false'. Refute it at one input. -/
def fnMoreMatchesSpecWrong : ChangeSpec := { name := "fnMoreMatchesSpec", fn := fun _ => fun
  | [d1, d2, d3] => { results := [.lit (.bool false)], args := [d1, d2, d3] }
  | _ => none }
def FnMoreMatchesSpecWrongFalsely : Prop := fnMoreMatchesSpecRow.holds Try.pinned (OpenSpec.ofChange fnMoreMatchesSpecWrong)

/-- 'zzlaws_fund_b1.FnMoreStaysWhenNoComma': WHATEVER THE INPUT: true; the input reads as it did. -/
def fnMoreStaysWhenNoCommaSpec : ChangeSpec := { name := "fnMoreStaysWhenNoComma", fn := fun _ => fun
  | [d1, d2, d3] => { results := [.lit (.bool true)], args := [d1, d2, d3] }
  | _ => none }
def fnMoreStaysWhenNoCommaRow : OpenClaim := { program := "qxb6601664a", sum := "b77f1391f4bfedc0b802a7cc620a093e8a8fb33c63e8627660f2b963e16df0c3", func := "example.com/tuoguan/tuoguan/zzlaws_fund_b1.FnMoreStaysWhenNoComma", spec := "fnMoreStaysWhenNoComma", apart := false }
def FnMoreStaysWhenNoCommaSaid : Prop := fnMoreStaysWhenNoCommaRow.holds Try.pinned (OpenSpec.ofChange fnMoreStaysWhenNoCommaSpec)

/-- ITS FALSE NEIGHBOUR: 'it returns false'. Refute it at one input. -/
def fnMoreStaysWhenNoCommaWrong : ChangeSpec := { name := "fnMoreStaysWhenNoComma", fn := fun _ => fun
  | [d1, d2, d3] => { results := [.lit (.bool false)], args := [d1, d2, d3] }
  | _ => none }
def FnMoreStaysWhenNoCommaWrongFalsely : Prop := fnMoreStaysWhenNoCommaRow.holds Try.pinned (OpenSpec.ofChange fnMoreStaysWhenNoCommaWrong)

/-- 'zzlaws_fund_b1.FnValueMatchesModel': WHATEVER THE INPUT: true; the input reads as it did. -/
def fnValueMatchesModelSpec : ChangeSpec := { name := "fnValueMatchesModel", fn := fun _ => fun
  | [d1, d2] => { results := [.lit (.bool true)], args := [d1, d2] }
  | _ => none }
def fnValueMatchesModelRow : OpenClaim := { program := "qxb6601664a", sum := "b77f1391f4bfedc0b802a7cc620a093e8a8fb33c63e8627660f2b963e16df0c3", func := "example.com/tuoguan/tuoguan/zzlaws_fund_b1.FnValueMatchesModel", spec := "fnValueMatchesModel", recurses := true, apart := false }
def FnValueMatchesModelSaid : Prop := fnValueMatchesModelRow.holds Try.pinned (OpenSpec.ofChange fnValueMatchesModelSpec)

/-- ITS FALSE NEIGHBOUR: 'it returns false'. Refute it at one input. -/
def fnValueMatchesModelWrong : ChangeSpec := { name := "fnValueMatchesModel", fn := fun _ => fun
  | [d1, d2] => { results := [.lit (.bool false)], args := [d1, d2] }
  | _ => none }
def FnValueMatchesModelWrongFalsely : Prop := fnValueMatchesModelRow.holds Try.pinned (OpenSpec.ofChange fnValueMatchesModelWrong)

/-- 'zzlaws_fund_b1.FnValueSelfDelimiting': WHATEVER THE INPUT: true; the input reads as it did. -/
def fnValueSelfDelimitingSpec : ChangeSpec := { name := "fnValueSelfDelimiting", fn := fun _ => fun
  | [d1, d2] => { results := [.lit (.bool true)], args := [d1, d2] }
  | _ => none }
def fnValueSelfDelimitingRow : OpenClaim := { program := "qxb6601664a", sum := "b77f1391f4bfedc0b802a7cc620a093e8a8fb33c63e8627660f2b963e16df0c3", func := "example.com/tuoguan/tuoguan/zzlaws_fund_b1.FnValueSelfDelimiting", spec := "fnValueSelfDelimiting", recurses := true, apart := false }
def FnValueSelfDelimitingSaid : Prop := fnValueSelfDelimitingRow.holds Try.pinned (OpenSpec.ofChange fnValueSelfDelimitingSpec)

/-- ITS FALSE NEIGHBOUR: 'it returns false'. Refute it at one input. -/
def fnValueSelfDelimitingWrong : ChangeSpec := { name := "fnValueSelfDelimiting", fn := fun _ => fun
  | [d1, d2] => { results := [.lit (.bool false)], args := [d1, d2] }
  | _ => none }
def FnValueSelfDelimitingWrongFalsely : Prop := fnValueSelfDelimitingRow.holds Try.pinned (OpenSpec.ofChange fnValueSelfDelimitingWrong)

end Rows
end Go.Proofs.Qxb6601664a
