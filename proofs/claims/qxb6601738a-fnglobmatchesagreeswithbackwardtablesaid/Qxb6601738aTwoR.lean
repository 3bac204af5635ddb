import Derived.Test.Qxb6601738aNew
namespace Go.Proofs.Qxb6601738a
open Go.RowKit
set_option linter.unusedSimpArgs false
set_option linter.unusedVariables false

/-! ### Two states made, in whatever order (region 3 of 'matches') -/
def on (L : Array Bool) (i : Nat) : Bool := L.getD i false
theorem on_ne {L : Array Bool} {i j : Nat} (h : i ≠ j) : on (L.setIfInBounds i true) j = on L j := by
  simp only [on, Array.getD_eq_getD_getElem?, Array.getElem?_setIfInBounds, if_neg h]
theorem on_eq {L : Array Bool} {i : Nat} (h : i < L.size) : on (L.setIfInBounds i true) i = true := by
  simp [on, Array.getD_eq_getD_getElem?, Array.getElem?_setIfInBounds, h]
def full12 : Array Bool := #[true, true, true, true, true, true, true, true, true, true, false, false]
def bit2 : List Bool := [false, true]
def lsts : List (Array Bool) := (bit2.flatMap fun b1 => bit2.flatMap fun b2 => bit2.flatMap fun b3 => bit2.flatMap fun b5 => bit2.flatMap fun b6 => bit2.flatMap fun b7 => bit2.flatMap fun b8 => bit2.map fun b9 =>
  #[true, b1, b2, b3, true, b5, b6, b7, b8, b9, false, false]).filter fun L => (!on L 2 || on L 1) && (!on L 3 || on L 2) && (!on L 6 || on L 5) && (!on L 7 || (on L 6 && on L 3))
def cnt (L : Array Bool) : Nat := (L.toList.take 10).countP (!·)
def may (L : Array Bool) (i : Nat) : Bool := !on L i && ((i == 1) || (i == 2 && on L 1) || (i == 3 && on L 2) || (i == 5) || (i == 6 && on L 5) || (i == 7 && on L 6 && on L 3) || (i == 8) || (i == 9))
def okR (L : Array Bool) (r : List Nat) : Bool := L.size == 12 && (match cnt L with
  | 0 => L == full12
  | m + 1 => !r.isEmpty && r.all fun i => may L i && lsts.contains (L.setIfInBounds i true) && cnt (L.setIfInBounds i true) == m)
noncomputable def rdy3 (L : Array Bool) : List Nat := Region.ready .any (regOf Try.f30 3).toArray L
theorem okS_all : lsts.all (fun L => okR L (rdy3 L)) = true := by kernel_rfl
end Go.Proofs.Qxb6601738a
