/-
  From what a row tells of an argument to the walk's words. No program is named here.
-/
import Derived.Test.Qxb6601695aCmp
import Derived.WalkKit
import Derived.ProofKit
import Derived.OpenShut
import Derived.ShutString
import Derived.ChangeOld
import Derived.Below
namespace Go.Proofs.Qxb6601695a
open Go.ChangeShapes Go.WideShapes Go.ChangeAt Go.RowKit

/-- From our words to the row's. -/
theorem calls_of_hc {P : Program} {g : FuncId} {args : Array Value} {w : World} (h : HC P g args w fun v' w' => v' = .bool true ∧ Keep (fun _ => False) w w') :
    Calls P g args w fun e w' => e = .returned (.bool true) ∧ Below w.heap.size w w' :=
  (h w (Al.refl _)).mono fun e u' ⟨v, w', he, ha, hv, hk⟩ => by
    subst hv
    exact ⟨he, ⟨ha.2.1.trans hk.os, ha.2.2.2.trans hk.tape, ha.2.2.1.trans hk.output, by rw [ha.1]; exact hk.size, fun k hk' => by rw [ha.1]; exact hk.block k hk' id⟩⟩
end Go.Proofs.Qxb6601695a
