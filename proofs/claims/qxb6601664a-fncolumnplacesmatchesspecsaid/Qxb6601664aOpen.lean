/-
  From what a row tells of an argument to the walk's words. No program is named here.
-/
import Derived.Test.Qxb6601664aStr
import Derived.WalkKit
import Derived.ProofKit
import Derived.OpenShut
import Derived.ShutString
import Derived.ChangeOld
import Derived.Below
namespace Go.Proofs.Qxb6601664a
open Go.ChangeShapes Go.WideShapes Go.ChangeAt Go.RowKit

section
variable {H : Type} {enc : TypeId × Value → H} {P : Program} {w : World} {base : Nat} {spare : Nat → Bool} {held : Bool}

theorem open_row {t e : TypeId} {fuel : Nat} {v : Value} {x : DataW H × List MemPlace} (Pr : Value → Prop) (ht : P.underlying t = some (.slice e)) (hc : P.cellsOf e = 1)
    (hel : ∀ fuel cs x, DataW.trod enc P w base spare held fuel e cs = some x → ∃ u, cs = [u] ∧ Pr u) (h : DataW.trod enc P w base spare held fuel t [v] = some x) : ∃ vs, Sl w v vs ∧ ∀ u ∈ vs, Pr u := by
  rcases DataW.trod_slice ht h with h0 | ⟨a, len, cap, elems, rest, n, _, hcs, rfl, hb, hl, hm, hlen, hel', hsp, hns⟩
  · simp only [List.cons.injEq, and_true] at h0
    obtain ⟨rfl, _⟩ := h0
    exact ⟨[], ⟨rfl, rfl, Nat.le_refl _, fun i hi => absurd hi (by simp)⟩, fun u hu => absurd hu (by simp)⟩
  · simp only [List.cons.injEq, and_true] at hcs
    subst hcs
    have each : ∀ i, i < len → ∃ u, w.cell? (a.add i) = some u ∧ Pr u := by
      intro i hi
      have h1 := hel' i hi
      have h2 : elems[i]? = some (elems[i]'(by omega)) := List.getElem?_eq_getElem (by omega)
      rw [h2, hc, Nat.mul_one, Option.bind_eq_some_iff] at h1
      obtain ⟨cs', hcs, hy'⟩ := h1
      obtain ⟨u, rfl, hp⟩ := hel _ _ _ hy'
      exact ⟨u, cell_of_cells?_one hcs, hp⟩
    refine ⟨(List.range len).map (fun i => (w.cell? (a.add i)).getD undef), ⟨rfl, by simp [lenV], by simpa [lenV, capV] using hl, fun i hi => ?_⟩, fun u hu => ?_⟩
    · simp only [List.length_map, List.length_range] at hi
      obtain ⟨u, hu, _⟩ := each i hi
      simp [idxV, hu, hi]
    · simp only [List.mem_map, List.mem_range] at hu
      obtain ⟨i, hi, rfl⟩ := hu
      obtain ⟨u, hu, hp⟩ := each i hi
      rw [hu]; exact hp

theorem list_of {α : Type} (F : α → Value) : ∀ (vs : List Value) (Q : α → Prop), (∀ u ∈ vs, ∃ n, u = F n ∧ Q n) → ∃ xs : List α, vs = xs.map F ∧ ∀ n ∈ xs, Q n
  | [], _, _ => ⟨[], rfl, by simp⟩
  | v :: r, Q, h => by
    obtain ⟨n, hn, hq⟩ := h v (by simp)
    obtain ⟨xs, hx, hxs⟩ := list_of F r Q (fun u hu => h u (by simp [hu]))
    exact ⟨n :: xs, by simp [hn, hx], by simpa using ⟨hq, hxs⟩⟩

theorem open_strs {t e : TypeId} {v : Value} {d : DataW H} {ps : List MemPlace} (ht : P.underlying t = some (.slice e)) (he : P.underlying e = some .string) (hc : P.cellsOf e = 1) (h1 : v.cells.toList = [v]) (h : DataW.Trod enc P w base spare held t v d ps) :
    ∃ xs : List ByteArray, Sl w v (strs xs) := by
  obtain ⟨fuel, hf⟩ := h
  rw [h1] at hf
  obtain ⟨vs, hs, hp⟩ := open_row (fun u => ∃ n, u = .string n ∧ True) ht hc (fun fuel cs x hx => by
    obtain ⟨s, rfl, _, _⟩ := DataW.trod_string he hx
    exact ⟨_, rfl, s, rfl, trivial⟩) hf
  obtain ⟨xs, rfl, hx⟩ := list_of Value.string vs _ hp
  exact ⟨xs, hs⟩
end

/-- From our words to the row's. -/
theorem calls_of_hc {P : Program} {g : FuncId} {args : Array Value} {w : World} (h : HC P g args w fun v' w' => v' = .bool true ∧ Keep (fun _ => False) w w') :
    Calls P g args w fun e w' => e = .returned (.bool true) ∧ Below w.heap.size w w' :=
  (h w (Al.refl _)).mono fun e u' ⟨v, w', he, ha, hv, hk⟩ => by
    subst hv
    exact ⟨he, ⟨ha.2.1.trans hk.os, ha.2.2.2.trans hk.tape, ha.2.2.1.trans hk.output, by rw [ha.1]; exact hk.size, fun k hk' => by rw [ha.1]; exact hk.block k hk' id⟩⟩
end Go.Proofs.Qxb6601664a
