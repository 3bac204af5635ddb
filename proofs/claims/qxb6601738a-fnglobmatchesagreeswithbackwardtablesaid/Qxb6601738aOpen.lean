/-
  From what a row tells of an argument to the walk's words. No program is named here.
-/
import Derived.Test.Qxb6601738aLaw
import Derived.WalkKit
import Derived.ProofKit
import Derived.OpenShut
import Derived.ShutString
import Derived.ChangeOld
import Derived.Below
namespace Go.Proofs.Qxb6601738a
open Go.ChangeShapes Go.WideShapes Go.ChangeAt Go.RowKit

section
variable {H : Type} {enc : TypeId × Value → H} {P : Program} {w : World} {base : Nat} {spare : Nat → Bool} {held : Bool}

theorem open_row {t e : TypeId} {fuel : Nat} {v : Value} {x : DataW H × List MemPlace} (Pr : Value → Prop) (ht : P.underlying t = some (.slice e)) (hc : P.cellsOf e = 1)
    (hel : ∀ fuel cs x, DataW.trod enc P w base spare held fuel e cs = some x → ∃ u, cs = [u] ∧ Pr u) (h : DataW.trod enc P w base spare held fuel t [v] = some x) : ∃ vs, Sl w v vs ∧ ∀ u ∈ vs, Pr u := by
  rcases DataW.trod_slice ht h with h0 | ⟨a, len, cap, elems, rest, n, _, hcs, rfl, hb, hl, hm, hlen, hel', hsp, hns⟩
  · simp only [List.cons.injEq, and_true] at h0
    obtain ⟨rfl, _⟩ := h0
    exact ⟨[], ⟨rfl, rfl, Nat.le_refl _, fun i hi => absurd hi (by simp)⟩, fun u hu => absurd hu (by simp)⟩
  · simp only [List.cons.injEq, and_true] at hcs
    subst hcs
    have each : ∀ i, i < len → ∃ u, w.cell? (a.add i) = some u ∧ Pr u := by
      intro i hi
      have h1 := hel' i hi
      have h2 : elems[i]? = some (elems[i]'(by omega)) := List.getElem?_eq_getElem (by omega)
      rw [h2, hc, Nat.mul_one, Option.bind_eq_some_iff] at h1
      obtain ⟨cs', hcs, hy'⟩ := h1
      obtain ⟨u, rfl, hp⟩ := hel _ _ _ hy'
      exact ⟨u, cell_of_cells?_one hcs, hp⟩
    refine ⟨(List.range len).map (fun i => (w.cell? (a.add i)).getD undef), ⟨rfl, by simp [lenV], by simpa [lenV, capV] using hl, fun i hi => ?_⟩, fun u hu => ?_⟩
    · simp only [List.length_map, List.length_range] at hi
      obtain ⟨u, hu, _⟩ := each i hi
      simp [idxV, hu, hi]
    · simp only [List.mem_map, List.mem_range] at hu
      obtain ⟨i, hi, rfl⟩ := hu
      obtain ⟨u, hu, hp⟩ := each i hi
      rw [hu]; exact hp

theorem list_of {α : Type} (F : α → Value) : ∀ (vs : List Value) (Q : α → Prop), (∀ u ∈ vs, ∃ n, u = F n ∧ Q n) → ∃ xs : List α, vs = xs.map F ∧ ∀ n ∈ xs, Q n
  | [], _, _ => ⟨[], rfl, by simp⟩
  | v :: r, Q, h => by
    obtain ⟨n, hn, hq⟩ := h v (by simp)
    obtain ⟨xs, hx, hxs⟩ := list_of F r Q (fun u hu => h u (by simp [hu]))
    exact ⟨n :: xs, by simp [hn, hx], by simpa using ⟨hq, hxs⟩⟩

theorem open_nums {t e : TypeId} {k : IntKind} {v : Value} {d : DataW H} {ps : List MemPlace} (ht : P.underlying t = some (.slice e)) (he : P.underlying e = some (.int k)) (hc : P.cellsOf e = 1) (h1 : v.cells.toList = [v]) (h : DataW.Trod enc P w base spare held t v d ps) :
    ∃ xs : List Int, Sl w v (xs.map (Value.int k)) ∧ ∀ x ∈ xs, k.min ≤ x ∧ x ≤ k.max := by
  obtain ⟨fuel, hf⟩ := h
  rw [h1] at hf
  obtain ⟨vs, hs, hp⟩ := open_row (fun u => ∃ n, u = .int k n ∧ (k.min ≤ n ∧ n ≤ k.max)) ht hc (fun fuel cs x hx => by
    obtain ⟨n, rfl, _, hw⟩ := DataW.trod_int he hx
    exact ⟨_, rfl, n, rfl, by simpa [Lit.wf] using hw⟩) hf
  obtain ⟨xs, rfl, hx⟩ := list_of (Value.int k) vs _ hp
  exact ⟨xs, hs, hx⟩

theorem open_bools {t e : TypeId} {v : Value} {d : DataW H} {ps : List MemPlace} (ht : P.underlying t = some (.slice e)) (he : P.underlying e = some .bool) (hc : P.cellsOf e = 1) (h1 : v.cells.toList = [v]) (h : DataW.Trod enc P w base spare held t v d ps) :
    ∃ xs : List Bool, Sl w v (bools xs) := by
  obtain ⟨fuel, hf⟩ := h
  rw [h1] at hf
  obtain ⟨vs, hs, hp⟩ := open_row (fun u => ∃ n, u = .bool n ∧ True) ht hc (fun fuel cs x hx => by
    obtain ⟨b, rfl, _⟩ := DataW.trod_bool he hx
    exact ⟨_, rfl, b, rfl, trivial⟩) hf
  obtain ⟨xs, rfl, hx⟩ := list_of Value.bool vs _ hp
  exact ⟨xs, hs⟩

def wordOf (o : Option Value) : Int := match o with
  | some (.int _ x) => if 0 ≤ x ∧ x < 18446744073709551616 then x else 0
  | _ => 0
theorem wordOf_rng (o : Option Value) : 0 ≤ wordOf o ∧ wordOf o < 18446744073709551616 := by
  unfold wordOf
  split
  · split
    · assumption
    · omega
  · omega
theorem cell_lt {p : Addr} {u : Value} (h : w.cell? p = some u) : p.block < w.heap.size := by
  rcases Nat.lt_or_ge p.block w.heap.size with h1 | h1
  · exact h1
  · unfold World.cell? at h
    rw [Array.getElem?_eq_none h1] at h
    simp at h

theorem open_classes {t e g : TypeId} {v : Value} {d : DataW H} {ps : List MemPlace} (ht : P.underlying t = some (.slice e)) (he : P.underlying e = some (.array 4 g)) (hg : P.underlying g = some (.int .u64)) (hc : P.cellsOf e = 4) (hcg : P.cellsOf g = 1) (h1 : v.cells.toList = [v]) (h : DataW.Trod enc P w base spare held t v d ps) :
    ∃ (n bc : Nat) (Wd : Nat → Nat → Int), isSl v = true ∧ lenV v = n ∧ Cls w n bc (fun i => idxV v (i * 4)) Wd := by
  obtain ⟨fuel, hf⟩ := h
  rw [h1] at hf
  rcases DataW.trod_slice ht hf with h0 | ⟨a, len, cap, elems, rest, n, _, hcs, _, hb, hl, hm, hlen, hel', hsp, hns⟩
  · simp only [List.cons.injEq, and_true] at h0
    obtain ⟨rfl, _⟩ := h0
    exact ⟨0, 0, fun _ _ => 0, rfl, rfl, ⟨fun h => by omega, fun i hi => by omega, fun i hi => by omega, fun _ _ => ⟨by omega, by omega⟩⟩⟩
  · simp only [List.cons.injEq, and_true] at hcs
    subst hcs
    have each : ∀ i, i < len → ∀ j, j < 4 → ∃ x : Int, w.cell? ((a.add (i * 4)).add j) = some (.int .u64 x) ∧ 0 ≤ x ∧ x < 18446744073709551616 := by
      intro i hi j hj
      have h2 := hel' i hi
      have h3 : elems[i]? = some (elems[i]'(by omega)) := List.getElem?_eq_getElem (by omega)
      rw [h3, hc, Option.bind_eq_some_iff] at h2
      obtain ⟨cs', hcs, hy'⟩ := h2
      obtain ⟨xs, m, _, _, hcl, hxl, hx⟩ := DataW.trod_array he hy'
      have h4 := hx j hj
      rw [hcg, Nat.mul_one, List.getElem?_eq_getElem (by omega : j < xs.length)] at h4
      obtain ⟨z, hz, _, hw⟩ := DataW.trod_int hg h4
      have h5 := (World.cells?_some hcs).2.2 j (by omega)
      have h6 : cs'[j]? = some (.int .u64 z) := by
        have : ((cs'.drop j).take 1)[0]? = some (.int .u64 z) := by rw [hz]; rfl
        simpa using this
      refine ⟨z, by rw [h5, h6], ?_⟩
      have := hw
      simp [Lit.wf, IntKind.min, IntKind.max, IntKind.signed, IntKind.bits] at this
      omega
    refine ⟨len, a.block, fun i j => wordOf (w.cell? ((a.add (i * 4)).add j)), rfl, rfl, ⟨fun h => ?_, fun i hi => ?_, fun i hi j hj => ?_, fun i j => wordOf_rng _⟩⟩
    · obtain ⟨x, hx, _⟩ := each 0 h 0 (by omega)
      have := cell_lt hx
      have hb1 : ((a.add (0 * 4)).add 0).block = a.block := by simp [Addr.add]
      rw [hb1] at this; exact this
    · show (a.add (i * 4)).block = a.block
      unfold Addr.add; split <;> rfl
    · obtain ⟨x, hx, h0, h1⟩ := each i hi j hj
      show w.cell? ((a.add (i * 4)).add j) = some (.int .u64 (wordOf (w.cell? ((a.add (i * 4)).add j))))
      rw [hx]
      simp [wordOf, h0, h1]
end

/-- From our words to the row's. -/
theorem calls_of_hc {P : Program} {g : FuncId} {args : Array Value} {w : World} (h : HC P g args w fun v' w' => v' = .bool true ∧ Keep (fun _ => False) w w') :
    Calls P g args w fun e w' => e = .returned (.bool true) ∧ Below w.heap.size w w' :=
  (h w (Al.refl _)).mono fun e u' ⟨v, w', he, ha, hv, hk⟩ => by
    subst hv
    exact ⟨he, ⟨ha.2.1.trans hk.os, ha.2.2.2.trans hk.tape, ha.2.2.1.trans hk.output, by rw [ha.1]; exact hk.size, fun k hk' => by rw [ha.1]; exact hk.block k hk' id⟩⟩
end Go.Proofs.Qxb6601738a
