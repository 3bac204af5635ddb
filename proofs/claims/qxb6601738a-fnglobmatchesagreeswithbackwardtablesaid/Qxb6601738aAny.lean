/-
  Regions that draw their order, taken apart by hand: some operations first, then whichever comes up. No program is named here.
-/
import Derived.Test.Qxb6601738aCall
namespace Go.Proofs.Qxb6601738a

/-- What operation lies at number 'i', and where its value goes (it bears no guard). -/
def opAt (ops : Array Oper) (i : Nat) : Option (Op × Option Nat) :=
  match ops[i]? with
  | some o => (match o.guard with
    | none => some (o.op, o.dst)
    | some _ => none)
  | none => none
theorem opAt_spec {ops : Array Oper} {i : Nat} {op : Op} {d : Option Nat} (h : opAt ops i = some (op, d)) : ∃ o, ops[i]? = some o ∧ o.guard = none ∧ o.op = op ∧ o.dst = d := by
  unfold opAt at h
  split at h
  · rename_i o ho
    split at h
    · rename_i hg
      simp only [Option.some.injEq, Prod.mk.injEq] at h
      exact ⟨o, ho, hg, h.1, h.2⟩
    · cases h
  · cases h

def wA (P : Program) (n : Nat) (ops : Array Oper) (Q : Exit → Fr → World → Prop) (fuel : Nat) (listed : Array Bool) (f : Fr) (w : World) : Prop :=
  ∀ a u, Rep n a f → Al u w → wpAny P .any ops (fun e a' u' => ∃ f' w', Rep n a' f' ∧ Al u' w' ∧ Q e f' w') fuel listed a u

section
variable {P : Program} {n : Nat} {ops : Array Oper} {Q : Exit → Fr → World → Prop} {fuel : Nat} {listed : Array Bool} {f : Fr} {w : World}

theorem wA_begin {id : Nat} {l : List Oper} (hm : P.follows .mixedOrders = true) (h : wA P n l.toArray Q l.length (Array.replicate l.length false) f w) : cw P n (.region id l.toArray true) Q f w := by
  intro a u hR hA
  refine wp_region_any hm ?_
  have := h a { u with drawn := u.drawn + 1 } hR ((Al.drawn u _).trans hA)
  simpa using this

/-- An operation that hangs on no memory may be taken first. -/
theorem wA_take (i : Nat) (op : Op) (d : Option Nat) (v : Value) (hi : opAt ops i = some (op, d)) (hs : Region.noSelect ops = true) (hf : Region.free .any ops listed i = true) (hr : (Region.ready .any ops listed).contains i = true)
    (hQ : ∀ c f w, ¬ Q (.panic c) f w) (hv : ∀ w, opd P f w (fun v' => v' = v) op) (h : wA P n ops Q fuel (listed.setIfInBounds i true) (up n f d v) w) : wA P n ops Q (fuel + 1) listed f w := by
  obtain ⟨o, ho, hg, rfl, rfl⟩ := opAt_spec hi
  intro a u hR hA
  refine wpAny_take (v := v) ho hs hf hr (fun c a w ⟨f', w', _, _, hq⟩ => absurd hq (hQ c f' w')) (.inl ⟨by simp [Region.wanted, hg], fun w' => ?_⟩) (h _ u (hR.put _ _) hA)
  obtain ⟨v', rfl, hrun⟩ := opd_sound o (hv w')
  rw [hR.evalF]
  exact hrun w' (Al.refl _)

theorem wA_all (rs : List Nat) (hr : Region.ready .any ops listed = rs) (hne : rs ≠ [])
    (h : ∀ i ∈ rs, ∃ op d, opAt ops i = some (op, d) ∧ opw P n f w d (fun f' w' => wA P n ops Q fuel (listed.setIfInBounds i true) f' w') op) : wA P n ops Q (fuel + 1) listed f w := by
  intro a u hR hA
  refine wpAny_all hr hne fun i hi => ?_
  obtain ⟨op, d, hop, hh⟩ := h i hi
  obtain ⟨o, ho, hg, rfl, rfl⟩ := opAt_spec hop
  unfold wpOp
  simp only [ho, Region.wanted, hg, if_true]
  refine .inl (Oper.wp_mono ?_ (opw_sound o hR hA hh))
  rintro a' u' ⟨f', w', hR', hA', hk⟩
  exact hk a' u' hR' hA'

/-- Just one may come up. -/
theorem wA_one (i : Nat) (op : Op) (d : Option Nat) (hr : Region.ready .any ops listed = [i]) (hi : opAt ops i = some (op, d)) (h : opw P n f w d (fun f' w' => wA P n ops Q fuel (listed.setIfInBounds i true) f' w') op) : wA P n ops Q (fuel + 1) listed f w :=
  wA_all [i] hr (by simp) fun j hj => by
    obtain rfl : j = i := by simpa using hj
    exact ⟨op, d, hi, h⟩

theorem wA_done (hr : Region.ready .any ops listed = []) (h : Q .normal f w) : wA P n ops Q fuel listed f w :=
  fun _ _ hR hA => wpAny_done hr ⟨f, w, hR, hA, h⟩ _
end

/-- A region of a function, by its number. -/
def findReg (id : Nat) : Code → Option (Array Oper)
  | .region i ops _ => if i = id then some ops else none
  | .seq a b => (match findReg id a with
    | some r => some r
    | none => findReg id b)
  | .cond _ a b => (match findReg id a with
    | some r => some r
    | none => findReg id b)
  | .block _ b => findReg id b
  | .loop b => findReg id b
  | .scope b => findReg id b
  | _ => none
def regOf (fn : Func) (id : Nat) : List Oper :=
  match fn.body with
  | some c => (match findReg id c with
    | some r => r.toList
    | none => [])
  | none => []
end Go.Proofs.Qxb6601738a
