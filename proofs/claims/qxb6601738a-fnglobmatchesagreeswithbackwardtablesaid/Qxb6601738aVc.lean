/-
  A small logic of our own over the kit's 'Code.wp': frames as functions from slots to values, worlds up to draws
  ('World.Alike'). No program is named here.
-/
import Derived.Deep.Quiet
import Derived.ChangeAlike
import Derived.Tactics
import Derived.Laws.World
namespace Go.Proofs.Qxb6601738a

/-- An equation that 'simp' takes for a step with a proof of its own (the kernel then need not unfold both sides). -/
theorem nr {α : Type} {a b : α} (h : a = b) : a = b := congrArg id h

/-- A frame: what each slot holds. -/
abbrev Fr := Nat → Value

def up (n : Nat) (f : Fr) (d : Option Nat) (v : Value) : Fr :=
  match d with
  | none => f
  | some d => fun i => if i = d ∧ d < n then v else f i

def ev (f : Fr) : Operand → Value
  | .tmp t => f t
  | .const v => v
  | .global g => .pointer (some ⟨g, 0, none⟩)
  | .func g => .func (.func g) #[] #[]

theorem up_none (n : Nat) (f : Fr) (v : Value) : up n f none v = f := nr rfl
theorem up_eq (n : Nat) (f : Fr) (d : Nat) (v : Value) (h : d < n) : up n f (some d) v d = v := by simp [up, h]
theorem up_ne (n : Nat) (f : Fr) (d i : Nat) (v : Value) (h : i ≠ d) : up n f (some d) v i = f i := by simp [up, h]
theorem ev_tmp (f : Fr) (t : Nat) : ev f (.tmp t) = f t := nr rfl
theorem ev_const (f : Fr) (v : Value) : ev f (.const v) = v := nr rfl

def Rep (n : Nat) (a : Act) (f : Fr) : Prop := a.tmps.size = n ∧ a.defers = [] ∧ ∀ i, a.tmps.getD i undef = f i

theorem Rep.eval {n : Nat} {a : Act} {f : Fr} (h : Rep n a f) (x : Operand) : a.eval x = ev f x := by
  cases x with
  | tmp t => exact h.2.2 t
  | const v => rfl
  | global g => rfl
  | func g => rfl

theorem Rep.evalF {n : Nat} {a : Act} {f : Fr} (h : Rep n a f) : a.eval = ev f := funext h.eval

theorem Rep.put {n : Nat} {a : Act} {f : Fr} (h : Rep n a f) (d : Option Nat) (v : Value) : Rep n (a.put d v) (up n f d v) := by
  cases d with
  | none => exact h
  | some d =>
    refine ⟨by simp [Act.put, h.1], by simp [Act.put, h.2.1], fun i => ?_⟩
    have hi := h.2.2 i
    have hs := h.1
    simp only [Act.put, up]
    by_cases e : i = d
    · subst e
      by_cases hl : i < n
      · simp [hl, hs]
      · simp [hl, ← hi]
        simp [hs, hl]
    · simp only [e, false_and, if_false, ← hi]
      simp [Ne.symm e]

def bv : Value → Option Bool
  | .bool b => some b
  | _ => none
def yv (f : Fr) : Option Nat → Option Bool
  | some d => bv (f d)
  | none => none
def yd (ops : Array Oper) (f : Fr) (j : Nat) : Option Bool := yv f ((ops[j]?).bind (·.dst))
theorem bv_bool (b : Bool) : bv (.bool b) = some b := nr rfl
theorem yv_some (f : Fr) (d : Nat) : yv f (some d) = bv (f d) := nr rfl

def want (ops : Array Oper) (f : Fr) (o : Oper) : Bool :=
  match o.guard with
  | none => true
  | some (j, b) => yd ops f j == some b

theorem Rep.yielded {n : Nat} {a : Act} {f : Fr} (h : Rep n a f) (ops : Array Oper) (j : Nat) : yielded ops a.tmps j = yd ops f j := by
  unfold Go.yielded yd yv
  cases hd : (ops[j]?).bind (·.dst) with
  | none => rfl
  | some d =>
    have hi := h.2.2 d
    simp only [Option.bind_some]
    rw [← hi]
    by_cases hl : d < a.tmps.size
    · simp only [Array.getD_eq_getD_getElem?, Array.getElem?_eq_getElem hl, Option.getD_some]
      cases a.tmps[d] <;> rfl
    · simp [hl, undef, bv]

theorem Rep.want {n : Nat} {a : Act} {f : Fr} (h : Rep n a f) (ops : Array Oper) (o : Oper) : Region.wanted o (Go.yielded ops a.tmps) = want ops f o := by
  unfold Region.wanted Go.Proofs.Qxb6601738a.want
  split <;> simp_all [h.yielded]

/-! ### Worlds up to draws -/
/-- 'u' is 'w' but for the count of draws. -/
def Al (u w : World) : Prop := u.heap = w.heap ∧ u.os = w.os ∧ u.output = w.output ∧ u.tape = w.tape
theorem Al.refl (w : World) : Al w w := ⟨rfl, rfl, rfl, rfl⟩
theorem Al.trans {a b c : World} (h : Al a b) (h' : Al b c) : Al a c := ⟨h.1.trans h'.1, h.2.1.trans h'.2.1, h.2.2.1.trans h'.2.2.1, h.2.2.2.trans h'.2.2.2⟩
theorem Al.symm {a b : World} (h : Al a b) : Al b a := ⟨h.1.symm, h.2.1.symm, h.2.2.1.symm, h.2.2.2.symm⟩
theorem Al.drawn (w : World) (d : Nat) : Al { w with drawn := d } w := ⟨rfl, rfl, rfl, rfl⟩
theorem Al.cell? {u w : World} (h : Al u w) (a : Addr) : u.cell? a = w.cell? a := by simp [World.cell?, h.1]
theorem Al.frozen? {u w : World} (h : Al u w) (a : Addr) : u.frozen? a = w.frozen? a := by simp [World.frozen?, h.1]
theorem Al.setCell {u w : World} (h : Al u w) (a : Addr) (v : Value) : Al (u.setCell a v) (w.setCell a v) := ⟨by simp [World.setCell, h.1], h.2.1, h.2.2.1, h.2.2.2⟩
theorem Al.alloc {u w : World} (h : Al u w) (o : Obj) : Al (u.alloc o) (w.alloc o) := ⟨congrArg (·.push o) h.1, h.2.1, h.2.2.1, h.2.2.2⟩

/-! ### Code -/
def cw (P : Program) (n : Nat) (c : Code) (Q : Exit → Fr → World → Prop) (f : Fr) (w : World) : Prop :=
  ∀ a u, Rep n a f → Al u w → c.wp P (fun e a' u' => ∃ f' w', Rep n a' f' ∧ Al u' w' ∧ Q e f' w') a u

section
variable {P : Program} {n : Nat} {Q Q' : Exit → Fr → World → Prop} {f : Fr} {w : World}

theorem cw_mono {c : Code} (h : cw P n c Q f w) (hq : ∀ e f w, Q e f w → Q' e f w) : cw P n c Q' f w :=
  fun a u hR hA => Code.wp_mono (fun _ _ _ ⟨f', w', r, l, q⟩ => ⟨f', w', r, l, hq _ _ _ q⟩) (h a u hR hA)

theorem cw_skip (h : Q .normal f w) : cw P n .skip Q f w := fun _ _ hR hA => wp_skip ⟨f, w, hR, hA, h⟩
theorem cw_ret (h : Q .ret f w) : cw P n .ret Q f w := fun _ _ hR hA => wp_ret ⟨f, w, hR, hA, h⟩
theorem cw_exit {id : Nat} (h : Q (.exit id) f w) : cw P n (.exit id) Q f w := fun _ _ hR hA => wp_exit ⟨f, w, hR, hA, h⟩

def seqQ (K : Fr → World → Prop) (Q : Exit → Fr → World → Prop) : Exit → Fr → World → Prop
  | .normal, f, w => K f w
  | e, f, w => Q e f w

theorem cw_seq {x y : Code} (K : Fr → World → Prop) (hx : cw P n x (seqQ K Q) f w) (hy : ∀ f w, K f w → cw P n y Q f w) : cw P n (.seq x y) Q f w := by
  intro a u hR hA
  refine wp_seq (Code.wp_mono ?_ (hx a u hR hA))
  rintro e a' u' ⟨f', w', hR', hA', hq⟩
  cases e with
  | normal => exact hy f' w' hq a' u' hR' hA'
  | exit id => exact ⟨f', w', hR', hA', hq⟩
  | goto l => exact ⟨f', w', hR', hA', hq⟩
  | ret => exact ⟨f', w', hR', hA', hq⟩
  | panic c => exact ⟨f', w', hR', hA', hq⟩
  | outgrown => exact ⟨f', w', hR', hA', hq⟩

/-- What follows is run at once. -/
theorem cw_seq' {x y : Code} (hx : cw P n x (seqQ (cw P n y Q) Q) f w) : cw P n (.seq x y) Q f w :=
  cw_seq (cw P n y Q) hx (fun _ _ h => h)

theorem cw_cond {c : Operand} {x y : Code} (b : Bool) (hb : ev f c = .bool b) (ht : b = true → cw P n x Q f w) (hf : b = false → cw P n y Q f w) : cw P n (.cond c x y) Q f w := by
  intro a u hR hA
  have hc : a.eval c = .bool b := by rw [hR.eval]; exact hb
  cases b with
  | true => exact wp_cond_true hc (ht rfl a u hR hA)
  | false => exact wp_cond_false hc (hf rfl a u hR hA)

def blockQ (id : Nat) (Q : Exit → Fr → World → Prop) : Exit → Fr → World → Prop
  | .exit i, f, w => if i = id then Q .normal f w else Q (.exit i) f w
  | e, f, w => Q e f w

theorem cw_block {id : Nat} {c : Code} (h : cw P n c (blockQ id Q) f w) : cw P n (.block id c) Q f w := by
  intro a u hR hA
  refine wp_block (Code.wp_mono ?_ (h a u hR hA))
  rintro e a' u' ⟨f', w', hR', hA', hq⟩
  cases e with
  | exit i =>
    simp only [blockQ] at hq
    simp only [Exit.inBlock]
    split
    · rename_i h; rw [if_pos h] at hq; exact ⟨f', w', hR', hA', hq⟩
    · rename_i h; rw [if_neg h] at hq; exact ⟨f', w', hR', hA', hq⟩
  | normal => exact ⟨f', w', hR', hA', hq⟩
  | goto l => exact ⟨f', w', hR', hA', hq⟩
  | ret => exact ⟨f', w', hR', hA', hq⟩
  | panic c => exact ⟨f', w', hR', hA', hq⟩
  | outgrown => exact ⟨f', w', hR', hA', hq⟩

theorem wp_of_least {p : Nat → Prop} (h : ∃ m, p m) : ∃ m, p m ∧ ∀ k, p k → m ≤ k := by
  obtain ⟨m, hm⟩ := h
  induction m using Nat.strongRecOn with
  | _ m ih =>
    by_cases hex : ∃ k, k < m ∧ p k
    · obtain ⟨k, hk, hp⟩ := hex; exact ih k hk hp
    · refine ⟨m, hm, fun k hk => ?_⟩
      rcases Nat.lt_or_ge k m with h | h
      · exact absurd ⟨k, h, hk⟩ hex
      · exact h

/-- A loop: an invariant with a count that falls at each round. -/
theorem cw_loop {c : Code} (I : Nat → Fr → World → Prop) (m : Nat) (h0 : I m f w)
    (round : ∀ m f w, I m f w → cw P n c (seqQ (fun f' w' => ∃ m', m' < m ∧ I m' f' w') Q) f w) : cw P n (.loop c) Q f w := by
  intro a u hR hA
  have hμ : ∃ μ : Act → World → Nat, ∀ a u, (∃ m f w, Rep n a f ∧ Al u w ∧ I m f w) →
      (∃ f w, Rep n a f ∧ Al u w ∧ I (μ a u) f w) ∧ ∀ m', (∃ f w, Rep n a f ∧ Al u w ∧ I m' f w) → μ a u ≤ m' := by
    have : ∀ (a : Act) (u : World), ∃ k : Nat, (∃ m f w, Rep n a f ∧ Al u w ∧ I m f w) →
        (∃ f w, Rep n a f ∧ Al u w ∧ I k f w) ∧ ∀ m', (∃ f w, Rep n a f ∧ Al u w ∧ I m' f w) → k ≤ m' := by
      intro a u
      by_cases hex : ∃ m, ∃ f w, Rep n a f ∧ Al u w ∧ I m f w
      · obtain ⟨k, hk, hl⟩ := wp_of_least hex
        exact ⟨k, fun _ => ⟨hk, hl⟩⟩
      · exact ⟨0, fun h => absurd h hex⟩
    exact ⟨fun a u => Classical.choose (this a u), fun a u => Classical.choose_spec (this a u)⟩
  obtain ⟨μ, hμ⟩ := hμ
  refine wp_loop (fun a u => ∃ m f w, Rep n a f ∧ Al u w ∧ I m f w) μ ⟨m, f, w, hR, hA, h0⟩ ?_
  intro a u hI
  obtain ⟨⟨f, w, hR, hA, hI'⟩, hleast⟩ := hμ a u hI
  refine Code.wp_mono ?_ (round _ f w hI' a u hR hA)
  rintro e a' u' ⟨f', w', hR', hA', hq⟩
  cases e with
  | normal =>
    obtain ⟨m', hlt, hI2⟩ := hq
    have hex : ∃ m f w, Rep n a' f ∧ Al u' w ∧ I m f w := ⟨m', f', w', hR', hA', hI2⟩
    have := (hμ a' u' hex).2 m' ⟨f', w', hR', hA', hI2⟩
    exact ⟨hex, by omega⟩
  | exit id => exact ⟨f', w', hR', hA', hq⟩
  | goto l => exact ⟨f', w', hR', hA', hq⟩
  | ret => exact ⟨f', w', hR', hA', hq⟩
  | panic c => exact ⟨f', w', hR', hA', hq⟩
  | outgrown => exact ⟨f', w', hR', hA', hq⟩
end
end Go.Proofs.Qxb6601738a
