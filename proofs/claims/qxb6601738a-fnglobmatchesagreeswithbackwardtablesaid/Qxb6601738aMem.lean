/-
  Slices in memory; the for loop. No program is named here.
-/
import Derived.Test.Qxb6601738aCall
import Derived.Below
namespace Go.Proofs.Qxb6601738a
open Go.RowKit

def blkV : Value → Option Nat
  | .slice (some p) _ _ => some p.block
  | _ => none

/-- A slice that reads as 'vs'. -/
structure Sl (w : World) (v : Value) (vs : List Value) : Prop where
  sl : isSl v = true
  len : lenV v = vs.length
  cap : lenV v ≤ capV v
  get : ∀ i, i < vs.length → w.cell? (idxV v i) = vs[i]?

/-- A slice over the whole of a block of the call's own (or nil). -/
def Own (w : World) (v : Value) (vs : List Value) : Prop :=
  (v = .slice none 0 0 ∧ vs = []) ∨ ∃ b T, v = .slice (some ⟨b, 0, none⟩) vs.length vs.length ∧ w.heap[b]? = some (.cells vs.toArray T (0, 0))

def Apt (v v' : Value) : Prop := ∀ b, blkV v = some b → blkV v' ≠ some b

theorem idx_own (b n c i : Nat) : idxV (.slice (some ⟨b, 0, none⟩) n c) i = ⟨b, i, none⟩ := by simp [idxV, addr_add]

theorem Own.sl {w : World} {v : Value} {vs : List Value} (h : Own w v vs) : Sl w v vs := by
  rcases h with ⟨rfl, rfl⟩ | ⟨b, T, rfl, hb⟩
  · exact ⟨rfl, rfl, Nat.le_refl _, fun i hi => absurd hi (by simp)⟩
  · refine ⟨rfl, rfl, Nat.le_refl _, fun i hi => ?_⟩
    rw [idx_own]
    simp [World.cell?, hb]

theorem Own.frozen {w : World} {v : Value} {vs : List Value} (h : Own w v vs) {i : Nat} (hi : i < vs.length) : w.frozen? (idxV v i) = false := by
  rcases h with ⟨rfl, rfl⟩ | ⟨b, T, rfl, hb⟩
  · simp at hi
  · rw [idx_own]
    simp [World.frozen?, hb]

theorem heap_setCell_same {w : World} {b T : Nat} {c : Array Value} {fz : Nat × Nat} (hb : w.heap[b]? = some (.cells c T fz)) (i : Nat) (x : Value) : (w.setCell ⟨b, i, none⟩ x).heap[b]? = some (.cells (c.setIfInBounds i x) T fz) := by
  simp only [World.setCell, Array.getElem?_modify, if_true, hb]
  simp

theorem Own.set {w : World} {v : Value} {vs : List Value} (h : Own w v vs) {i : Nat} (hi : i < vs.length) (x : Value) : Own (w.setCell (idxV v i) x) v (vs.set i x) := by
  rcases h with ⟨rfl, rfl⟩ | ⟨b, T, rfl, hb⟩
  · simp at hi
  · refine .inr ⟨b, T, by simp, ?_⟩
    rw [idx_own, heap_setCell_same hb]
    simp

theorem idx_block {w : World} {v : Value} {vs : List Value} (h : Sl w v vs) {i : Nat} (hi : i < vs.length) : blkV v = some (idxV v i).block := by
  have h1 := h.sl
  have h2 := h.len
  cases v <;> try (simp [isSl] at h1; done)
  rename_i a n c
  cases a with
  | none => simp [isSl] at h1; simp [lenV] at h2; omega
  | some p => simp only [blkV, idxV, Addr.add]; split <;> rfl

theorem Own.far {w : World} {v v' : Value} {vs : List Value} (h : Own w v vs) {p : Addr} (hb : blkV v' = some p.block) (ha : Apt v' v) (x : Value) : Own (w.setCell p x) v vs := by
  rcases h with ⟨rfl, rfl⟩ | ⟨b, T, rfl, hbl⟩
  · exact .inl ⟨rfl, rfl⟩
  · refine .inr ⟨b, T, rfl, ?_⟩
    rw [Below.heap_setCell]
    · exact hbl
    · have := ha _ hb
      simp only [blkV] at this
      intro e; exact this (by rw [e])

theorem Own.alloc {w : World} {v : Value} {vs : List Value} (h : Own w v vs) (o : Obj) : Own (w.alloc o) v vs := by
  rcases h with ⟨rfl, rfl⟩ | ⟨b, T, rfl, hbl⟩
  · exact .inl ⟨rfl, rfl⟩
  · refine .inr ⟨b, T, rfl, ?_⟩
    have : b < w.heap.size := by
      rcases Nat.lt_or_ge b w.heap.size with h | h
      · exact h
      · rw [Array.getElem?_eq_none h] at hbl; cases hbl
    rw [Below.heap_alloc _ _ _ this]; exact hbl

theorem Own.new (w : World) (n : Nat) (z : Value) (e : TypeId) : Own (w.alloc (.cells (Array.replicate n z) e)) (.slice (some ⟨w.heap.size, 0, none⟩) n n) (List.replicate n z) := by
  refine .inr ⟨w.heap.size, e, by simp, ?_⟩
  show (w.heap.push _)[w.heap.size]? = _
  simp

theorem Own.block {w : World} {v : Value} {vs : List Value} (h : Own w v vs) {b : Nat} (hb : blkV v = some b) : b < w.heap.size := by
  rcases h with ⟨rfl, rfl⟩ | ⟨b', T, rfl, hbl⟩
  · cases hb
  · simp only [blkV, Option.some.injEq] at hb
    subst hb
    rcases Nat.lt_or_ge b' w.heap.size with h | h
    · exact h
    · rw [Array.getElem?_eq_none h] at hbl; cases hbl

theorem Own.of_heap {w w' : World} {v : Value} {vs : List Value} (h : Own w v vs) (hh : ∀ b, blkV v = some b → w'.heap[b]? = w.heap[b]?) : Own w' v vs := by
  rcases h with ⟨rfl, rfl⟩ | ⟨b, T, rfl, hbl⟩
  · exact .inl ⟨rfl, rfl⟩
  · exact .inr ⟨b, T, rfl, by rw [hh b rfl]; exact hbl⟩

theorem Sl.of_heap {w w' : World} {v : Value} {vs : List Value} (h : Sl w v vs) (hh : ∀ b, blkV v = some b → w'.heap[b]? = w.heap[b]?) : Sl w' v vs := by
  refine ⟨h.sl, h.len, h.cap, fun i hi => ?_⟩
  rw [← h.get i hi]
  exact World.cell?_of_block (w := w) (hh _ (idx_block h hi))

theorem Sl.sub {w : World} {v : Value} {vs : List Value} (h : Sl w v vs) {l e : Nat} (hl : l ≤ e) (he : e ≤ vs.length) : Sl w (subV v l e 1) ((vs.drop l).take (e - l)) := by
  have h1 := h.sl
  have h2 := h.len
  have h3 := h.cap
  have h4 := h.get
  cases v <;> try (simp [isSl] at h1; done)
  rename_i a n c
  simp only [lenV, capV] at h2 h3
  cases a with
  | none =>
    simp [isSl] at h1
    have : vs = [] := List.eq_nil_of_length_eq_zero (by omega)
    subst this
    have hl0 : l = 0 := by simp at he; omega
    have he0 : e = 0 := by simpa using he
    subst hl0; subst he0
    exact ⟨by simp [subV, isSl]; omega, by simp [subV, lenV], by simp [subV, lenV, capV], fun i hi => absurd hi (by simp)⟩
  | some p =>
    refine ⟨?_, ?_, ?_, fun i hi => ?_⟩
    · simp only [subV]
      split <;> rfl
    · simp [subV, lenV]; omega
    · simp [subV, lenV, capV]; omega
    · simp only [List.length_take, List.length_drop] at hi
      have hc : ¬ c = l := by omega
      have hg := h4 (l + i) (by omega)
      simp only [subV, hc, if_false, Option.map_some, idxV, Nat.mul_one]
      have hadd : (p.add l).add i = p.add (l + i) := by
        simp only [Addr.add]
        by_cases h0 : l = 0
        · subst h0; simp
        · by_cases hi0 : i = 0
          · subst hi0; simp
          · simp [h0, hi0, Nat.add_assoc]
      rw [hadd]
      simp only [idxV] at hg
      rw [hg, List.getElem?_take, if_pos (by omega), List.getElem?_drop]

/-! ### What is kept -/
structure Keep (S : Nat → Prop) (w0 w : World) : Prop where
  os : w.os = w0.os
  tape : w.tape = w0.tape
  output : w.output = w0.output
  size : w0.heap.size ≤ w.heap.size
  block : ∀ b, b < w0.heap.size → ¬ S b → w.heap[b]? = w0.heap[b]?

theorem Keep.refl (S : Nat → Prop) (w : World) : Keep S w w := ⟨rfl, rfl, rfl, Nat.le_refl _, fun _ _ _ => rfl⟩
theorem Keep.trans {S : Nat → Prop} {a b c : World} (h : Keep S a b) (k : Keep S b c) : Keep S a c :=
  ⟨k.os.trans h.os, k.tape.trans h.tape, k.output.trans h.output, Nat.le_trans h.size k.size, fun i hi hs => (k.block i (Nat.lt_of_lt_of_le hi h.size) hs).trans (h.block i hi hs)⟩
theorem Keep.mono {S S' : Nat → Prop} {a b : World} (h : Keep S a b) (hs : ∀ i, i < a.heap.size → S i → S' i) : Keep S' a b :=
  ⟨h.os, h.tape, h.output, h.size, fun i hi hn => h.block i hi (fun hh => hn (hs i hi hh))⟩
theorem Keep.setCell {S : Nat → Prop} {a w : World} (h : Keep S a w) {p : Addr} (hp : S p.block) (x : Value) : Keep S a (w.setCell p x) :=
  h.trans ⟨rfl, rfl, rfl, by simp [World.setCell], fun k _ hk => Below.heap_setCell _ _ _ _ (fun e => hk (e ▸ hp))⟩
theorem Keep.alloc {S : Nat → Prop} {a w : World} (h : Keep S a w) (o : Obj) : Keep S a (w.alloc o) :=
  h.trans ⟨rfl, rfl, rfl, by simp, fun k hk _ => Below.heap_alloc _ _ _ hk⟩
theorem Keep.below {w0 w : World} (h : Keep (fun b => w0.heap.size ≤ b) w0 w) : Below w0.heap.size w0 w :=
  ⟨h.os, h.tape, h.output, h.size, fun k hk => h.block k hk (by omega)⟩
theorem Own.keep {S : Nat → Prop} {w w' : World} {v : Value} {vs : List Value} (h : Own w v vs) (k : Keep S w w') (hs : ∀ b, blkV v = some b → ¬ S b) : Own w' v vs :=
  h.of_heap fun b hb => k.block b (h.block hb) (hs b hb)

theorem Sl.lt {w : World} {v : Value} {vs : List Value} (h : Sl w v vs) {i : Nat} (hi : i < vs.length) : (idxV v i).block < w.heap.size := by
  have := h.get i hi
  rw [List.getElem?_eq_getElem hi] at this
  rcases Nat.lt_or_ge (idxV v i).block w.heap.size with h' | h'
  · exact h'
  · simp [World.cell?, Array.getElem?_eq_none h'] at this
theorem Sl.keep {S : Nat → Prop} {w w' : World} {v : Value} {vs : List Value} (h : Sl w v vs) (k : Keep S w w') (hs : ∀ b, 0 < vs.length → blkV v = some b → ¬ S b) : Sl w' v vs := by
  refine ⟨h.sl, h.len, h.cap, fun i hi => ?_⟩
  rw [← h.get i hi]
  exact World.cell?_of_block (w := w) (k.block _ (h.lt hi) (hs _ (by omega) (idx_block h hi)))

theorem Sl.blk {w : World} {v : Value} {vs : List Value} (h : Sl w v vs) (b : Nat) (h0 : 0 < vs.length) (hb : blkV v = some b) : b < w.heap.size := by
  have := h.lt h0
  rw [idx_block h h0] at hb
  cases hb; exact this

theorem heap_setCells_far (b : Nat) : ∀ (vs : List Value) (o : Nat) (w : World) (k : Nat), k ≠ b → (w.setCells b o vs).heap[k]? = w.heap[k]?
  | [], _, _, _, _ => rfl
  | v :: r, o, w, k, h => by
    simp only [World.setCells]
    rw [heap_setCells_far b r _ _ k h, Below.heap_setCell _ _ _ _ (by simpa using h)]
theorem setCells_rest (b : Nat) : ∀ (vs : List Value) (o : Nat) (w : World), (w.setCells b o vs).os = w.os ∧ (w.setCells b o vs).tape = w.tape ∧ (w.setCells b o vs).output = w.output ∧ (w.setCells b o vs).heap.size = w.heap.size
  | [], _, _ => ⟨rfl, rfl, rfl, rfl⟩
  | v :: r, o, w => by
    simp only [World.setCells]
    have := setCells_rest b r (o + 1) (w.setCell ⟨b, o, none⟩ v)
    refine ⟨this.1, this.2.1, this.2.2.1, this.2.2.2.trans (by simp [World.setCell])⟩
theorem heap_setCells_at (b T : Nat) (fz : Nat × Nat) : ∀ (vs pre post : List Value) (w : World), w.heap[b]? = some (.cells (pre ++ post).toArray T fz) → vs.length ≤ post.length → (w.setCells b pre.length vs).heap[b]? = some (.cells (pre ++ (vs ++ post.drop vs.length)).toArray T fz)
  | [], pre, post, w, h, _ => by simpa [World.setCells] using h
  | v :: r, pre, [], w, h, hl => by simp at hl
  | v :: r, pre, p :: post, w, h, hl => by
    simp only [World.setCells]
    have h1 : (w.setCell ⟨b, pre.length, none⟩ v).heap[b]? = some (.cells ((pre ++ [v]) ++ post).toArray T fz) := by
      rw [heap_setCell_same h]
      simp
    have := heap_setCells_at b T fz r (pre ++ [v]) post _ h1 (by simpa using hl)
    simp only [List.length_append, List.length_cons, List.length_nil, Nat.zero_add] at this
    rw [this]
    simp
theorem Own.clr {w : World} {v : Value} {vs : List Value} (h : Own w v vs) (us : List Value) (hl : us.length = vs.length) : Own (clrV w v us) v us := by
  rcases h with ⟨rfl, rfl⟩ | ⟨b, T, rfl, hb⟩
  · exact .inl ⟨rfl, List.eq_nil_of_length_eq_zero (by simpa using hl)⟩
  · refine .inr ⟨b, T, by rw [hl], ?_⟩
    have := heap_setCells_at b T (0, 0) us [] vs w (by simpa using hb) (by omega)
    simpa [clrV, hl] using this
theorem clr_far {w : World} {v : Value} (us : List Value) {k : Nat} (hk : blkV v ≠ some k) : (clrV w v us).heap[k]? = w.heap[k]? := by
  unfold clrV
  split
  · rename_i p _ _
    exact heap_setCells_far _ _ _ _ _ (fun e => hk (by simp [blkV, e]))
  · rfl
theorem Keep.clr {S : Nat → Prop} {a w : World} (h : Keep S a w) {v : Value} (us : List Value) (hs : ∀ b, blkV v = some b → S b) : Keep S a (clrV w v us) := by
  refine h.trans ?_
  cases hv : blkV v with
  | none =>
    have : clrV w v us = w := by
      unfold clrV
      split
      · simp [blkV] at hv
      · rfl
    rw [this]; exact Keep.refl _ _
  | some b =>
    have hr : (clrV w v us).os = w.os ∧ (clrV w v us).tape = w.tape ∧ (clrV w v us).output = w.output ∧ (clrV w v us).heap.size = w.heap.size := by
      unfold clrV
      split
      · exact setCells_rest _ _ _ _
      · exact ⟨rfl, rfl, rfl, rfl⟩
    refine ⟨hr.1, hr.2.1, hr.2.2.1, by omega, fun k hk hn => clr_far us (fun e => hn (hs k e))⟩

theorem yTF : (some true == some false) = false := rfl
theorem yFT : (some false == some true) = false := rfl
theorem yTT : (some true == some true) = true := rfl
theorem yFF : (some false == some false) = true := rfl

/-! ### Ends -/
theorem ret1 {P : Program} {t : Nat} {R : Value → World → Prop} {f : Fr} {w : World} (v : Value) (hv : f t = v) (h : R v w) : retQ P [.tmp t] R .ret f w := by
  show R (f t) w
  rw [hv]; exact h
theorem ret2 {P : Program} {t s : Nat} {R : Value → World → Prop} {f : Fr} {w : World} (v u : Value) (hv : f t = v) (hu : f s = u) (h : R (.tuple #[v, u]) w) : retQ P [.tmp t, .tmp s] R .ret f w := by
  show R (.tuple #[f t, f s]) w
  rw [hv, hu]; exact h
theorem retv {P : Program} {t : Nat} {R : Value → World → Prop} {f : Fr} {w : World} (h : ∃ v, f t = v ∧ R v w) : retQ P [.tmp t] R .ret f w := by
  obtain ⟨v, hv, h⟩ := h
  show R (f t) w
  rw [hv]; exact h
theorem end0 {P : Program} {R : Value → World → Prop} {f : Fr} {w : World} (h : R (.tuple #[]) w) : retQ P [] R .normal f w := h
theorem again {m : Nat} {I : Nat → Fr → World → Prop} {Q : Exit → Fr → World → Prop} {f : Fr} {w : World} (m' : Nat) (h : m' < m) (hI : I m' f w) : seqQ (fun f' w' => ∃ m', m' < m ∧ I m' f' w') Q .normal f w := ⟨m', h, hI⟩

theorem seqR {K : Fr → World → Prop} {Q : Exit → Fr → World → Prop} {f : Fr} {w : World} (h : Q .ret f w) : seqQ K Q .ret f w := h
theorem blkR {id : Nat} {Q : Exit → Fr → World → Prop} {f : Fr} {w : World} (h : Q .ret f w) : blockQ id Q .ret f w := h
theorem seqN {K : Fr → World → Prop} {Q : Exit → Fr → World → Prop} {f : Fr} {w : World} (h : K f w) : seqQ K Q .normal f w := h
theorem blkN {id : Nat} {Q : Exit → Fr → World → Prop} {f : Fr} {w : World} (h : Q .normal f w) : blockQ id Q .normal f w := h

/-! ### The for loop -/
theorem cw_for {P : Program} {n id r t : Nat} {l : List Oper} {y : Code} {Q : Exit → Fr → World → Prop} {f : Fr} {w : World} (I : Nat → Fr → World → Prop) (m : Nat) (h0 : I m f w)
    (round : ∀ m f w, I m f w → ∀ K : Bool → Fr → World → Prop, (∀ f w, cw P n y (seqQ (fun f' w' => ∃ m', m' < m ∧ I m' f' w') (blockQ id Q)) f w → K true f w) → (∀ f w, Q .normal f w → K false f w) →
      pw P n l.toArray (fun f' w' => ∃ b, f' t = .bool b ∧ K b f' w') l f w) :
    cw P n (.block id (.loop (.seq (.seq (.region r l.toArray false) (.cond (.tmp t) .skip (.exit id))) y))) Q f w := by
  refine cw_block (cw_loop I m h0 ?_)
  intro m f w hI
  have := round m f w hI (fun b f w => if b then cw P n y (seqQ (fun f' w' => ∃ m', m' < m ∧ I m' f' w') (blockQ id Q)) f w else Q .normal f w) (fun f w h => by simpa using h) (fun f w h => by simpa using h)
  refine cw_seq' (cw_seq' (cw_mono (cw_region (Q := seqQ (fun f' w' => ∃ b, f' t = .bool b ∧ (if b then cw P n y (seqQ (fun f' w' => ∃ m', m' < m ∧ I m' f' w') (blockQ id Q)) f' w' else Q .normal f' w')) (fun _ _ _ => False)) this) ?_))
  intro e f w h
  cases e <;> try exact h.elim
  obtain ⟨b, hb, hk⟩ := h
  refine cw_cond b hb (fun e => cw_skip ?_) (fun e => cw_exit ?_)
  · subst e; simpa [seqQ] using hk
  · subst e
    simp only [seqQ, blockQ, if_true]
    simpa using hk

/-- The same, as a range loop lies. -/
theorem cw_rng {P : Program} {n id r t : Nat} {l : List Oper} {y : Code} {Q : Exit → Fr → World → Prop} {f : Fr} {w : World} (I : Nat → Fr → World → Prop) (m : Nat) (h0 : I m f w)
    (round : ∀ m f w, I m f w → ∀ K : Bool → Fr → World → Prop, (∀ f w, cw P n y (seqQ (fun f' w' => ∃ m', m' < m ∧ I m' f' w') (blockQ id Q)) f w → K true f w) → (∀ f w, Q .normal f w → K false f w) →
      pw P n l.toArray (fun f' w' => ∃ b, f' t = .bool b ∧ K b f' w') l f w) :
    cw P n (.block id (.loop (.seq (.region r l.toArray false) (.seq (.cond (.tmp t) .skip (.exit id)) y)))) Q f w := by
  refine cw_block (cw_loop I m h0 ?_)
  intro m f w hI
  have := round m f w hI (fun b f w => if b then cw P n y (seqQ (fun f' w' => ∃ m', m' < m ∧ I m' f' w') (blockQ id Q)) f w else Q .normal f w) (fun f w h => by simpa using h) (fun f w h => by simpa using h)
  refine cw_seq' (cw_mono (cw_region (Q := seqQ (fun f' w' => ∃ b, f' t = .bool b ∧ (if b then cw P n y (seqQ (fun f' w' => ∃ m', m' < m ∧ I m' f' w') (blockQ id Q)) f' w' else Q .normal f' w')) (fun _ _ _ => False)) this) ?_)
  intro e f w h
  cases e <;> try exact h.elim
  obtain ⟨b, hb, hk⟩ := h
  refine cw_seq' (cw_cond b hb (fun e => cw_skip ?_) (fun e => cw_exit ?_))
  · subst e; simpa [seqQ] using hk
  · subst e
    simp only [seqQ, blockQ, if_true]
    simpa using hk
end Go.Proofs.Qxb6601738a
