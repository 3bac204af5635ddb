/-
  Blocks of several cells; bits of a word. No walk here.
-/
import Derived.Test.Qxb6601738aGlob
namespace Go.Proofs.Qxb6601738a
open Go.RowKit
set_option linter.unusedSimpArgs false
set_option linter.unusedVariables false

theorem wrap_id (x : Int) (h0 : -9223372036854775808 ≤ x) (h1 : x < 9223372036854775808) : IntKind.i64.wrap x = x := by
  rw [IntKind.wrap_i64]; omega
theorem wrap_succ (k : Nat) (h : k < 9223372036854775807) : IntKind.i64.wrap ((k : Int) + 1) = ((k + 1 : Nat) : Int) := by
  rw [IntKind.wrap_i64]; omega
theorem wrap_succ2 (k : Nat) (h : k < 9223372036854775806) : IntKind.i64.wrap ((k : Int) + 2) = ((k + 2 : Nat) : Int) := by
  rw [IntKind.wrap_i64]; omega
theorem wrap_u8 (x : Int) (h0 : 0 ≤ x) (h1 : x < 256) : IntKind.u8.wrap x = x := by
  show x % 256 = x
  omega
theorem wrap_u64 (x : Int) (h0 : 0 ≤ x) (h1 : x < 18446744073709551616) : IntKind.u64.wrap x = x := by
  show x % 18446744073709551616 = x
  omega
theorem cw_cond' {P : Program} {n : Nat} {Q : Exit → Fr → World → Prop} {f : Fr} {w : World} {c : Operand} {x y : Code} (b : Bool) (hb : ev f c = .bool b) (ht : cw P n x Q f w) (hf : cw P n y Q f w) : cw P n (.cond c x y) Q f w :=
  cw_cond b hb (fun _ => ht) (fun _ => hf)
theorem Keep.setNew {w0 w : World} (h : Keep (fun _ => False) w0 w) {p : Addr} (hp : w0.heap.size ≤ p.block) (x : Value) : Keep (fun _ => False) w0 (w.setCell p x) :=
  ((h.mono (S' := fun i => w0.heap.size ≤ i) (fun _ _ h => h.elim)).setCell hp x).mono fun i hi h => absurd hi (by omega)
theorem Sl.old {w w' : World} {v : Value} {vs : List Value} (h : Sl w v vs) (k : Keep (fun _ => False) w w') : Sl w' v vs := h.keep k fun _ _ _ h => h
theorem Own.olds {w w' : World} {v : Value} {vs : List Value} (h : Own w v vs) (k : Keep (fun _ => False) w w') : Own w' v vs := h.keep k fun _ _ h => h

/-! ### Blocks -/
def Box (w : World) (b : Nat) (cs : List Value) : Prop := ∃ T, w.heap[b]? = some (.cells cs.toArray T (0, 0))
section
variable {w w' : World} {b : Nat} {cs : List Value}
theorem Box.cell (h : Box w b cs) (i : Nat) : w.cell? ⟨b, i, none⟩ = cs[i]? := by
  obtain ⟨T, h⟩ := h
  simp [World.cell?, h]
theorem Box.frozen (h : Box w b cs) (i : Nat) : w.frozen? ⟨b, i, none⟩ = false := by
  obtain ⟨T, h⟩ := h
  simp [World.frozen?, h]
theorem Box.lt (h : Box w b cs) : b < w.heap.size := by
  obtain ⟨T, h⟩ := h
  rcases Nat.lt_or_ge b w.heap.size with h1 | h1
  · exact h1
  · rw [Array.getElem?_eq_none h1] at h; cases h
theorem Box.new (w : World) (cs : List Value) (T : TypeId) : Box (w.alloc (.cells cs.toArray T)) w.heap.size cs := ⟨T, (MapKept.heap_alloc w _).1⟩
theorem Box.alloc (h : Box w b cs) (o : Obj) : Box (w.alloc o) b cs := by
  have := h.lt
  obtain ⟨T, h⟩ := h
  exact ⟨T, by simp only [World.alloc]; rw [Array.getElem?_push_lt (by omega), ← h, Array.getElem?_eq_getElem this]⟩
theorem Box.keep {S : Nat → Prop} (h : Box w b cs) (k : Keep S w w') (hs : ¬ S b) : Box w' b cs := by
  have := h.lt
  obtain ⟨T, h⟩ := h
  exact ⟨T, by rw [k.block b this hs, h]⟩
theorem loadN_of {p : Addr} : ∀ (m i : Nat) (vs : List Value), vs.length = m → (∀ j, j < m → w.cell? (p.add (i + j)) = vs[j]?) → loadN w p i m = some vs
  | 0, i, vs, hl, _ => by rw [List.eq_nil_of_length_eq_zero hl]; rfl
  | m + 1, i, v :: r, hl, h => by
    have h0 := h 0 (by omega)
    have := loadN_of m (i + 1) r (by simpa using hl) (fun j hj => by rw [show i + 1 + j = i + (j + 1) by omega, h (j + 1) (by omega)]; simp)
    simp only [Nat.add_zero, List.getElem?_cons_zero] at h0
    simp only [loadN, h0, this]
theorem Box.load (h : Box w b cs) (o m : Nat) (hm : o + m ≤ cs.length) : loadN w ⟨b, o, none⟩ 0 m = some ((cs.drop o).take m) := by
  refine loadN_of m 0 _ (by simp; omega) fun j hj => ?_
  rw [addr_add, h.cell, List.getElem?_take, if_pos hj, List.getElem?_drop]
  congr 1; omega
theorem Box.all (h : Box w b cs) : loadN w ⟨b, 0, none⟩ 0 cs.length = some cs := by
  rw [h.load 0 cs.length (by omega)]; simp
theorem Box.room (h : Box w b cs) (o m : Nat) (hm : o + m ≤ cs.length) : roomAt w ⟨b, o, none⟩ m := by
  refine ⟨rfl, fun j hj => ?_⟩
  rw [addr_add, h.cell, h.frozen]
  exact ⟨by simp; omega, rfl⟩
theorem Box.store (h : Box w b cs) (pre post vs : List Value) (hc : cs = pre ++ post) (hl : vs.length ≤ post.length) : Box (w.setCells b pre.length vs) b (pre ++ (vs ++ post.drop vs.length)) := by
  obtain ⟨T, h⟩ := h
  subst hc
  exact ⟨T, heap_setCells_at b T (0, 0) vs pre post w h hl⟩
theorem Box.over (h : Box w b cs) (vs : List Value) (hl : vs.length = cs.length) : Box (w.setCells b 0 vs) b vs := by
  have := h.store [] cs vs rfl (by omega)
  simpa [hl] using this
theorem Box.far (h : Box w b cs) {b' : Nat} (hb : b ≠ b') (o : Nat) (vs : List Value) : Box (w.setCells b' o vs) b cs := by
  obtain ⟨T, h⟩ := h
  exact ⟨T, by rw [heap_setCells_far b' vs o w b hb]; exact h⟩
theorem Keep.setCells {S : Nat → Prop} {a : World} (h : Keep S a w) (hb : S b) (o : Nat) (vs : List Value) : Keep S a (w.setCells b o vs) := by
  obtain ⟨e1, e2, e3, e4⟩ := setCells_rest b vs o w
  refine ⟨e1.trans h.os, e2.trans h.tape, e3.trans h.output, by rw [e4]; exact h.size, fun k hk hs => ?_⟩
  rw [heap_setCells_far b vs o w k (fun e => hs (e ▸ hb))]
  exact h.block k hk hs
theorem Keep.setNews {a : World} (h : Keep (fun _ => False) a w) (hb : a.heap.size ≤ b) (o : Nat) (vs : List Value) : Keep (fun _ => False) a (w.setCells b o vs) :=
  ((h.mono (S' := fun i => a.heap.size ≤ i) (fun _ _ h => h.elim)).setCells hb o vs).mono fun i hi h => absurd hi (by omega)
theorem Own.farN {v : Value} {vs : List Value} (h : Own w v vs) (hb : blkV v ≠ some b) (o : Nat) (us : List Value) : Own (w.setCells b o us) v vs :=
  h.of_heap fun k hk => heap_setCells_far b us o w k (fun e => hb (e ▸ hk))
theorem loadN_heap {p : Addr} (hh : w'.heap[p.block]? = w.heap[p.block]?) : ∀ m i, loadN w' p i m = loadN w p i m
  | 0, i => rfl
  | m + 1, i => by
    have hc : w'.cell? (p.add i) = w.cell? (p.add i) := by
      have hb : (p.add i).block = p.block := by unfold Addr.add; split <;> rfl
      unfold World.cell?
      rw [hb, hh]
    simp only [loadN, hc, loadN_heap hh m (i + 1)]
end

/-! ### Bits -/
theorem and63 (c : Int) (h0 : 0 ≤ c) (h1 : c < 256) : andI .u8 c 63 = ((c.toNat % 64 : Nat) : Int) := by
  have : ∀ k : Fin 256, andI .u8 ((k.val : Nat) : Int) 63 = ((k.val % 64 : Nat) : Int) := by decide +kernel
  have h := this ⟨c.toNat, by omega⟩
  simp only [show ((c.toNat : Nat) : Int) = c by omega] at h
  exact h
theorem shr6 (c : Int) (h0 : 0 ≤ c) (h1 : c < 256) : shrI .u8 c 6 = ((c.toNat / 64 : Nat) : Int) := by
  have : ∀ k : Fin 256, shrI .u8 ((k.val : Nat) : Int) 6 = ((k.val / 64 : Nat) : Int) := by decide +kernel
  have h := this ⟨c.toNat, by omega⟩
  simp only [show ((c.toNat : Nat) : Int) = c by omega] at h
  exact h
theorem ofInt_toNat (x : Int) (h0 : 0 ≤ x) (h1 : x < 18446744073709551616) : (BitVec.ofInt 64 x).toNat = x.toNat := by
  rw [BitVec.toNat_ofInt]
  congr 1
  show x % 18446744073709551616 = x
  omega
theorem and64 (x y : Int) (h0 : 0 ≤ x) (h1 : x < 18446744073709551616) (h2 : 0 ≤ y) (h3 : y < 18446744073709551616) : andI .u64 x y = ((x.toNat &&& y.toNat : Nat) : Int) := by
  unfold andI
  show IntKind.u64.wrap (((BitVec.ofInt 64 x &&& BitVec.ofInt 64 y).toNat : Nat) : Int) = _
  rw [BitVec.toNat_and, ofInt_toNat x h0 h1, ofInt_toNat y h2 h3, wrap_u64 _ (by omega)]
  have := Nat.and_le_left (n := x.toNat) (m := y.toNat)
  omega
theorem hasBit (x : Int) (h0 : 0 ≤ x) (h1 : x < 18446744073709551616) (k : Nat) (hk : k < 64) : (andI .u64 x (shlI .u64 1 (k : Int)) != 0) = x.toNat.testBit k := by
  have e : shlI .u64 1 (k : Int) = ((2 ^ k : Nat) : Int) := by
    unfold shlI
    have : min ((k : Int)).toNat IntKind.u64.bits = k := by show min _ 64 = k; omega
    have h2 : (2 : Nat) ^ k ≤ 2 ^ 63 := Nat.pow_le_pow_right (by decide) (by omega)
    rw [this, Int.one_mul, wrap_u64]
    · rfl
    · exact Int.le_of_lt (Int.pow_pos (by decide))
    · have : ((2 : Int) ^ k) = ((2 ^ k : Nat) : Int) := rfl
      rw [this]; omega
  have h2 : (2 : Nat) ^ k ≤ 2 ^ 63 := Nat.pow_le_pow_right (by decide) (by omega)
  have h3 : ((2 ^ k : Nat) : Int) < 18446744073709551616 := by
    have : ((2 ^ k : Nat) : Int) ≤ ((2 ^ 63 : Nat) : Int) := Int.ofNat_le.2 h2
    exact Int.lt_of_le_of_lt this (by decide)
  rw [e, and64 x _ h0 h1 (Int.natCast_nonneg _) h3, Int.toNat_natCast]
  cases hb : x.toNat.testBit k
  · have : x.toNat &&& 2 ^ k = 0 := by
      apply Nat.eq_of_testBit_eq
      intro i
      rw [Nat.testBit_and, Nat.testBit_two_pow, Nat.zero_testBit]
      by_cases hi : k = i
      · subst hi; simp [hb]
      · simp [hi]
    rw [this]; rfl
  · have : x.toNat &&& 2 ^ k ≠ 0 := by
      intro h
      have h4 : (x.toNat &&& 2 ^ k).testBit k = true := by rw [Nat.testBit_and, Nat.testBit_two_pow]; simp [hb]
      rw [h] at h4; simp at h4
    simpa using this
theorem inBit (x : Int) (h0 : 0 ≤ x) (h1 : x < 18446744073709551616) (k : Nat) (hk : k < 64) : (andI .u64 (shrI .u64 x (k : Int)) 1 == 1) = x.toNat.testBit k := by
  have e : shrI .u64 x (k : Int) = ((x.toNat / 2 ^ k : Nat) : Int) := by
    unfold shrI
    have : min ((k : Int)).toNat IntKind.u64.bits = k := by show min _ 64 = k; omega
    rw [this, Int.fdiv_eq_ediv_of_nonneg _ (Int.le_of_lt (Int.pow_pos (by decide)))]
    rw [Int.natCast_ediv, show ((x.toNat : Nat) : Int) = x by omega]
    rfl
  have h2 : x.toNat / 2 ^ k ≤ x.toNat := Nat.div_le_self _ _
  rw [e, and64 _ 1 (Int.natCast_nonneg _) (by have : ((x.toNat / 2 ^ k : Nat) : Int) ≤ (x.toNat : Int) := Int.ofNat_le.2 h2; omega) (by omega) (by omega), Int.toNat_natCast, show (1 : Int).toNat = 1 from rfl, Nat.testBit_eq_decide_div_mod_eq, Nat.and_one_is_mod]
  generalize x.toNat / 2 ^ k = z
  have : z % 2 = 0 ∨ z % 2 = 1 := by omega
  rcases this with h | h <;> rw [h] <;> rfl
end Go.Proofs.Qxb6601738a
