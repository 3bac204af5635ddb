import Derived.Test.Qxb6601548aCanon
namespace Go.Proofs.Qxb6601548a
open Ieee (Datum)

/-! ### What ftran computes, up to the sign of zeros and which NaN -/
def iter {α : Type} (u : Nat → α → α) (x : α) : Nat → α
  | 0 => x
  | k + 1 => u k (iter u x k)
def rd (x : Nat) : Datum := Ieee.double.read x
def sub1 (e : Nat) (c : Datum) (Y : List Datum) : List Datum := Y.set e (dsub (Y.getD e dZ) c)
def colN (es : List Int) (s : Nat) : Nat := bnd es (s + 1) - bnd es s
def colU (tgt : Int → Nat) (ix : List Int) (vs : List Nat) (es : List Int) (s : Nat) (v : Datum) (X : List Datum) : Nat → List Datum :=
  iter (fun j Y => sub1 (tgt (ix.getD (bnd es s + j) 0)) (dmul (rd (vs.getD (bnd es s + j) 0)) v) Y) X
def P1 (d : BD) (s : Nat) (X : List Datum) : List Datum :=
  if (X.getD (d.row.getD s 0).toNat dZ).isZero then X else colU Int.toNat d.li d.lv d.le s (X.getD (d.row.getD s 0).toNat dZ) X (colN d.le s)
def v2 (d : BD) (s : Nat) (X : List Datum) : Datum := dquo (X.getD (d.row.getD s 0).toNat dZ) (rd (d.diag.getD s 0))
def P2 (d : BD) (s : Nat) (X : List Datum) : List Datum :=
  if (v2 d s X).isZero then X.set (d.row.getD s 0).toNat (v2 d s X)
  else colU (fun t => (d.row.getD t.toNat 0).toNat) d.ui d.uv d.ue s (v2 d s X) (X.set (d.row.getD s 0).toNat (v2 d s X)) (colN d.ue s)
def setU (d : BD) (s : Nat) (v : Datum) (X : List Datum) : Nat → List Datum :=
  iter (fun j Y => if 0 ≤ d.sl.getD (d.mem.getD (bnd d.se s + j) 0).toNat 0 then sub1 (d.mem.getD (bnd d.se s + j) 0).toNat v Y else Y) X
def P3x (d : BD) (s : Nat) (X : List Datum) : List Datum :=
  if (X.getD (d.row.getD s 0).toNat dZ).isZero then X.set (d.row.getD s 0).toNat dZ
  else setU d (d.set_.getD s 0).toNat (X.getD (d.row.getD s 0).toNat dZ) (X.set (d.row.getD s 0).toNat dZ) (colN d.se (d.set_.getD s 0).toNat)
def P3 (d : BD) (s : Nat) (p : List Datum × List Datum) : List Datum × List Datum :=
  (P3x d s p.1, p.2.set (d.at_.getD s 0).toNat (p.1.getD (d.row.getD s 0).toNat dZ))
def P4 (d : BD) (e : Nat) (p : List Datum × List Datum) : List Datum × List Datum :=
  (p.1.set e dZ, if 0 ≤ d.sl.getD e 0 then p.2.set (d.sl.getD e 0).toNat (p.1.getD e dZ) else p.2)
def v5 (d : BD) (k : Nat) (Z : List Datum) : Datum := dquo (Z.getD (d.ea.getD k 0).toNat dZ) (rd (d.ep.getD k 0))
def P5 (d : BD) (k : Nat) (Z : List Datum) : List Datum :=
  if (v5 d k Z).isZero then Z.set (d.ea.getD k 0).toNat (v5 d k Z)
  else colU Int.toNat d.ei d.ev d.ee k (v5 d k Z) (Z.set (d.ea.getD k 0).toNat (v5 d k Z)) (colN d.ee k)
def fX2 (d : BD) (X : List Datum) : List Datum := iter (fun k => P2 d (d.row.length - 1 - k)) (iter (P1 d) X d.row.length) d.row.length
def fXZ (d : BD) (X Z : List Datum) : List Datum × List Datum := iter (P4 d) (iter (P3 d) (fX2 d X, Z) d.row.length) d.sl.length
def ftranS (d : BD) (X Z : List Datum) : List Datum := iter (P5 d) (fXZ d X Z).2 d.ea.length

/-! ### z is output only -/
theorem getD_set_ne {α : Type} (l : List α) {i j : Nat} (h : i ≠ j) (v a : α) : (l.set i v).getD j a = l.getD j a := by
  simp [List.getD_eq_getElem?_getD, List.getElem?_set_ne h]
theorem getD_set_eq {α : Type} (l : List α) {i : Nat} (h : i < l.length) (v a : α) : (l.set i v).getD i a = v := by
  simp [List.getD_eq_getElem?_getD, h]

theorem p3_same (d : BD) (X Z Z' : List Datum) (hl : Z.length = Z'.length) (hat : ∀ i, i < d.at_.length → (d.at_.getD i 0).toNat < Z.length) : ∀ k, k ≤ d.at_.length →
    (iter (P3 d) (X, Z) k).1 = (iter (P3 d) (X, Z') k).1 ∧ (iter (P3 d) (X, Z) k).2.length = Z.length ∧ (iter (P3 d) (X, Z') k).2.length = Z.length ∧
      ∀ q, (∃ i, i < k ∧ (d.at_.getD i 0).toNat = q) → (iter (P3 d) (X, Z) k).2.getD q dZ = (iter (P3 d) (X, Z') k).2.getD q dZ := by
  intro k
  induction k with
  | zero => intro _; exact ⟨rfl, rfl, hl.symm, fun q ⟨i, hi, _⟩ => absurd hi (by omega)⟩
  | succ k ih =>
    intro hk
    obtain ⟨h1, h2, h3, h4⟩ := ih (by omega)
    simp only [iter, P3]
    refine ⟨by rw [h1], by simpa using h2, by simpa using h3, ?_⟩
    rintro q ⟨i, hi, hq⟩
    have hb := hat k (by omega)
    by_cases e : (d.at_.getD k 0).toNat = q
    · subst e
      rw [getD_set_eq _ (by omega), getD_set_eq _ (by omega), h1]
    · rw [getD_set_ne _ e, getD_set_ne _ e]
      have : i ≠ k := fun h => e (by rw [← h]; exact hq)
      exact h4 q ⟨i, by omega, hq⟩
theorem p4_same (d : BD) (a b : List Datum × List Datum) (h0 : a.1 = b.1) (E : Nat) (ha : a.2.length = E) (hb : b.2.length = E) (W : Nat → Prop) (hW : ∀ q, W q → a.2.getD q dZ = b.2.getD q dZ)
    (hsl : ∀ i, i < d.sl.length → 0 ≤ d.sl.getD i 0 → (d.sl.getD i 0).toNat < E) : ∀ k, k ≤ d.sl.length →
    (iter (P4 d) a k).1 = (iter (P4 d) b k).1 ∧ (iter (P4 d) a k).2.length = E ∧ (iter (P4 d) b k).2.length = E ∧
      ∀ q, (W q ∨ ∃ i, i < k ∧ d.sl.getD i 0 = q) → (iter (P4 d) a k).2.getD q dZ = (iter (P4 d) b k).2.getD q dZ := by
  intro k
  induction k with
  | zero =>
    intro _
    refine ⟨h0, ha, hb, fun q h => ?_⟩
    rcases h with h | ⟨i, hi, _⟩
    · exact hW q h
    · omega
  | succ k ih =>
    intro hk
    obtain ⟨h1, h2, h3, h4⟩ := ih (by omega)
    simp only [iter, P4]
    by_cases hn : 0 ≤ d.sl.getD k 0
    · simp only [hn, if_true]
      refine ⟨by rw [h1], by simpa using h2, by simpa using h3, fun q hq => ?_⟩
      have hlt := hsl k (by omega) hn
      by_cases e : (d.sl.getD k 0).toNat = q
      · subst e
        rw [getD_set_eq _ (by omega), getD_set_eq _ (by omega), h1]
      · rw [getD_set_ne _ e, getD_set_ne _ e]
        refine h4 q ?_
        rcases hq with hq | ⟨i, hi, hq⟩
        · exact .inl hq
        · refine .inr ⟨i, ?_, hq⟩
          have : i ≠ k := fun h => e (by subst h; omega)
          omega
    · simp only [hn, if_false]
      refine ⟨by rw [h1], h2, h3, fun q hq => h4 q ?_⟩
      rcases hq with hq | ⟨i, hi, hq⟩
      · exact .inl hq
      · refine .inr ⟨i, ?_, hq⟩
        have : i ≠ k := fun h => hn (by subst h; omega)
        omega
theorem ext_getD {l l' : List Datum} {E : Nat} (h1 : l.length = E) (h2 : l'.length = E) (h : ∀ q, q < E → l.getD q dZ = l'.getD q dZ) : l = l' := by
  apply List.ext_getElem (by omega)
  intro i a b
  have := h i (by omega)
  simpa [List.getD_eq_getElem?_getD, a, b] using this
theorem getD_all {xs : List Int} {b : Nat} (h : allBelow xs b = true) {i : Nat} (hi : i < xs.length) : 0 ≤ xs.getD i 0 ∧ xs.getD i 0 < b := by
  have := all_get h hi
  simpa [List.getD_eq_getElem?_getD, hi] using this

theorem ftran_out {d : BD} (F : BFit d) (X Z Z' : List Datum) (hz : Z.length = d.sl.length) (hz' : Z'.length = d.sl.length) : ftranS d X Z = ftranS d X Z' := by
  have hat : ∀ i, i < d.at_.length → (d.at_.getD i 0).toNat < Z.length := fun i hi => by have := getD_all F.atB hi; omega
  have hr : d.row.length = d.at_.length := F.at_.symm
  obtain ⟨a1, a2, a3, a4⟩ := p3_same d (fX2 d X) Z Z' (by omega) hat d.row.length (by omega)
  have hsl : ∀ i, i < d.sl.length → 0 ≤ d.sl.getD i 0 → (d.sl.getD i 0).toNat < Z.length := fun i hi h0 => by
    have := F.slB i hi
    have e : d.sl.getD i 0 = d.sl[i] := by simp [List.getD_eq_getElem?_getD, hi]
    omega
  obtain ⟨b1, b2, b3, b4⟩ := p4_same d _ _ a1 Z.length a2 a3 (fun q => ∃ i, i < d.row.length ∧ (d.at_.getD i 0).toNat = q) a4 hsl d.sl.length (Nat.le_refl _)
  have : (fXZ d X Z).2 = (fXZ d X Z').2 := by
    refine ext_getD b2 b3 fun q hq => b4 q ?_
    rcases F.cov q (by omega) with ⟨i, hi, h⟩ | ⟨i, hi, h⟩
    · refine .inl ⟨i, by omega, ?_⟩
      simp only [List.getD_eq_getElem?_getD, List.getElem?_eq_getElem hi, Option.getD_some, h, Int.toNat_natCast]
    · refine .inr ⟨i, hi, ?_⟩
      simp only [List.getD_eq_getElem?_getD, List.getElem?_eq_getElem hi, Option.getD_some, h]
  unfold ftranS
  rw [this]

/-! ### ftran is odd -/
def nL (X : List Datum) : List Datum := X.map dneg
theorem nL_getD (X : List Datum) (e : Nat) : (nL X).getD e dZ = dneg (X.getD e dZ) := by
  unfold nL
  simp only [List.getD_eq_getElem?_getD, List.getElem?_map]
  cases X[e]? with
  | none => simp [dneg_zero]
  | some v => simp
theorem nL_set (X : List Datum) (e : Nat) (v : Datum) : (nL X).set e (dneg v) = nL (X.set e v) := by
  unfold nL; simp [List.map_set]
theorem iter_nL (u u' : Nat → List Datum → List Datum) (X : List Datum) (h : ∀ j Y, u' j (nL Y) = nL (u j Y)) : ∀ k, iter u' (nL X) k = nL (iter u X k)
  | 0 => rfl
  | k + 1 => by rw [iter, iter_nL u u' X h k, h, iter]
theorem sub1_nL (e : Nat) (c : Datum) (Y : List Datum) : sub1 e (dneg c) (nL Y) = nL (sub1 e c Y) := by
  unfold sub1; rw [nL_getD, dsub_neg, nL_set]
theorem colU_nL (tgt : Int → Nat) (ix : List Int) (vs : List Nat) (es : List Int) (s : Nat) (v : Datum) (X : List Datum) (k : Nat) : colU tgt ix vs es s (dneg v) (nL X) k = nL (colU tgt ix vs es s v X k) := by
  unfold colU
  refine iter_nL _ _ X (fun j Y => ?_) k
  rw [dmul_neg, sub1_nL]
theorem setU_nL (d : BD) (s : Nat) (v : Datum) (X : List Datum) (k : Nat) : setU d s (dneg v) (nL X) k = nL (setU d s v X k) := by
  unfold setU
  refine iter_nL _ _ X (fun j Y => ?_) k
  by_cases h : 0 ≤ d.sl.getD (d.mem.getD (bnd d.se s + j) 0).toNat 0
  · simp only [h, if_true]; rw [sub1_nL]
  · simp only [h, if_false]
theorem P1_nL (d : BD) (s : Nat) (X : List Datum) : P1 d s (nL X) = nL (P1 d s X) := by
  unfold P1
  rw [nL_getD, dneg_isZero]
  split
  · rfl
  · rw [colU_nL]
theorem P2_nL (d : BD) (s : Nat) (X : List Datum) : P2 d s (nL X) = nL (P2 d s X) := by
  have e : v2 d s (nL X) = dneg (v2 d s X) := by unfold v2; rw [nL_getD, dquo_neg]
  unfold P2
  rw [e, dneg_isZero, nL_set, colU_nL]
  split <;> rfl
theorem P3_nL (d : BD) (s : Nat) (p : List Datum × List Datum) : P3 d s (nL p.1, nL p.2) = (nL (P3 d s p).1, nL (P3 d s p).2) := by
  unfold P3 P3x
  simp only [nL_getD, dneg_isZero, nL_set]
  congr 1
  have e : (nL p.1).set (d.row.getD s 0).toNat dZ = nL (p.1.set (d.row.getD s 0).toNat dZ) := by rw [← nL_set, dneg_zero]
  rw [e]
  split
  · rfl
  · rw [setU_nL]
theorem P4_nL (d : BD) (s : Nat) (p : List Datum × List Datum) : P4 d s (nL p.1, nL p.2) = (nL (P4 d s p).1, nL (P4 d s p).2) := by
  unfold P4
  simp only [nL_getD, nL_set]
  congr 1
  · rw [← nL_set, dneg_zero]
  · split <;> rfl
theorem P5_nL (d : BD) (s : Nat) (X : List Datum) : P5 d s (nL X) = nL (P5 d s X) := by
  have e : v5 d s (nL X) = dneg (v5 d s X) := by unfold v5; rw [nL_getD, dquo_neg]
  unfold P5
  rw [e, dneg_isZero, nL_set, colU_nL]
  split <;> rfl
theorem iter_nP (u : Nat → List Datum × List Datum → List Datum × List Datum) (h : ∀ j p, u j (nL p.1, nL p.2) = (nL (u j p).1, nL (u j p).2)) (p : List Datum × List Datum) : ∀ k, iter u (nL p.1, nL p.2) k = (nL (iter u p k).1, nL (iter u p k).2)
  | 0 => rfl
  | k + 1 => by rw [iter, iter_nP u h p k, h, iter]
theorem ftran_odd' (d : BD) (X Z : List Datum) : ftranS d (nL X) (nL Z) = nL (ftranS d X Z) := by
  have e1 : fX2 d (nL X) = nL (fX2 d X) := by
    unfold fX2
    rw [iter_nL _ _ X (P1_nL d), iter_nL _ _ _ (fun k => P2_nL d _)]
  have e2 : fXZ d (nL X) (nL Z) = (nL (fXZ d X Z).1, nL (fXZ d X Z).2) := by
    unfold fXZ
    rw [e1]
    have := iter_nP (P3 d) (P3_nL d) (fX2 d X, Z) d.row.length
    simp only at this
    rw [this]
    exact iter_nP (P4 d) (P4_nL d) _ _
  unfold ftranS
  rw [e2]
  exact iter_nL _ _ _ (P5_nL d) _
theorem ftran_odd {d : BD} (F : BFit d) (X Z : List Datum) (hz : Z.length = d.sl.length) : ftranS d (nL X) Z = nL (ftranS d X Z) := by
  rw [ftran_out F (nL X) Z (nL Z) hz (by simpa [nL] using hz)]
  exact ftran_odd' d X Z
end Go.Proofs.Qxb6601548a
