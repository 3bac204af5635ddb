import Derived.Test.Qxb6601548aFCtx
namespace Go.Proofs.Qxb6601548a
open Ieee (Datum)
set_option linter.unusedVariables false

/-! ### What btran computes, up to the sign of zeros and which NaN -/
def accU (ix : List Int) (vs : List Nat) (es : List Int) (s : Nat) (X : List Datum) (v : Datum) : Nat → Datum :=
  iter (fun j v => dsub v (dmul (rd (vs.getD (bnd es s + j) 0)) (X.getD (ix.getD (bnd es s + j) 0).toNat dZ))) v
def setV (d : BD) (s : Nat) (Y : List Datum) (v : Datum) : Nat → Datum :=
  iter (fun j v => if 0 ≤ d.sl.getD (d.mem.getD (bnd d.se s + j) 0).toNat 0 then dsub v (Y.getD (d.mem.getD (bnd d.se s + j) 0).toNat dZ) else v) v
def Q1 (d : BD) (k : Nat) (W : List Datum) : List Datum :=
  W.set (d.ea.getD k 0).toNat (dquo (accU d.ei d.ev d.ee k W (W.getD (d.ea.getD k 0).toNat dZ) (colN d.ee k)) (rd (d.ep.getD k 0)))
def yW (d : BD) (W : List Datum) (e : Nat) : Datum := if 0 ≤ d.sl.getD e 0 then W.getD (d.sl.getD e 0).toNat dZ else dZ
def Q2 (d : BD) (W : List Datum) (e : Nat) (Y : List Datum) : List Datum := Y.set e (yW d W e)
def Q3 (d : BD) (W Y : List Datum) (s : Nat) (H : List Datum) : List Datum :=
  H.set s (dquo (accU d.ui d.uv d.ue s H (setV d (d.set_.getD s 0).toNat Y (W.getD (d.at_.getD s 0).toNat dZ) (colN d.se (d.set_.getD s 0).toNat)) (colN d.ue s)) (rd (d.diag.getD s 0)))
def Q4 (d : BD) (H : List Datum) (s : Nat) (Y : List Datum) : List Datum :=
  Y.set (d.row.getD s 0).toNat (accU d.li d.lv d.le s Y (H.getD s dZ) (colN d.le s))
def bW (d : BD) (W : List Datum) : List Datum := iter (fun k => Q1 d (d.ea.length - 1 - k)) W d.ea.length
def bY (d : BD) (W Y : List Datum) : List Datum := iter (Q2 d (bW d W)) Y d.sl.length
def bH (d : BD) (W Y H : List Datum) : List Datum := iter (Q3 d (bW d W) (bY d W Y)) H d.row.length
def btranS (d : BD) (W Y H : List Datum) : List Datum := iter (fun k => Q4 d (bH d W Y H) (d.row.length - 1 - k)) (bY d W Y) d.row.length

/-! ### y and the room by step are output only -/
theorem q2_same (d : BD) (W Y Y' : List Datum) (hl : Y.length = Y'.length) : ∀ k, k ≤ Y.length →
    (iter (Q2 d W) Y k).length = Y.length ∧ (iter (Q2 d W) Y' k).length = Y.length ∧ ∀ q, q < k → (iter (Q2 d W) Y k).getD q dZ = (iter (Q2 d W) Y' k).getD q dZ := by
  intro k
  induction k with
  | zero => intro _; exact ⟨rfl, hl.symm, fun q h => absurd h (by omega)⟩
  | succ k ih =>
    intro hk
    obtain ⟨h1, h2, h3⟩ := ih (by omega)
    simp only [iter, Q2]
    refine ⟨by simpa using h1, by simpa using h2, fun q hq => ?_⟩
    by_cases e : k = q
    · subst e; rw [getD_set_eq _ (by omega), getD_set_eq _ (by omega)]
    · rw [getD_set_ne _ e, getD_set_ne _ e]; exact h3 q (by omega)
theorem bY_out (d : BD) (W Y Y' : List Datum) (h1 : Y.length = d.sl.length) (h2 : Y'.length = d.sl.length) : bY d W Y = bY d W Y' := by
  obtain ⟨a, b, c⟩ := q2_same d (bW d W) Y Y' (by omega) d.sl.length (by omega)
  exact ext_getD (E := d.sl.length) (by rw [← h1]; exact a) (by rw [← h1]; exact b) c
theorem iter_congr {α : Type} (u u' : Nat → α → α) (x : α) : ∀ k, (∀ j, j < k → ∀ y, u j y = u' j y) → iter u x k = iter u' x k
  | 0, _ => rfl
  | k + 1, h => by rw [iter, iter, iter_congr u u' x k (fun j hj => h j (by omega)), h k (by omega)]
theorem q3_same {d : BD} (F : BFit d) (W Y H H' : List Datum) (hl : H.length = d.row.length) (hl' : H'.length = d.row.length) : ∀ k, k ≤ d.row.length →
    (iter (Q3 d W Y) H k).length = d.row.length ∧ (iter (Q3 d W Y) H' k).length = d.row.length ∧ ∀ q, q < k → (iter (Q3 d W Y) H k).getD q dZ = (iter (Q3 d W Y) H' k).getD q dZ := by
  intro k
  induction k with
  | zero => intro _; exact ⟨hl, hl', fun q h => absurd h (by omega)⟩
  | succ k ih =>
    intro hk
    obtain ⟨h1, h2, h3⟩ := ih (by omega)
    have CU := F.up.cf
    simp only [iter, Q3]
    refine ⟨by simpa using h1, by simpa using h2, fun q hq => ?_⟩
    by_cases e : k = q
    · subst e
      rw [getD_set_eq _ (by omega), getD_set_eq _ (by omega)]
      congr 1
      unfold accU
      refine iter_congr _ _ _ _ fun j hj v => ?_
      have hi := CU.idx k (by omega) j hj
      have hb := CU.hi k (by omega)
      have hcn : colN d.ue k = bnd d.ue (k + 1) - bnd d.ue k := rfl
      have ht := F.tri k (by omega) (bnd d.ue k + j) (by omega) (by omega) (by omega)
      have hg : d.ui.getD (bnd d.ue k + j) 0 = d.ui[bnd d.ue k + j]'(by omega) := by simp [List.getD_eq_getElem?_getD, show bnd d.ue k + j < d.ui.length by omega]
      rw [← hg] at ht
      rw [h3 _ (by omega)]
    · rw [getD_set_ne _ e, getD_set_ne _ e]; exact h3 q (by omega)
theorem btran_out {d : BD} (F : BFit d) (W Y Y' H H' : List Datum) (h1 : Y.length = d.sl.length) (h2 : Y'.length = d.sl.length) (h3 : H.length = d.row.length) (h4 : H'.length = d.row.length) : btranS d W Y H = btranS d W Y' H' := by
  have e1 := bY_out d W Y Y' h1 h2
  have e2 : bH d W Y H = bH d W Y' H' := by
    unfold bH
    rw [e1]
    obtain ⟨a, b, c⟩ := q3_same F (bW d W) (bY d W Y') H H' h3 h4 d.row.length (Nat.le_refl _)
    exact ext_getD a b c
  unfold btranS
  rw [e1, e2]

/-! ### btran is odd -/
theorem iter_dneg (u u' : Nat → Datum → Datum) (v : Datum) (h : ∀ j y, u' j (dneg y) = dneg (u j y)) : ∀ k, iter u' (dneg v) k = dneg (iter u v k)
  | 0 => rfl
  | k + 1 => by rw [iter, iter_dneg u u' v h k, h, iter]
theorem accU_neg (ix : List Int) (vs : List Nat) (es : List Int) (s : Nat) (X : List Datum) (v : Datum) (k : Nat) : accU ix vs es s (nL X) (dneg v) k = dneg (accU ix vs es s X v k) := by
  unfold accU
  refine iter_dneg _ _ v (fun j y => ?_) k
  rw [nL_getD, dmul_neg, dsub_neg]
theorem setV_neg (d : BD) (s : Nat) (Y : List Datum) (v : Datum) (k : Nat) : setV d s (nL Y) (dneg v) k = dneg (setV d s Y v k) := by
  unfold setV
  refine iter_dneg _ _ v (fun j y => ?_) k
  by_cases h : 0 ≤ d.sl.getD (d.mem.getD (bnd d.se s + j) 0).toNat 0
  · simp only [h, if_true]; rw [nL_getD, dsub_neg]
  · simp only [h, if_false]
theorem Q1_nL (d : BD) (k : Nat) (W : List Datum) : Q1 d k (nL W) = nL (Q1 d k W) := by
  unfold Q1; rw [nL_getD, accU_neg, dquo_neg, nL_set]
theorem yW_neg (d : BD) (W : List Datum) (e : Nat) : yW d (nL W) e = dneg (yW d W e) := by
  unfold yW
  split
  · rw [nL_getD]
  · rw [dneg_zero]
theorem Q2_nL (d : BD) (W : List Datum) (e : Nat) (Y : List Datum) : Q2 d (nL W) e (nL Y) = nL (Q2 d W e Y) := by
  unfold Q2; rw [yW_neg, nL_set]
theorem Q3_nL (d : BD) (W Y : List Datum) (s : Nat) (H : List Datum) : Q3 d (nL W) (nL Y) s (nL H) = nL (Q3 d W Y s H) := by
  unfold Q3; rw [nL_getD, setV_neg, accU_neg, dquo_neg, nL_set]
theorem Q4_nL (d : BD) (H : List Datum) (s : Nat) (Y : List Datum) : Q4 d (nL H) s (nL Y) = nL (Q4 d H s Y) := by
  unfold Q4; rw [nL_getD, accU_neg, nL_set]
theorem btran_odd' (d : BD) (W Y H : List Datum) : btranS d (nL W) (nL Y) (nL H) = nL (btranS d W Y H) := by
  have e1 : bW d (nL W) = nL (bW d W) := by unfold bW; exact iter_nL _ _ W (fun k => Q1_nL d _) _
  have e2 : bY d (nL W) (nL Y) = nL (bY d W Y) := by unfold bY; rw [e1]; exact iter_nL _ _ Y (Q2_nL d _) _
  have e3 : bH d (nL W) (nL Y) (nL H) = nL (bH d W Y H) := by unfold bH; rw [e1, e2]; exact iter_nL _ _ H (Q3_nL d _ _) _
  unfold btranS
  rw [e2, e3]
  exact iter_nL _ _ _ (fun k => Q4_nL d _ _) _
theorem btran_odd {d : BD} (F : BFit d) (W Y H H' : List Datum) (hY : Y.length = d.sl.length) (hH : H.length = d.row.length) (hH' : H'.length = d.row.length) : btranS d (nL W) Y H' = nL (btranS d W Y H) := by
  rw [btran_out F (nL W) Y (nL Y) H' (nL H) hY (by simpa [nL] using hY) hH' (by simpa [nL] using hH)]
  exact btran_odd' d W Y H
end Go.Proofs.Qxb6601548a
