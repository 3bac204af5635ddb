import Derived.Test.Qxb6601548aFlt
import Derived.Test.Qxb6601548aBProg
namespace Go.Proofs.Qxb6601548a
open Ieee (Datum)

/-! ### Floats up to the sign of zeros and which NaN -/
def cD : Datum → Datum
  | .nan _ _ => .nan false 1
  | .number s m p => if m = 0 then .number false 0 p else .number s m p
  | .infinity s => .infinity s
def cls (x : Nat) : Datum := cD (Ieee.double.read x)
def wr (d : Option Datum) : Datum := match d with
  | none => .nan false 1
  | some d => cD (Ieee.double.read (Ieee.double.write d))
def dsub (x y : Datum) : Datum := wr (x.sum y.opposite)
def dmul (x y : Datum) : Datum := wr (x.product y)
def dquo (x y : Datum) : Datum := wr (x.quotient 54 y)
def dneg (x : Datum) : Datum := cD x.opposite
def dZ : Datum := .number false 0 (-1074)

theorem cD_zero (s : Bool) (p : Int) : cD (.number s 0 p) = .number false 0 p := by simp [cD]
theorem cls_zero : cls 0 = dZ := by decide
theorem dneg_zero : dneg dZ = dZ := by decide

theorem word_lt63 {s : Bool} {r : Nat} : Ieee.double.word s r = if s then 9223372036854775808 + r else r := rfl
theorem read_word (s : Bool) (r : Nat) (h : r < 9223372036854775808) : Ieee.double.read (Ieee.double.word (!s) r) = (Ieee.double.read (Ieee.double.word s r)).opposite := by
  have key : ∀ t : Bool, Ieee.double.read (Ieee.double.word t r) = if r < 4503599627370496 then .number t r (-1074) else if r < INF then .number t (4503599627370496 + r % 4503599627370496) (-1074 + (r / 4503599627370496 - 1 : Nat)) else if r = INF then .infinity t else .nan t (r - INF) := by
    intro t
    unfold Ieee.Format.read
    simp only [cP, cB, cI, cS]
    cases t
    · have e0 : Ieee.double.word false r = r := rfl
      have e1 : r / 9223372036854775808 = 0 := by omega
      have e2 : r % 9223372036854775808 = r := by omega
      simp only [e0, e1, e2]
      rfl
    · have e0 : Ieee.double.word true r = 9223372036854775808 + r := rfl
      have e1 : (9223372036854775808 + r) / 9223372036854775808 = 1 := by omega
      have e2 : (9223372036854775808 + r) % 9223372036854775808 = r := by omega
      simp only [e0, e1, e2]
      rfl
  rw [key, key]
  by_cases h1 : r < 4503599627370496
  · simp only [if_pos h1]; rfl
  · by_cases h2 : r < INF
    · simp only [if_neg h1, if_pos h2]; rfl
    · by_cases h3 : r = INF
      · simp only [if_neg h1, if_neg h2, if_pos h3]; rfl
      · simp only [if_neg h1, if_neg h2, if_neg h3]; rfl

theorem cut_neg (s : Bool) (n d : Nat) : Ieee.Toward.even.cut s n d = Ieee.Toward.even.cut false n d := rfl

theorem write_word (d : Datum) : ∃ r, r < 9223372036854775808 ∧ ∀ e : Datum, (e = d ∨ e = d.opposite) → Ieee.double.write e = Ieee.double.word e.neg r := by
  cases d with
  | infinity t =>
    refine ⟨INF, by unfold INF; omega, fun e he => ?_⟩
    rcases he with rfl | rfl <;> rfl
  | nan t f =>
    refine ⟨INF + f % 4503599627370496, by unfold INF; omega, fun e he => ?_⟩
    rcases he with rfl | rfl <;> rfl
  | number t m p =>
    by_cases hm : m = 0
    · refine ⟨0, by omega, fun e he => ?_⟩
      subst hm
      rcases he with rfl | rfl <;> rfl
    · refine ⟨min (((max (p + m.log2 - 52) (-1074)) + 1074).toNat * 4503599627370496 + Ieee.Toward.even.cut false (m <<< (p - max (p + m.log2 - 52) (-1074)).toNat) (max (p + m.log2 - 52) (-1074) - p).toNat) INF, by unfold INF; omega, fun e he => ?_⟩
      have h52 : ((Ieee.double.fractionBits : Nat) : Int) = 52 := rfl
      rcases he with rfl | rfl
      · simp only [Ieee.Format.write, Ieee.Format.nearest, if_neg hm, cP, cB, cI, h52, cut_neg, Int.sub_neg, Datum.neg]
      · simp only [Ieee.Format.write, Ieee.Format.nearest, if_neg hm, cP, cB, cI, h52, cut_neg, Int.sub_neg, Datum.neg, Datum.opposite]

theorem opp_opp (d : Datum) : d.opposite.opposite = d := by cases d <;> simp [Datum.opposite]
theorem opp_neg (d : Datum) : d.opposite.neg = !d.neg := by cases d <;> rfl
theorem read_write_opp (d : Datum) : Ieee.double.read (Ieee.double.write d.opposite) = (Ieee.double.read (Ieee.double.write d)).opposite := by
  obtain ⟨r, hr, h⟩ := write_word d
  rw [h _ (.inl rfl), h _ (.inr rfl), opp_neg, read_word _ _ hr]
theorem cD_opp (d : Datum) : cD (cD d).opposite = cD d.opposite := by
  cases d with
  | infinity s => rfl
  | nan s f => rfl
  | number s m p =>
    by_cases h : m = 0
    · subst h; simp [cD, Datum.opposite]
    · simp [cD, Datum.opposite, h]
theorem wr_opp (d : Option Datum) : wr (d.map Datum.opposite) = dneg (wr d) := by
  cases d with
  | none => rfl
  | some d => simp only [wr, Option.map_some, dneg, read_write_opp, cD_opp]
/-- a zero's sign does not matter -/
theorem wr_zero (s t : Bool) (p q : Int) : wr (some (.number s 0 p)) = wr (some (.number t 0 q)) := by
  have h : ∀ (s : Bool) (p : Int), cD (Ieee.double.read (Ieee.double.write (.number s 0 p))) = dZ := by
    intro s p
    have e : Ieee.double.write (.number s 0 p) = Ieee.double.word s 0 := by simp [Ieee.Format.write, Ieee.Format.nearest]
    rw [e]
    cases s <;> decide
  simp only [wr, h]

theorem signed_zero (s : Bool) (u : Nat) : Ieee.signed s 0 u = 0 := by simp [Ieee.signed]
/-- sums of what differs in the sign of zeros alone -/
theorem sum_c (x y : Datum) : wr ((cD x).sum y) = wr (x.sum y) := by
  cases x with
  | infinity s => rfl
  | nan s f => simp [cD, Datum.sum]
  | number s m p =>
    by_cases h : m = 0
    · subst h
      rw [cD_zero]
      cases y with
      | infinity t => rfl
      | nan t f => rfl
      | number t n q =>
        simp only [Datum.sum, signed_zero, Int.zero_add]
        by_cases hz : Ieee.signed t n (q - min p q).toNat = 0
        · simp only [hz, if_true]
          exact wr_zero _ _ _ _
        · simp only [hz, if_false]
    · simp [cD, h]
theorem sum_comm (x y : Datum) : wr (x.sum y) = wr (y.sum x) := by
  cases x <;> cases y <;> try rfl
  · rename_i s m p t n q
    simp only [Datum.sum]
    rw [Int.min_comm q p, Int.add_comm (Ieee.signed t n _), Bool.and_comm t s]
  · rename_i s t
    simp only [Datum.sum]
    by_cases h : s = t
    · subst h; rfl
    · rw [if_neg h, if_neg (fun e => h e.symm)]
theorem sub_c (x y : Datum) : dsub (cD x) (cD y) = dsub x y := by
  unfold dsub
  rw [sum_c, sum_comm, sum_comm x]
  have : wr ((cD (cD y).opposite).sum x) = wr ((cD y.opposite).sum x) := by rw [cD_opp]
  rwa [sum_c, sum_c] at this
theorem mul_c (a y : Datum) : dmul a (cD y) = dmul a y := by
  unfold dmul
  cases y with
  | infinity s => rfl
  | nan s f => cases a <;> rfl
  | number t n q =>
    by_cases h : n = 0
    · subst h
      rw [cD_zero]
      cases a with
      | infinity s => rfl
      | nan s f => rfl
      | number s m p =>
        simp only [Datum.product, Nat.mul_zero]
        exact wr_zero _ _ _ _
    · simp [cD, h]
theorem quo_c (x b : Datum) : dquo (cD x) b = dquo x b := by
  unfold dquo
  cases x with
  | infinity s => rfl
  | nan s f => rfl
  | number t n q =>
    by_cases h : n = 0
    · subst h
      rw [cD_zero]
      cases b with
      | infinity s => simp only [Datum.quotient]; exact wr_zero _ _ _ _
      | nan s f => rfl
      | number s m p =>
        simp only [Datum.quotient]
        by_cases hm : m = 0
        · simp [hm]
        · simp only [hm, if_false, Nat.zero_shiftLeft, Nat.zero_div, Nat.zero_mod, bne_self_eq_false, Bool.toNat_false, Nat.mul_zero, Nat.add_zero]
          exact wr_zero _ _ _ _
    · simp [cD, h]

/-! ### The machine's answers -/
theorem nan_c {r : Nat} (h : NaNb r) : cls r = .nan false 1 := by
  have := h.1
  unfold cls
  cases hr : Ieee.double.read r with
  | nan s f => rfl
  | number s m p => rw [hr] at this; cases this
  | infinity s => rw [hr] at this; cases this
theorem map_c {o : Option Datum} {r : Nat} (h : o.map Ieee.double.write = some r ∨ (o.map Ieee.double.write = none ∧ NaNb r)) : cls r = wr o := by
  cases o with
  | none =>
    rcases h with h | h
    · cases h
    · exact nan_c h.2
  | some d =>
    rcases h with h | h
    · cases h; rfl
    · cases h.1
theorem sub_res {a b r : Nat} (h : FRes .sub a b r) : cls r = dsub (cls a) (cls b) := by
  unfold cls
  rw [sub_c]
  exact map_c h
theorem mul_res {a b r : Nat} (h : FRes .mul a b r) : cls r = dmul (Ieee.double.read a) (cls b) := by
  unfold cls
  rw [mul_c]
  exact map_c h
theorem quo_res {a b r : Nat} (h : FRes .quo a b r) : cls r = dquo (cls a) (Ieee.double.read b) := by
  unfold cls
  rw [quo_c]
  exact map_c h

/-! ### Oddness -/
theorem sum_opp (x y : Datum) : wr (x.opposite.sum y.opposite) = dneg (wr (x.sum y)) := by
  rw [← wr_opp]
  cases x <;> cases y <;> try rfl
  · rename_i s m p t n q
    simp only [Datum.sum, Datum.opposite, Option.map_some]
    have hs : ∀ (b : Bool) (k u : Nat), Ieee.signed (!b) k u = -Ieee.signed b k u := by
      intro b k u; cases b <;> simp [Ieee.signed]
    rw [hs, hs, ← Int.neg_add]
    by_cases hz : Ieee.signed s m (p - min p q).toNat + Ieee.signed t n (q - min p q).toNat = 0
    · simp only [hz, Int.neg_zero, if_true, Int.natAbs_zero]
      exact wr_zero _ _ _ _
    · have hz' : ¬ -(Ieee.signed s m (p - min p q).toNat + Ieee.signed t n (q - min p q).toNat) = 0 := by omega
      simp only [hz, hz', if_false, Int.natAbs_neg]
      congr 3
      generalize Ieee.signed s m (p - min p q).toNat + Ieee.signed t n (q - min p q).toNat = k at *
      by_cases h : k < 0
      · simp [h]; omega
      · simp [h]; omega
  · rename_i s t
    simp only [Datum.sum, Datum.opposite]
    by_cases h : s = t
    · subst h; simp [Datum.opposite]
    · have : ¬ (!s) = (!t) := by simpa using h
      simp [h, this]
theorem dsub_neg (x y : Datum) : dsub (dneg x) (dneg y) = dneg (dsub x y) := by
  unfold dneg
  rw [sub_c]
  unfold dsub
  exact sum_opp x y.opposite
theorem dmul_neg (a y : Datum) : dmul a (dneg y) = dneg (dmul a y) := by
  unfold dneg
  rw [mul_c]
  unfold dmul
  have : a.product y.opposite = (a.product y).map Datum.opposite := by
    cases a <;> cases y <;> simp only [Datum.product, Datum.opposite, Option.map_none, Option.map_some, Bool.xor_not]
    · split <;> simp [Datum.opposite]
    · split <;> simp [Datum.opposite]
  rw [this]
  exact wr_opp _
theorem dquo_neg (x b : Datum) : dquo (dneg x) b = dneg (dquo x b) := by
  unfold dneg
  rw [quo_c]
  unfold dquo
  have : x.opposite.quotient 54 b = (x.quotient 54 b).map Datum.opposite := by
    cases x <;> cases b <;> simp only [Datum.quotient, Datum.opposite, Option.map_none, Option.map_some, Bool.not_xor]
    split
    · split <;> simp [Datum.opposite]
    · simp [Datum.opposite]
  rw [this]
  exact wr_opp _
theorem dneg_isZero (x : Datum) : (dneg x).isZero = x.isZero := by
  cases x with
  | infinity s => rfl
  | nan s f => rfl
  | number s m p =>
    by_cases h : m = 0
    · subst h; simp [dneg, cD, Datum.opposite, Datum.isZero]
    · simp [dneg, cD, Datum.opposite, Datum.isZero, h]

theorem read_negB (x : Nat) : Ieee.double.read (negB x) = (Ieee.double.read x).opposite := by
  have e1 : negB x % 9223372036854775808 = x % 9223372036854775808 := by
    have := Nat.xor_mod_two_pow (a := x) (b := 2 ^ 63) (n := 63)
    have h2 : (2 : Nat) ^ 63 = 9223372036854775808 := rfl
    unfold negB
    rw [h2] at this ⊢
    rw [this]; simp
  have e2 : (negB x / 9223372036854775808 % 2 == 1) = !(x / 9223372036854775808 % 2 == 1) := by
    have h1 := Nat.xor_div_two_pow (a := x) (b := 2 ^ 63) (n := 63)
    have h2 : (2 : Nat) ^ 63 = 9223372036854775808 := rfl
    unfold negB
    rw [h2] at h1 ⊢
    rw [h1, show 9223372036854775808 / 9223372036854775808 = 1 from rfl]
    have h3 := Nat.xor_mod_two_pow (a := x / 9223372036854775808) (b := 1) (n := 1)
    simp only [Nat.pow_one] at h3
    rw [h3]
    rcases Nat.mod_two_eq_zero_or_one (x / 9223372036854775808) with h | h <;> rw [h] <;> rfl
  unfold Ieee.Format.read
  simp only [cP, cB, cI, cS, e1, e2]
  generalize (x / 9223372036854775808 % 2 == 1) = s
  by_cases h1 : x % 9223372036854775808 < 4503599627370496
  · simp only [h1, if_true]; rfl
  · by_cases h2 : x % 9223372036854775808 < INF
    · simp only [h1, h2, if_true, if_false]; rfl
    · by_cases h3 : x % 9223372036854775808 = INF
      · have h4 : ¬ INF < 4503599627370496 := by unfold INF; omega
        simp only [h3, h4, Nat.lt_irrefl, if_true, if_false]; rfl
      · simp only [h1, h2, h3, if_false]; rfl
theorem cls_negB (x : Nat) : cls (negB x) = dneg (cls x) := by
  unfold cls dneg
  rw [read_negB, cD_opp]

/-! ### Tests -/
theorem feq_zero (v : Nat) : feq v 0 = (cls v).isZero := by
  have h0 : Ieee.double.read 0 = .number false 0 (-1074) := by decide
  unfold feq Ieee.Format.order cls
  rw [h0]
  cases Ieee.double.read v with
  | infinity s => cases s <;> rfl
  | nan s f => rfl
  | number s m p =>
    simp only [Datum.order, signed_zero]
    by_cases h : m = 0
    · subst h; simp [signed_zero, cD, Datum.isZero]
    · have hne : Ieee.signed s m (p - min p (-1074)).toNat ≠ 0 := by
        have hp : 0 < m <<< (p - min p (-1074)).toNat := by
          rw [Nat.shiftLeft_eq]; exact Nat.mul_pos (by omega) (Nat.two_pow_pos _)
        unfold Ieee.signed
        split <;> omega
      have hc : compare (Ieee.signed s m (p - min p (-1074)).toNat) 0 ≠ .eq := fun e => hne (Int.compare_eq_eq.1 e)
      have : (cD (.number s m p)).isZero = false := by simp [cD, h, Datum.isZero]
      rw [this]
      simp [hc]
theorem same_cls {a b : Nat} (h : cls a = cls b) : sameCl a b = true := by
  have self : ∀ x, feq x x = !(Ieee.double.read x).isNaN := by
    intro x
    unfold feq Ieee.Format.order
    cases Ieee.double.read x with
    | infinity s => cases s <;> rfl
    | nan s f => rfl
    | number s m p => simp [Datum.order, Datum.isNaN]
  unfold sameCl
  rw [self, self]
  unfold cls at h
  unfold feq Ieee.Format.order
  generalize Ieee.double.read a = x at *
  generalize Ieee.double.read b = y at *
  cases x with
  | infinity s =>
    cases y with
    | infinity t => simp only [cD, Datum.infinity.injEq] at h; subst h; cases s <;> rfl
    | nan t f => simp [cD] at h
    | number t m p => simp only [cD] at h; split at h <;> cases h
  | nan s f =>
    cases y with
    | infinity t => simp [cD] at h
    | nan t f => rfl
    | number t m p => simp only [cD] at h; split at h <;> cases h
  | number s m p =>
    cases y with
    | infinity t => simp only [cD] at h; split at h <;> cases h
    | nan t f => simp only [cD] at h; split at h <;> cases h
    | number t n q =>
      have hz : Datum.order (.number s m p) (.number t n q) = some .eq := by
        simp only [cD] at h
        by_cases hm : m = 0 <;> by_cases hn : n = 0
        · subst hm hn; simp [Datum.order, signed_zero]
        · simp [hm, hn] at h
          exact absurd h.2.1.symm hn
        · simp [hm, hn] at h
        · simp only [hm, hn, if_false, Datum.number.injEq] at h
          obtain ⟨rfl, rfl, rfl⟩ := h
          simp [Datum.order]
      rw [hz]; rfl
end Go.Proofs.Qxb6601548a
