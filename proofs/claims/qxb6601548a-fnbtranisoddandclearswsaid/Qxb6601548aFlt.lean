import Derived.Test.Qxb6601548aNum
namespace Go.Proofs.Qxb6601548a
def addF (a b : Nat) : Nat := (Ieee.double.add a b).getD 0
def mulF (a b : Nat) : Nat := (Ieee.double.mul a b).getD 0
def divF (a b : Nat) : Nat := (Ieee.double.div a b).getD 0
def posF (v : Nat) : Nat := if v < 9223372036854775808 then v else 0
def NN (x : Nat) : Prop := x ≤ 9218868437227405312
def Fin0 (x : Nat) : Prop := x < 9218868437227405312
/-- finite, of whatever sign -/
def FinB (v : Nat) : Prop := v % 9223372036854775808 < 9218868437227405312 ∧ v < 18446744073709551616
def gE : Nat := 1074
theorem gE_eq : gE = 1074 := rfl
def G : Nat := 2 ^ gE
theorem G_pos : 0 < G := Nat.two_pow_pos _
theorem val_one : val 4607182418800017408 = G := by
  have h1 : mg 4607182418800017408 = 2 ^ 52 := rfl
  obtain ⟨e, h2, h3⟩ : ∃ e, ex 4607182418800017408 = e ∧ gE = 52 + e := ⟨1022, rfl, rfl⟩
  unfold val G
  rw [h1, h2, h3, ← Nat.pow_add]

theorem near_zero (p : Int) : Ieee.double.nearest false 0 p = 0 := by
  unfold Ieee.Format.nearest; simp [Ieee.Format.word]

/-! ### Sums -/
theorem add_fin {a b : Nat} (ha : a < INF) (hb : b < INF) : ∃ r, Ieee.double.add a b = some (min r INF) ∧
    9007199254740992 * val r ≤ 9007199254740993 * (val a + val b) ∧ 9007199254740991 * (val a + val b) ≤ 9007199254740992 * val r ∧
    (∀ t, val a + val b ≤ val t → r ≤ t) ∧ (∀ t, val t ≤ val a + val b → t ≤ r) := by
  unfold Ieee.Format.add
  rw [read_fin ha, read_fin hb]
  simp only [Ieee.Datum.sum, Option.map_some, Ieee.Format.write, Ieee.signed, Bool.false_eq_true, if_false]
  have hbb : -1074 ≤ min (-1074 + (ex a : Int)) (-1074 + (ex b : Int)) := by omega
  have a1 := align a (min (-1074 + (ex a : Int)) (-1074 + (ex b : Int))) (by omega) hbb
  have a2 := align b (min (-1074 + (ex a : Int)) (-1074 + (ex b : Int))) (by omega) hbb
  generalize min (-1074 + (ex a : Int)) (-1074 + (ex b : Int)) = p at *
  generalize mg a <<< (-1074 + (ex a : Int) - p).toNat = m at *
  generalize mg b <<< (-1074 + (ex b : Int) - p).toNat = n at *
  have e1 : ((m : Int) + (n : Int)).natAbs = m + n := by omega
  have e2 : (if (m : Int) + (n : Int) = 0 then false && false else decide ((m : Int) + (n : Int) < 0)) = false := by
    split
    · rfl
    · simp; omega
  rw [e1, e2]
  have hp := Nat.two_pow_pos (p + 1074).toNat
  have hV : val a + val b = (m + n) * 2 ^ (p + 1074).toNat := by rw [Nat.add_mul, a1, a2]
  by_cases h0 : m + n = 0
  · rw [h0, near_zero]
    rw [h0, Nat.zero_mul] at hV
    refine ⟨0, rfl, ?_⟩
    rw [hV, val_zero]
    exact ⟨by omega, by omega, fun t _ => by omega, fun t ht => le_of_val (by rw [val_zero]; exact ht)⟩
  · obtain ⟨r, L, h1, h2, h3, h4, h5, h6, h7⟩ := near_spec (m + n) p 0 (by omega) (by omega) (val a + val b) (by rw [hV]; congr 2; simp)
    simp only [Nat.pow_zero, Nat.mul_one] at h2 h3 h4 h5 h6 h7
    refine ⟨r, congrArg some h1, ?_, ?_, h6, h7⟩
    · rcases h4 with hl | hl
      · rw [h5 (by omega) hl]; omega
      · omega
    · rcases h4 with hl | hl
      · rw [h5 (by omega) hl]; omega
      · omega
theorem add_some {a b : Nat} (ha : a ≤ INF) (hb : b ≤ INF) : Ieee.double.add a b = some (addF a b) ∧ addF a b ≤ INF := by
  have key : ∃ r, Ieee.double.add a b = some r ∧ r ≤ INF := by
    rcases Nat.lt_or_ge a INF with h1 | h1
    · rcases Nat.lt_or_ge b INF with h2 | h2
      · obtain ⟨r, h, _⟩ := add_fin h1 h2
        exact ⟨_, h, Nat.min_le_right _ _⟩
      · have : b = INF := by omega
        subst this
        refine ⟨INF, ?_, Nat.le_refl _⟩
        unfold Ieee.Format.add
        rw [read_fin h1, read_inf]; rfl
    · have : a = INF := by omega
      subst this
      refine ⟨INF, ?_, Nat.le_refl _⟩
      unfold Ieee.Format.add
      rcases Nat.lt_or_ge b INF with h2 | h2
      · rw [read_fin h2, read_inf]; rfl
      · have : b = INF := by omega
        subst this
        rw [read_inf]; rfl
  obtain ⟨r, h, hr⟩ := key
  unfold addF
  rw [h]; exact ⟨rfl, hr⟩
theorem addF_spec {a b : Nat} (ha : a < INF) (hb : b < INF) : ∃ r, addF a b = min r INF ∧
    9007199254740992 * val r ≤ 9007199254740993 * (val a + val b) ∧ 9007199254740991 * (val a + val b) ≤ 9007199254740992 * val r ∧
    (∀ t, val a + val b ≤ val t → r ≤ t) ∧ (∀ t, val t ≤ val a + val b → t ≤ r) := by
  obtain ⟨r, h, hr⟩ := add_fin ha hb
  exact ⟨r, by unfold addF; rw [h]; rfl, hr⟩
theorem addF_infl {b : Nat} (hb : b ≤ INF) : addF INF b = INF := by
  unfold addF Ieee.Format.add
  rcases Nat.lt_or_ge b INF with h2 | h2
  · rw [read_fin h2, read_inf]; rfl
  · have : b = INF := by omega
    subst this
    rw [read_inf]; rfl
theorem add_nn {a b r : Nat} (ha : NN a) (hb : NN b) (h : FRes .add a b r) : r = addF a b := by
  have hh := (add_some (a := a) (b := b) ha hb).1
  rcases h with h | h
  · exact (Option.some.inj (hh.symm.trans h)).symm
  · exact absurd (hh.symm.trans h.1) (by simp)
theorem addF_nn {a b : Nat} (ha : NN a) (hb : NN b) : NN (addF a b) := (add_some (a := a) (b := b) ha hb).2

/-! ### Products -/
theorem mul_fin' {a b : Nat} (ha : a < INF) (hb : b < INF) : ∃ r, Ieee.double.mul a b = some (min r INF) ∧
    9007199254740992 * (val r * G) ≤ 9007199254740993 * (val a * val b) + 4503599627370496 * G ∧
    (∀ t, val a * val b ≤ val t * G → r ≤ t) := by
  unfold Ieee.Format.mul
  rw [read_fin ha, read_fin hb]
  simp only [Ieee.Datum.product, Option.map_some, Ieee.Format.write, Bool.false_xor]
  by_cases h0 : mg a * mg b = 0
  · rw [h0, near_zero]
    have : val a * val b = 0 := by
      unfold val
      rcases Nat.mul_eq_zero.1 h0 with h | h <;> simp [h]
    rw [this]
    exact ⟨0, rfl, by rw [val_zero]; omega, fun t _ => by omega⟩
  · have hge := gE_eq
    have hV : val a * val b = mg a * mg b * 2 ^ (-1074 + (ex a : Int) + (-1074 + (ex b : Int)) + 1074 + (gE : Nat)).toNat := by
      have e : (-1074 + (ex a : Int) + (-1074 + (ex b : Int)) + 1074 + (gE : Nat)).toNat = ex a + ex b := by omega
      rw [e, Nat.pow_add]
      unfold val
      ac_rfl
    obtain ⟨r, L, h1, h2, h3, h4, h5, h6, h7⟩ := near_spec (mg a * mg b) (-1074 + (ex a : Int) + (-1074 + (ex b : Int))) gE (by omega) (by omega) (val a * val b) hV
    refine ⟨r, congrArg some h1, ?_, h6⟩
    have hG : 2 ^ gE = G := rfl
    rw [hG] at h2 h4
    rcases h4 with hl | hl
    · rw [hl, Nat.pow_zero, Nat.one_mul] at h2
      generalize val r * G = x at *
      generalize val a * val b = y at *
      generalize G = g at *
      omega
    · generalize val r * G = x at *
      generalize val a * val b = y at *
      generalize 2 ^ L * G = z at *
      generalize G = g at *
      omega
theorem mulF_spec {a b : Nat} (ha : a < INF) (hb : b < INF) : ∃ r, mulF a b = min r INF ∧
    9007199254740992 * (val r * G) ≤ 9007199254740993 * (val a * val b) + 4503599627370496 * G ∧
    (∀ t, val a * val b ≤ val t * G → r ≤ t) := by
  obtain ⟨r, h, hr⟩ := mul_fin' ha hb
  exact ⟨r, by unfold mulF; rw [h]; rfl, hr⟩
theorem mul_fin {a b r : Nat} (ha : Fin0 a) (hb : Fin0 b) (h : FRes .mul a b r) : r = mulF a b := by
  obtain ⟨r', hh, _⟩ := mul_fin' (a := a) (b := b) ha hb
  unfold mulF
  rw [hh]
  rcases h with h | h
  · exact (Option.some.inj (hh.symm.trans h)).symm
  · exact absurd (hh.symm.trans h.1) (by simp)
theorem mulF_nn {a b : Nat} (ha : Fin0 a) (hb : Fin0 b) : NN (mulF a b) := by
  obtain ⟨r, h, _⟩ := mulF_spec (a := a) (b := b) ha hb
  rw [h]; exact Nat.min_le_right _ _
/-- a product with a factor of at most one is no greater -/
theorem mulF_le {a c : Nat} (ha : Fin0 a) (hc : c ≤ 4607182418800017408) : mulF a c ≤ a := by
  obtain ⟨r, h, _, h2⟩ := mulF_spec (a := a) (b := c) ha (by unfold INF; omega)
  rw [h]
  have := h2 a (Nat.mul_le_mul_left _ (by rw [← val_one]; exact val_le hc))
  omega
theorem mulF_zl {b : Nat} (hb : b < INF) : mulF 0 b = 0 := by
  obtain ⟨r, h, _, h2⟩ := mulF_spec (a := 0) (b := b) (by unfold INF; omega) hb
  have := h2 0 (by rw [val_zero]; omega)
  rw [h]; omega
theorem mulF_zr {a : Nat} (ha : a < INF) : mulF a 0 = 0 := by
  obtain ⟨r, h, _, h2⟩ := mulF_spec (a := a) (b := 0) ha (by unfold INF; omega)
  have := h2 0 (by rw [val_zero]; omega)
  rw [h]; omega

/-! ### Quotients -/
theorem ex_lt {x : Nat} (h : x < INF) : ex x ≤ 2045 := by unfold ex INF at *; omega
theorem div_fin {a b : Nat} (ha : a < INF) (hb : b < INF) (h0 : 0 < b) : ∃ r, Ieee.double.div a b = some (min r INF) ∧
    18014398509481984 * (9007199254740992 * (val r * val b)) ≤ 9007199254740993 * (18014398509481985 * (val a * G)) + 18014398509481984 * (4503599627370496 * val b) := by
  unfold Ieee.Format.div
  rw [read_fin ha, read_fin hb]
  have hn := pos_mg h0
  have hfr : Ieee.double.fractionBits + 2 = 54 := rfl
  simp only [Ieee.Datum.quotient, hfr]
  rw [if_neg (by omega)]
  simp only [Option.map_some, Ieee.Format.write, Bool.false_xor]
  by_cases hz : a = 0
  · subst hz
    have e : mg 0 = 0 := rfl
    rw [e, Nat.zero_shiftLeft]
    simp only [Nat.zero_div, Nat.zero_mod, Nat.mul_zero, bne_self_eq_false, Bool.toNat_false, Nat.add_zero, near_zero]
    exact ⟨0, rfl, by rw [val_zero]; omega⟩
  · have hm := pos_mg (show 0 < a by omega)
    have hla : 2 ^ (mg a).log2 ≤ mg a := Nat.log2_self_le (by omega)
    have hlb : mg b < 2 ^ ((mg b).log2 + 1) := Nat.lt_log2_self
    have hlb2 : (mg b).log2 ≤ 52 := by
      rcases Nat.lt_or_ge 52 (mg b).log2 with h | h
      · have h1 : 2 ^ (mg b).log2 ≤ mg b := Nat.log2_self_le (by omega)
        have h2 : 2 ^ 53 ≤ 2 ^ (mg b).log2 := Nat.pow_le_pow_right (by omega) (by omega)
        have h3 : (2 : Nat) ^ 53 = 9007199254740992 := rfl
        have := mg_lt b
        omega
      · exact h
    obtain ⟨more, hmore⟩ : ∃ more, more = 54 + (mg b).log2 - (mg a).log2 := ⟨_, rfl⟩
    rw [← hmore]
    have hD : mg b * 18014398509481984 ≤ 2 * (mg a * 2 ^ more) := by
      have h1 : mg b * 2 ^ 54 ≤ 2 ^ ((mg b).log2 + 1) * 2 ^ 54 := Nat.mul_le_mul_right _ (Nat.le_of_lt hlb)
      have h2 : 2 ^ (mg a).log2 * 2 ^ more ≤ mg a * 2 ^ more := Nat.mul_le_mul_right _ hla
      have h3 : 2 ^ ((mg b).log2 + 1) * 2 ^ 54 ≤ 2 * (2 ^ (mg a).log2 * 2 ^ more) := by
        rw [← Nat.pow_add, ← Nat.pow_add, Nat.mul_comm 2, ← Nat.pow_succ]
        exact Nat.pow_le_pow_right (by omega) (by omega)
      have h4 : (2 : Nat) ^ 54 = 18014398509481984 := rfl
      rw [h4] at h1 h3
      exact Nat.le_trans h1 (Nat.le_trans h3 (Nat.mul_le_mul_left _ h2))
    rw [Nat.shiftLeft_eq]
    have hdm := Nat.div_add_mod (mg a * 2 ^ more) (mg b)
    have hmag : (2 * (mg a * 2 ^ more / mg b) + (mg a * 2 ^ more % mg b != 0).toNat) * mg b ≤ 2 * (mg a * 2 ^ more) + mg b := by
      have h1 : (mg a * 2 ^ more % mg b != 0).toNat ≤ 1 := Bool.toNat_le _
      have h2 := Nat.mul_le_mul_right (mg b) h1
      rw [Nat.add_mul, Nat.mul_assoc, Nat.mul_comm (mg a * 2 ^ more / mg b)]
      generalize mg b * (mg a * 2 ^ more / mg b) = q at *
      omega
    generalize 2 * (mg a * 2 ^ more / mg b) + (mg a * 2 ^ more % mg b != 0).toNat = mag at *
    by_cases hmz : mag = 0
    · rw [hmz, near_zero]
      exact ⟨0, rfl, by rw [val_zero]; omega⟩
    have hea := ex_lt ha
    have heb := ex_lt hb
    obtain ⟨S0, hS0⟩ : ∃ S0 : Nat, S0 = 2200 := ⟨_, rfl⟩
    have hge := gE_eq
    have hS : (0 : Int) ≤ -1074 + (ex a : Int) - (-1074 + (ex b : Int)) - (more : Int) - 1 + 1074 + (S0 : Nat) := by omega
    obtain ⟨r, L, h1, h2, h3, h4, h5, h6, h7⟩ := near_spec mag (-1074 + (ex a : Int) - (-1074 + (ex b : Int)) - (more : Int) - 1) S0 (by omega) hS _ rfl
    refine ⟨r, congrArg some h1, ?_⟩
    have hVb : 18014398509481984 * (mag * 2 ^ (-1074 + (ex a : Int) - (-1074 + (ex b : Int)) - (more : Int) - 1 + 1074 + (S0 : Nat)).toNat * val b) ≤ 18014398509481985 * (val a * G) * 2 ^ S0 := by
      have e1 : mag * 2 ^ (-1074 + (ex a : Int) - (-1074 + (ex b : Int)) - (more : Int) - 1 + 1074 + (S0 : Nat)).toNat * val b = (mag * mg b) * 2 ^ ((-1074 + (ex a : Int) - (-1074 + (ex b : Int)) - (more : Int) - 1 + 1074 + (S0 : Nat)).toNat + ex b) := by
        unfold val; rw [Nat.pow_add]; ac_rfl
      have e2 : 18014398509481984 * (mag * mg b) ≤ 18014398509481985 * (mg a * 2 ^ (more + 1)) := by
        have hq : mg a * 2 ^ (more + 1) = mg a * 2 ^ more * 2 := by rw [Nat.pow_succ, Nat.mul_assoc]
        rw [hq]
        clear hq h1 h2 h3 h4 h5 h6 h7 e1 hdm
        generalize mag * mg b = x at *
        generalize mg a * 2 ^ more = y at *
        omega
      have e3 : (mg a * 2 ^ (more + 1)) * 2 ^ ((-1074 + (ex a : Int) - (-1074 + (ex b : Int)) - (more : Int) - 1 + 1074 + (S0 : Nat)).toNat + ex b) = val a * G * 2 ^ S0 := by
        unfold val G
        rw [Nat.mul_assoc, ← Nat.pow_add, Nat.mul_assoc, Nat.mul_assoc, ← Nat.pow_add, ← Nat.pow_add]
        congr 2
        omega
      rw [e1, ← Nat.mul_assoc]
      have := Nat.mul_le_mul_right (2 ^ ((-1074 + (ex a : Int) - (-1074 + (ex b : Int)) - (more : Int) - 1 + 1074 + (S0 : Nat)).toNat + ex b)) e2
      rw [Nat.mul_assoc 18014398509481985 (mg a * 2 ^ (more + 1)), e3] at this
      rw [Nat.mul_assoc 18014398509481985 (val a * G)]
      exact this
    generalize mag * 2 ^ (-1074 + (ex a : Int) - (-1074 + (ex b : Int)) - (more : Int) - 1 + 1074 + (S0 : Nat)).toNat = V at *
    have hA : 9007199254740992 * (val r * 2 ^ S0) ≤ 9007199254740993 * V + 4503599627370496 * 2 ^ S0 := by
      rcases h4 with hl | hl
      · rw [hl, Nat.pow_zero, Nat.one_mul] at h2
        generalize val r * 2 ^ S0 = x at *
        generalize 2 ^ S0 = g at *
        omega
      · generalize val r * 2 ^ S0 = x at *
        generalize 2 ^ L * 2 ^ S0 = z at *
        generalize 2 ^ S0 = g at *
        omega
    have hB := Nat.mul_le_mul_right (val b) hA
    have hpos : 0 < 2 ^ S0 := Nat.two_pow_pos _
    generalize 2 ^ S0 = g at *
    refine Nat.le_of_mul_le_mul_right ?_ hpos
    have f1 : 9007199254740992 * (val r * g) * val b = 9007199254740992 * (val r * val b * g) := by rw [Nat.mul_assoc 9007199254740992, Nat.mul_right_comm]
    have f2 : (9007199254740993 * V + 4503599627370496 * g) * val b = 9007199254740993 * (V * val b) + 4503599627370496 * (val b * g) := by rw [Nat.add_mul, Nat.mul_assoc 9007199254740993, Nat.mul_assoc 4503599627370496, Nat.mul_comm g]
    rw [f1, f2] at hB
    have f3 : 18014398509481984 * (9007199254740992 * (val r * val b)) * g = 18014398509481984 * (9007199254740992 * (val r * val b * g)) := by rw [Nat.mul_assoc 18014398509481984, Nat.mul_assoc 9007199254740992]
    have f4 : (9007199254740993 * (18014398509481985 * (val a * G)) + 18014398509481984 * (4503599627370496 * val b)) * g = 9007199254740993 * (18014398509481985 * (val a * G) * g) + 18014398509481984 * (4503599627370496 * (val b * g)) := by rw [Nat.add_mul, Nat.mul_assoc 9007199254740993, Nat.mul_assoc 18014398509481984, Nat.mul_assoc 4503599627370496]
    rw [f3, f4]
    generalize val r * val b * g = x1 at *
    generalize V * val b = x2 at *
    generalize 18014398509481985 * (val a * G) * g = x3 at *
    generalize val b * g = x4 at *
    omega
theorem div_inf {a : Nat} (ha : a < INF) : Ieee.double.div a INF = some 0 := by
  unfold Ieee.Format.div
  rw [read_fin ha, read_inf]
  simp only [Ieee.Datum.quotient, Option.map_some, Ieee.Format.write, Bool.false_xor, near_zero]
theorem div_some {a b : Nat} (ha : a < INF) (hb : b ≤ INF) (h0 : 0 < b) : Ieee.double.div a b = some (divF a b) ∧ divF a b ≤ INF := by
  have key : ∃ r, Ieee.double.div a b = some r ∧ r ≤ INF := by
    rcases Nat.lt_or_ge b INF with h2 | h2
    · obtain ⟨r, h, _⟩ := div_fin ha h2 h0
      exact ⟨_, h, Nat.min_le_right _ _⟩
    · have : b = INF := by omega
      subst this
      exact ⟨0, div_inf ha, by omega⟩
  obtain ⟨r, h, hr⟩ := key
  unfold divF
  rw [h]; exact ⟨rfl, hr⟩
theorem quo_nn {a b r : Nat} (ha : Fin0 a) (hb : NN b) (h0 : 0 < b) (h : FRes .quo a b r) : r = divF a b := by
  have hh := (div_some (a := a) (b := b) ha hb h0).1
  rcases h with h | h
  · exact (Option.some.inj (hh.symm.trans h)).symm
  · exact absurd (hh.symm.trans h.1) (by simp)
theorem divF_nn {a b : Nat} (ha : Fin0 a) (hb : NN b) (h0 : 0 < b) : NN (divF a b) := (div_some (a := a) (b := b) ha hb h0).2

/-! ### Order -/
theorem fgt_nn {a b : Nat} (ha : NN a) (hb : NN b) : fgt a b = decide (b < a) := by
  unfold fgt
  rw [order_nn (x := a) (y := b) ha hb]
  rcases Nat.lt_trichotomy a b with h | h | h
  · rw [Nat.compare_eq_lt.2 h]; simp; omega
  · rw [Nat.compare_eq_eq.2 h]; simp; omega
  · rw [Nat.compare_eq_gt.2 h]; simp; omega
theorem flt_nn {a b : Nat} (ha : NN a) (hb : NN b) : flt a b = decide (a < b) := by
  unfold flt
  rw [order_nn (x := a) (y := b) ha hb]
  rcases Nat.lt_trichotomy a b with h | h | h
  · rw [Nat.compare_eq_lt.2 h]; simp; omega
  · rw [Nat.compare_eq_eq.2 h]; simp; omega
  · rw [Nat.compare_eq_gt.2 h]; simp; omega
theorem feq_nn {a b : Nat} (ha : NN a) (hb : NN b) : feq a b = decide (a = b) := by
  unfold feq
  rw [order_nn (x := a) (y := b) ha hb]
  rcases Nat.lt_trichotomy a b with h | h | h
  · rw [Nat.compare_eq_lt.2 h]; simp; omega
  · rw [Nat.compare_eq_eq.2 h]; simp; omega
  · rw [Nat.compare_eq_gt.2 h]; simp; omega
theorem minD_nn {a b : Nat} (k : Value → Prop) (ha : NN a) (hb : NN b) : minD (.float .f64 a) (.float .f64 b) k = k (.float .f64 (min a b)) := by
  unfold minD
  simp only [order_nn (x := a) (y := b) ha hb]
  rcases Nat.lt_trichotomy a b with h | h | h
  · rw [Nat.compare_eq_lt.2 h, Nat.min_eq_left (Nat.le_of_lt h)]
  · subst h
    rw [Nat.compare_eq_eq.2 rfl, Nat.min_self]; simp
  · rw [Nat.compare_eq_gt.2 h, Nat.min_eq_right (Nat.le_of_lt h)]

theorem finB_cases {v : Nat} (h : FinB v) : v < INF ∨ ∃ x, x < INF ∧ v = 9223372036854775808 + x := by
  unfold FinB at h
  unfold INF
  rcases Nat.lt_or_ge v 9223372036854775808 with h1 | h1
  · left; omega
  · right; exact ⟨v - 9223372036854775808, by omega, by omega⟩
/-- a negative number against zero -/
theorem order_negz {x : Nat} (hx : x < INF) : Ieee.double.order (9223372036854775808 + x) 0 = some (if x = 0 then .eq else .lt) := by
  unfold Ieee.Format.order
  rw [read_neg hx, read_fin (x := 0) (by unfold INF; omega)]
  unfold Ieee.Datum.order
  have e0 : mg 0 = 0 := rfl
  simp only [Ieee.signed, e0, Nat.zero_shiftLeft, if_true, Bool.false_eq_true, if_false]
  have hp := Nat.two_pow_pos (-1074 + (ex x : Int) - min (-1074 + (ex x : Int)) (-1074 + (ex 0 : Int))).toNat
  rw [Nat.shiftLeft_eq]
  generalize 2 ^ (-1074 + (ex x : Int) - min (-1074 + (ex x : Int)) (-1074 + (ex 0 : Int))).toNat = p at *
  by_cases h : x = 0
  · subst h
    rw [if_pos rfl, e0]; simp
  · rw [if_neg h]
    have := Nat.mul_pos (pos_mg (show 0 < x by omega)) hp
    congr 1
    rw [Int.compare_eq_lt]
    omega
theorem order_zneg {x : Nat} (hx : x < INF) : Ieee.double.order 0 (9223372036854775808 + x) = some (if x = 0 then .eq else .gt) := by
  unfold Ieee.Format.order
  rw [read_neg hx, read_fin (x := 0) (by unfold INF; omega)]
  unfold Ieee.Datum.order
  have e0 : mg 0 = 0 := rfl
  simp only [Ieee.signed, e0, Nat.zero_shiftLeft, if_true, Bool.false_eq_true, if_false]
  have hp := Nat.two_pow_pos (-1074 + (ex x : Int) - min (-1074 + (ex 0 : Int)) (-1074 + (ex x : Int))).toNat
  rw [Nat.shiftLeft_eq]
  generalize 2 ^ (-1074 + (ex x : Int) - min (-1074 + (ex 0 : Int)) (-1074 + (ex x : Int))).toNat = p at *
  by_cases h : x = 0
  · subst h
    rw [if_pos rfl, e0]; simp
  · rw [if_neg h]
    have := Nat.mul_pos (pos_mg (show 0 < x by omega)) hp
    congr 1
    rw [Int.compare_eq_gt]
    omega
theorem maxD_pos {v : Nat} (k : Value → Prop) (h : FinB v) : maxD (.float .f64 0) (.float .f64 v) k = k (.float .f64 (posF v)) := by
  unfold maxD posF
  rcases finB_cases h with h1 | ⟨x, hx, rfl⟩
  · have h2 : v < 9223372036854775808 := by unfold INF at h1; omega
    simp only [order_fin (x := 0) (y := v) (by unfold INF; omega) h1, if_pos h2]
    rcases Nat.eq_zero_or_pos v with h | h
    · subst h
      rw [Nat.compare_eq_eq.2 rfl]; simp
    · rw [Nat.compare_eq_lt.2 h]
  · have hq : (if 9223372036854775808 + x < 9223372036854775808 then 9223372036854775808 + x else 0) = 0 := if_neg (by omega)
    simp only [order_zneg hx, hq]
    by_cases h0 : x = 0
    · have : (Ieee.double.read 0).neg = false := rfl
      simp only [h0, if_true, this, Bool.false_eq_true, if_false]
    · simp only [h0, if_false]
theorem fgt_pos {v : Nat} (h : FinB v) : fgt v 0 = decide (0 < posF v) := by
  rcases finB_cases h with h1 | ⟨x, hx, rfl⟩
  · rw [fgt_nn (by unfold NN; unfold INF at h1; omega) (by unfold NN; omega)]
    unfold posF
    rw [if_pos (by unfold INF at h1; omega)]
  · have hq : posF (9223372036854775808 + x) = 0 := if_neg (by omega)
    unfold fgt
    rw [order_negz hx, hq]
    by_cases h0 : x = 0 <;> simp [h0]
theorem posF_fin {v : Nat} (h : FinB v) : Fin0 (posF v) := by
  unfold posF Fin0 FinB at *
  split <;> omega

theorem read_cls (x : Nat) (hx : x < 18446744073709551616) : FinB x ∨ (∃ s, Ieee.double.read x = .infinity s) ∨ ∃ s f, Ieee.double.read x = .nan s f := by
  by_cases h : x % 9223372036854775808 < 9218868437227405312
  · exact .inl ⟨h, hx⟩
  · right
    unfold Ieee.Format.read
    have g1 : ¬ x % 9223372036854775808 < 4503599627370496 := by omega
    have g2 : ¬ x % 9223372036854775808 < INF := by unfold INF; omega
    by_cases g3 : x % 9223372036854775808 = INF
    · refine .inl ⟨x / 9223372036854775808 % 2 == 1, ?_⟩
      have g4 : ¬ INF < 4503599627370496 := by unfold INF; omega
      simp only [cP, cB, cI, cS, g3, g4, Nat.lt_irrefl, if_true, if_false]
    · refine .inr ⟨x / 9223372036854775808 % 2 == 1, x % 9223372036854775808 - INF, ?_⟩
      simp only [cP, cB, cI, cS, g1, g2, g3, if_false]
theorem feq_nan {r b : Nat} (h : (Ieee.double.read r).isNaN = true) : feq r b = false := by
  unfold feq Ieee.Format.order
  cases hr : Ieee.double.read r with
  | nan s f => rfl
  | number s m p => rw [hr] at h; cases h
  | infinity s => rw [hr] at h; cases h
theorem finB_of {x : Nat} (hx : x < 18446744073709551616) (h : FinS x) : FinB x := by
  rcases read_cls x hx with h1 | ⟨s, h1⟩ | ⟨s, f, h1⟩
  · exact h1
  · exfalso
    obtain ⟨r, hr, he⟩ := h
    have hnone : Ieee.double.sub x x = none := by
      unfold Ieee.Format.sub
      rw [h1]
      cases s <;> rfl
    rcases hr with hr | hr
    · exact absurd (hnone.symm.trans hr) (by simp)
    · rw [feq_nan hr.2.1] at he; cases he
  · exfalso
    obtain ⟨r, hr, he⟩ := h
    have hnone : Ieee.double.sub x x = none := by
      unfold Ieee.Format.sub
      rw [h1]; rfl
    rcases hr with hr | hr
    · exact absurd (hnone.symm.trans hr) (by simp)
    · rw [feq_nan hr.2.1] at he; cases he
theorem order_negp {x y : Nat} (hx : x < INF) (hy : y < INF) (h0 : 0 < y) : Ieee.double.order (9223372036854775808 + x) y = some .lt := by
  unfold Ieee.Format.order
  rw [read_neg hx, read_fin hy]
  unfold Ieee.Datum.order
  simp only [Ieee.signed, if_true, Bool.false_eq_true, if_false]
  have hp := Nat.two_pow_pos (-1074 + (ex y : Int) - min (-1074 + (ex x : Int)) (-1074 + (ex y : Int))).toNat
  rw [Nat.shiftLeft_eq, Nat.shiftLeft_eq]
  have := Nat.mul_pos (pos_mg h0) hp
  congr 1
  rw [Int.compare_eq_lt]
  omega
theorem wt_of {x : Nat} (hx : x < 18446744073709551616) (h1 : ge1 x = true) (h : FinS x) : Fin0 x ∧ 4607182418800017408 ≤ x := by
  rcases finB_cases (finB_of hx h) with h2 | ⟨y, hy, rfl⟩
  · refine ⟨h2, ?_⟩
    unfold ge1 at h1
    rw [fgt_nn (by unfold NN; unfold INF at h2; omega) (by unfold NN; omega), feq_nn (by unfold NN; unfold INF at h2; omega) (by unfold NN; omega)] at h1
    simp at h1
    omega
  · exfalso
    unfold ge1 fgt feq at h1
    rw [order_negp hy (by unfold INF; omega) (by omega)] at h1
    simp at h1
end Go.Proofs.Qxb6601548a
