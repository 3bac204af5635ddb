import Derived.Test.Qxb6601548aFits
namespace Go.Proofs.Qxb6601548a

/-! ### Rungs and their values (in units of the least number) -/
def mg (x : Nat) : Nat := if x < 4503599627370496 then x else 4503599627370496 + x % 4503599627370496
def ex (x : Nat) : Nat := x / 4503599627370496 - 1
def val (x : Nat) : Nat := mg x * 2 ^ ex x
def INF : Nat := 9218868437227405312

theorem val_succ (x : Nat) : val (x + 1) = val x + 2 ^ ex x := by
  unfold val mg ex
  by_cases h1 : x + 1 < 4503599627370496
  · have e1 : x / 4503599627370496 = 0 := by omega
    have e2 : (x + 1) / 4503599627370496 = 0 := by omega
    rw [if_pos h1, if_pos (by omega), e1, e2]; simp
  · rw [if_neg h1]
    by_cases h2 : x < 4503599627370496
    · have hx : x = 4503599627370495 := by omega
      subst hx
      rfl
    · rw [if_neg h2]
      obtain ⟨q, hq⟩ : ∃ q, x / 4503599627370496 = q + 1 := ⟨x / 4503599627370496 - 1, by omega⟩
      by_cases h3 : x % 4503599627370496 + 1 < 4503599627370496
      · have e1 : (x + 1) / 4503599627370496 = q + 1 := by omega
        have e2 : (x + 1) % 4503599627370496 = x % 4503599627370496 + 1 := by omega
        rw [e1, e2, hq]
        simp only [Nat.add_sub_cancel]
        rw [← Nat.add_assoc, Nat.add_mul, Nat.one_mul]
      · have e1 : (x + 1) / 4503599627370496 = q + 2 := by omega
        have e2 : (x + 1) % 4503599627370496 = 0 := by omega
        have e3 : x % 4503599627370496 = 4503599627370495 := by omega
        rw [e1, e2, hq, e3]
        simp only [Nat.add_sub_cancel]
        rw [show q + 2 - 1 = q + 1 by omega, Nat.pow_succ]
        omega

theorem val_lt {x y : Nat} (h : x < y) : val x < val y := by
  induction y with
  | zero => omega
  | succ y ih =>
    rw [val_succ]
    have hp : 0 < 2 ^ ex y := Nat.two_pow_pos _
    by_cases e : x = y
    · subst e; omega
    · have := ih (by omega); omega
theorem val_le {x y : Nat} (h : x ≤ y) : val x ≤ val y := by
  rcases Nat.lt_or_ge x y with h' | h'
  · exact Nat.le_of_lt (val_lt h')
  · have : x = y := by omega
    rw [this]; exact Nat.le_refl _
theorem le_of_val {x y : Nat} (h : val x ≤ val y) : x ≤ y := by
  rcases Nat.lt_or_ge y x with h' | h'
  · have := val_lt h'; omega
  · exact h'
theorem val_zero : val 0 = 0 := by simp [val, mg]
theorem val_pos {x : Nat} (h : 0 < x) : 0 < val x := by have := val_lt h; rw [val_zero] at this; exact this

/-- A rung out of what rounding keeps. -/
theorem val_kept (L k : Nat) (hk : k ≤ 9007199254740992) (h : L = 0 ∨ 4503599627370496 ≤ k) : val (L * 4503599627370496 + k) = k * 2 ^ L := by
  unfold val mg ex
  by_cases h0 : k < 4503599627370496
  · have : L = 0 := by omega
    subst this
    have e1 : k / 4503599627370496 = 0 := by omega
    simp [h0, e1]
  · rw [if_neg (by omega)]
    by_cases h1 : k = 9007199254740992
    · subst h1
      have e1 : (L * 4503599627370496 + 9007199254740992) / 4503599627370496 = L + 2 := by omega
      have e2 : (L * 4503599627370496 + 9007199254740992) % 4503599627370496 = 0 := by omega
      rw [e1, e2, show L + 2 - 1 = L + 1 by omega, Nat.pow_succ]
      omega
    · have e1 : (L * 4503599627370496 + k) / 4503599627370496 = L + 1 := by omega
      have e2 : (L * 4503599627370496 + k) % 4503599627370496 = k - 4503599627370496 := by omega
      rw [e1, e2, Nat.add_sub_cancel, show 4503599627370496 + (k - 4503599627370496) = k by omega]

theorem ex_kept (L k : Nat) (h : 4503599627370496 ≤ k) : L ≤ ex (L * 4503599627370496 + k) := by
  unfold ex
  have : L + 1 ≤ (L * 4503599627370496 + k) / 4503599627370496 := by omega
  omega

theorem mg_lt (x : Nat) : mg x < 9007199254740992 := by unfold mg; split <;> omega
theorem val_ub (x : Nat) : val x < 2 ^ (ex x) * 9007199254740992 := by
  unfold val
  rw [Nat.mul_comm]
  exact Nat.mul_lt_mul_of_pos_left (mg_lt x) (Nat.two_pow_pos _)

/-! ### Rounding -/
theorem cut_zero (n : Nat) : Ieee.Toward.even.cut false n 0 = n := by
  simp [Ieee.Toward.cut, Nat.mod_one]

/-- the nearest whole number to n / 2 ^ d -/
theorem cut_near (n d : Nat) (hn : 0 < n) : 2 * (Ieee.Toward.even.cut false n d * 2 ^ d) ≤ 2 * n + 2 ^ d ∧ 2 * n ≤ 2 * (Ieee.Toward.even.cut false n d * 2 ^ d) + 2 ^ d := by
  have hlog : n < 2 ^ (n.log2 + 1) := Nat.lt_log2_self
  by_cases hd : d ≤ n.log2 + 2
  · simp only [Ieee.Toward.cut, Nat.min_eq_left hd, Nat.one_shiftLeft]
    have hg : 0 < 2 ^ d := Nat.two_pow_pos _
    generalize 2 ^ d = g at *
    have hdm := Nat.div_add_mod n g
    have hlt := Nat.mod_lt n hg
    generalize n / g = q at *
    generalize n % g = r at *
    have hq : g * q = q * g := Nat.mul_comm _ _
    rw [hq] at hdm
    cases hb : (decide (g < 2 * r) || (g == 2 * r && q % 2 == 1))
    · simp only [Bool.or_eq_false_iff, decide_eq_false_iff_not] at hb
      simp only [Bool.toNat_false, Nat.add_zero]
      generalize q * g = t at *
      omega
    · simp only [Bool.toNat_true, Nat.add_mul, Nat.one_mul]
      simp only [Bool.or_eq_true, decide_eq_true_eq, Bool.and_eq_true, beq_iff_eq] at hb
      generalize q * g = t at *
      omega
  · have hmin : min d (n.log2 + 2) = n.log2 + 2 := by omega
    have hgap : 2 ^ (n.log2 + 2) = 2 * 2 ^ (n.log2 + 1) := by rw [Nat.pow_succ]; omega
    have hcut : Ieee.Toward.even.cut false n d = 0 := by
      simp only [Ieee.Toward.cut, hmin, Nat.one_shiftLeft]
      have h1 : n / 2 ^ (n.log2 + 2) = 0 := Nat.div_eq_of_lt (by omega)
      have h2 : n % 2 ^ (n.log2 + 2) = n := Nat.mod_eq_of_lt (by omega)
      rw [h1, h2]
      have h3 : decide (2 ^ (n.log2 + 2) < 2 * n) = false := by simp; omega
      have h4 : (2 ^ (n.log2 + 2) == 2 * n) = false := by simp; omega
      simp [h3, h4]
    rw [hcut]
    have hdd : 2 ^ (n.log2 + 2) ≤ 2 ^ d := Nat.pow_le_pow_right (by omega) (by omega)
    omega

theorem cK : (Ieee.double.fractionBits : Nat) = 52 := rfl
theorem cP : Ieee.double.leastPlace = -1074 := rfl
theorem cB : Ieee.double.binade = 4503599627370496 := rfl
theorem cI : Ieee.double.infRung = INF := rfl
theorem cS : Ieee.double.signWeight = 9223372036854775808 := rfl

theorem two_mul_pow (a b : Nat) : 2 ^ (a + b) = 2 ^ a * 2 ^ b := Nat.pow_add ..

theorem near_unf (mag : Nat) (place last : Int) (hm : 0 < mag) (hlast : last = max (place + mag.log2 - 52) (-1074)) :
    Ieee.double.nearest false mag place = min ((last + 1074).toNat * 4503599627370496 + Ieee.Toward.even.cut false (mag <<< (place - last).toNat) (last - place).toNat) INF := by
  have h52 : ((Ieee.double.fractionBits : Nat) : Int) = 52 := rfl
  unfold Ieee.Format.nearest
  simp only [cP, cB, cI, h52]
  rw [if_neg (by omega), ← hlast]
  simp only [Ieee.Format.word, Bool.false_eq_true, if_false, Int.sub_neg]

/-- what rounding does, at any scale -/
theorem near_spec (mag : Nat) (place : Int) (S : Nat) (hm : 0 < mag) (hS : 0 ≤ place + 1074 + S) (V : Nat) (hV : V = mag * 2 ^ (place + 1074 + S).toNat) :
    ∃ r L, Ieee.double.nearest false mag place = min r INF ∧ 2 * (val r * 2 ^ S) ≤ 2 * V + 2 ^ L * 2 ^ S ∧ 2 * V ≤ 2 * (val r * 2 ^ S) + 2 ^ L * 2 ^ S ∧
      (L = 0 ∨ 4503599627370496 * (2 ^ L * 2 ^ S) ≤ V) ∧ (0 ≤ place + 1074 → L = 0 → val r * 2 ^ S = V) ∧
      (∀ t, V ≤ val t * 2 ^ S → r ≤ t) ∧ (∀ t, val t * 2 ^ S ≤ V → t ≤ r) := by
  obtain ⟨last, hlast⟩ : ∃ last : Int, last = max (place + mag.log2 - 52) (-1074) := ⟨_, rfl⟩
  have hnear := near_unf mag place last hm hlast
  have hlo : 2 ^ mag.log2 ≤ mag := Nat.log2_self_le (by omega)
  have hhi : mag < 2 ^ (mag.log2 + 1) := Nat.lt_log2_self
  generalize mag.log2 = lg at *
  obtain ⟨L, hL⟩ : ∃ L : Nat, (L : Int) = last + 1074 := ⟨(last + 1074).toNat, by omega⟩
  have hLn : (last + 1074).toNat = L := by omega
  rw [hLn] at hnear
  -- the value against the unit
  have hG : 0 < 2 ^ L * 2 ^ S := Nat.mul_pos (Nat.two_pow_pos _) (Nat.two_pow_pos _)
  have hub : V < 9007199254740992 * (2 ^ L * 2 ^ S) := by
    have h1 : V < 2 ^ (lg + 1) * 2 ^ (place + 1074 + S).toNat := by rw [hV]; exact Nat.mul_lt_mul_of_pos_right hhi (Nat.two_pow_pos _)
    have h2 : 2 ^ (lg + 1) * 2 ^ (place + 1074 + S).toNat ≤ 2 ^ (53 + (L + S)) := by
      rw [← Nat.pow_add]; exact Nat.pow_le_pow_right (by omega) (by omega)
    rw [Nat.pow_add 2 53, Nat.pow_add 2 L S] at h2
    have h3 : (2 : Nat) ^ 53 = 9007199254740992 := rfl
    rw [h3] at h2
    omega
  have hlb : L = 0 ∨ 4503599627370496 * (2 ^ L * 2 ^ S) ≤ V := by
    by_cases h0 : L = 0
    · exact .inl h0
    · right
      have h1 : 2 ^ lg * 2 ^ (place + 1074 + S).toNat ≤ V := by rw [hV]; exact Nat.mul_le_mul_right _ hlo
      have h2 : 2 ^ (52 + (L + S)) = 2 ^ lg * 2 ^ (place + 1074 + S).toNat := by
        rw [← Nat.pow_add]; congr 1; omega
      rw [Nat.pow_add, Nat.pow_add 2 L S] at h2
      have h3 : (2 : Nat) ^ 52 = 4503599627370496 := rfl
      rw [h3] at h2
      omega
  -- what is kept
  have hk : 2 * (Ieee.Toward.even.cut false (mag <<< (place - last).toNat) (last - place).toNat * (2 ^ L * 2 ^ S)) ≤ 2 * V + 2 ^ L * 2 ^ S ∧ 2 * V ≤ 2 * (Ieee.Toward.even.cut false (mag <<< (place - last).toNat) (last - place).toNat * (2 ^ L * 2 ^ S)) + 2 ^ L * 2 ^ S ∧ (last ≤ place → Ieee.Toward.even.cut false (mag <<< (place - last).toNat) (last - place).toNat * (2 ^ L * 2 ^ S) = V) := by
    by_cases hp : last ≤ place
    · have e : (last - place).toNat = 0 := by omega
      have h2 : mag <<< (place - last).toNat * (2 ^ L * 2 ^ S) = V := by
        rw [hV, Nat.shiftLeft_eq, Nat.mul_assoc, ← Nat.pow_add, ← Nat.pow_add]
        congr 2; omega
      rw [e, cut_zero, h2]
      omega
    · have e : (place - last).toNat = 0 := by omega
      rw [e, Nat.shiftLeft_zero]
      obtain ⟨c1, c2⟩ := cut_near mag (last - place).toNat hm
      have h2 : 2 ^ L * 2 ^ S = 2 ^ (last - place).toNat * 2 ^ (place + 1074 + S).toNat := by
        rw [← Nat.pow_add, ← Nat.pow_add]; congr 1; omega
      have d1 := Nat.mul_le_mul_right (2 ^ (place + 1074 + S).toNat) c1
      have d2 := Nat.mul_le_mul_right (2 ^ (place + 1074 + S).toNat) c2
      simp only [Nat.add_mul, Nat.mul_assoc, ← h2, ← hV] at d1 d2
      exact ⟨d1, d2, fun h => absurd h hp⟩
  generalize Ieee.Toward.even.cut false (mag <<< (place - last).toNat) (last - place).toNat = k at *
  obtain ⟨k1, k2, k3⟩ := hk
  have hk53 : k ≤ 9007199254740992 := by
    rcases Nat.lt_or_ge 9007199254740992 k with h | h
    · have := Nat.mul_le_mul_right (2 ^ L * 2 ^ S) (show 9007199254740993 ≤ k from h)
      generalize 2 ^ L * 2 ^ S = G at *
      omega
    · exact h
  have hk52 : L = 0 ∨ 4503599627370496 ≤ k := by
    rcases hlb with h0 | hlb
    · exact .inl h0
    · right
      rcases Nat.lt_or_ge k 4503599627370496 with h | h
      · have := Nat.mul_le_mul_right (2 ^ L * 2 ^ S) (show k ≤ 4503599627370495 by omega)
        generalize 2 ^ L * 2 ^ S = G at *
        omega
      · exact h
  have hval := val_kept L k hk53 hk52
  have hvalS : val (L * 4503599627370496 + k) * 2 ^ S = k * (2 ^ L * 2 ^ S) := by rw [hval, Nat.mul_assoc]
  refine ⟨L * 4503599627370496 + k, L, hnear, by rw [hvalS]; exact k1, by rw [hvalS]; exact k2, hlb, fun h1 h2 => by rw [hvalS]; exact k3 (by omega), fun t ht => ?_, fun t ht => ?_⟩
  · rcases Nat.lt_or_ge t (L * 4503599627370496 + k) with hlt | h
    · exfalso
      have hvt := Nat.mul_lt_mul_of_pos_right (val_lt hlt) (Nat.two_pow_pos S)
      rw [hvalS] at hvt
      by_cases hc : L = 0 ∨ 4503599627370496 ≤ k - 1
      · have hv1 := val_kept L (k - 1) (by omega) hc
        have hle : val t ≤ val (L * 4503599627370496 + (k - 1)) := val_le (by omega)
        have hle2 := Nat.mul_le_mul_right (2 ^ S) hle
        rw [hv1, Nat.mul_assoc] at hle2
        have hk1 : k * (2 ^ L * 2 ^ S) = (k - 1) * (2 ^ L * 2 ^ S) + 2 ^ L * 2 ^ S := by
          conv => lhs; rw [show k = (k - 1) + 1 by omega]
          rw [Nat.succ_mul]
        generalize (k - 1) * (2 ^ L * 2 ^ S) = T at *
        generalize k * (2 ^ L * 2 ^ S) = T2 at *
        generalize 2 ^ L * 2 ^ S = G at *
        omega
      · have hk0 : k = 4503599627370496 := by omega
        subst hk0
        rcases hlb with h0 | hlb
        · omega
        · omega
    · exact h
  · rcases Nat.lt_or_ge (L * 4503599627370496 + k) t with hlt | h
    · exfalso
      have hle : val (L * 4503599627370496 + k + 1) ≤ val t := val_le hlt
      rw [val_succ] at hle
      have hex : 2 ^ L ≤ 2 ^ ex (L * 4503599627370496 + k) := by
        refine Nat.pow_le_pow_right (by omega) ?_
        rcases hk52 with h0 | h5
        · omega
        · exact ex_kept L k h5
      have hle2 : (val (L * 4503599627370496 + k) + 2 ^ L) * 2 ^ S ≤ val t * 2 ^ S := Nat.mul_le_mul_right _ (by omega)
      rw [Nat.add_mul, hvalS] at hle2
      generalize k * (2 ^ L * 2 ^ S) = T2 at *
      generalize 2 ^ L * 2 ^ S = G at *
      omega
    · exact h

/-! ### Reading -/
theorem read_fin {x : Nat} (h : x < INF) : Ieee.double.read x = .number false (mg x) (-1074 + (ex x : Nat)) := by
  unfold INF at h
  unfold Ieee.Format.read mg ex
  simp only [cP, cB, cI, cS]
  have e1 : x / 9223372036854775808 = 0 := by omega
  have e2 : x % 9223372036854775808 = x := by omega
  simp only [e1, e2]
  by_cases h1 : x < 4503599627370496
  · have e3 : x / 4503599627370496 = 0 := by omega
    simp [h1, e3]
  · simp [h1, show x < INF by unfold INF; omega]
theorem read_inf : Ieee.double.read INF = .infinity false := by decide
theorem read_neg {x : Nat} (h : x < INF) : Ieee.double.read (9223372036854775808 + x) = .number true (mg x) (-1074 + (ex x : Nat)) := by
  unfold INF at h
  unfold Ieee.Format.read mg ex
  simp only [cP, cB, cI, cS]
  have e1 : (9223372036854775808 + x) / 9223372036854775808 = 1 := by omega
  have e2 : (9223372036854775808 + x) % 9223372036854775808 = x := by omega
  simp only [e1, e2]
  by_cases h1 : x < 4503599627370496
  · have e3 : x / 4503599627370496 = 0 := by omega
    simp [h1, e3]
  · simp [h1, show x < INF by unfold INF; omega]

theorem pos_mg {x : Nat} (h : 0 < x) : 0 < mg x := by unfold mg; split <;> omega
theorem mg_zero {x : Nat} (h : mg x = 0) : x = 0 := by
  rcases Nat.eq_zero_or_pos x with h0 | h0
  · exact h0
  · have := pos_mg h0; omega

/-- two numbers brought to one place -/
theorem align (x : Nat) (b : Int) (hb : b ≤ -1074 + (ex x : Nat)) (h1 : -1074 ≤ b) : mg x <<< (-1074 + (ex x : Nat) - b).toNat * 2 ^ (b + 1074).toNat = val x := by
  rw [Nat.shiftLeft_eq, Nat.mul_assoc, ← Nat.pow_add]
  unfold val
  congr 2; omega

theorem order_fin {x y : Nat} (hx : x < INF) (hy : y < INF) : Ieee.double.order x y = some (compare x y) := by
  unfold Ieee.Format.order
  rw [read_fin hx, read_fin hy]
  unfold Ieee.Datum.order
  simp only [Ieee.signed, Bool.false_eq_true, if_false]
  have hb : -1074 ≤ min (-1074 + (ex x : Int)) (-1074 + (ex y : Int)) := by omega
  have a1 := align x (min (-1074 + (ex x : Int)) (-1074 + (ex y : Int))) (by omega) hb
  have a2 := align y (min (-1074 + (ex x : Int)) (-1074 + (ex y : Int))) (by omega) hb
  generalize min (-1074 + (ex x : Int)) (-1074 + (ex y : Int)) = b at *
  generalize mg x <<< (-1074 + (ex x : Int) - b).toNat = m at *
  generalize mg y <<< (-1074 + (ex y : Int) - b).toNat = n at *
  have hp := Nat.two_pow_pos (b + 1074).toNat
  generalize 2 ^ (b + 1074).toNat = p at *
  congr 1
  rcases Nat.lt_trichotomy x y with h | h | h
  · have := val_lt h
    rw [← a1, ← a2] at this
    have hmn := Nat.lt_of_mul_lt_mul_right this
    rw [Nat.compare_eq_lt.2 h, Int.compare_eq_lt.2 (by omega)]
  · subst h
    have hmn : m = n := Nat.eq_of_mul_eq_mul_right hp (by omega)
    rw [Nat.compare_eq_eq.2 rfl, Int.compare_eq_eq.2 (by omega)]
  · have := val_lt h
    rw [← a1, ← a2] at this
    have hmn := Nat.lt_of_mul_lt_mul_right this
    rw [Nat.compare_eq_gt.2 h, Int.compare_eq_gt.2 (by omega)]

theorem order_nn {x y : Nat} (hx : x ≤ INF) (hy : y ≤ INF) : Ieee.double.order x y = some (compare x y) := by
  rcases Nat.lt_or_ge x INF with h1 | h1
  · rcases Nat.lt_or_ge y INF with h2 | h2
    · exact order_fin h1 h2
    · have : y = INF := by omega
      subst this
      unfold Ieee.Format.order
      rw [read_fin h1, read_inf, Nat.compare_eq_lt.2 h1]; rfl
  · have : x = INF := by omega
    subst this
    rcases Nat.lt_or_ge y INF with h2 | h2
    · unfold Ieee.Format.order
      rw [read_fin h2, read_inf, Nat.compare_eq_gt.2 h2]; rfl
    · have : y = INF := by omega
      subst this
      unfold Ieee.Format.order
      rw [read_inf, Nat.compare_eq_eq.2 rfl]; rfl
end Go.Proofs.Qxb6601548a
