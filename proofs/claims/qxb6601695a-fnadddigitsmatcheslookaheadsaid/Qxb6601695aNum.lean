/-
  Digits from the right, and the plain law of adding and taking away digit by digit. No walk here.
-/
import Derived.Test.Qxb6601695aFacts
namespace Go.Proofs.Qxb6601695a
open Go.RowKit
set_option linter.unusedSimpArgs false
set_option linter.unusedVariables false

def dg (s : ByteArray) (p : Nat) : Int := if p < s.size then byteAt s (s.size - 1 - p) - 48 else 0
def Digs (s : ByteArray) : Prop := ∀ i, i < s.size → 48 ≤ byteAt s i ∧ byteAt s i ≤ 57
theorem dg_at {s : ByteArray} {i : Nat} (h : i < s.size) : byteAt s i = dg s (s.size - 1 - i) + 48 := by
  have h1 : s.size - 1 - i < s.size := by omega
  have h2 : s.size - 1 - (s.size - 1 - i) = i := by omega
  simp only [dg, if_pos h1, h2]; omega
theorem dg_in {s : ByteArray} {p : Nat} (h : p < s.size) : dg s p = byteAt s (s.size - 1 - p) - 48 := by simp only [dg, if_pos h]
theorem dg_out {s : ByteArray} {p : Nat} (h : s.size ≤ p) : dg s p = 0 := by simp only [dg, if_neg (Nat.not_lt.2 h)]
def Rng (d : Nat → Int) : Prop := ∀ p, 0 ≤ d p ∧ d p ≤ 9
theorem Digs.rng {s : ByteArray} (h : Digs s) : Rng (dg s) := by
  intro p
  rcases Nat.lt_or_ge p s.size with hp | hp
  · have := h (s.size - 1 - p) (by omega)
    rw [dg_in hp]; omega
  · rw [dg_out hp]; omega
theorem byteAt_rng (s : ByteArray) (i : Nat) : 0 ≤ byteAt s i ∧ byteAt s i ≤ 255 := by
  unfold byteAt
  have := (s.data.toList.getD i 0).toNat_lt
  omega

/-! ### The order of digit strings -/
def Ge (d e : Nat → Int) : Prop := (∀ p, d p = e p) ∨ ∃ q, e q < d q ∧ ∀ p, q < p → d p = e p
theorem zeros {x : ByteArray} {i : Nat} (h : ∀ t, t < i → byteAt x t = 48) {p : Nat} (hp : x.size - i ≤ p) : dg x p = 0 := by
  rcases Nat.lt_or_ge p x.size with h1 | h1
  · rw [dg_in h1, h _ (by omega)]; omega
  · exact dg_out h1
theorem ge_len {x y : ByteArray} {i j : Nat} (hx : Digs x) (hi : i < x.size) (zx : ∀ t, t < i → byteAt x t = 48) (hn : byteAt x i ≠ 48) (zy : ∀ t, t < j → byteAt y t = 48) (hl : y.size - j < x.size - i) : Ge (dg x) (dg y) := by
  refine .inr ⟨x.size - 1 - i, ?_, fun p hp => ?_⟩
  · have := dg_at hi
    have := hx i hi
    rw [zeros zy (by omega)]; omega
  · rw [zeros zy (by omega), zeros zx (by omega)]
theorem same_above {x y : ByteArray} {i j k : Nat} (hi : i ≤ x.size) (hj : j ≤ y.size) (zx : ∀ t, t < i → byteAt x t = 48) (zy : ∀ t, t < j → byteAt y t = 48) (hl : y.size - j = x.size - i) (hk : i + k ≤ x.size)
    (he : ∀ t, t < k → byteAt x (i + t) = byteAt y (j + t)) {p : Nat} (hp : x.size - i - k ≤ p) : dg x p = dg y p := by
  rcases Nat.lt_or_ge p (x.size - i) with h1 | h1
  · have := he (x.size - i - 1 - p) (by omega)
    rw [dg_in (by omega : p < x.size), dg_in (by omega : p < y.size), show x.size - 1 - p = i + (x.size - i - 1 - p) by omega, this, show y.size - 1 - p = j + (x.size - i - 1 - p) by omega]
  · rw [zeros zx h1, zeros zy (by omega)]
theorem ge_dig {x y : ByteArray} {i j k : Nat} (hi : i ≤ x.size) (hj : j ≤ y.size) (zx : ∀ t, t < i → byteAt x t = 48) (zy : ∀ t, t < j → byteAt y t = 48) (hl : y.size - j = x.size - i) (hk : i + k < x.size)
    (he : ∀ t, t < k → byteAt x (i + t) = byteAt y (j + t)) (hd : byteAt y (j + k) < byteAt x (i + k)) : Ge (dg x) (dg y) := by
  refine .inr ⟨x.size - i - k - 1, ?_, fun p hp => same_above hi hj zx zy hl (by omega) he (by omega)⟩
  rw [dg_in (by omega : _ < x.size), dg_in (by omega : _ < y.size), show x.size - 1 - (x.size - i - k - 1) = i + k by omega, show y.size - 1 - (x.size - i - k - 1) = j + k by omega]
  omega
theorem ge_all {x y : ByteArray} {i j : Nat} (hi : i ≤ x.size) (hj : j ≤ y.size) (zx : ∀ t, t < i → byteAt x t = 48) (zy : ∀ t, t < j → byteAt y t = 48) (hl : y.size - j = x.size - i)
    (he : ∀ t, t < x.size - i → byteAt x (i + t) = byteAt y (j + t)) : Ge (dg x) (dg y) :=
  .inl fun p => same_above hi hj zx zy hl (by omega) he (by omega)

/-! ### Numbers -/
def V (d : Nat → Int) : Nat → Int
  | 0 => 0
  | k + 1 => V d k + d k * 10 ^ k
theorem pow_pos' (k : Nat) : (0 : Int) < 10 ^ k := Int.pow_pos (by decide)
theorem V_rng {d : Nat → Int} (h : Rng d) : ∀ k, 0 ≤ V d k ∧ V d k < 10 ^ k
  | 0 => by simp [V]
  | k + 1 => by
    have ih := V_rng h k
    have hk := h k
    have hp := pow_pos' k
    have h1 : d k * 10 ^ k ≤ 9 * 10 ^ k := Int.mul_le_mul_of_nonneg_right hk.2 (Int.le_of_lt hp)
    have h0 : 0 ≤ d k * 10 ^ k := Int.mul_nonneg hk.1 (Int.le_of_lt hp)
    simp only [V, Int.pow_succ]
    omega
theorem V_congr {d e : Nat → Int} : ∀ k, (∀ p, p < k → d p = e p) → V d k = V e k
  | 0, _ => rfl
  | k + 1, h => by simp only [V]; rw [V_congr k (fun p hp => h p (by omega)), h k (by omega)]
theorem V_ge {d e : Nat → Int} (hd : Rng d) (he : Rng e) {q : Nat} (hq : e q < d q) (ha : ∀ p, q < p → d p = e p) : ∀ k, q < k → V e k ≤ V d k
  | 0, h => by omega
  | k + 1, h => by
    simp only [V]
    rcases Nat.lt_or_ge q k with h1 | h1
    · have := V_ge hd he hq ha k h1
      rw [ha k h1]; omega
    · obtain rfl : q = k := by omega
      have h2 := (V_rng he q).2
      have h3 := (V_rng hd q).1
      have hp := pow_pos' q
      have h4 : (e q + 1) * 10 ^ q ≤ d q * 10 ^ q := Int.mul_le_mul_of_nonneg_right (by omega) (Int.le_of_lt hp)
      rw [Int.add_mul] at h4
      omega
theorem V_uniq {d e : Nat → Int} (hd : Rng d) (he : Rng e) : ∀ k, V d k = V e k → ∀ p, p < k → d p = e p
  | 0, _, p, hp => by omega
  | k + 1, h, p, hp => by
    simp only [V] at h
    have h1 := V_rng hd k
    have h2 := V_rng he k
    have hpos := pow_pos' k
    have hk : d k = e k := by
      rcases Int.lt_trichotomy (d k) (e k) with hl | hl | hl
      · have h4 : (d k + 1) * 10 ^ k ≤ e k * 10 ^ k := Int.mul_le_mul_of_nonneg_right (by omega) (Int.le_of_lt hpos)
        rw [Int.add_mul] at h4
        omega
      · exact hl
      · have h4 : (e k + 1) * 10 ^ k ≤ d k * 10 ^ k := Int.mul_le_mul_of_nonneg_right (by omega) (Int.le_of_lt hpos)
        rw [Int.add_mul] at h4
        omega
    rcases Nat.lt_or_ge p k with h3 | h3
    · exact V_uniq hd he k (by rw [hk] at h; omega) p h3
    · obtain rfl : p = k := by omega
      exact hk
theorem Ge.top {d e : Nat → Int} (h : Ge d e) (he : Rng e) {n : Nat} (hn : ∀ p, n ≤ p → d p = 0) : ∀ p, n ≤ p → e p = 0 := by
  intro p hp
  rcases h with h | ⟨q, hq, ha⟩
  · rw [← h p]; exact hn p hp
  · have : q < n := by
      rcases Nat.lt_or_ge q n with h1 | h1
      · exact h1
      · have := hn q h1; have := (he q).1; omega
    rw [← ha p (by omega)]; exact hn p hp
theorem Ge.V {d e : Nat → Int} (h : Ge d e) (hd : Rng d) (he : Rng e) {n : Nat} (hn : ∀ p, n ≤ p → d p = 0) : V e n ≤ V d n := by
  rcases h with h | ⟨q, hq, ha⟩
  · rw [V_congr n (fun p _ => h p)]; omega
  · have : q < n := by
      rcases Nat.lt_or_ge q n with h1 | h1
      · exact h1
      · have := hn q h1; have := (he q).1; omega
    exact V_ge hd he hq ha n this

/-! ### Adding digit by digit -/
def car (σ : Int) (d e : Nat → Int) : Nat → Int
  | 0 => 0
  | p + 1 => if d p + σ * e p + car σ d e p < 0 then -1 else if d p + σ * e p + car σ d e p > 9 then 1 else 0
def tot (σ : Int) (d e : Nat → Int) (p : Nat) : Int := d p + σ * e p + car σ d e p
def res (σ : Int) (d e : Nat → Int) (p : Nat) : Int := if tot σ d e p < 0 then tot σ d e p + 10 else if tot σ d e p > 9 then tot σ d e p - 10 else tot σ d e p
/-- what stands in the sum, from the right -/
def sumD (σ : Int) (d e : Nat → Int) (n p : Nat) : Int := if p < n then res σ d e p else if p = n then car σ d e n else 0
def Sg (σ : Int) : Prop := σ = 1 ∨ σ = -1
theorem car_succ (σ : Int) (d e : Nat → Int) (p : Nat) : car σ d e (p + 1) = if tot σ d e p < 0 then -1 else if tot σ d e p > 9 then 1 else 0 := rfl
theorem car_add {d e : Nat → Int} (hd : Rng d) (he : Rng e) : ∀ p, 0 ≤ car 1 d e p ∧ car 1 d e p ≤ 1
  | 0 => by simp [car]
  | p + 1 => by
    have := car_add hd he p
    have := hd p
    have := he p
    rw [car_succ]; unfold tot; split <;> (try split) <;> omega
theorem car_sub {d e : Nat → Int} (hd : Rng d) (he : Rng e) : ∀ p, -1 ≤ car (-1) d e p ∧ car (-1) d e p ≤ 0
  | 0 => by simp [car]
  | p + 1 => by
    have := car_sub hd he p
    have := hd p
    have := he p
    rw [car_succ]; unfold tot; split <;> (try split) <;> omega
theorem tot_rng {σ : Int} (hσ : Sg σ) {d e : Nat → Int} (hd : Rng d) (he : Rng e) (p : Nat) : -10 ≤ tot σ d e p ∧ tot σ d e p ≤ 19 := by
  have := hd p
  have := he p
  unfold tot
  rcases hσ with rfl | rfl
  · have := car_add hd he p; omega
  · have := car_sub hd he p; omega
theorem res_rng {σ : Int} (hσ : Sg σ) {d e : Nat → Int} (hd : Rng d) (he : Rng e) : Rng (res σ d e) := by
  intro p
  have := tot_rng hσ hd he p
  unfold res; split <;> (try split) <;> omega
theorem car_rng {σ : Int} (hσ : Sg σ) {d e : Nat → Int} (hd : Rng d) (he : Rng e) (p : Nat) : -1 ≤ car σ d e p ∧ car σ d e p ≤ 1 := by
  rcases hσ with rfl | rfl
  · have := car_add hd he p; omega
  · have := car_sub hd he p; omega
theorem tot_res (σ : Int) (d e : Nat → Int) (p : Nat) : tot σ d e p = res σ d e p + 10 * car σ d e (p + 1) := by
  rw [car_succ]; unfold res; split <;> (try split) <;> omega
theorem V_sum (σ : Int) (d e : Nat → Int) : ∀ k, V (res σ d e) k + car σ d e k * 10 ^ k = V d k + σ * V e k
  | 0 => by simp [V, car]
  | k + 1 => by
    have ih := V_sum σ d e k
    have ht := tot_res σ d e k
    have hd : tot σ d e k = d k + σ * e k + car σ d e k := rfl
    simp only [V, Int.pow_succ]
    have h1 : res σ d e k = d k + σ * e k + car σ d e k - 10 * car σ d e (k + 1) := by omega
    rw [h1]
    have h2 : (d k + σ * e k + car σ d e k - 10 * car σ d e (k + 1)) * 10 ^ k = d k * 10 ^ k + σ * (e k * 10 ^ k) + car σ d e k * 10 ^ k - car σ d e (k + 1) * (10 ^ k * 10) := by
      rw [Int.sub_mul, Int.add_mul, Int.add_mul, Int.mul_assoc σ, Int.mul_comm 10 (car σ d e (k + 1)), Int.mul_assoc (car σ d e (k + 1)), Int.mul_comm 10 (10 ^ k)]
    rw [h2, Int.mul_add]
    omega

/-! ### The two laws -/
theorem top_zero {d e : Nat → Int} (hd : Rng d) (he : Rng e) (h : Ge d e) {n : Nat} (hn : ∀ p, n ≤ p → d p = 0) : car (-1) d e n = 0 := by
  have h1 := V_sum (-1) d e n
  have h2 := h.V hd he hn
  have h3 := V_rng (res_rng (.inr rfl) hd he) n
  have h4 := car_sub hd he n
  rcases Int.lt_or_le (car (-1) d e n) 0 with h5 | h5
  · have h6 : car (-1) d e n = -1 := by omega
    rw [h6] at h1
    omega
  · omega

theorem sum_rng {σ : Int} (hσ : Sg σ) {d e : Nat → Int} (hd : Rng d) (he : Rng e) (n : Nat) (hc : 0 ≤ car σ d e n) : Rng (sumD σ d e n) := by
  intro p
  unfold sumD
  split
  · exact res_rng hσ hd he p
  · split
    · have := car_rng hσ hd he n; omega
    · omega

theorem undo {d e : Nat → Int} (hd : Rng d) (he : Rng e) (h : Ge d e) {n : Nat} (hn : ∀ p, n ≤ p → d p = 0) (p : Nat) :
    sumD (-1) (sumD 1 d e n) e (n + 1) p = d p := by
  have hc1 := car_add hd he n
  have hs := sum_rng (.inl rfl) hd he n hc1.1
  have e1 : V (sumD 1 d e n) n = V (res 1 d e) n := V_congr n (fun p hp => by simp [sumD, hp])
  have v1 : V (sumD 1 d e n) (n + 1) = V d n + V e n := by
    have := V_sum 1 d e n
    simp only [V, e1]
    have : sumD 1 d e n n = car 1 d e n := by simp [sumD]
    rw [this]; omega
  have et := h.top he hn
  have v2 : V e (n + 1) = V e n := by simp only [V, et n (Nat.le_refl _)]; omega
  have v0 : V d (n + 1) = V d n := by simp only [V, hn n (Nat.le_refl _)]; omega
  have hs2 := V_sum (-1) (sumD 1 d e n) e (n + 1)
  rw [v1, v2] at hs2
  have h3 := V_rng (res_rng (.inr rfl) hs he) (n + 1)
  have h4 := car_sub hs he (n + 1)
  have hd0 := V_rng hd n
  have hc : car (-1) (sumD 1 d e n) e (n + 1) = 0 := by
    rcases Int.lt_or_le (car (-1) (sumD 1 d e n) e (n + 1)) 0 with h5 | h5
    · have h6 : car (-1) (sumD 1 d e n) e (n + 1) = -1 := by omega
      rw [h6] at hs2
      omega
    · omega
  rw [hc] at hs2
  have hv : V (res (-1) (sumD 1 d e n) e) (n + 1) = V d (n + 1) := by rw [v0]; omega
  have hu := V_uniq (res_rng (.inr rfl) hs he) hd (n + 1) hv
  rw [sumD]
  split
  · exact hu p (by assumption)
  · split
    · rw [hc, hn p (by omega)]
    · rw [hn p (by omega)]

/-! ### Looking ahead -/
/-- what a deciding column hands to its left -/
def dec (σ z : Int) : Int := if σ > 0 then (if z ≥ 10 then 1 else 0) else (if z < 0 then 1 else 0)
def prop (σ : Int) : Int := if σ < 0 then 0 else 9
theorem dec_here {σ : Int} (hσ : Sg σ) {d e : Nat → Int} (hd : Rng d) (he : Rng e) (p : Nat) (h : d p + σ * e p ≠ prop σ) : dec σ (d p + σ * e p) = σ * car σ d e (p + 1) := by
  have := hd p
  have := he p
  rw [car_succ]; unfold tot dec
  unfold prop at h
  rcases hσ with rfl | rfl
  · have := car_add hd he p
    simp only [Int.one_mul] at h ⊢
    simp at h ⊢
    split <;> split <;> (try split) <;> omega
  · have := car_sub hd he p
    simp at h ⊢
    split <;> (try split) <;> omega
theorem pass_on {σ : Int} (hσ : Sg σ) {d e : Nat → Int} (hd : Rng d) (he : Rng e) (p : Nat) (h : d p + σ * e p = prop σ) : car σ d e (p + 1) = car σ d e p := by
  rw [car_succ]; unfold tot
  rw [h]
  unfold prop
  rcases hσ with rfl | rfl
  · have := car_add hd he p
    simp
    split <;> (try split) <;> omega
  · have := car_sub hd he p
    simp
    split <;> (try split) <;> omega
theorem res_mod {σ : Int} (hσ : Sg σ) {d e : Nat → Int} (hd : Rng d) (he : Rng e) (p : Nat) : (d p + σ * e p + σ * (σ * car σ d e p) + 20).tmod 10 = res σ d e p := by
  have h1 : σ * (σ * car σ d e p) = car σ d e p := by rcases hσ with rfl | rfl <;> omega
  rw [h1]
  have h2 := tot_rng hσ hd he p
  have h3 := tot_res σ d e p
  have h4 := res_rng hσ hd he p
  have h5 : d p + σ * e p + car σ d e p = tot σ d e p := rfl
  rw [h5, Int.tmod_eq_emod_of_nonneg (by omega)]
  omega

/-! ### Strings by their digits -/
theorem size_mk (bs : List UInt8) : (⟨bs.toArray⟩ : ByteArray).size = bs.length := by simp [ByteArray.size]
theorem byteAt_mk (bs : List UInt8) (i : Nat) : byteAt ⟨bs.toArray⟩ i = ((bs.getD i 0).toNat : Int) := rfl
theorem ext_byte {a b : ByteArray} (hs : a.size = b.size) (h : ∀ i, i < a.size → byteAt a i = byteAt b i) : a = b := by
  obtain ⟨⟨a⟩⟩ := a
  obtain ⟨⟨b⟩⟩ := b
  simp only [ByteArray.size, List.size_toArray] at hs h
  congr 2
  apply List.ext_getElem hs
  intro i h1 h2
  have := h i h1
  simp only [byteAt, List.getD_eq_getElem?_getD, List.getElem?_eq_getElem h1, List.getElem?_eq_getElem h2, Option.getD_some] at this
  apply UInt8.toNat_inj.1
  omega
theorem ext_dg {a b : ByteArray} (hs : a.size = b.size) (h : ∀ p, dg a p = dg b p) : a = b :=
  ext_byte hs fun i hi => by rw [dg_at hi, dg_at (by omega : i < b.size), h, hs]
def zz : ByteArray := { data := #[48, 48] }
theorem size_zz (x : ByteArray) : (zz ++ x).size = x.size + 2 := by
  rw [ByteArray.size_append]; show 2 + x.size = _; omega
theorem dg_zz (x : ByteArray) (p : Nat) : dg (zz ++ x) p = dg x p := by
  have hs := size_zz x
  have hb : ∀ i, byteAt (zz ++ x) (i + 2) = byteAt x i := by
    intro i
    simp [byteAt, ByteArray.data_append, zz]
  have h0 : byteAt (zz ++ x) 0 = 48 := by simp [byteAt, ByteArray.data_append, zz]
  have h1 : byteAt (zz ++ x) 1 = 48 := by simp [byteAt, ByteArray.data_append, zz]
  rcases Nat.lt_or_ge p x.size with h | h
  · rw [dg_in h, dg_in (by omega), hs, show x.size + 2 - 1 - p = (x.size - 1 - p) + 2 by omega, hb]
  · rw [dg_out h]
    rcases Nat.lt_or_ge p (x.size + 2) with h2 | h2
    · rw [dg_in (by omega), hs]
      rcases Nat.lt_or_ge p (x.size + 1) with h3 | h3
      · rw [show x.size + 2 - 1 - p = 1 by omega, h1]; omega
      · rw [show x.size + 2 - 1 - p = 0 by omega, h0]; omega
    · exact dg_out (by omega)
end Go.Proofs.Qxb6601695a
