/-
  The plain law: a glob's forward reading and its backward table agree. No walk here.
-/
import Derived.Test.Qxb6601738aFacts
namespace Go.Proofs.Qxb6601738a
set_option linter.unusedSimpArgs false
set_option linter.unusedVariables false

/-- reached, entered -/
abbrev St := List Bool × List Bool
def InR (s : St) (i : Nat) : Prop := s.1.getD i false = true
def InE (s : St) (i : Nat) : Prop := s.2.getD i false = true
def star (K : Nat → Int) (i : Nat) : Bool := K i == 3 || K i == 4
def mark (s : St) (a : Nat) : St := (s.1.set a true, s.2.set a true)

theorem getDB_set (xs : List Bool) (i j : Nat) (hi : i < xs.length) : (xs.set i true).getD j false = true ↔ xs.getD j false = true ∨ j = i := by
  simp only [List.getD_eq_getElem?_getD, List.getElem?_set]
  split
  · subst_vars; simp [hi]
  · rename_i h; constructor
    · exact .inl
    · rintro (h' | h')
      · exact h'
      · exact absurd h'.symm h

section
variable (n : Nat) (K : Nat → Int) (S : Nat → Bool)

def ent (a : Nat) (s : St) : St :=
  if s.2.getD a false then s
  else if h : n ≤ a then mark s a
  else if star K a then ent (a + 1) (if S a then ent (a + 2) (mark s a) else mark s a)
  else (if S a then ent (a + 2) (mark s a) else mark s a)
termination_by n + 1 - a

/-- What entering does. -/
structure Ent (a : Nat) (s s' : St) : Prop where
  l1 : s'.1.length = s.1.length
  l2 : s'.2.length = s.2.length
  mE : ∀ i, InE s i → InE s' i
  at_ : InE s' a
  clo : ∀ i, i < n → InE s' i → ¬ InE s i → (S i = true → InE s' (i + 2)) ∧ (star K i = true → InE s' (i + 1))
  min : ∀ T : Nat → Prop, T a → (∀ i, i < n → T i → (S i = true → T (i + 2)) ∧ (star K i = true → T (i + 1))) → ∀ i, InE s' i → InE s i ∨ T i
  rch : ∀ i, InR s' i ↔ InR s i ∨ (InE s' i ∧ ¬ InE s i)

def Len (s : St) : Prop := s.1.length = n + 1 ∧ s.2.length = n + 1
theorem mark_E {s : St} (hl : Len n s) {a : Nat} (ha : a ≤ n) (i : Nat) : InE (mark s a) i ↔ InE s i ∨ i = a := getDB_set _ _ _ (by have := hl.2; omega)
theorem mark_R {s : St} (hl : Len n s) {a : Nat} (ha : a ≤ n) (i : Nat) : InR (mark s a) i ↔ InR s i ∨ i = a := getDB_set _ _ _ (by have := hl.1; omega)
theorem mark_len {s : St} (hl : Len n s) (a : Nat) : Len n (mark s a) := ⟨by simpa [mark] using hl.1, by simpa [mark] using hl.2⟩

theorem ent_spec (hS : ∀ i, i < n → S i = true → i + 2 ≤ n) : ∀ (m a : Nat) (s : St), n + 1 - a ≤ m → a ≤ n → Len n s → Ent n K S a s (ent n K S a s) := by
  intro m
  induction m with
  | zero => intro a s h1 h2; omega
  | succ m ih =>
    intro a s hm ha hl
    rw [ent]
    split
    · rename_i h
      exact ⟨rfl, rfl, fun i h => h, h, fun i _ h h' => absurd h h', fun T _ _ i h => .inl h, fun i => ⟨.inl, fun h => h.elim id fun h => absurd h.1 h.2⟩⟩
    · rename_i hna
      have hna' : ¬ InE s a := by simpa [InE] using hna
      have mE := mark_E n hl ha
      have mR := mark_R n hl ha
      have ml := mark_len n hl a
      split
      · rename_i hge
        obtain rfl : a = n := by omega
        refine ⟨by simp [mark], by simp [mark], fun i h => (mE i).2 (.inl h), (mE _).2 (.inr rfl), fun i hi h h' => ?_, fun T ht _ i h => ?_, fun i => ?_⟩
        · rcases (mE i).1 h with h2 | h2
          · exact absurd h2 h'
          · omega
        · rcases (mE i).1 h with h2 | h2
          · exact .inl h2
          · exact .inr (h2 ▸ ht)
        · rw [mR, mE]
          constructor
          · rintro (h | rfl)
            · exact .inl h
            · exact .inr ⟨.inr rfl, hna'⟩
          · rintro (h | ⟨h | h, h'⟩)
            · exact .inl h
            · exact absurd h h'
            · exact .inr h
      · rename_i hlt
        have hlt : a < n := by omega
        -- behind the skip
        have second : ∃ s2, (if S a then ent n K S (a + 2) (mark s a) else mark s a) = s2 ∧ Len n s2 ∧ (∀ i, InE (mark s a) i → InE s2 i) ∧ (S a = true → InE s2 (a + 2)) ∧
            (∀ i, i < n → InE s2 i → ¬ InE (mark s a) i → (S i = true → InE s2 (i + 2)) ∧ (star K i = true → InE s2 (i + 1))) ∧
            (∀ T : Nat → Prop, (S a = true → T (a + 2)) → (∀ i, i < n → T i → (S i = true → T (i + 2)) ∧ (star K i = true → T (i + 1))) → ∀ i, InE s2 i → InE (mark s a) i ∨ T i) ∧
            (∀ i, InR s2 i ↔ InR (mark s a) i ∨ (InE s2 i ∧ ¬ InE (mark s a) i)) := by
          by_cases hs : S a = true
          · have := ih (a + 2) (mark s a) (by omega) (hS a hlt hs) ml
            exact ⟨_, by rw [if_pos hs], ⟨by rw [this.l1]; exact ml.1, by rw [this.l2]; exact ml.2⟩, this.mE, fun _ => this.at_, this.clo, fun T h => this.min T (h hs), this.rch⟩
          · exact ⟨_, by rw [if_neg hs], ml, fun i h => h, fun h => absurd h hs, fun i _ h h' => absurd h h', fun T _ _ i h => .inl h, fun i => ⟨.inl, fun h => h.elim id fun h => absurd h.1 h.2⟩⟩
        obtain ⟨s2, e2, l2, m2, at2, c2, min2, r2⟩ := second
        rw [e2]
        have third : ∃ s3, (if star K a = true then ent n K S (a + 1) s2 else s2) = s3 ∧ Len n s3 ∧ (∀ i, InE s2 i → InE s3 i) ∧ (star K a = true → InE s3 (a + 1)) ∧
            (∀ i, i < n → InE s3 i → ¬ InE s2 i → (S i = true → InE s3 (i + 2)) ∧ (star K i = true → InE s3 (i + 1))) ∧
            (∀ T : Nat → Prop, (star K a = true → T (a + 1)) → (∀ i, i < n → T i → (S i = true → T (i + 2)) ∧ (star K i = true → T (i + 1))) → ∀ i, InE s3 i → InE s2 i ∨ T i) ∧
            (∀ i, InR s3 i ↔ InR s2 i ∨ (InE s3 i ∧ ¬ InE s2 i)) := by
          by_cases hs : star K a = true
          · have := ih (a + 1) s2 (by omega) (by omega) l2
            exact ⟨_, by rw [if_pos hs], ⟨by rw [this.l1]; exact l2.1, by rw [this.l2]; exact l2.2⟩, this.mE, fun _ => this.at_, this.clo, fun T h => this.min T (h hs), this.rch⟩
          · exact ⟨_, by rw [if_neg hs], l2, fun i h => h, fun h => absurd h hs, fun i _ h h' => absurd h h', fun T _ _ i h => .inl h, fun i => ⟨.inl, fun h => h.elim id fun h => absurd h.1 h.2⟩⟩
        obtain ⟨s3, e3, l3, m3, at3, c3, min3, r3⟩ := third
        rw [e3]
        refine ⟨by rw [l3.1, hl.1], by rw [l3.2, hl.2], fun i h => m3 i (m2 i ((mE i).2 (.inl h))), m3 a (m2 a ((mE a).2 (.inr rfl))), fun i hi h h' => ?_, fun T ht hc i h => ?_, fun i => ?_⟩
        · by_cases hia : i = a
          · subst hia; exact ⟨fun h => m3 _ (at2 h), at3⟩
          by_cases h2 : InE s2 i
          · have := c2 i hi h2 (by rw [mE]; exact fun q => q.elim h' hia)
            exact ⟨fun h => m3 _ (this.1 h), fun h => m3 _ (this.2 h)⟩
          · exact c3 i hi h h2
        · have hh := hc a hlt ht
          rcases min3 T hh.2 hc i h with h2 | h2
          · rcases min2 T hh.1 hc i h2 with h1 | h1
            · rcases (mE i).1 h1 with h0 | h0
              · exact .inl h0
              · exact .inr (h0 ▸ ht)
            · exact .inr h1
          · exact .inr h2
        · rw [r3, r2, mR]
          have e1 := mE i
          have g2 := m2 i
          have g3 := m3 i
          by_cases q0 : InE s i <;> by_cases q1 : i = a <;> by_cases q2 : InE s2 i <;> by_cases q3 : InE s3 i <;> simp_all

/-! ### The forward reading -/
variable (B : Nat → Int) (hasC : Nat → Int → Bool) (fold : Int → Int)
def stay (k : Nat) (s : St) : St := ent n K S (k + 1) (s.1.set k true, s.2)
def trans (c : Int) (k : Nat) (s : St) : St :=
  if K k == 0 then (if fold c == B k then ent n K S (k + 1) s else s)
  else if K k == 1 then (if c != 47 then ent n K S (k + 1) s else s)
  else if K k == 2 then (if hasC k c then ent n K S (k + 1) s else s)
  else if K k == 3 then (if c != 47 then stay n K S k s else s)
  else if K k == 4 then stay n K S k s else s
def none' : St := (List.replicate (n + 1) false, List.replicate (n + 1) false)
def sweep (cr : List Bool) (c : Int) : Nat → St
  | 0 => none' n
  | k + 1 => if cr.getD k false then trans n K S B hasC fold c k (sweep cr c k) else sweep cr c k
def fwd (text : Nat → Int) : Nat → St
  | 0 => ent n K S 0 (none' n)
  | p + 1 => sweep n K S B hasC fold (fwd text p).1 (text p) n

/-! ### The backward table -/
def cF (rd : Nat → Bool) (e : Bool) (i : Nat) : Bool := if i < n then (rd i || (star K i && cF rd e (i + 1))) || (S i && cF rd e (i + 2)) else e
termination_by n - i
def cC (rd : Nat → Bool) (e : Bool) (i : Nat) : Bool := if i < n then rd i || (star K i && cF n K S rd e (i + 1)) else e
def trd (c : Int) (nF nC : Nat → Bool) (i : Nat) : Bool :=
  if K i == 0 then fold c == B i && nF (i + 1)
  else if K i == 1 then c != 47 && nF (i + 1)
  else if K i == 2 then hasC i c && nF (i + 1)
  else if K i == 3 then c != 47 && nC i
  else if K i == 4 then nC i else false
/-- the row at 'q' bytes from the end -/
def rows (text : Nat → Int) (L : Nat) : Nat → (Nat → Bool) × (Nat → Bool)
  | 0 => (cF n K S (fun _ => false) true, cC n K S (fun _ => false) true)
  | q + 1 => (cF n K S (trd K B hasC fold (text (L - (q + 1))) (rows text L q).1 (rows text L q).2) false, cC n K S (trd K B hasC fold (text (L - (q + 1))) (rows text L q).1 (rows text L q).2) false)
end

section
variable {n : Nat} {K : Nat → Int} {S : Nat → Bool} {B : Nat → Int} {hasC : Nat → Int → Bool} {fold : Int → Int}

structure Clo (n : Nat) (K : Nat → Int) (S : Nat → Bool) (s : St) : Prop where
  len : Len n s
  lnk : ∀ i, i < n → InE s i → (S i = true → InE s (i + 2)) ∧ (star K i = true → InE s (i + 1))
  sub : ∀ i, InE s i → InR s i
  sta : ∀ i, i < n → InR s i → star K i = true → InE s (i + 1)

theorem none_E (i : Nat) : ¬ InE (none' n) i := by simp [InE, none', List.getD_eq_getElem?_getD, List.getElem?_replicate]; split <;> simp
theorem none_R (i : Nat) : ¬ InR (none' n) i := by simp [InR, none', List.getD_eq_getElem?_getD, List.getElem?_replicate]; split <;> simp
theorem Clo.none : Clo n K S (none' n) := ⟨by simp [Len, none'], fun i _ h => absurd h (none_E i), fun i h => absurd h (none_E i), fun i _ h => absurd h (none_R i)⟩

theorem Clo.ent (hS : ∀ i, i < n → S i = true → i + 2 ≤ n) {s : St} (h : Clo n K S s) {a : Nat} (ha : a ≤ n) : Clo n K S (ent n K S a s) ∧ Ent n K S a s (ent n K S a s) := by
  have E := ent_spec n K S hS (n + 1) a s (by omega) ha h.len
  refine ⟨⟨⟨by rw [E.l1]; exact h.len.1, by rw [E.l2]; exact h.len.2⟩, fun i hi h1 => ?_, fun i h1 => ?_, fun i hi h1 h2 => ?_⟩, E⟩
  · by_cases h0 : InE s i
    · have := h.lnk i hi h0
      exact ⟨fun q => E.mE _ (this.1 q), fun q => E.mE _ (this.2 q)⟩
    · exact E.clo i hi h1 h0
  · rw [E.rch]
    by_cases h0 : InE s i
    · exact .inl (h.sub i h0)
    · exact .inr ⟨h1, h0⟩
  · rcases (E.rch i).1 h1 with h0 | ⟨h0, h0'⟩
    · exact E.mE _ (h.sta i hi h0 h2)
    · exact (E.clo i hi h0 h0').2 h2

theorem Clo.stay (hS : ∀ i, i < n → S i = true → i + 2 ≤ n) {s : St} (h : Clo n K S s) {k : Nat} (hk : k < n) : Clo n K S (stay n K S k s) ∧ Ent n K S (k + 1) (s.1.set k true, s.2) (stay n K S k s) := by
  have hl : Len n (s.1.set k true, s.2) := ⟨by simpa using h.len.1, h.len.2⟩
  have E := ent_spec n K S hS (n + 1) (k + 1) (s.1.set k true, s.2) (by omega) (by omega) hl
  have eR : ∀ i, InR (s.1.set k true, s.2) i ↔ InR s i ∨ i = k := fun i => getDB_set _ _ _ (by have := h.len.1; omega)
  have eE : ∀ i, InE (s.1.set k true, s.2) i ↔ InE s i := fun i => Iff.rfl
  refine ⟨⟨⟨by unfold Qxb6601738a.stay; rw [E.l1]; exact hl.1, by unfold Qxb6601738a.stay; rw [E.l2]; exact hl.2⟩, fun i hi h1 => ?_, fun i h1 => ?_, fun i hi h1 h2 => ?_⟩, E⟩
  · by_cases h0 : InE s i
    · have := h.lnk i hi h0
      exact ⟨fun q => E.mE _ (this.1 q), fun q => E.mE _ (this.2 q)⟩
    · exact E.clo i hi h1 h0
  · refine (E.rch i).2 ?_
    by_cases h0 : InE s i
    · exact .inl ((eR i).2 (.inl (h.sub i h0)))
    · exact .inr ⟨h1, h0⟩
  · rcases (E.rch i).1 h1 with h0 | ⟨h0, h0'⟩
    · rcases (eR i).1 h0 with h3 | rfl
      · exact E.mE _ (h.sta i hi h3 h2)
      · exact E.at_
    · exact (E.clo i hi h0 h0').2 h2

/-! ### Climbing to a byte that is read -/
theorem cF_eq (rd : Nat → Bool) (e : Bool) (i : Nat) : cF n K S rd e i = if i < n then (cC n K S rd e i || (S i && cF n K S rd e (i + 2))) else e := by
  rw [cF]
  split
  · rename_i h; simp [cC, h]
  · rfl
theorem climb (hS : ∀ i, i < n → S i = true → i + 2 ≤ n) {s : St} (h : Clo n K S s) (rd : Nat → Bool) (e : Bool) : ∀ (m i : Nat), n - i ≤ m → i ≤ n → InE s i → cF n K S rd e i = true →
    ∃ j, j ≤ n ∧ InR s j ∧ ((j < n ∧ rd j = true) ∨ (j = n ∧ e = true)) := by
  intro m
  induction m with
  | zero =>
    intro i hm hi hE hF
    obtain rfl : i = n := by omega
    rw [cF, if_neg (by omega)] at hF
    exact ⟨i, hi, h.sub i hE, .inr ⟨rfl, hF⟩⟩
  | succ m ih =>
    intro i hm hi hE hF
    rw [cF] at hF
    split at hF
    · rename_i hlt
      simp only [Bool.or_eq_true, Bool.and_eq_true] at hF
      rcases hF with (h1 | ⟨h1, h2⟩) | ⟨h1, h2⟩
      · exact ⟨i, hi, h.sub i hE, .inl ⟨hlt, h1⟩⟩
      · exact ih (i + 1) (by omega) (by omega) ((h.lnk i hlt hE).2 h1) h2
      · exact ih (i + 2) (by omega) (hS i hlt h1) ((h.lnk i hlt hE).1 h1) h2
    · rename_i hlt
      obtain rfl : i = n := by omega
      exact ⟨i, hi, h.sub i hE, .inr ⟨rfl, hF⟩⟩
theorem alive (hS : ∀ i, i < n → S i = true → i + 2 ≤ n) {s : St} (h : Clo n K S s) (rd : Nat → Bool) (e : Bool) :
    (∃ i, i ≤ n ∧ InR s i ∧ cC n K S rd e i = true) ↔ ∃ j, j ≤ n ∧ InR s j ∧ ((j < n ∧ rd j = true) ∨ (j = n ∧ e = true)) := by
  constructor
  · rintro ⟨i, hi, hR, hC⟩
    rw [cC] at hC
    split at hC
    · rename_i hlt
      simp only [Bool.or_eq_true, Bool.and_eq_true] at hC
      rcases hC with h1 | ⟨h1, h2⟩
      · exact ⟨i, hi, hR, .inl ⟨hlt, h1⟩⟩
      · exact climb hS h rd e n (i + 1) (by omega) (by omega) (h.sta i hlt hR h1) h2
    · exact ⟨i, hi, hR, .inr ⟨by omega, hC⟩⟩
  · rintro ⟨j, hj, hR, ⟨hlt, h1⟩ | ⟨rfl, h1⟩⟩
    · exact ⟨j, hj, hR, by rw [cC, if_pos hlt, h1]; rfl⟩
    · exact ⟨j, hj, hR, by rw [cC, if_neg (by omega)]; exact h1⟩

/-! ### One byte -/
theorem trans_clo (hS : ∀ i, i < n → S i = true → i + 2 ≤ n) (c : Int) {k : Nat} (hk : k < n) {s : St} (h : Clo n K S s) : Clo n K S (trans n K S B hasC fold c k s) := by
  have h1 := (h.ent hS (a := k + 1) (by omega)).1
  have h2 := (h.stay hS hk).1
  unfold trans
  repeat' split
  all_goals assumption
theorem sweep_clo (hS : ∀ i, i < n → S i = true → i + 2 ≤ n) (cr : List Bool) (c : Int) : ∀ k, k ≤ n → Clo n K S (sweep n K S B hasC fold cr c k)
  | 0, _ => Clo.none
  | k + 1, h => by
    have := sweep_clo hS cr c k (by omega)
    simp only [sweep]
    split
    · exact trans_clo hS c h this
    · exact this

def Snd (n : Nat) (F C : Nat → Bool) (Φ : Prop) (s : St) : Prop := (∀ i, InE s i → F i = true → Φ) ∧ (∀ i, i ≤ n → InR s i → C i = true → Φ)

theorem snd_ent (hS : ∀ i, i < n → S i = true → i + 2 ≤ n) {rd : Nat → Bool} {e : Bool} {Φ : Prop} {s s' : St} {a : Nat} (E : Ent n K S a s s') (h : Snd n (cF n K S rd e) (cC n K S rd e) Φ s) (ha : cF n K S rd e a = true → Φ) :
    Snd n (cF n K S rd e) (cC n K S rd e) Φ s' := by
  have key : ∀ i, InE s' i → cF n K S rd e i = true → Φ := by
    intro i hi hF
    have hl : ∀ i, i < n → (cF n K S rd e i = true → Φ) → (S i = true → cF n K S rd e (i + 2) = true → Φ) ∧ (star K i = true → cF n K S rd e (i + 1) = true → Φ) := by
      intro i hi hT
      refine ⟨fun hs h2 => hT ?_, fun hs h2 => hT ?_⟩
      · rw [cF, if_pos hi, hs, h2]; simp
      · rw [cF, if_pos hi, hs, h2]; simp
    rcases E.min (fun i => cF n K S rd e i = true → Φ) ha hl i hi with h1 | h1
    · exact h.1 i h1 hF
    · exact h1 hF
  refine ⟨key, fun i hi hR hC => ?_⟩
  rcases (E.rch i).1 hR with h1 | ⟨h1, _⟩
  · exact h.2 i hi h1 hC
  · refine key i h1 ?_
    rw [cF_eq]
    split
    · rw [hC]; rfl
    · rw [cC, if_neg (by assumption)] at hC; exact hC

theorem trans_snd (hS : ∀ i, i < n → S i = true → i + 2 ≤ n) (c : Int) {rd : Nat → Bool} {e : Bool} {Φ : Prop} {k : Nat} (hk : k < n) {s : St} (hc : Clo n K S s) (h : Snd n (cF n K S rd e) (cC n K S rd e) Φ s)
    (hΦ : trd K B hasC fold c (cF n K S rd e) (cC n K S rd e) k = true → Φ) : Snd n (cF n K S rd e) (cC n K S rd e) Φ (trans n K S B hasC fold c k s) := by
  have he := (hc.ent hS (a := k + 1) (by omega)).2
  have hst : ∀ (hs : star K k = true) (hT : cC n K S rd e k = true → Φ), Snd n (cF n K S rd e) (cC n K S rd e) Φ (stay n K S k s) := by
    intro hs hT
    refine snd_ent hS (hc.stay hS hk).2 ⟨h.1, fun i hi hR hC => ?_⟩ (fun hF => hT ?_)
    · rcases (getDB_set s.1 k i (by have := hc.len.1; omega)).1 hR with h1 | rfl
      · exact h.2 i hi h1 hC
      · exact hT hC
    · rw [cC, if_pos hk, hs, hF]; simp
  unfold trd at hΦ
  unfold trans
  split
  · rename_i h0
    rw [if_pos h0] at hΦ
    split
    · rename_i h1; exact snd_ent hS he h fun hF => hΦ (by rw [h1, hF]; rfl)
    · exact h
  rename_i h0
  rw [if_neg h0] at hΦ
  split
  · rename_i h0
    rw [if_pos h0] at hΦ
    split
    · rename_i h1; exact snd_ent hS he h fun hF => hΦ (by rw [h1, hF]; rfl)
    · exact h
  rename_i h0
  rw [if_neg h0] at hΦ
  split
  · rename_i h0
    rw [if_pos h0] at hΦ
    split
    · rename_i h1; exact snd_ent hS he h fun hF => hΦ (by rw [h1, hF]; rfl)
    · exact h
  rename_i h0
  rw [if_neg h0] at hΦ
  split
  · rename_i h0
    rw [if_pos h0] at hΦ
    split
    · rename_i h1; exact hst (by simp only [star, h0, Bool.true_or]) fun hC => hΦ (by rw [h1, hC]; rfl)
    · exact h
  rename_i h0
  rw [if_neg h0] at hΦ
  split
  · rename_i h0
    rw [if_pos h0] at hΦ
    exact hst (by simp only [star, h0, Bool.or_true]) hΦ
  · exact h

theorem trans_mono (hS : ∀ i, i < n → S i = true → i + 2 ≤ n) (c : Int) {k : Nat} (hk : k < n) {s : St} (hc : Clo n K S s) : (∀ i, InE s i → InE (trans n K S B hasC fold c k s) i) ∧ (∀ i, InR s i → InR (trans n K S B hasC fold c k s) i) := by
  have he := (hc.ent hS (a := k + 1) (by omega)).2
  have hs := (hc.stay hS hk).2
  have h1 : (∀ i, InE s i → InE (ent n K S (k + 1) s) i) ∧ (∀ i, InR s i → InR (ent n K S (k + 1) s) i) := ⟨he.mE, fun i h => (he.rch i).2 (.inl h)⟩
  have h2 : (∀ i, InE s i → InE (stay n K S k s) i) ∧ (∀ i, InR s i → InR (stay n K S k s) i) := ⟨fun i h => hs.mE i h, fun i h => (hs.rch i).2 (.inl ((getDB_set s.1 k i (by have := hc.len.1; omega)).2 (.inl h)))⟩
  have h3 : (∀ i, InE s i → InE s i) ∧ (∀ i, InR s i → InR s i) := ⟨fun _ h => h, fun _ h => h⟩
  unfold trans
  repeat' split
  all_goals assumption

theorem sweep_snd (hS : ∀ i, i < n → S i = true → i + 2 ≤ n) (s : St) (c : Int) {rd : Nat → Bool} {e : Bool} : ∀ k, k ≤ n →
    Snd n (cF n K S rd e) (cC n K S rd e) (∃ j, j < n ∧ InR s j ∧ trd K B hasC fold c (cF n K S rd e) (cC n K S rd e) j = true) (sweep n K S B hasC fold s.1 c k)
  | 0, _ => ⟨fun i h => absurd h (none_E i), fun i _ h => absurd h (none_R i)⟩
  | k + 1, h => by
    have ih := sweep_snd hS s c (rd := rd) (e := e) k (by omega)
    have hc := sweep_clo (K := K) (B := B) (hasC := hasC) (fold := fold) hS s.1 c k (by omega)
    simp only [sweep]
    split
    · rename_i hR
      exact trans_snd hS c h hc ih fun ht => ⟨k, h, hR, ht⟩
    · exact ih

theorem sweep_mono (hS : ∀ i, i < n → S i = true → i + 2 ≤ n) (cr : List Bool) (c : Int) (k : Nat) : ∀ m, k + m ≤ n → (∀ i, InE (sweep n K S B hasC fold cr c k) i → InE (sweep n K S B hasC fold cr c (k + m)) i) ∧ (∀ i, InR (sweep n K S B hasC fold cr c k) i → InR (sweep n K S B hasC fold cr c (k + m)) i)
  | 0, _ => ⟨fun _ h => h, fun _ h => h⟩
  | m + 1, h => by
    have ih := sweep_mono hS cr c k m (by omega)
    have hc := sweep_clo (K := K) (B := B) (hasC := hasC) (fold := fold) hS cr c (k + m) (by omega)
    rw [show k + (m + 1) = (k + m) + 1 by omega]
    simp only [sweep]
    split
    · have := trans_mono (B := B) (hasC := hasC) (fold := fold) hS c (k := k + m) (by omega) hc
      exact ⟨fun i q => this.1 i (ih.1 i q), fun i q => this.2 i (ih.2 i q)⟩
    · exact ih

theorem step_iff (hS : ∀ i, i < n → S i = true → i + 2 ≤ n) {s : St} (hs : Clo n K S s) (c : Int) (rd : Nat → Bool) (e : Bool) :
    (∃ i, i ≤ n ∧ InR s i ∧ cC n K S (trd K B hasC fold c (cF n K S rd e) (cC n K S rd e)) false i = true) ↔ (∃ i, i ≤ n ∧ InR (sweep n K S B hasC fold s.1 c n) i ∧ cC n K S rd e i = true) := by
  rw [alive hS hs]
  have hcl := sweep_clo (K := K) (B := B) (hasC := hasC) (fold := fold) hS s.1 c n (Nat.le_refl _)
  constructor
  · rintro ⟨j, hj, hR, ⟨hlt, ht⟩ | ⟨_, h⟩⟩
    rotate_left
    · cases h
    have hck := sweep_clo (K := K) (B := B) (hasC := hasC) (fold := fold) hS s.1 c j hj
    have hm := sweep_mono (K := K) (B := B) (hasC := hasC) (fold := fold) hS s.1 c (j + 1) (n - (j + 1)) (by omega)
    rw [show j + 1 + (n - (j + 1)) = n by omega] at hm
    have hstep : sweep n K S B hasC fold s.1 c (j + 1) = trans n K S B hasC fold c j (sweep n K S B hasC fold s.1 c j) := by simp only [sweep]; exact if_pos hR
    have goE : ∀ (hF : cF n K S rd e (j + 1) = true) (hE : InE (sweep n K S B hasC fold s.1 c (j + 1)) (j + 1)), ∃ i, i ≤ n ∧ InR (sweep n K S B hasC fold s.1 c n) i ∧ cC n K S rd e i = true := by
      intro hF hE
      rw [alive hS hcl]
      exact climb hS hcl rd e n (j + 1) (by omega) (by omega) (hm.1 _ hE) hF
    have goR : ∀ (hC : cC n K S rd e j = true) (hE : InR (sweep n K S B hasC fold s.1 c (j + 1)) j), ∃ i, i ≤ n ∧ InR (sweep n K S B hasC fold s.1 c n) i ∧ cC n K S rd e i = true :=
      fun hC hE => ⟨j, hj, hm.2 _ hE, hC⟩
    rw [hstep] at goE goR
    have eAt := (hck.ent hS (a := j + 1) (by omega)).2.at_
    have sAt : InR (stay n K S j (sweep n K S B hasC fold s.1 c j)) j := ((hck.stay hS hlt).2.rch j).2 (.inl ((getDB_set _ j j (by have := hck.len.1; omega)).2 (.inr rfl)))
    unfold trd at ht
    unfold trans at goE goR
    split at ht
    · rename_i h0
      simp only [Bool.and_eq_true] at ht
      exact goE ht.2 (by rw [if_pos h0, if_pos ht.1]; exact eAt)
    rename_i h0
    rw [if_neg h0] at goE goR
    split at ht
    · rename_i h0
      simp only [Bool.and_eq_true] at ht
      exact goE ht.2 (by rw [if_pos h0, if_pos ht.1]; exact eAt)
    rename_i h0
    rw [if_neg h0] at goE goR
    split at ht
    · rename_i h0
      simp only [Bool.and_eq_true] at ht
      exact goE ht.2 (by rw [if_pos h0, if_pos ht.1]; exact eAt)
    rename_i h0
    rw [if_neg h0] at goE goR
    split at ht
    · rename_i h0
      simp only [Bool.and_eq_true] at ht
      exact goR ht.2 (by rw [if_pos h0, if_pos ht.1]; exact sAt)
    rename_i h0
    rw [if_neg h0] at goE goR
    split at ht
    · rename_i h0
      exact goR ht (by rw [if_pos h0]; exact sAt)
    · cases ht
  · rintro ⟨i, hi, hR, hC⟩
    obtain ⟨j, hj, hjR, hjt⟩ := (sweep_snd (K := K) (B := B) (hasC := hasC) (fold := fold) hS s c (rd := rd) (e := e) n (Nat.le_refl _)).2 i hi hR hC
    exact ⟨j, by omega, hjR, .inl ⟨hj, hjt⟩⟩

/-! ### The law -/
theorem rows_form (text : Nat → Int) (L : Nat) : ∀ q, ∃ rd e, rows n K S B hasC fold text L q = (cF n K S rd e, cC n K S rd e)
  | 0 => ⟨_, _, rfl⟩
  | q + 1 => ⟨_, _, rfl⟩
theorem fwd_clo (hS : ∀ i, i < n → S i = true → i + 2 ≤ n) (text : Nat → Int) : ∀ p, Clo n K S (fwd n K S B hasC fold text p)
  | 0 => (Clo.none.ent hS (a := 0) (by omega)).1
  | p + 1 => sweep_clo hS _ _ n (Nat.le_refl _)
theorem fwd_alive (hS : ∀ i, i < n → S i = true → i + 2 ≤ n) (text : Nat → Int) (L : Nat) : ∀ p, p ≤ L →
    ((rows n K S B hasC fold text L L).1 0 = true ↔ ∃ i, i ≤ n ∧ InR (fwd n K S B hasC fold text p) i ∧ (rows n K S B hasC fold text L (L - p)).2 i = true)
  | 0, _ => by
    obtain ⟨rd, e, hr⟩ := rows_form (n := n) (K := K) (S := S) (B := B) (hasC := hasC) (fold := fold) text L L
    have hc := fwd_clo (K := K) (B := B) (hasC := hasC) (fold := fold) hS text 0
    have hE := (Clo.none.ent (n := n) (K := K) (S := S) hS (a := 0) (by omega)).2
    rw [Nat.sub_zero, hr]
    constructor
    · intro h
      rw [alive hS hc]
      exact climb hS hc rd e n 0 (by omega) (by omega) hE.at_ h
    · rintro ⟨i, hi, hR, hC⟩
      have := snd_ent hS hE (rd := rd) (e := e) (Φ := cF n K S rd e 0 = true) ⟨fun i h => absurd h (none_E i), fun i _ h => absurd h (none_R i)⟩ id
      exact this.2 i hi hR hC
  | p + 1, h => by
    have ih := fwd_alive hS text L p (by omega)
    rw [ih]
    have hc := fwd_clo (K := K) (B := B) (hasC := hasC) (fold := fold) hS text p
    rw [show L - p = (L - (p + 1)) + 1 by omega]
    obtain ⟨rd, e, hr⟩ := rows_form (n := n) (K := K) (S := S) (B := B) (hasC := hasC) (fold := fold) text L (L - (p + 1))
    simp only [rows, hr, fwd]
    rw [show L - (L - (p + 1) + 1) = p by omega]
    exact step_iff hS hc (text p) rd e
/-- The glob read forward answers as the table does. -/
theorem glob_law (hS : ∀ i, i < n → S i = true → i + 2 ≤ n) (text : Nat → Int) (L : Nat) : (fwd n K S B hasC fold text L).1.getD n false = (rows n K S B hasC fold text L L).1 0 := by
  have h := fwd_alive (K := K) (B := B) (hasC := hasC) (fold := fold) hS text L L (Nat.le_refl _)
  have hc := fwd_clo (K := K) (B := B) (hasC := hasC) (fold := fold) hS text L
  rw [Nat.sub_self] at h
  simp only [rows] at h
  rw [alive hS hc] at h
  have h2 : InR (fwd n K S B hasC fold text L) n ↔ (rows n K S B hasC fold text L L).1 0 = true := by
    rw [h]
    constructor
    · intro hR; exact ⟨n, Nat.le_refl _, hR, .inr ⟨rfl, rfl⟩⟩
    · rintro ⟨j, hj, hR, ⟨_, h⟩ | ⟨rfl, _⟩⟩
      · cases h
      · exact hR
  exact Bool.eq_iff_iff.2 h2
end
end Go.Proofs.Qxb6601738a
