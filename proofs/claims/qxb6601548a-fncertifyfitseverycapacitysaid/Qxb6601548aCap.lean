import Derived.Test.Qxb6601548aLawC
namespace Go.Proofs.Qxb6601548a

/-! ### The sums that certify builds, edge by edge -/
def occ (mem : Nat → List Nat) (i : Nat) : Nat → List Nat
  | 0 => []
  | k + 1 => occ mem i k ++ List.replicate ((mem k).count i) k

theorem accum_get (l : List Nat) (v i : Nat) : ∀ ld : List Nat, i < ld.length → (accum ld l v).getD i 0 = (List.replicate (l.count i) v).foldl addF (ld.getD i 0) := by
  unfold accum
  induction l with
  | nil => intro ld h; simp
  | cons e r ih =>
    intro ld h
    rw [List.foldl_cons, ih _ (by simpa using h)]
    by_cases he : e = i
    · subst he
      rw [List.count_cons_self, List.replicate_succ, List.foldl_cons]
      congr 1
      simp [List.getD_eq_getElem?_getD, h]
    · rw [List.count_cons_of_ne (by simpa using he)]
      congr 1
      simp [List.getD_eq_getElem?_getD, List.getElem?_set_ne he]

theorem loads_get (e : Nat) (mem : Nat → List Nat) (sh : Nat → Nat) (i : Nat) (hi : i < e) : ∀ k, (loads e mem sh k).getD i 0 = ((occ mem i k).map sh).foldl addF 0 := by
  intro k
  induction k with
  | zero => simp [loads, occ, List.getD_eq_getElem?_getD, hi]
  | succ k ih =>
    rw [loads, accum_get _ _ _ _ (by rw [loads_len]; exact hi), ih, occ, List.map_append, List.foldl_append, List.map_replicate]

theorem occ_mem (mem : Nat → List Nat) (i : Nat) : ∀ k s, s ∈ occ mem i k → s < k ∧ i ∈ mem s := by
  intro k
  induction k with
  | zero => intro s h; cases h
  | succ k ih =>
    intro s h
    rcases List.mem_append.1 h with h | h
    · have := ih s h; exact ⟨by omega, this.2⟩
    · obtain ⟨h1, h2⟩ := List.mem_replicate.1 h
      subst h2
      exact ⟨by omega, List.count_pos_iff.1 (by omega)⟩

theorem occ_len (ms es : List Int) (N : Nat) (hE : Ends es N) (i : Nat) : ∀ k, k ≤ es.length → (occ (memOf ms es) i k).length ≤ bnd es k := by
  intro k
  induction k with
  | zero => intro _; simp [occ]
  | succ k ih =>
    intro hk
    have h1 := ih (by omega)
    have h2 := (hE k (by omega)).2.1
    have h3 : (memOf ms es k).count i ≤ (memOf ms es k).length := List.count_le_length
    have h4 : (memOf ms es k).length ≤ bnd es (k + 1) - bnd es k := by simp [memOf]; omega
    rw [occ, List.length_append, List.length_replicate]
    omega

/-! ### Sums of floats -/
def vs (l : List Nat) : Nat := (l.map val).sum
theorem vs_cons (y : Nat) (l : List Nat) : vs (y :: l) = val y + vs l := by simp [vs]

theorem fold_inf : ∀ l : List Nat, (∀ y ∈ l, y ≤ INF) → l.foldl addF INF = INF
  | [], _ => rfl
  | y :: l, h => by rw [List.foldl_cons, addF_infl (h y List.mem_cons_self)]; exact fold_inf l fun z hz => h z (List.mem_cons_of_mem _ hz)
theorem fold_nn : ∀ (l : List Nat) (x : Nat), (∀ y ∈ l, y ≤ INF) → x ≤ INF → l.foldl addF x ≤ INF
  | [], _, _, hx => hx
  | y :: l, x, h, hx => by rw [List.foldl_cons]; exact fold_nn l _ (fun z hz => h z (List.mem_cons_of_mem _ hz)) (add_some hx (h y List.mem_cons_self)).2

theorem low_sum : ∀ (l : List Nat) (x R : Nat), (∀ y ∈ l, y < INF) → x < INF → l.foldl addF x = R → R < INF →
    val x ≤ val R ∧ 9007199254740992 * (val x + vs l) ≤ 9007199254740992 * val R + l.length * (2 * val R)
  | [], x, R, _, hx, h, hR => by
    have : x = R := h
    subst this
    simp [vs]
  | y :: l, x, R, hl, hx, h, hR => by
    rw [List.foldl_cons] at h
    have hy := hl y List.mem_cons_self
    have hl' : ∀ z ∈ l, z < INF := fun z hz => hl z (List.mem_cons_of_mem _ hz)
    obtain ⟨r, h1, h2, h3, h4, h5⟩ := addF_spec hx hy
    have hx1 : addF x y < INF := by
      rcases Nat.lt_or_ge (addF x y) INF with h' | h'
      · exact h'
      · have hle := (add_some (Nat.le_of_lt hx) (Nat.le_of_lt hy)).2
        have : addF x y = INF := by omega
        rw [this, fold_inf l fun z hz => Nat.le_of_lt (hl' z hz)] at h
        omega
    have hr : addF x y = r := by omega
    rw [hr] at h hx1
    obtain ⟨i1, i2⟩ := low_sum l r R hl' hx1 h hR
    have h6 := val_le (h5 x (by omega))
    rw [vs_cons, List.length_cons, Nat.succ_mul l.length]
    generalize l.length * (2 * val R) = T at *
    refine ⟨by omega, by omega⟩

theorem up_sum : ∀ (l : List Nat) (x W : Nat), (∀ y ∈ l, y < INF) → W < INF → x ≤ W → 9007199254740992 * (val x + vs l) + l.length * (2 * val W) ≤ 9007199254740992 * val W → l.foldl addF x ≤ W
  | [], x, W, _, _, h, _ => h
  | y :: l, x, W, hl, hW, hx, h => by
    have hy := hl y List.mem_cons_self
    have hl' : ∀ z ∈ l, z < INF := fun z hz => hl z (List.mem_cons_of_mem _ hz)
    obtain ⟨r, h1, h2, h3, h4, h5⟩ := addF_spec (show x < INF by omega) hy
    rw [vs_cons, List.length_cons, Nat.succ_mul l.length] at h
    generalize hT : l.length * (2 * val W) = T at *
    have hr : r ≤ W := h4 W (by omega)
    have he : addF x y = r := by omega
    rw [List.foldl_cons, he]
    refine up_sum l r W hl' hW hr ?_
    rw [hT]
    omega

theorem vs_zero {l : List Nat} (h : vs l = 0) : ∀ y ∈ l, y = 0 := by
  induction l with
  | nil => intro y hy; cases hy
  | cons a l ih =>
    rw [vs_cons] at h
    intro y hy
    rcases List.mem_cons.1 hy with h1 | h1
    · subst h1
      rcases Nat.eq_zero_or_pos y with h2 | h2
      · exact h2
      · have := val_pos h2; omega
    · exact ih (by omega) y h1
theorem zero_vs {l : List Nat} (h : ∀ y ∈ l, y = 0) : vs l = 0 := by
  induction l with
  | nil => rfl
  | cons a l ih =>
    rw [vs_cons, h a List.mem_cons_self, val_zero, ih fun y hy => h y (List.mem_cons_of_mem _ hy)]
theorem zero_fold {l : List Nat} (h : ∀ y ∈ l, y = 0) : l.foldl addF 0 = 0 := by
  have := up_sum l 0 0 (fun y hy => by rw [h y hy]; unfold INF; omega) (by unfold INF; omega) (Nat.le_refl _) (by rw [val_zero, zero_vs h]; omega)
  omega

theorem mul_sum (sh c : Nat → Nat) (K : Nat) : ∀ o : List Nat, (∀ s ∈ o, sh s < INF ∧ c s < INF ∧ val (c s) ≤ K) →
    9007199254740992 * (vs (o.map fun s => mulF (sh s) (c s)) * G) ≤ 9007199254740993 * (vs (o.map sh) * K) + o.length * (4503599627370496 * G) := by
  intro o
  induction o with
  | nil => intro _; simp [vs]
  | cons s o ih =>
    intro h
    obtain ⟨h1, h2, h3⟩ := h s List.mem_cons_self
    have h4 := ih fun t ht => h t (List.mem_cons_of_mem _ ht)
    obtain ⟨r, e, h5, _⟩ := mulF_spec h1 h2
    have h6 : val (mulF (sh s) (c s)) * G ≤ val r * G := Nat.mul_le_mul_right _ (val_le (by omega))
    have h7 : val (sh s) * val (c s) ≤ val (sh s) * K := Nat.mul_le_mul_left _ h3
    rw [List.map_cons, List.map_cons, vs_cons, vs_cons, List.length_cons, Nat.succ_mul o.length, Nat.add_mul (val _), Nat.add_mul (val _)]
    generalize o.length * (4503599627370496 * G) = T at *
    generalize vs (o.map fun s => mulF (sh s) (c s)) * G = X1 at *
    generalize vs (o.map sh) * K = X2 at *
    generalize val (mulF (sh s) (c s)) * G = X3 at *
    generalize val r * G = X4 at *
    generalize val (sh s) * val (c s) = X5 at *
    generalize val (sh s) * K = X6 at *
    generalize G = g at *
    omega

theorem cSetI_le (cut : Nat → Nat) (i : Nat) : ∀ (l : List Nat) (c : Nat), l.foldl (fun c e => min c (mulF (cut e) 4607182418791010209)) c ≤ c ∧ (i ∈ l → l.foldl (fun c e => min c (mulF (cut e) 4607182418791010209)) c ≤ mulF (cut i) 4607182418791010209)
  | [], c => ⟨Nat.le_refl _, fun h => by cases h⟩
  | e :: l, c => by
    rw [List.foldl_cons]
    obtain ⟨h1, h2⟩ := cSetI_le cut i l (min c (mulF (cut e) 4607182418791010209))
    refine ⟨by omega, fun h => ?_⟩
    rcases List.mem_cons.1 h with h3 | h3
    · subst h3; omega
    · exact h2 h3

theorem val_C : 9007199254740992 * val 4607182418791010209 = 9007199245733793 * G := by
  obtain ⟨e, h2, h3⟩ : ∃ e, ex 4607182418791010209 = e ∧ gE = 53 + e := ⟨1021, rfl, rfl⟩
  have h1 : mg 4607182418791010209 = 9007199245733793 := rfl
  have h4 : (2 : Nat) ^ 53 = 9007199254740992 := rfl
  unfold val G
  rw [h1, h2, h3, Nat.pow_add, h4]
  omega

theorem lin (GY X LK Z WG L g : Nat)
    (h1 : 9007199254740992 * GY ≤ 9007199254740993 * X + 65536 * (4503599627370496 * g))
    (h2 : 9007199254740992 * X ≤ 9007199254872064 * LK)
    (h3 : 9007199254740992 * (9007199254740992 * LK) ≤ 9007199254740993 * (9007199245733793 * Z) + 9007199254740992 * (4503599627370496 * L))
    (h4 : 18014398509481984 * (9007199254740992 * Z) ≤ 9007199254740993 * (18014398509481985 * WG) + 18014398509481984 * (4503599627370496 * L))
    (h5 : 1125899906842624 * L ≤ WG) (h6 : 1267650600228229401496703205376 * g ≤ WG) : 9007199254740992 * GY + 262144 * WG ≤ 9007199254740992 * WG := by
  omega

theorem pow50 : (2 : Nat) ^ 50 = 1125899906842624 := rfl
theorem pow53 : (2 : Nat) ^ 53 = 9007199254740992 := rfl
theorem pow100 : (2 : Nat) ^ 100 = 1267650600228229401496703205376 := rfl
theorem pow_GG {e : Nat} (h : e ≤ 2045) : 2 ^ 50 * (2 ^ e * 2 ^ 53) ≤ G * G := by
  unfold G
  rw [← Nat.pow_add, ← Nat.pow_add, ← Nat.pow_add]
  exact Nat.pow_le_pow_right (by omega) (by have := gE_eq; omega)
theorem pow_G : 2 ^ 100 ≤ G := by
  unfold G
  exact Nat.pow_le_pow_right (by omega) (by have := gE_eq; omega)
theorem size5 {L0 W : Nat} (hL : L0 < INF) (hW : G ≤ val W) : 1125899906842624 * val L0 ≤ val W * G := by
  have h3 := pow_GG (ex_lt hL)
  rw [pow50, pow53] at h3
  exact Nat.le_trans (Nat.mul_le_mul_left _ (Nat.le_of_lt (val_ub L0))) (Nat.le_trans h3 (Nat.mul_le_mul_right _ hW))
theorem size6 {W : Nat} (hW : G ≤ val W) : 1267650600228229401496703205376 * G ≤ val W * G := by
  have h := pow_G
  rw [pow100] at h
  exact Nat.mul_le_mul_right _ (Nat.le_trans h hW)

set_option maxHeartbeats 1000000 in
theorem capOk : CapOk := by
  intro ws fs ms es hs xs hW hwl hml hel hE hM hS
  intro cut sh1 i hi hf
  rw [loads_get _ _ _ _ hi]
  have hld := loads_get ws.length (memOf ms es) (sh0 ws.length hs xs) i hi es.length
  have holen := occ_len ms es ms.length hE i es.length (Nat.le_refl _)
  have hbnd : bnd es es.length ≤ ms.length := by
    by_cases h0 : es.length = 0
    · rw [h0]; simp [bnd]
    · have := (hE (es.length - 1) (by omega)).2.2
      rwa [show es.length - 1 + 1 = es.length by omega] at this
  have hocc := occ_mem (memOf ms es) i es.length
  generalize hO : occ (memOf ms es) i es.length = O at *
  have hO16 : O.length ≤ 65536 := by omega
  -- the shares before
  have hs0 : ∀ s ∈ O, sh0 ws.length hs xs s < INF := fun s h => hS s (hocc s h).1
  -- what each set is cut to
  have hcs : ∀ s, cSet cut (memOf ms es s) ≤ 4607182418791010209 := fun s => (cSetI_le cut i _ _).1
  have hci : ∀ s ∈ O, cSet cut (memOf ms es s) ≤ mulF (cut i) 4607182418791010209 := fun s h => (cSetI_le cut i _ _).2 (hocc s h).2
  have hcf : ∀ s, cSet cut (memOf ms es s) < INF := fun s => Nat.lt_of_le_of_lt (hcs s) (by unfold INF; omega)
  have hcut : cut i = if fs.getD i 0 ≠ 2 ∧ 0 < (loads ws.length (memOf ms es) (sh0 ws.length hs xs) es.length).getD i 0 then min 4607182418800017408 (divF (if fs.getD i 0 = 1 then 0 else ws.getD i 0) ((loads ws.length (memOf ms es) (sh0 ws.length hs xs) es.length).getD i 0)) else 4607182418800017408 := rfl
  rw [hld] at hcut
  clear hld
  have hsh1 : sh1 = fun s => mulF (sh0 ws.length hs xs s) (cSet cut (memOf ms es s)) := rfl
  clear_value sh1 cut
  subst hsh1
  generalize sh0 ws.length hs xs = sh at *
  generalize hlim : (if fs.getD i 0 = 1 then 0 else ws.getD i 0) = W at *
  have hWf : W < INF := by
    rw [← hlim]
    split
    · unfold INF; omega
    · have := (hW i hi).1
      simp only [List.getD_eq_getElem?_getD, hi, List.getElem?_eq_getElem, Option.getD_some]
      exact this
  have hL0le : (O.map sh).foldl addF 0 ≤ INF := fold_nn _ _ (fun y hy => by
    obtain ⟨s, hs, rfl⟩ := List.mem_map.1 hy
    exact Nat.le_of_lt (hs0 s hs)) (by omega)
  have hmf : ∀ y ∈ O.map (fun s => mulF (sh s) (cSet cut (memOf ms es s))), y < INF := fun y hy => by
    obtain ⟨s, hs, rfl⟩ := List.mem_map.1 hy
    exact Nat.lt_of_le_of_lt (mulF_le (hs0 s hs) (Nat.le_trans (hcs s) (by omega))) (hs0 s hs)
  -- a cut to nought
  have hnought : mulF (cut i) 4607182418791010209 = 0 → (O.map (fun s => mulF (sh s) (cSet cut (memOf ms es s)))).foldl addF 0 ≤ W := by
    intro h0
    rw [zero_fold]
    · omega
    · intro y hy
      obtain ⟨s, hs, rfl⟩ := List.mem_map.1 hy
      have := hci s hs
      rw [show cSet cut (memOf ms es s) = 0 by omega]
      exact mulF_zr (hs0 s hs)
  have hCf : 4607182418791010209 < INF := by unfold INF; omega
  generalize hL : (O.map sh).foldl addF 0 = L0 at *
  by_cases h0 : L0 = 0
  · -- no load at all
    subst h0
    obtain ⟨_, h2⟩ := low_sum (O.map sh) 0 0 (fun y hy => by
      obtain ⟨s, hs, rfl⟩ := List.mem_map.1 hy
      exact hs0 s hs) (by unfold INF; omega) hL (by unfold INF; omega)
    rw [val_zero] at h2
    have hz := vs_zero (show vs (O.map sh) = 0 by omega)
    rw [zero_fold]
    · omega
    · intro y hy
      obtain ⟨s, hs, rfl⟩ := List.mem_map.1 hy
      rw [hz (sh s) (List.mem_map.2 ⟨s, hs, rfl⟩)]
      exact mulF_zl (hcf s)
  rw [if_pos ⟨hf, by omega⟩] at hcut
  by_cases hinf : L0 = INF
  · apply hnought
    have : divF W L0 = 0 := by unfold divF; rw [hinf, div_inf hWf]; rfl
    rw [hcut, this]
    exact mulF_zl hCf
  have hLf : L0 < INF := by omega
  obtain ⟨q, hq, hq2⟩ := div_fin hWf hLf (by omega)
  have hdq : divF W L0 = min q INF := by unfold divF; rw [hq]; rfl
  by_cases hW0 : W = 0
  · apply hnought
    have : divF W L0 = 0 := by
      subst hW0
      unfold divF Ieee.Format.div
      rw [read_fin hWf, read_fin hLf]
      have hfr : Ieee.double.fractionBits + 2 = 54 := rfl
      have e : mg 0 = 0 := rfl
      have hn := pos_mg (show 0 < L0 by omega)
      simp only [Ieee.Datum.quotient, hfr, e]
      rw [if_neg (by omega)]
      simp only [Nat.zero_shiftLeft, Nat.zero_div, Nat.zero_mod, Nat.mul_zero, bne_self_eq_false, Bool.toNat_false, Nat.add_zero, Option.map_some, Ieee.Format.write, near_zero, Option.getD_some]
    rw [hcut, this]
    exact mulF_zl hCf
  have hW1 : 4607182418800017408 ≤ W := by
    rw [← hlim] at hW0 ⊢
    split at hW0
    · exact absurd rfl hW0
    · rename_i hf1
      rw [if_neg hf1]
      have := (hW i hi).2
      simp only [List.getD_eq_getElem?_getD, hi, List.getElem?_eq_getElem, Option.getD_some]
      exact this
  -- the main case
  have hcutf : cut i < INF := by rw [hcut]; unfold INF; omega
  obtain ⟨kr, hk, hk2, _⟩ := mulF_spec hcutf hCf
  have hms := mul_sum sh (fun s => cSet cut (memOf ms es s)) (val kr) O fun s hs => ⟨hs0 s hs, hcf s, val_le (by have := hci s hs; omega)⟩
  obtain ⟨_, hlow⟩ := low_sum (O.map sh) 0 L0 (fun y hy => by
      obtain ⟨s, hs, rfl⟩ := List.mem_map.1 hy
      exact hs0 s hs) (by unfold INF; omega) hL hLf
  rw [val_zero, List.length_map, Nat.zero_add] at hlow
  have hGp := G_pos
  have hWG : G ≤ val W := by rw [← val_one]; exact val_le hW1
  have hcv : val (cut i) ≤ val q := val_le (by rw [hcut, hdq]; omega)
  -- the factor
  have hK : 9007199254740992 * (9007199254740992 * val kr) ≤ 9007199254740993 * (9007199245733793 * val (cut i)) + 9007199254740992 * 4503599627370496 := by
    refine Nat.le_of_mul_le_mul_right ?_ hGp
    have e1 : val (cut i) * val 4607182418791010209 * 9007199254740992 = 9007199245733793 * (val (cut i) * G) := by
      rw [Nat.mul_assoc, Nat.mul_comm (val 4607182418791010209), val_C, Nat.mul_left_comm]
    have e2 : 9007199254740992 * (9007199254740992 * val kr) * G = 9007199254740992 * (9007199254740992 * (val kr * G)) := by rw [Nat.mul_assoc, Nat.mul_assoc]
    have e3 : (9007199254740993 * (9007199245733793 * val (cut i)) + 9007199254740992 * 4503599627370496) * G = 9007199254740993 * (9007199245733793 * (val (cut i) * G)) + 9007199254740992 * 4503599627370496 * G := by rw [Nat.add_mul, Nat.mul_assoc, Nat.mul_assoc]
    rw [e2, e3, ← e1]
    generalize val kr * G = x1 at *
    generalize val (cut i) * val 4607182418791010209 = x2 at *
    clear hms hq2
    generalize G = g at *
    omega
  have hKL := Nat.mul_le_mul_right (val L0) hK
  have f1 : 9007199254740992 * (9007199254740992 * val kr) * val L0 = 9007199254740992 * (9007199254740992 * (val kr * val L0)) := by rw [Nat.mul_assoc, Nat.mul_assoc]
  have f2 : (9007199254740993 * (9007199245733793 * val (cut i)) + 9007199254740992 * 4503599627370496) * val L0 = 9007199254740993 * (9007199245733793 * (val (cut i) * val L0)) + 9007199254740992 * (4503599627370496 * val L0) := by rw [Nat.add_mul, Nat.mul_assoc, Nat.mul_assoc, Nat.mul_assoc 9007199254740992]
  rw [f1, f2] at hKL
  have hcL : val (cut i) * val L0 ≤ val q * val L0 := Nat.mul_le_mul_right _ hcv
  -- the sum before
  have hY : 9007199254740992 * vs (O.map sh) ≤ 9007199254872064 * val L0 := by
    have := Nat.mul_le_mul_right (2 * val L0) hO16
    omega
  have hYK := Nat.mul_le_mul_right (val kr) hY
  rw [Nat.mul_assoc, Nat.mul_assoc, Nat.mul_comm (val L0) (val kr)] at hYK
  -- sizes
  have hs5 := size5 hLf hWG
  have hs6 := size6 hWG
  have hms' : 9007199254740992 * (vs (O.map fun s => mulF (sh s) (cSet cut (memOf ms es s))) * G) ≤ 9007199254740993 * (vs (O.map sh) * val kr) + 65536 * (4503599627370496 * G) := by
    have := Nat.mul_le_mul_right (4503599627370496 * G) hO16
    omega
  have hfin := lin _ _ (val kr * val L0) (val q * val L0) (val W * G) (val L0) G hms' hYK (by omega) hq2 hs5 hs6
  refine up_sum _ 0 W hmf hWf (by omega) ?_
  rw [val_zero, Nat.zero_add, List.length_map]
  have hlast : 9007199254740992 * vs (O.map fun s => mulF (sh s) (cSet cut (memOf ms es s))) + 262144 * val W ≤ 9007199254740992 * val W := by
    refine Nat.le_of_mul_le_mul_right ?_ hGp
    rw [Nat.add_mul, Nat.mul_assoc, Nat.mul_assoc, Nat.mul_assoc]
    exact hfin
  have := Nat.mul_le_mul_right (2 * val W) hO16
  omega
end Go.Proofs.Qxb6601548a
