/-
  Regions that draw their order: reads in whatever order, then a tail whose order is forced. No program is named here.
-/
import Derived.Test.Qxb6601738aReg
namespace Go.Proofs.Qxb6601738a

/-! ### (A) reads and quiet calls: one walk of the text's order -/
def opa (P : Program) (f : Fr) (w : World) (k : Value → Prop) : Op → Prop
  | .call c => (match c.callee with
    | .value (.func g) => callable P g = true ∧ ∃ v, HC P g (c.args.map (ev f)) w (fun v' w' => v' = v ∧ w' = w) ∧ k v
    | _ => opd P f w k (.call c))
  | op => opd P f w k op

def pa (P : Program) (n : Nat) (ops : Array Oper) (w : World) (K : Fr → Prop) : List Oper → Fr → Prop
  | [], f => K f
  | o :: rest, f => if want ops f o then opa P f w (fun v => pa P n ops w K rest (up n f o.dst v)) o.op else pa P n ops w K rest (up n f o.dst undef)

theorem pa_nil (P : Program) (n : Nat) (ops : Array Oper) (w : World) (K : Fr → Prop) (f : Fr) : pa P n ops w K [] f = K f := nr rfl
theorem pa_cons (P : Program) (n : Nat) (ops : Array Oper) (w : World) (K : Fr → Prop) (d : Option Nat) (op : Op) (t : TypeId) (pos : String) (af : Array Edge) (rest : List Oper) (f : Fr) :
    pa P n ops w K (⟨d, op, t, pos, af, none⟩ :: rest) f = opa P f w (fun v => pa P n ops w K rest (up n f d v)) op := nr rfl
theorem pa_guard (P : Program) (n : Nat) (ops : Array Oper) (w : World) (K : Fr → Prop) (d : Option Nat) (op : Op) (t : TypeId) (pos : String) (af : Array Edge) (j : Nat) (b : Bool) (rest : List Oper) (f : Fr) :
    pa P n ops w K (⟨d, op, t, pos, af, some (j, b)⟩ :: rest) f = if yd ops f j == some b then opa P f w (fun v => pa P n ops w K rest (up n f d v)) op else pa P n ops w K rest (up n f d undef) := nr rfl

theorem opa_sound {P : Program} {n : Nat} {f : Fr} {w : World} {k : Value → Prop} {a : Act} (o : Oper) (hR : Rep n a f) (h : opa P f w k o.op) :
    ∃ v, k v ∧ ∀ u, Al u w → o.quietAt P a (fun u => Al u w) u v := by
  have det : opd P f w k o.op → ∃ v, k v ∧ ∀ u, Al u w → o.quietAt P a (fun u => Al u w) u v := by
    intro hd
    obtain ⟨v, hk, hr⟩ := opd_sound o hd
    refine ⟨v, hk, fun u hu => ?_⟩
    unfold Oper.quietAt
    rw [hR.evalF, hr u hu]
    exact ⟨rfl, rfl⟩
  cases ho : o.op <;> rw [ho] at h <;> simp only [opa] at h
  case call c =>
    split at h
    · rename_i cc g hc
      obtain ⟨hg, v, hcall, hk⟩ := h
      refine ⟨v, hk, fun u hu => ?_⟩
      unfold callable at hg
      split at hg
      · rename_i fn hfn
        simp only [Bool.and_eq_true, Bool.not_eq_true'] at hg
        obtain ⟨h1, h2⟩ := hg
        have hb : fn.body.isNone = false := by cases hbb : fn.body <;> simp_all
        unfold Oper.quietAt
        rw [hR.evalF]
        simp only [execOp, ho, resolve, hc, Deferred.ofValue, ev, invoke, callFunc, Sem.run_bind, Sem.run_pure, Result.andThen_ok, run_program, hfn, h1, hb, Bool.false_eq_true, if_false, Oper.quietUpon, Array.append_empty, Array.empty_append]
        refine ⟨trivial, (hcall u hu).mono ?_⟩
        rintro e u' ⟨v', w', rfl, ha, rfl, rfl⟩
        exact ⟨rfl, ha⟩
      · cases hg
    · exact det (by rw [ho]; exact h)
  all_goals exact det (by rw [ho]; exact h)

theorem pa_sound {P : Program} {n : Nat} {ops : Array Oper} {w : World} {K : Fr → Prop} {Q : Act → Prop} (hK : ∀ a f, Rep n a f → K f → Q a) :
    ∀ (l : List Oper) (f : Fr) (a : Act), Rep n a f → pa P n ops w K l f → wpQuiet P ops (fun u => Al u w) Q l a := by
  intro l
  induction l with
  | nil => intro f a hR h; exact hK a f hR h
  | cons o rest ih =>
    intro f a hR h
    simp only [pa] at h
    unfold wpQuiet
    rw [hR.want]
    split
    · rename_i hw
      rw [if_pos hw] at h
      obtain ⟨v, hk, hq⟩ := opa_sound o hR h
      exact ⟨v, hq, ih _ _ (hR.put _ _) hk⟩
    · rename_i hw
      rw [if_neg hw] at h
      exact ih _ _ (hR.put _ _) h

theorem cw_quiet {P : Program} {n id : Nat} {l : List Oper} {Q : Exit → Fr → World → Prop} {f : Fr} {w : World} (hm : P.follows .mixedOrders = true) (hB : Region.lexB .any l.toArray = true)
    (h : pa P n l.toArray w (fun f' => Q .normal f' w) l f) : cw P n (.region id l.toArray true) Q f w := by
  intro a u hR hA
  refine wp_region_quiet (C := fun u => Al u w) hm hB ((Al.drawn u _).trans hA) ?_
  have := pa_sound (Q := fun a' => ∀ u', Al u' w → ∃ f' w', Rep n a' f' ∧ Al u' w' ∧ Q .normal f' w') (fun a f hR hk u' hu' => ⟨f, w, hR, hu', hk⟩) l f a hR h
  simpa using this

/-! ### (B) reads and float arithmetic in whatever order, then a tail that is forced -/
section
variable {P : Program} {ops : Array Oper} {C : World → Prop}

def cAt (P : Program) (ops : Array Oper) (C : World → Prop) (i : Nat) (K : Act → Prop) (a : Act) : Prop :=
  match ops[i]? with
  | none => K a
  | some o => if Region.wanted o (Go.yielded ops a.tmps) then (∀ u, C u → ∃ v u', (execOp a.eval o).run P u = .ok (.value v) u' ∧ C u' ∧ K (a.put o.dst v)) else K (a.put o.dst undef)

theorem cAt_mono {i : Nat} {a : Act} {K K' : Act → Prop} (h : ∀ a, K a → K' a) (hh : cAt P ops C i K a) : cAt P ops C i K' a := by
  unfold cAt at *
  split
  · rename_i ho; simp only [ho] at hh; exact h _ hh
  · rename_i o ho
    simp only [ho] at hh
    split
    · rename_i hw; simp only [hw, if_true] at hh
      intro u hu
      obtain ⟨v, u', h1, h2, h3⟩ := hh u hu
      exact ⟨v, u', h1, h2, h _ h3⟩
    · rename_i hw; simp only [hw] at hh; exact h _ hh

/-- Two operations apart from each other change places. -/
theorem cAt_swap {i j : Nat} {oi oj : Oper} {a : Act} {K : Act → Prop} (hi : ops[i]? = some oi) (hj : ops[j]? = some oj) (hap : oi.apart ops oj = true)
    (hsi : ∀ cs b, oi.op ≠ .select cs b) (hsj : ∀ cs b, oj.op ≠ .select cs b) (h : cAt P ops C i (cAt P ops C j K) a) : cAt P ops C j (cAt P ops C i K) a := by
  obtain ⟨h1, h2, h3⟩ := Oper.apart_spec hap
  unfold cAt at *
  simp only [hi, hj] at *
  by_cases wi : Region.wanted oi (Go.yielded ops a.tmps) = true
  · simp only [wi, if_true] at h
    by_cases wj : Region.wanted oj (Go.yielded ops a.tmps) = true
    · simp only [wj, if_true]
      intro u hu
      obtain ⟨v, u1, hr1, hc1, hn1⟩ := h u hu
      rw [wanted_put oj a oi.dst v h1, if_pos wj] at hn1
      obtain ⟨x, u2, hr2, hc2, _⟩ := hn1 u hu
      rw [execOp_put oj hsj a oi.dst v h1] at hr2
      refine ⟨x, u2, hr2, hc2, ?_⟩
      rw [wanted_put oi a oj.dst x h3, if_pos wi]
      intro u3 hu3
      obtain ⟨v3, u4, hr3, hc3, hn3⟩ := h u3 hu3
      rw [wanted_put oj a oi.dst v3 h1, if_pos wj] at hn3
      obtain ⟨x', u5, hr5, hc5, hk5⟩ := hn3 u hu
      rw [execOp_put oj hsj a oi.dst v3 h1, hr2] at hr5
      cases hr5
      refine ⟨v3, u4, by rw [execOp_put oi hsi a oj.dst x h3]; exact hr3, hc3, ?_⟩
      rw [← Act.put_comm a v3 x h2]
      exact hk5
    · simp only [wj]
      rw [wanted_put oi a oj.dst undef h3, if_pos wi]
      intro u hu
      obtain ⟨v, u1, hr1, hc1, hn1⟩ := h u hu
      rw [wanted_put oj a oi.dst v h1, if_neg wj] at hn1
      exact ⟨v, u1, by rw [execOp_put oi hsi a oj.dst undef h3]; exact hr1, hc1, by rw [← Act.put_comm a v undef h2]; exact hn1⟩
  · simp only [wi] at h
    by_cases wj : Region.wanted oj (Go.yielded ops a.tmps) = true
    · simp only [wj, if_true]
      intro u hu
      rw [wanted_put oj a oi.dst undef h1, if_pos wj] at h
      obtain ⟨x, u2, hr2, hc2, hk⟩ := h u hu
      rw [execOp_put oj hsj a oi.dst undef h1] at hr2
      refine ⟨x, u2, hr2, hc2, ?_⟩
      rw [wanted_put oi a oj.dst x h3, if_neg wi, ← Act.put_comm a undef x h2]
      exact hk
    · simp only [wj]
      rw [wanted_put oi a oj.dst undef h3, if_neg wi]
      rw [wanted_put oj a oi.dst undef h1, if_neg wj, Act.put_comm a undef undef h2] at h
      exact h

def anyC (P : Program) (ops : Array Oper) (C : World → Prop) (T : Act → Prop) : Nat → Array Bool → Act → Prop
  | 0, _, a => T a
  | m + 1, listed, a => ∀ i ∈ Region.ready .any ops listed, cAt P ops C i (anyC P ops C T m (listed.setIfInBounds i true)) a

/-- down-closed -/
def Dn (ops : Array Oper) (listed : Array Bool) : Prop := ∀ j, listed.getD j false = true → ∀ oj, ops[j]? = some oj → ∀ e ∈ oj.after, Region.binds .any e = true → listed.getD e.on false = true

def reach (ops : Array Oper) : Nat → Nat → Nat → Bool
  | 0, _, _ => false
  | m + 1, j, i => (match ops[j]? with
    | none => false
    | some o => o.after.any (fun e => Region.binds .any e && e.on == i) || o.after.any (fun e => Region.binds .any e && reach ops m e.on i))

theorem reach_sound {listed : Array Bool} (hD : Dn ops listed) : ∀ (m j i : Nat), reach ops m j i = true → (∀ oj, ops[j]? = some oj → ∀ e ∈ oj.after, Region.binds .any e = true → listed.getD e.on false = true) → listed.getD i false = true := by
  intro m
  induction m with
  | zero => intro j i h; simp [reach] at h
  | succ m ih =>
    intro j i h hall
    simp only [reach] at h
    split at h
    · cases h
    · rename_i o ho
      rw [Bool.or_eq_true] at h
      rcases h with h | h
      · obtain ⟨e, he, hb⟩ := Array.any_eq_true'.1 h
        simp only [Bool.and_eq_true, beq_iff_eq] at hb
        rw [← hb.2]
        exact hall o ho e he hb.1
      · obtain ⟨e, he, hb⟩ := Array.any_eq_true'.1 h
        simp only [Bool.and_eq_true] at hb
        exact ih e.on i hb.2 (fun oj hoj => hD e.on (hall o ho e he hb.1) oj hoj)

/-- What is still unlisted of the first 'k'. -/
def left (k : Nat) (listed : Array Bool) : Nat := (List.range k).countP (fun i => !listed.getD i false)

theorem countP_flip {p q : Nat → Bool} (i : Nat) (hp : p i = true) (hq : q i = false) (hs : ∀ j, j ≠ i → q j = p j) : ∀ (l : List Nat), l.Nodup → i ∈ l → l.countP q + 1 = l.countP p := by
  intro l
  induction l with
  | nil => intro _ h; cases h
  | cons x r ih =>
    intro hn hm
    rw [List.nodup_cons] at hn
    by_cases hx : x = i
    · subst hx
      have : r.countP q = r.countP p := List.countP_congr (fun y hy => by
        have : y ≠ x := fun e => hn.1 (e ▸ hy)
        rw [hs y this])
      simp [hp, hq, this]
    · have hm' : i ∈ r := by
        rcases List.mem_cons.1 hm with h | h
        · exact absurd h.symm hx
        · exact h
      have := ih hn.2 hm'
      simp [List.countP_cons, hs x hx]
      omega

theorem getD_set_same {listed : Array Bool} {i : Nat} (h : i < listed.size) (d : Bool) : (listed.setIfInBounds i true).getD i d = true := by
  simp [h]

theorem left_set {k i : Nat} {listed : Array Bool} (hi : i < k) (hs : i < listed.size) (hl : listed.getD i false = false) : left k (listed.setIfInBounds i true) + 1 = left k listed := by
  unfold left
  refine countP_flip i (by simp only [hl]; rfl) (by rw [getD_set_same hs]; rfl) (fun j hj => ?_) _ List.nodup_range (List.mem_range.2 hi)
  rw [getD_set_ne false (Ne.symm hj)]

theorem dn_set {j : Nat} {listed : Array Bool} (hD : Dn ops listed) (hj : j ∈ Region.ready .any ops listed) : Dn ops (listed.setIfInBounds j true) := by
  obtain ⟨hjun, oj, hoj, hall⟩ := mem_ready.1 hj
  intro k hk ok hok e he hb
  refine getD_set_true ?_
  by_cases hkj : k = j
  · subst hkj
    rw [hoj] at hok; cases hok
    exact hall e he hb
  · rw [getD_set_ne false (Ne.symm hkj)] at hk
    exact hD k hk ok hok e he hb

/-- Every operation from 'k' on waits for all of the first 'k'. -/
def waitsB (ops : Array Oper) (k : Nat) : Bool := (List.range ops.size).all fun j => j < k || (List.range k).all fun i => reach ops 3 j i

theorem ready_lt {k : Nat} (hW : waitsB ops k = true) {listed : Array Bool} (hD : Dn ops listed) (hl : left k listed ≠ 0) {j : Nat} (hj : j ∈ Region.ready .any ops listed) : j < k := by
  rcases Nat.lt_or_ge j k with h | h
  · exact h
  · exfalso
    obtain ⟨hjun, oj, hoj, hall⟩ := mem_ready.1 hj
    have hjs : j < ops.size := by
      rcases Nat.lt_or_ge j ops.size with h' | h'
      · exact h'
      · rw [Array.getElem?_eq_none h'] at hoj; cases hoj
    have h1 := List.all_eq_true.1 hW j (List.mem_range.2 hjs)
    have h2 : decide (j < k) = false := by simp; omega
    rw [h2, Bool.false_or] at h1
    apply hl
    unfold left
    rw [List.countP_eq_zero]
    intro i hi
    have := reach_sound hD 3 j i (List.all_eq_true.1 h1 i hi) (fun oj' hoj' => by rw [hoj] at hoj'; cases hoj'; exact hall)
    simp [this]

theorem ready_unlisted {listed : Array Bool} (hs : listed.size = ops.size) {j : Nat} (hj : j ∈ Region.ready .any ops listed) : j < ops.size ∧ listed.getD j false = false := by
  obtain ⟨hjun, oj, hoj, _⟩ := mem_ready.1 hj
  have hjs : j < ops.size := by
    rcases Nat.lt_or_ge j ops.size with h' | h'
    · exact h'
    · rw [Array.getElem?_eq_none h'] at hoj; cases hoj
  refine ⟨hjs, ?_⟩
  simp [hs, hjs] at hjun ⊢
  exact hjun

/-- An operation that may come up now may be taken first. -/
theorem anyC_first {T : Act → Prop} {k i : Nat} {oi : Oper} (hW : waitsB ops k = true) (hi : ops[i]? = some oi) (hsel : ∀ (j : Nat) (o : Oper) cs b, ops[j]? = some o → o.op ≠ .select cs b) :
    ∀ (m : Nat) (listed : Array Bool) (a : Act), listed.size = ops.size → Dn ops listed → left k listed = m + 1 → i < k →
      (∀ j oj, ops[j]? = some oj → j ≠ i → listed.getD j true = false → (∀ e ∈ oj.after, Region.binds .any e = true → e.on ≠ i) → oi.apart ops oj = true) →
      i ∈ Region.ready .any ops listed → cAt P ops C i (anyC P ops C T m (listed.setIfInBounds i true)) a → anyC P ops C T (m + 1) listed a := by
  intro m
  induction m with
  | zero =>
    intro listed a hs hD hl hik hfree hr H j hj
    by_cases hji : j = i
    · subst hji; exact H
    · exfalso
      have hjk := ready_lt hW hD (by omega) hj
      have hju := ready_unlisted hs hj
      have hiu := ready_unlisted hs hr
      have h1 := left_set hik (by omega) hiu.2
      have h2 : left k ((listed.setIfInBounds i true).setIfInBounds j true) + 1 = left k (listed.setIfInBounds i true) :=
        left_set hjk (by simp; omega) (by rw [getD_set_ne false (Ne.symm hji)]; exact hju.2)
      omega
  | succ m ih =>
    intro listed a hs hD hl hik hfree hr H j hj
    by_cases hji : j = i
    · subst hji; exact H
    · obtain ⟨hjun, oj, hoj, hall⟩ := mem_ready.1 hj
      have hjk := ready_lt hW hD (by omega) hj
      have hju := ready_unlisted hs hj
      have hiu := ready_unlisted hs hr
      have hnot : ∀ e ∈ oj.after, Region.binds .any e = true → e.on ≠ i := fun e he hb heq => by
        have h1 := hall e he hb
        rw [heq, hiu.2] at h1
        cases h1
      have h1 : cAt P ops C i (cAt P ops C j (anyC P ops C T m ((listed.setIfInBounds i true).setIfInBounds j true))) a :=
        cAt_mono (fun a' h' => h' j (ready_mono hj hji)) H
      have h2 := cAt_swap hi hoj (hfree j oj hoj hji hjun hnot) (fun cs b => hsel i oi cs b hi) (fun cs b => hsel j oj cs b hoj) h1
      refine cAt_mono (fun a' h3 => ih (listed.setIfInBounds j true) a' (by simpa using hs) (dn_set hD hj) ?_ hik ?_ (ready_mono hr (Ne.symm hji)) ?_) h2
      · have := left_set hjk (by omega) hju.2
        omega
      · intro k' ok hk hki hun hno
        refine hfree k' ok hk hki ?_ hno
        by_cases hjk' : j = k'
        · subst hjk'; exact hjun
        · rw [getD_set_ne true hjk'] at hun; exact hun
      · rw [Array.setIfInBounds_comm _ _ (Ne.symm hji)] at h3
        exact h3

/-- The first 't' of 'n' are listed. -/
def fst (n t : Nat) : Array Bool := (Array.range n).map (fun i => decide (i < t))
theorem fst_size (n t : Nat) : (fst n t).size = n := by simp [fst]
theorem fst_getD (n t i : Nat) (d : Bool) (h : i < n) : (fst n t).getD i d = decide (i < t) := by simp [fst, h]
theorem fst_zero (n : Nat) : fst n 0 = Array.replicate n false := by
  apply Array.ext
  · simp [fst]
  · intro i h1 h2; simp [fst]
theorem fst_succ (n t : Nat) : (fst n t).setIfInBounds t true = fst n (t + 1) := by
  apply Array.ext
  · simp [fst]
  · intro i h1 h2
    rw [Array.getElem_setIfInBounds (by simpa using h1)]
    simp only [fst, Array.getElem_map, Array.getElem_range]
    split
    · simp; omega
    · simp; omega

def lexB (ops : Array Oper) (k : Nat) : Bool := (List.range k).all fun t => (Region.ready .any ops (fst ops.size t)).contains t && Region.free .any ops (fst ops.size t) t
def tailB (ops : Array Oper) (k : Nat) : Bool := (List.range ops.size).all fun t => t < k || Region.ready .any ops (fst ops.size t) == [t]
def calmB (ops : Array Oper) (k : Nat) : Bool :=
  Region.noSelect ops && lexB ops k && waitsB ops k && tailB ops k && (Region.ready .any ops (fst ops.size ops.size) == []) && decide (k ≤ ops.size)

theorem left_fst {n k t : Nat} (hk : k ≤ n) : left k (fst n t) = k - t := by
  unfold left
  have h1 : ∀ m, m ≤ k → (List.range m).countP (fun i => !(fst n t).getD i false) = m - t := by
    intro m
    induction m with
    | zero => intro _; simp
    | succ m ih =>
      intro hm
      rw [List.range_succ, List.countP_append, ih (by omega)]
      simp only [List.countP_singleton, fst_getD n t m false (by omega)]
      by_cases h : m < t
      · simp [h]; omega
      · simp [h]; omega
  exact h1 k (Nat.le_refl _)

theorem dn_fst {k t : Nat} (hl : lexB ops k = true) (ht : t ≤ k) : Dn ops (fst ops.size t) := by
  induction t with
  | zero =>
    intro j hj
    by_cases h : j < ops.size
    · rw [fst_getD _ _ _ _ h] at hj; simp at hj
    · simp [fst, h] at hj
  | succ t ih =>
    rw [← fst_succ]
    refine dn_set (ih (by omega)) ?_
    have := List.all_eq_true.1 hl t (List.mem_range.2 (by omega))
    simp only [Bool.and_eq_true] at this
    simpa using this.1

/-- The text's order serves for every order of the first 'k'. -/
theorem anyC_lex {T : Act → Prop} {k : Nat} (hns : Region.noSelect ops = true) (hl : lexB ops k = true) (hW : waitsB ops k = true) (hk : k ≤ ops.size) (N : Nat → Act → Prop)
    (hN : ∀ t a, t < k → N t a → cAt P ops C t (N (t + 1)) a) (hT : ∀ a, N k a → T a) : ∀ (m t : Nat) (a : Act), t + m = k → N t a → anyC P ops C T m (fst ops.size t) a := by
  intro m
  induction m with
  | zero => intro t a ht hn; exact hT a (by rw [← ht]; exact hn)
  | succ m ih =>
    intro t a ht hn
    have hb := List.all_eq_true.1 hl t (List.mem_range.2 (by omega))
    simp only [Bool.and_eq_true] at hb
    obtain ⟨o, ho⟩ : ∃ o, ops[t]? = some o := ⟨ops[t]'(by omega), Array.getElem?_eq_getElem (by omega)⟩
    refine anyC_first hW ho (Region.noSelect_spec hns) m _ a (fst_size _ _) (dn_fst hl (by omega)) (by rw [left_fst hk]; omega) (by omega) (Region.free_spec ho hb.2) (by simpa using hb.1) ?_
    rw [fst_succ]
    exact cAt_mono (fun a' h' => ih (t + 1) a' (by omega) h') (hN t a (by omega) hn)

theorem wpOp_of_cAt {i : Nat} {a : Act} {K : Act → Prop} {K' : Act → World → Prop} {Q' : Exit → Act → World → Prop} {u : World} (hC : C u) (h : ∀ a u', C u' → K a → K' a u') (hh : cAt P ops C i K a) : wpOp P ops Q' i K' a u := by
  unfold cAt at hh
  unfold wpOp
  split
  · rename_i ho; simp only [ho] at hh; exact h _ _ hC hh
  · rename_i o ho
    simp only [ho] at hh
    split
    · rename_i hw
      simp only [hw, if_true] at hh
      obtain ⟨v, u', hr, hc, hk⟩ := hh u hC
      refine .inl ?_
      unfold Oper.wp
      rw [hr]
      exact h _ _ hc hk
    · rename_i hw; simp only [hw] at hh; exact h _ _ hC hh

theorem ready_some {k : Nat} (hl : lexB ops k = true) (hk : k ≤ ops.size) {listed : Array Bool} (hs : listed.size = ops.size) (h : left k listed ≠ 0) : Region.ready .any ops listed ≠ [] := by
  have hex : ∃ i, i < k ∧ listed.getD i false = false := by
    refine Classical.byContradiction fun hne => h (List.countP_eq_zero.2 fun i hi => ?_)
    have hik := List.mem_range.1 hi
    cases hg : listed.getD i false
    · exact absurd ⟨i, hik, hg⟩ hne
    · simp
  obtain ⟨i, ⟨hik, hi⟩, hmin⟩ := wp_of_least hex
  have hb := List.all_eq_true.1 hl i (List.mem_range.2 hik)
  simp only [Bool.and_eq_true] at hb
  have hr : i ∈ Region.ready .any ops (fst ops.size i) := by simpa using hb.1
  obtain ⟨_, o, ho, hall⟩ := mem_ready.1 hr
  have : i ∈ Region.ready .any ops listed := by
    refine mem_ready.2 ⟨?_, o, ho, fun e he hbd => ?_⟩
    · have : i < listed.size := by omega
      simp [this] at hi ⊢; exact hi
    · have h1 := hall e he hbd
      have hlt : e.on < i := by
        by_cases hes : e.on < ops.size
        · rw [fst_getD _ _ _ _ hes] at h1; simpa using h1
        · simp [fst, hes] at h1
      cases hg : listed.getD e.on false
      · have := hmin e.on ⟨by omega, hg⟩; omega
      · rfl
  intro h0
  rw [h0] at this
  cases this

theorem wpAny_of_anyC {k : Nat} {Q : Exit → Act → World → Prop} (hlx : lexB ops k = true) (hW : waitsB ops k = true) (hk : k ≤ ops.size) : ∀ (m : Nat) (listed : Array Bool) (a : Act) (u : World), C u → listed.size = ops.size → Dn ops listed →
    left k listed = m → (∀ j, k ≤ j → listed.getD j false = false) → anyC P ops C (fun a => ∀ u, C u → wpAny P .any ops Q (ops.size - k) (fst ops.size k) a u) m listed a → wpAny P .any ops Q (m + (ops.size - k)) listed a u := by
  intro m
  induction m with
  | zero =>
    intro listed a u hC hs hD hl hun h
    have : listed = fst ops.size k := by
      apply Array.ext
      · rw [hs, fst_size]
      · intro i h1 h2
        have e1 : listed.getD i false = listed[i] := by simp [h1]
        have e2 : (fst ops.size k)[i] = decide (i < k) := by simp [fst]
        rw [e2, ← e1]
        by_cases hik : i < k
        · have := List.countP_eq_zero.1 hl i (List.mem_range.2 hik)
          simp only [hik, decide_true]
          cases hg : listed.getD i false
          · rw [hg] at this; simp at this
          · rfl
        · rw [hun i (by omega)]; simp [hik]
    rw [this, Nat.zero_add]
    exact h u hC
  | succ m ih =>
    intro listed a u hC hs hD hl hun h
    rw [Nat.succ_add]
    refine ⟨fun h0 => ?_, fun i hi => ?_⟩
    · exact absurd h0 (ready_some hlx hk hs (by omega))
    · have hik := ready_lt hW hD (by omega) hi
      have hiu := ready_unlisted hs hi
      refine wpOp_of_cAt hC (fun a' u' hC' h' => ih (listed.setIfInBounds i true) a' u' hC' (by simpa using hs) (dn_set hD hi) ?_ ?_ h') (h i hi)
      · have := left_set hik (by omega) hiu.2
        omega
      · intro j hj
        rw [getD_set_ne false (by omega)]
        exact hun j hj

/-- The tail, in its one order. -/
theorem wpAny_tail {k : Nat} {Q : Exit → Act → World → Prop} (ht : tailB ops k = true) (he : Region.ready .any ops (fst ops.size ops.size) = []) : ∀ (l : List Oper) (t : Nat) (a : Act) (u : World), k ≤ t → t + l.length = ops.size → (∀ j, l[j]? = ops[t + j]?) →
    wpList P ops Q l a u → wpAny P .any ops Q (ops.size - t) (fst ops.size t) a u := by
  intro l
  induction l with
  | nil =>
    intro t a u hkt htl hl h
    have : t = ops.size := by simpa using htl
    subst this
    exact wpAny_done he h _
  | cons o rest ih =>
    intro t a u hkt htl hl h
    simp only [List.length_cons] at htl
    have h0 : ops[t]? = some o := by simpa using (hl 0).symm
    have hb := List.all_eq_true.1 ht t (List.mem_range.2 (by omega))
    have hd : decide (t < k) = false := by simp; omega
    rw [hd, Bool.false_or] at hb
    have hr : Region.ready .any ops (fst ops.size t) = [t] := by simpa using hb
    obtain ⟨m, hm⟩ : ∃ m, ops.size - t = m + 1 := ⟨ops.size - t - 1, by omega⟩
    rw [hm]
    have ih' := fun a u hh => ih (t + 1) a u (by omega) (by omega) (fun j => by have := hl (j + 1); simpa [Nat.add_assoc, Nat.add_comm 1 j] using this) hh
    have hm' : ops.size - (t + 1) = m := by omega
    rw [hm'] at ih'
    refine wpAny_all hr (by simp) fun i hi => ?_
    obtain rfl : i = t := by simpa using hi
    unfold wpOp
    simp only [h0]
    unfold wpList at h
    rw [fst_succ]
    split
    · rename_i hw
      rw [if_pos hw] at h
      rcases h with h | h
      · exact .inl (Oper.wp_mono (fun a u hh => ih' a u hh) h)
      · exact .inr h
    · rename_i hw
      rw [if_neg hw] at h
      exact ih' _ _ h
end

/-- The first operations of a drawn region, in the world 'w' (up to draws). -/
def pq (P : Program) (n : Nat) (ops : Array Oper) (w : World) (K : Fr → Prop) : List Oper → Fr → Prop
  | [], f => K f
  | o :: rest, f => if want ops f o then opq P n f w o.dst (pq P n ops w K rest) o.op else pq P n ops w K rest (up n f o.dst undef)
where
  opq (P : Program) (n : Nat) (f : Fr) (w : World) (d : Option Nat) (k : Fr → Prop) : Op → Prop
  | .binOp op t x y yt => (match arithB op, ev f x, ev f y with
    | true, .float .f64 a, .float .f64 b => ∀ r, FRes op a b r → k (up n f d (.float .f64 r))
    | _, _, _ => opd P f w (fun v => k (up n f d v)) (.binOp op t x y yt))
  | op => opd P f w (fun v => k (up n f d v)) op

theorem opq_sound {P : Program} {n : Nat} {f : Fr} {w : World} {k : Fr → Prop} {a : Act} (o : Oper) (hR : Rep n a f) (h : pq.opq P n f w o.dst k o.op) :
    ∀ u, Al u w → ∃ v u', (execOp a.eval o).run P u = .ok (.value v) u' ∧ Al u' w ∧ k (up n f o.dst v) := by
  have det : opd P f w (fun v => k (up n f o.dst v)) o.op → ∀ u, Al u w → ∃ v u', (execOp a.eval o).run P u = .ok (.value v) u' ∧ Al u' w ∧ k (up n f o.dst v) := by
    intro hd u hu
    obtain ⟨v, hk, hr⟩ := opd_sound o hd
    exact ⟨v, u, by rw [hR.evalF]; exact hr u hu, hu, hk⟩
  cases ho : o.op <;> rw [ho] at h <;> simp only [pq.opq] at h
  case binOp op t x y yt =>
    split at h
    · rename_i b1 x1 y1 av bv hop hx hy
      intro u hu
      rw [hR.evalF]
      obtain ⟨r, u', hal, hf, hrun⟩ := run_float_any (P := P) (a := av) (b := bv) hop t x y u
      refine ⟨.float .f64 r, u', ?_, hal.trans hu, h r hf⟩
      simp only [Sem.run_bind] at hrun
      simp only [execOp, ho, hx, hy, Sem.run_bind]
      generalize (eqGuard op t x y (.float .f64 av) (.float .f64 bv)).run P u = rr at *
      cases rr with
      | ok aa w' =>
        simp only [Result.andThen_ok] at hrun ⊢
        rw [hrun]
        rfl
      | halt x w' => simp at hrun
    · exact det (by rw [ho]; exact h)
  all_goals exact det (by rw [ho]; exact h)

theorem pq_nil (P : Program) (n : Nat) (ops : Array Oper) (w : World) (K : Fr → Prop) (f : Fr) : pq P n ops w K [] f = K f := nr rfl
theorem pq_cons (P : Program) (n : Nat) (ops : Array Oper) (w : World) (K : Fr → Prop) (d : Option Nat) (op : Op) (t : TypeId) (pos : String) (af : Array Edge) (rest : List Oper) (f : Fr) :
    pq P n ops w K (⟨d, op, t, pos, af, none⟩ :: rest) f = pq.opq P n f w d (pq P n ops w K rest) op := nr rfl
theorem pq_guard (P : Program) (n : Nat) (ops : Array Oper) (w : World) (K : Fr → Prop) (d : Option Nat) (op : Op) (t : TypeId) (pos : String) (af : Array Edge) (j : Nat) (b : Bool) (rest : List Oper) (f : Fr) :
    pq P n ops w K (⟨d, op, t, pos, af, some (j, b)⟩ :: rest) f = if yd ops f j == some b then pq.opq P n f w d (pq P n ops w K rest) op else pq P n ops w K rest (up n f d undef) := nr rfl

/-- A drawn region: its first 'k' operations read and reckon, in whatever order; the rest come in the text's order. -/
theorem cw_draw {P : Program} {n id : Nat} {l : List Oper} {Q : Exit → Fr → World → Prop} {f : Fr} {w : World} (k : Nat) (hm : P.follows .mixedOrders = true) (hB : calmB l.toArray k = true)
    (h : pq P n l.toArray w (fun f' => pw P n l.toArray (Q .normal) (l.drop k) f' w) (l.take k) f) : cw P n (.region id l.toArray true) Q f w := by
  simp only [calmB, Bool.and_eq_true, decide_eq_true_eq, beq_iff_eq] at hB
  obtain ⟨⟨⟨⟨⟨hns, hlx⟩, hW⟩, htl⟩, hre⟩, hk⟩ := hB
  intro a u hR hA
  have hu : Al { u with drawn := u.drawn + 1 } w := (Al.drawn u _).trans hA
  have hsz : l.toArray.size = l.length := by simp
  refine wp_region_any hm ?_
  have hkl : k ≤ l.length := by omega
  have key := wpAny_of_anyC (P := P) (C := fun u => Al u w) (Q := fun e a' u' => ∃ f' w', Rep n a' f' ∧ Al u' w' ∧ Q e f' w') hlx hW hk k (fst l.toArray.size 0) a _ hu (fst_size _ _) (dn_fst hlx (Nat.zero_le _)) (by rw [left_fst hk]; omega)
    (fun j hj => by
      by_cases h' : j < l.toArray.size
      · rw [fst_getD _ _ _ _ h']; simp
      · simp only [hsz] at h'; simp [fst, h'])
  rw [fst_zero] at key
  have hadd : k + (l.toArray.size - k) = l.toArray.size := by omega
  rw [hadd] at key
  refine key ?_
  rw [← fst_zero]
  refine anyC_lex hns hlx hW hk (fun t a => ∃ f, Rep n a f ∧ pq P n l.toArray w (fun f' => pw P n l.toArray (Q .normal) (l.drop k) f' w) ((l.take k).drop t) f) ?_ ?_ k 0 a (by omega) ⟨f, hR, h⟩
  · intro t a ht ⟨f, hR, hp⟩
    have hlt : t < (l.take k).length := by simp; omega
    have hdrop : (l.take k).drop t = (l.take k)[t] :: (l.take k).drop (t + 1) := List.drop_eq_getElem_cons hlt
    have hget : (l.take k)[t] = l[t] := by simp
    rw [hdrop, hget] at hp
    simp only [pq] at hp
    unfold cAt
    have ho : l.toArray[t]? = some l[t] := by simp
    simp only [ho]
    rw [hR.want]
    split
    · rename_i hw
      rw [if_pos hw] at hp
      intro u' hu'
      obtain ⟨v, u2, h1, h2, h3⟩ := opq_sound l[t] hR hp u' hu'
      exact ⟨v, u2, h1, h2, _, hR.put _ _, h3⟩
    · rename_i hw
      rw [if_neg hw] at hp
      exact ⟨_, hR.put _ _, hp⟩
  · intro a ⟨f, hR, hp⟩ u' hu'
    have hnil : (l.take k).drop k = [] := by simp
    rw [hnil] at hp
    refine wpAny_tail htl hre (l.drop k) k a u' (Nat.le_refl _) (by simp; omega) (fun j => by simp) ?_
    exact pw_sound (fun _ f _ w hR hA hk => ⟨f, w, hR, hA, hk⟩) (l.drop k) f w a u' hR hu' hp
end Go.Proofs.Qxb6601738a
