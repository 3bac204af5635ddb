/-
  Entering a function; reading blocks. No program is named here.
-/
import Derived.Test.Qxb6601738aDraw
namespace Go.Proofs.Qxb6601738a

def resW (P : Program) (f : Fr) (w : World) (R : Value → World → Prop) : List ResultVar → Prop
  | [] => R (.tuple #[]) w
  | [.tmp t] => R (f t) w
  | [.tmp t, .tmp s] => R (.tuple #[f t, f s]) w
  | [.cell a t] => (match f a with
    | .pointer (some ⟨b, 0, none⟩) => (match w.heap[b]? with
      | some (.cells cs _ _) => aggN P t = some cs.size ∧ R (.agg cs) w
      | _ => False)
    | _ => False)
  | _ => False

def retQ (P : Program) (rs : List ResultVar) (R : Value → World → Prop) : Exit → Fr → World → Prop
  | .normal, f, w => resW P f w R rs
  | .ret, f, w => resW P f w R rs
  | _, _, _ => False

theorem resW_sound {P : Program} {fn : Func} {n : Nat} {a : Act} {f : Fr} {w u : World} {R : Value → World → Prop} (hR : Rep n a f) (hA : Al u w) (h : resW P f w R fn.results.toList) :
    a.defers = [] ∧ ∃ v, (results fn a.tmps).run P u = .ok v u ∧ ∃ v' w', Ending.returned v = .returned v' ∧ Al u w' ∧ R v' w' := by
  refine ⟨hR.2.1, ?_⟩
  generalize hl : fn.results.toList = l at h
  have hrs : fn.results = l.toArray := by rw [← hl]
  unfold resW at h
  split at h
  · exact ⟨_, results_none hrs _ _ _, _, w, rfl, hA, h⟩
  · refine ⟨_, results_tmp hrs _ _ _, _, w, rfl, hA, ?_⟩
    rw [hR.2.2]; exact h
  · refine ⟨_, results_tmp2 hrs _ _ _, _, w, rfl, hA, ?_⟩
    rw [hR.2.2, hR.2.2]; exact h
  · rename_i a' t
    split at h
    · rename_i b hf
      split at h
      · rename_i cs T fz hb
        obtain ⟨hn, h⟩ := h
        refine ⟨.agg cs, ?_, _, w, rfl, hA, h⟩
        have hb' : u.heap[b]? = some (.cells cs T fz) := by rw [hA.1]; exact hb
        have hl := loadCells_block (P := P) b cs T fz cs.size 0 #[] u hb' (by omega) (by simp)
        have hg : a.tmps.getD a' undef = .pointer (some ⟨b, 0, none⟩) := by rw [hR.2.2]; exact hf
        have hg' : a.tmps[a']?.getD undef = .pointer (some ⟨b, 0, none⟩) := by simpa using hg
        simp [results, hrs, hg', asAddr, loadVar, (isAgg_of hn u).1, (isAgg_of hn u).2, loadCells, hl]
      · exact h.elim
    · exact h.elim
  · exact h.elim

/-- The frame at the start: the arguments, then nothing. -/
def fr0 (l : List Value) : Fr := fun i => l.getD i undef
theorem fr0_zero (v : Value) (l : List Value) : fr0 (v :: l) 0 = v := nr rfl
theorem fr0_succ (v : Value) (l : List Value) (i : Nat) : fr0 (v :: l) (i + 1) = fr0 l i := nr rfl

theorem hc_enter {P : Program} {g n : Nat} {fn : Func} {c : Code} {l : List Value} {w : World} {R : Value → World → Prop} (hf : P.funcs[g]? = some fn) (hb : fn.body = some c) (hn : fn.ntmps = n) (ha : l.length ≤ n)
    {rs : List ResultVar} (hrs : fn.results.toList = rs) (h : cw P n c (retQ P rs R) (fr0 l) w) : HC P g l.toArray w R := by
  subst hrs
  generalize hargs : l.toArray = args
  have hl : fr0 l = fun i => args.getD i undef := by funext i; simp [fr0, ← hargs]
  have ha : args.size ≤ n := by rw [← hargs]; simpa using ha
  rw [hl] at h
  intro u hu
  refine calls_of_wp hf hb ?_
  have hR : Rep n { tmps := args ++ Array.replicate (fn.ntmps - args.size) undef, defers := [] } (fun i => args.getD i undef) := by
    refine ⟨by simp; omega, rfl, fun i => ?_⟩
    by_cases h1 : i < args.size
    · simp only [Array.getD_eq_getD_getElem?, Array.getElem?_append, h1, if_true]
    · simp only [Array.getD_eq_getD_getElem?, Array.getElem?_append, h1, if_false]
      rw [Array.getElem?_eq_none (xs := args) (by omega)]
      by_cases h2 : i - args.size < fn.ntmps - args.size
      · simp [h2]
      · simp [h2]
  refine Code.wp_mono ?_ (h _ u hR hu)
  rintro e a' u' ⟨f', w', hR', hA', hq⟩
  cases e with
  | normal =>
    obtain ⟨hd, v, hr, v', w'', he, ha, hk⟩ := resW_sound (P := P) (fn := fn) hR' hA' hq
    exact ⟨hd, v, hr, v', w'', he, ha, hk⟩
  | ret =>
    obtain ⟨hd, v, hr, v', w'', he, ha, hk⟩ := resW_sound (P := P) (fn := fn) hR' hA' hq
    exact ⟨hd, v, hr, v', w'', he, ha, hk⟩
  | exit id => exact hq.elim
  | goto l => exact hq.elim
  | panic ch => exact hq.elim
  | outgrown => exact hq.elim

/-- What follows is kept behind a letter. -/
theorem cw_seq_k {P : Program} {n : Nat} {Q : Exit → Fr → World → Prop} {f : Fr} {w : World} {x y : Code} (h : ∀ K : Fr → World → Prop, (∀ f w, cw P n y Q f w → K f w) → cw P n x (seqQ K Q) f w) : cw P n (.seq x y) Q f w :=
  cw_seq' (h _ fun _ _ h => h)
end Go.Proofs.Qxb6601738a
