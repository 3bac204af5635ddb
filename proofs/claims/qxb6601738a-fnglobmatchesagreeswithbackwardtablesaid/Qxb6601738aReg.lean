/-
  Operations that write, make memory, call; regions, drawn or not. No program is named here.
-/
import Derived.Test.Qxb6601738aOps
import Derived.Laws.IdiomCopy
import Derived.Laws.BitsLemmas
namespace Go.Proofs.Qxb6601738a

/-- A call, worlds up to draws. -/
def HC (P : Program) (g : FuncId) (args : Array Value) (w : World) (R : Value → World → Prop) : Prop :=
  ∀ u, Al u w → Calls P g args u (fun e u' => ∃ v w', e = .returned v ∧ Al u' w' ∧ R v w')

theorem HC.mono {P : Program} {g : FuncId} {args : Array Value} {w : World} {R R' : Value → World → Prop} (h : HC P g args w R) (hr : ∀ v w', R v w' → R' v w') : HC P g args w R' :=
  fun u hu => (h u hu).mono fun _ _ ⟨v, w', he, ha, hq⟩ => ⟨v, w', he, ha, hr _ _ hq⟩

def storeW (P : Program) (t : TypeId) (x v : Value) (w : World) (k : World → Prop) : Prop :=
  match x with
  | .pointer (some p) => (sizeT P t = some 1 ∧ v.oneCell' = true) ∧ (match w.cell? p with
    | some _ => w.frozen? p = false ∧ k (w.setCell p v)
    | none => False)
  | _ => False

/-- A struct or an array stored. -/
def roomAt (w : World) (p : Addr) (m : Nat) : Prop := p.spot = none ∧ ∀ j, j < m → (w.cell? (p.add j)).isSome = true ∧ w.frozen? (p.add j) = false
def storeB (P : Program) (t : TypeId) (x v : Value) (w : World) (k : World → Prop) : Prop :=
  match x, v with
  | .pointer (some p), .agg vs => (aggN P t = some vs.size ∧ vs.toList.all (·.oneCell') = true) ∧ roomAt w p vs.size ∧ k (w.setCells p.block p.off vs.toList)
  | _, _ => False

def makeW (P : Program) (t : TypeId) (l c : Value) (w : World) (k : Value → World → Prop) : Prop :=
  match mkZ P t, l, c with
  | some (e, bs, z), .int _ j, .int _ j' => (j = j' ∧ 0 ≤ j ∧ j ≤ 2 ^ 40 ∧ bs * j ≤ 2 ^ 47) ∧
      k (.slice (some ⟨w.heap.size, 0, none⟩) j.toNat j.toNat) (w.alloc (.cells (Array.replicate j.toNat z) e))
  | _, _, _ => False

/-- element type, its bytes, its zero's cells, where these are not one. -/
def mkN (P : Program) (t : TypeId) : Option (TypeId × Nat × List Value) :=
  match P.underlying t with
  | some (.slice e) => (match P.info? e with
    | some i => (match i.zero with
      | some z => if i.size ≠ 1 ∧ z.cells.size = i.size then some (e, i.bytes, z.cells.toList) else none
      | none => none)
    | none => none)
  | _ => none
def zerosN (zs : List Value) (m : Nat) : Array Value := (Array.range (m * zs.length)).map fun x => zs.toArray[x % zs.length]!
def makeN (P : Program) (t : TypeId) (l c : Value) (w : World) (k : Value → World → Prop) : Prop :=
  match mkN P t, l, c with
  | some (e, bs, zs), .int _ j, .int _ j' => (j = j' ∧ 0 ≤ j ∧ j ≤ 2 ^ 40 ∧ bs * j ≤ 2 ^ 47) ∧
      k (.slice (some ⟨w.heap.size, 0, none⟩) j.toNat j.toNat) (w.alloc (.cells (zerosN zs j.toNat) e))
  | _, _, _ => False

/-- The world behind a store of 'vs' from the slice's start on. -/
def clrV (w : World) (v : Value) (vs : List Value) : World :=
  match v with
  | .slice (some p) _ _ => w.setCells p.block p.off vs
  | _ => w

def clearW (P : Program) (t : TypeId) (x : Value) (w : World) (k : World → Prop) : Prop :=
  match mkZ P t with
  | some (_, _, z) => isSl x = true ∧ z.oneCell' = true ∧ (∀ i, i < lenV x → (w.cell? (idxV x i)).isSome = true ∧ w.frozen? (idxV x i) = false) ∧ k (clrV w x (List.replicate (lenV x) z))
  | none => False

def opw (P : Program) (n : Nat) (f : Fr) (w : World) (d : Option Nat) (K : Fr → World → Prop) : Op → Prop
  | .store t x y => (match plainT P t with
    | true => storeW P t (ev f x) (ev f y) w (fun w' => K (up n f d undef) w')
    | false => storeB P t (ev f x) (ev f y) w (fun w' => K (up n f d undef) w'))
  | .alloc t => (match zeroC P t with
    | some z => K (up n f d (.pointer (some ⟨w.heap.size, 0, none⟩))) (w.alloc (.cells z t))
    | none => False)
  | .makeSlice t l c => (match (mkN P t).isSome with
    | true => makeN P t (ev f l) (ev f c) w (fun v w' => K (up n f d v) w')
    | false => makeW P t (ev f l) (ev f c) w (fun v w' => K (up n f d v) w'))
  | .box t x => K (up n f d (.pointer (some ⟨w.heap.size, 0, none⟩))) (w.alloc (.cells (ev f x).cells t))
  | .binOp op t x y yt => (match arithB op, ev f x, ev f y with
    | true, .float .f64 a, .float .f64 b => ∀ r, FRes op a b r → K (up n f d (.float .f64 r)) w
    | _, _, _ => opd P f w (fun v => K (up n f d v) w) (.binOp op t x y yt))
  | .call c => (match c.callee with
    | .value (.func g) => callable P g = true ∧ HC P g (c.args.map (ev f)) w (fun v w' => K (up n f d v) w')
    | .builtin .clear => (match c.args.toList, c.argTypes.toList with
      | [x], [t] => clearW P t (ev f x) w (fun w' => K (up n f d (.tuple #[])) w')
      | _, _ => False)
    | _ => opd P f w (fun v => K (up n f d v) w) (.call c))
  | op => opd P f w (fun v => K (up n f d v) w) op

theorem run_makeW {P : Program} {t : TypeId} {l c : Value} {w : World} {k : Value → World → Prop} (h : makeW P t l c w k) :
    ∃ v o, k v (w.alloc o) ∧ ∀ u, Al u w → (Instr.makeSlice t l c).run P u = .ok v (u.alloc o) := by
  unfold makeW at h
  split at h
  · rename_i e bs z k1 j k2 j' hz
    obtain ⟨⟨rfl, h0, h1, h2⟩, h⟩ := h
    refine ⟨_, _, h, fun u hu => ?_⟩
    unfold mkZ at hz
    split at hz
    · rename_i e' he
      split at hz
      · rename_i i hi
        split at hz
        · rename_i z' hz'
          split at hz
          · rename_i hs
            obtain ⟨hs1, hs2⟩ := hs
            cases hz
            have hw : IntKind.i64.wrap j = j := by rw [IntKind.wrap_i64]; omega
            have hsz : u.heap.size = w.heap.size := by rw [hu.1]
            have hb1 : decide (j < 0) = false := by simp; omega
            have hb2 : decide ((i.bytes : Int) * j > 2 ^ 48) = false := by simp only [decide_eq_false_iff_not]; omega
            have hb3 : decide (j > j) = false := by simp
            have hr : ∀ m, (Array.range m).map (fun x => z'.cells[x % z'.cells.size]!) = Array.replicate m (z'.cells.getD 0 undef) := by
              intro m
              apply Array.ext
              · simp
              · intro q h1 h2
                simp [hs2, Nat.mod_one]
            simp only [Instr.makeSlice, run_underlying' he, asInt, asIntOf, hw, newRow, Sem.run_bind, Sem.run_pure, Result.andThen_ok, hb1, hb2, hb3, Bool.or_self, run_sizeOf' hi, run_askRoom,
              show ∀ u : World, (typeInfo e).run P u = .ok i u from fun u => by simp [typeInfo, hi], Bool.false_eq_true, if_false, hs1, Nat.mul_one]
            by_cases hj : j.toNat = 0
            · have hr0 : ∀ g : Nat → Value, (Array.range 0).map g = Array.replicate 0 (z'.cells.getD 0 undef) := fun g => by simp
              simp only [hj, if_true, Sem.run_bind, Sem.run_pure, Result.andThen_ok, run_newObj, hsz, hr0]
              rfl
            · simp only [hj, if_false, Sem.run_bind, Sem.run_pure, Result.andThen_ok, run_newObj, hsz, hr,
                show ∀ u : World, (zeroValue e).run P u = .ok z' u from fun u => by simp [zeroValue, typeInfo, hi, hz']]
              rfl
          · cases hz
        · cases hz
      · cases hz
    · cases hz
  · exact h.elim

theorem run_makeN {P : Program} {t : TypeId} {l c : Value} {w : World} {k : Value → World → Prop} (h : makeN P t l c w k) :
    ∃ v o, k v (w.alloc o) ∧ ∀ u, Al u w → (Instr.makeSlice t l c).run P u = .ok v (u.alloc o) := by
  unfold makeN at h
  split at h
  · rename_i e bs zs k1 j k2 j' hz
    obtain ⟨⟨rfl, h0, h1, h2⟩, h⟩ := h
    refine ⟨_, _, h, fun u hu => ?_⟩
    unfold mkN at hz
    split at hz
    · rename_i e' he
      split at hz
      · rename_i i hi
        split at hz
        · rename_i z' hz'
          split at hz
          · rename_i hs
            obtain ⟨hs1, hs2⟩ := hs
            cases hz
            have hw : IntKind.i64.wrap j = j := by rw [IntKind.wrap_i64]; omega
            have hsz : u.heap.size = w.heap.size := by rw [hu.1]
            have hb1 : decide (j < 0) = false := by simp; omega
            have hb2 : decide ((i.bytes : Int) * j > 2 ^ 48) = false := by simp only [decide_eq_false_iff_not]; omega
            have hb3 : decide (j > j) = false := by simp
            have hlen : z'.cells.toList.length = i.size := by simp [hs2]
            simp only [Instr.makeSlice, run_underlying' he, asInt, asIntOf, hw, newRow, Sem.run_bind, Sem.run_pure, Result.andThen_ok, hb1, hb2, hb3, Bool.or_self, run_sizeOf' hi, run_askRoom,
              show ∀ u : World, (typeInfo e).run P u = .ok i u from fun u => by simp [typeInfo, hi], Bool.false_eq_true, if_false]
            by_cases hj : j.toNat * i.size = 0
            · have hr0 : ∀ g : Nat → Value, (Array.range 0).map g = zerosN z'.cells.toList j.toNat := fun g => by simp [zerosN, hs2, hj]
              simp only [hj, if_true, Sem.run_bind, Sem.run_pure, Result.andThen_ok, run_newObj, hsz, hr0]
              rfl
            · have hr1 : (Array.range (j.toNat * i.size)).map (fun x => z'.cells[x % z'.cells.size]!) = zerosN z'.cells.toList j.toNat := by simp [zerosN, hs2]
              simp only [hj, if_false, Sem.run_bind, Sem.run_pure, Result.andThen_ok, run_newObj, hsz, hr1,
                show ∀ u : World, (zeroValue e).run P u = .ok z' u from fun u => by simp [zeroValue, typeInfo, hi, hz']]
              rfl
          · cases hz
        · cases hz
      · cases hz
    · cases hz
  · exact h.elim

theorem run_storeW {P : Program} {t : TypeId} {x v : Value} {w : World} {k : World → Prop} (h : storeW P t x v w k) :
    ∃ p, k (w.setCell p v) ∧ ∀ u, Al u w → (Instr.storeAt t x v).run P u = .ok () (u.setCell p v) := by
  unfold storeW at h
  split at h
  · rename_i p
    obtain ⟨⟨hs, hv⟩, h⟩ := h
    split at h
    · rename_i v0 hc
      obtain ⟨hf, h⟩ := h
      refine ⟨p, h, fun u hu => ?_⟩
      obtain ⟨i, hi, hi1⟩ := Option.map_eq_some_iff.1 hs
      have hcells : v.cells = #[v] := by cases v <;> first | rfl | (simp [Value.oneCell'] at hv)
      have hadd : p.add 0 = p := by simp [Addr.add]
      simp [Instr.storeAt, Instr.sureAddr, storeVar, hcells, run_sizeOf' hi, hi1, storeCells, hadd, run_store P u p v .plain hv, hu.cell?, hc, hu.frozen?, hf]
    · exact h.elim
  · exact h.elim

theorem Al.setCells {u w : World} (h : Al u w) (b : Nat) : ∀ (vs : List Value) (o : Nat), Al (u.setCells b o vs) (w.setCells b o vs) := by
  intro vs
  induction vs generalizing u w with
  | nil => intro o; exact h
  | cons v r ih => intro o; exact ih (h.setCell _ _) _

theorem run_storeB {P : Program} {t : TypeId} {x v : Value} {w : World} {k : World → Prop} (h : storeB P t x v w k) :
    ∃ w', k w' ∧ ∀ u, Al u w → ∃ u', Al u' w' ∧ (Instr.storeAt t x v).run P u = .ok () u' := by
  unfold storeB at h
  split at h
  · rename_i p vs
    obtain ⟨⟨hn, h1⟩, ⟨hsp, hr⟩, h⟩ := h
    obtain ⟨b, o, sp⟩ := p
    simp only at hsp
    subst hsp
    simp only [addr_add] at hr
    refine ⟨_, h, fun u hu => ⟨u.setCells b o vs.toList, hu.setCells _ _ _, ?_⟩⟩
    have := run_storeCells_cells (P := P) b o vs.toList 0 u (fun j hj => by rw [hu.cell?]; exact (hr j (by simpa using hj)).1) (fun j hj => by rw [hu.frozen?]; exact (hr j (by simpa using hj)).2) (fun v hv => List.all_eq_true.1 h1 v hv)
    simp [Instr.storeAt, Instr.sureAddr, storeVar, Value.cells, (isAgg_of hn u).2, this]
  · exact h.elim

theorem run_clearW {P : Program} {t : TypeId} {x : Value} {w : World} {k : World → Prop} (h : clearW P t x w k) :
    ∃ w', k w' ∧ ∀ u ty, Al u w → ∃ u', Al u' w' ∧ (Builtin.clear_ #[t] ty #[x]).run P u = .ok (.tuple #[]) u' := by
  unfold clearW at h
  split at h
  · rename_i e bs z hz
    obtain ⟨hsl, h1, ht, h⟩ := h
    refine ⟨_, h, fun u ty hu => ?_⟩
    unfold mkZ at hz
    split at hz
    · rename_i e' he
      split at hz
      · rename_i i hi
        split at hz
        · rename_i z' hz'
          split at hz
          · rename_i hs
            obtain ⟨hs1, hs2⟩ := hs
            cases hz
            generalize hzv : z'.cells.getD 0 undef = zv at *
            cases x <;> try (simp [isSl] at hsl; done)
            rename_i a n c
            simp only [lenV] at ht ⊢
            have hzc : Builtin.zeroCells z'.cells n = Array.replicate n zv := by
              unfold Builtin.zeroCells
              rw [hs2, Nat.mul_one]
              apply Array.ext
              · simp
              · intro q h1 h2
                simp [Nat.mod_one, ← hzv, hs2]
            cases a with
            | none => exact ⟨u, hu, by simp [Builtin.clear_, run_underlying' he]⟩
            | some p =>
              cases n with
              | zero => exact ⟨u, hu, by simp [Builtin.clear_, run_underlying' he]⟩
              | succ m =>
                obtain ⟨b, o, spot⟩ := p
                have h0 := (ht 0 (by omega)).1
                have hsp : spot = none := by
                  cases spot with
                  | none => rfl
                  | some q =>
                    exfalso
                    simp only [idxV, Addr.add, if_true, World.cell?] at h0
                    split at h0 <;> simp at h0
                subst hsp
                simp only [idxV, addr_add] at ht
                have hst : (storeCells ⟨b, o, none⟩ (List.replicate (m + 1) zv)).run P u = .ok () (u.setCells b o (List.replicate (m + 1) zv)) := by
                  have := run_storeCells_cells (P := P) b o (List.replicate (m + 1) zv) 0 u (fun j hj => by rw [hu.cell?]; exact (ht j (by simpa using hj)).1) (fun j hj => by rw [hu.frozen?]; exact (ht j (by simpa using hj)).2)
                    (fun v hv => by rw [List.eq_of_mem_replicate hv]; exact h1)
                  simpa using this
                exact ⟨u.setCells b o (List.replicate (m + 1) zv), hu.setCells _ _ _, by simp [Builtin.clear_, run_underlying' he, zeroValue, typeInfo, hi, hz', hzc, hst]⟩
          · cases hz
        · cases hz
      · cases hz
    · cases hz
  · exact h.elim

theorem run_float_any {P : Program} {op : BinOp} {a b : Nat} (ho : arithB op = true) (t : TypeId) (X Y : Operand) (u : World) :
    ∃ r u', Al u' u ∧ FRes op a b r ∧ (do eqGuard op t X Y (.float .f64 a) (.float .f64 b); binOp op t (.float .f64 a) (.float .f64 b) : Sem Value).run P u = .ok (.float .f64 r) u' := by
  cases hb : floatBits op .f64 a b with
  | some r =>
    refine ⟨r, u, Al.refl _, .inl hb, ?_⟩
    have h1 := run_float_arith (P := P) u op t .f64 a b r hb
    cases op <;> simp [arithB] at ho <;> simp [eqGuard, h1]
  | none =>
    have hq : ∀ tt : Nat, NaNb ((tt % 2) * 2 ^ 63 + 0x7ff0000000000000 + 1 + (tt / 2) % (2 ^ 52 - 1)) := by
      intro tt
      have h2 : tt % 2 < 2 := Nat.mod_lt _ (by decide)
      have h3 : (tt / 2) % (2 ^ 52 - 1) < 2 ^ 52 - 1 := Nat.mod_lt _ (by decide)
      generalize tt % 2 = s at *
      generalize (tt / 2) % (2 ^ 52 - 1) = q at *
      refine ⟨?_, by omega⟩
      have e1 : (s * 2 ^ 63 + 0x7ff0000000000000 + 1 + q) % Ieee.double.signWeight = 0x7ff0000000000000 + 1 + q := by
        show (s * 2 ^ 63 + 0x7ff0000000000000 + 1 + q) % (2 ^ 63) = _
        omega
      simp only [Ieee.Format.read, e1]
      have e2 : Ieee.double.binade = 4503599627370496 := rfl
      have e3 : Ieee.double.infRung = 9218868437227405312 := rfl
      rw [e2, e3, if_neg (by omega), if_neg (by omega), if_neg (by omega)]
      rfl
    refine ⟨_, { u with drawn := u.drawn + 1 }, Al.drawn _ _, .inr ⟨hb, hq (u.tape u.drawn (.nanBits .f64 a b))⟩, ?_⟩
    cases op <;> simp [arithB] at ho <;> simp only [floatBits] at hb <;>
      simp [eqGuard, binOp, Op.floatArith, hb, Question.forced, Question.cut]

theorem opw_sound {P : Program} {n : Nat} {f : Fr} {w : World} {K : Fr → World → Prop} {a : Act} {u : World} (o : Oper) (hR : Rep n a f) (hA : Al u w) (h : opw P n f w o.dst K o.op)
    {Q : Exit → Act → World → Prop} : o.wp P a u (fun a' u' => ∃ f' w', Rep n a' f' ∧ Al u' w' ∧ K f' w') Q := by
  have det : opd P f w (fun v => K (up n f o.dst v) w) o.op → o.wp P a u (fun a' u' => ∃ f' w', Rep n a' f' ∧ Al u' w' ∧ K f' w') Q := by
    intro hd
    obtain ⟨v, hk, hr⟩ := opd_sound o hd
    unfold Oper.wp
    rw [hR.evalF, hr u hA]
    exact ⟨_, w, hR.put _ _, hA, hk⟩
  cases ho : o.op <;> rw [ho] at h <;> simp only [opw] at h
  case store t x y =>
    split at h
    · obtain ⟨p, hk, hr⟩ := run_storeW h
      unfold Oper.wp
      rw [hR.evalF]
      simp only [execOp, ho, Sem.run_bind, hr u hA, Result.andThen_ok, Sem.run_pure, Oper.upon]
      exact ⟨_, _, hR.put _ _, hA.setCell _ _, hk⟩
    · obtain ⟨w', hk, hr⟩ := run_storeB h
      obtain ⟨u', hal, hrun⟩ := hr u hA
      unfold Oper.wp
      rw [hR.evalF]
      simp only [execOp, ho, Sem.run_bind, hrun, Result.andThen_ok, Sem.run_pure, Oper.upon]
      exact ⟨_, _, hR.put _ _, hal, hk⟩
  case alloc t =>
    split at h
    · rename_i z hz
      unfold zeroC at hz
      split at hz
      · rename_i i hi
        obtain ⟨zv, hzv, rfl⟩ := Option.map_eq_some_iff.1 hz
        unfold Oper.wp
        rw [hR.evalF]
        simp only [execOp, ho, Sem.run_bind, Instr.alloc, newVar, newRow, Result.andThen_ok, Sem.run_pure, run_newObj, Oper.upon, show ∀ u : World, (zeroValue t).run P u = .ok zv u from fun u => by simp [zeroValue, typeInfo, hi, hzv]]
        refine ⟨_, _, hR.put _ _, hA.alloc (.cells zv.cells t), ?_⟩
        rw [hA.1]
        exact h
      · cases hz
    · exact h.elim
  case makeSlice t l c =>
    obtain ⟨v, ob, hk, hr⟩ : ∃ v ob, K (up n f o.dst v) (w.alloc ob) ∧ ∀ u, Al u w → (Instr.makeSlice t (ev f l) (ev f c)).run P u = .ok v (u.alloc ob) := by
      split at h
      · exact run_makeN h
      · exact run_makeW h
    unfold Oper.wp
    rw [hR.evalF]
    simp only [execOp, ho, Sem.run_bind, hr u hA, Result.andThen_ok, Sem.run_pure, Oper.upon]
    exact ⟨_, _, hR.put _ _, hA.alloc _, hk⟩
  case box t x =>
    unfold Oper.wp
    rw [hR.evalF]
    simp only [execOp, ho, Sem.run_bind, Instr.box, newVar, newRow, Result.andThen_ok, Sem.run_pure, run_newObj, Oper.upon]
    refine ⟨_, _, hR.put _ _, hA.alloc (.cells (ev f x).cells t), ?_⟩
    rw [hA.1]
    exact h
  case binOp op t x y yt =>
    split at h
    · rename_i b1 x1 y1 av bv hop hx hy
      unfold Oper.wp
      rw [hR.evalF]
      obtain ⟨r, u', hal, hf, hrun⟩ := run_float_any (P := P) (a := av) (b := bv) hop t x y u
      simp only [Sem.run_bind] at hrun
      simp only [execOp, ho, hx, hy, Sem.run_bind]
      generalize (eqGuard op t x y (.float .f64 av) (.float .f64 bv)).run P u = rr at *
      cases rr with
      | ok aa w' =>
        simp only [Result.andThen_ok] at hrun ⊢
        rw [hrun]
        exact ⟨_, w, hR.put _ _, hal.trans hA, h r hf⟩
      | halt x w' => simp at hrun
    · exact det (by rw [ho]; exact h)
  case call c =>
    split at h
    · rename_i cc g hc
      obtain ⟨hg, h⟩ := h
      unfold callable at hg
      split at hg
      · rename_i fn hfn
        simp only [Bool.and_eq_true, Bool.not_eq_true'] at hg
        obtain ⟨h1, h2⟩ := hg
        unfold Oper.wp
        rw [hR.evalF]
        have hb : fn.body.isNone = false := by cases hbb : fn.body <;> simp_all
        simp only [execOp, ho, resolve, hc, Deferred.ofValue, ev, invoke, callFunc, Sem.run_bind, Sem.run_pure, Result.andThen_ok, run_program, hfn, h1, hb, Bool.false_eq_true, if_false, Oper.upon, Array.append_empty, Array.empty_append]
        refine (h u hA).mono ?_
        rintro e u' ⟨v, w', rfl, ha, hk⟩
        exact ⟨_, w', hR.put _ _, ha, hk⟩
      · cases hg
    · rename_i cc hc
      split at h
      · rename_i x t hx ht
        obtain ⟨w', hk, hr⟩ := run_clearW h
        unfold Oper.wp
        rw [hR.evalF]
        have hargs : c.args.map (ev f) = #[ev f x] := by
          have : c.args = #[x] := by rw [← Array.toArray_toList (xs := c.args), hx]
          rw [this]; simp
        have hty : c.argTypes = #[t] := by rw [← Array.toArray_toList (xs := c.argTypes), ht]
        obtain ⟨u', hal, hrun⟩ := hr u o.type hA
        simp only [execOp, ho, resolve, hc, invoke, builtin, Sem.run_bind, Sem.run_pure, Result.andThen_ok, hargs, hty, hrun, Oper.upon]
        exact ⟨_, w', hR.put _ _, hal, hk⟩
      · exact h.elim
    · exact det (by rw [ho]; exact h)
  all_goals exact det (by rw [ho]; exact h)

/-! ### Regions in the text's order -/
def pw (P : Program) (n : Nat) (ops : Array Oper) (K : Fr → World → Prop) : List Oper → Fr → World → Prop
  | [], f, w => K f w
  | o :: rest, f, w => if want ops f o then opw P n f w o.dst (pw P n ops K rest) o.op else pw P n ops K rest (up n f o.dst undef) w

theorem pw_nil (P : Program) (n : Nat) (ops : Array Oper) (K : Fr → World → Prop) (f : Fr) (w : World) : pw P n ops K [] f w = K f w := nr rfl
theorem pw_cons (P : Program) (n : Nat) (ops : Array Oper) (K : Fr → World → Prop) (d : Option Nat) (op : Op) (t : TypeId) (pos : String) (af : Array Edge) (rest : List Oper) (f : Fr) (w : World) :
    pw P n ops K (⟨d, op, t, pos, af, none⟩ :: rest) f w = opw P n f w d (pw P n ops K rest) op := nr rfl
theorem pw_guard (P : Program) (n : Nat) (ops : Array Oper) (K : Fr → World → Prop) (d : Option Nat) (op : Op) (t : TypeId) (pos : String) (af : Array Edge) (j : Nat) (b : Bool) (rest : List Oper) (f : Fr) (w : World) :
    pw P n ops K (⟨d, op, t, pos, af, some (j, b)⟩ :: rest) f w = if yd ops f j == some b then opw P n f w d (pw P n ops K rest) op else pw P n ops K rest (up n f d undef) w := nr rfl

theorem yd_at (l : List Oper) (f : Fr) (j : Nat) : yd l.toArray f j = yv f ((l[j]?).bind (·.dst)) := nr (by unfold yd; rw [List.getElem?_toArray])

theorem pw_sound {P : Program} {n : Nat} {ops : Array Oper} {Q : Exit → Act → World → Prop} {K : Fr → World → Prop} (hK : ∀ a f u w, Rep n a f → Al u w → K f w → Q .normal a u) : ∀ (l : List Oper) (f : Fr) (w : World) (a : Act) (u : World), Rep n a f → Al u w → pw P n ops K l f w → wpList P ops Q l a u := by
  intro l
  induction l with
  | nil => intro f w a u hR hA h; exact hK a f u w hR hA h
  | cons o rest ih =>
    intro f w a u hR hA h
    simp only [pw] at h
    unfold wpList
    rw [hR.want]
    split
    · rename_i hw
      rw [if_pos hw] at h
      refine .inl (Oper.wp_mono ?_ (opw_sound o hR hA h))
      rintro a' u' ⟨f', w', hR', hA', hk⟩
      exact ih f' w' a' u' hR' hA' hk
    · rename_i hw
      rw [if_neg hw] at h
      exact ih _ _ _ _ (hR.put _ _) hA h

theorem cw_region {P : Program} {n id : Nat} {l : List Oper} {Q : Exit → Fr → World → Prop} {f : Fr} {w : World} (h : pw P n l.toArray (Q .normal) l f w) : cw P n (.region id l.toArray false) Q f w :=
  fun a u hR hA => wp_region_lit (pw_sound (fun _ f _ w hR hA hk => ⟨f, w, hR, hA, hk⟩) l f w a u hR hA h)
end Go.Proofs.Qxb6601738a
