import Derived.Test.Qxb6601548aFSpec
namespace Go.Proofs.Qxb6601548a
open Go.RowKit
open Ieee (Datum)
set_option linter.unusedSimpArgs false
set_option linter.unusedVariables false

theorem exitB {id : Nat} {Q : Exit → Fr → World → Prop} {f : Fr} {w : World} (h : Q .normal f w) : blockQ id Q (.exit id) f w := by simpa [blockQ] using h
theorem seqX {i : Nat} {K : Fr → World → Prop} {Q : Exit → Fr → World → Prop} {f : Fr} {w : World} (h : Q (.exit i) f w) : seqQ K Q (.exit i) f w := h

/-! ### Parts of columns -/
theorem subI {w : World} {v : Value} {ix : List Int} (h : Sl w v (i32s ix)) {lo hi : Nat} (h1 : lo ≤ hi) (h2 : hi ≤ ix.length) :
    isSl (subV v lo hi 1) = true ∧ lenV (subV v lo hi 1) = hi - lo ∧ ∀ j, j < hi - lo → w.cell? (idxV (subV v lo hi 1) j) = some (.int .i32 (ix.getD (lo + j) 0)) := by
  have s := h.sub h1 (by rw [i32s_len]; exact h2)
  refine ⟨s.sl, ?_, fun j hj => ?_⟩
  · rw [s.len]; simp [i32s]; omega
  · rw [s.get j (by simp [i32s]; omega)]
    simp only [List.getElem?_take, hj, if_true, List.getElem?_drop, i32s, List.getElem?_map, List.getD_eq_getElem?_getD]
    rw [List.getElem?_eq_getElem (show lo + j < ix.length by omega)]
    rfl
theorem subF {w : World} {v : Value} {xs : List Nat} (h : Sl w v (fls xs)) {lo hi : Nat} (h1 : lo ≤ hi) (h2 : hi ≤ xs.length) :
    isSl (subV v lo hi 1) = true ∧ lenV (subV v lo hi 1) = hi - lo ∧ ∀ j, j < hi - lo → w.cell? (idxV (subV v lo hi 1) j) = some (.float .f64 (xs.getD (lo + j) 0)) := by
  have s := h.sub h1 (by rw [fls_len]; exact h2)
  refine ⟨s.sl, ?_, fun j hj => ?_⟩
  · rw [s.len]; simp [fls]; omega
  · rw [s.get j (by simp [fls]; omega)]
    simp only [List.getElem?_take, hj, if_true, List.getElem?_drop, fls, List.getElem?_map, List.getD_eq_getElem?_getD]
    rw [List.getElem?_eq_getElem (show lo + j < xs.length by omega)]
    rfl

/-- what a fitting list of columns gives -/
structure CF (ix : List Int) (nv : Nat) (es : List Int) (cnt bound : Nat) : Prop where
  num : es.length = cnt
  ends : Ends es ix.length
  ends2 : Ends es nv
  idx : ∀ s, s < cnt → ∀ j, j < colN es s → 0 ≤ ix.getD (bnd es s + j) 0 ∧ ix.getD (bnd es s + j) 0 < bound
  hi : ∀ s, s < cnt → bnd es s ≤ bnd es (s + 1) ∧ bnd es (s + 1) ≤ ix.length ∧ bnd es (s + 1) ≤ nv
theorem ColFit.cf {ix : List Int} {nv : Nat} {es : List Int} {cnt bound : Nat} (h : ColFit ix nv es cnt bound) : CF ix nv es cnt bound := by
  obtain ⟨h1, h2, h3, h4, h5⟩ := h
  obtain ⟨en, eb⟩ := ends_of' h2
  have mono : ∀ M : Nat, eLast 0 es ≤ M → Ends es M := fun M hM s hs => ⟨(en s hs).1, (en s hs).2.1, by have := (en s hs).2.2; omega⟩
  refine ⟨h1, mono _ h3, mono _ h4, fun s hs j hj => ?_, fun s hs => ⟨(en s (by omega)).2.1, (mono _ h3 s (by omega)).2.2, (mono _ h4 s (by omega)).2.2⟩⟩
  have e1 := (en s (by omega)).2.1
  have e2 := (en s (by omega)).2.2
  unfold colN at hj
  have hlt : bnd es s + j < (ix.take (eLast 0 es).toNat).length := by simp; omega
  have := all_get h5 hlt
  rw [List.getElem_take] at this
  have hg : ix.getD (bnd es s + j) 0 = ix[bnd es s + j]'(by simp at hlt; omega) := by simp [List.getD_eq_getElem?_getD, show bnd es s + j < ix.length by simp at hlt; omega]
  rw [hg]; exact this

/-! ### The two rooms -/
def SXZ (vx vz : Value) (i : Nat) : Prop := blkV vx = some i ∨ blkV vz = some i
structure FS (w : World) (vx vz : Value) (w' : World) (xs zs : List Nat) (e : Nat) : Prop where
  ox : Own w' vx (fls xs)
  oz : Own w' vz (fls zs)
  kp : Keep (SXZ vx vz) w w'
  lx : xs.length = e
  lz : zs.length = e
structure FC (w0 w : World) (pp : Nat) (b : BV) (st : Value) (d : BD) (vx vz : Value) : Prop where
  I : BIn w0 b d
  k0 : Keep (fun _ => False) w0 w
  Pg : Prg w pp b st
  px : blkV vx ≠ some pp
  pz : blkV vz ≠ some pp
  nx : ∀ i, blkV vx = some i → w0.heap.size ≤ i
  nz : ∀ i, blkV vz = some i → w0.heap.size ≤ i
  xz : Apt vx vz
  zx : Apt vz vx
  fit : BFit d
  len : BLen d
theorem FC.prg {w0 w w' : World} {pp : Nat} {b : BV} {st : Value} {d : BD} {vx vz : Value} (c : FC w0 w pp b st d vx vz) (k : Keep (SXZ vx vz) w w') : Prg w' pp b st :=
  c.Pg.keep k fun h => h.elim c.px c.pz
theorem FC.kept {w0 w w' : World} {pp : Nat} {b : BV} {st : Value} {d : BD} {vx vz : Value} (c : FC w0 w pp b st d vx vz) (k : Keep (SXZ vx vz) w w') : Keep (fun _ => False) w0 w' :=
  ⟨k.os.trans c.k0.os, k.tape.trans c.k0.tape, k.output.trans c.k0.output, Nat.le_trans c.k0.size k.size, fun i hi _ =>
    (k.block i (Nat.lt_of_lt_of_le hi c.k0.size) (fun h => by rcases h with h | h; have := c.nx i h; omega; have := c.nz i h; omega)).trans (c.k0.block i hi (fun h => h))⟩
theorem FC.inn {w0 w w' : World} {pp : Nat} {b : BV} {st : Value} {d : BD} {vx vz : Value} (c : FC w0 w pp b st d vx vz) (k : Keep (SXZ vx vz) w w') : BIn w' b d := c.I.old (c.kept k)
theorem FS.setX {w : World} {vx vz : Value} {w' : World} {xs zs : List Nat} {e : Nat} (h : FS w vx vz w' xs zs e) (a : Apt vx vz) {i : Nat} (hi : i < e) (r : Nat) : FS w vx vz (w'.setCell (idxV vx i) (.float .f64 r)) (xs.set i r) zs e := by
  have hi' : i < (fls xs).length := by rw [fls_len, h.lx]; exact hi
  have bx := idx_block h.ox.sl hi'
  exact ⟨h.ox.setF (by rw [h.lx]; exact hi) r, h.oz.far bx a _, h.kp.setCell (.inl bx) _, by simpa using h.lx, h.lz⟩
theorem FS.setZ {w : World} {vx vz : Value} {w' : World} {xs zs : List Nat} {e : Nat} (h : FS w vx vz w' xs zs e) (a : Apt vz vx) {i : Nat} (hi : i < e) (r : Nat) : FS w vx vz (w'.setCell (idxV vz i) (.float .f64 r)) xs (zs.set i r) e := by
  have hi' : i < (fls zs).length := by rw [fls_len, h.lz]; exact hi
  have bz := idx_block h.oz.sl hi'
  exact ⟨h.ox.far bz a _, h.oz.setF (by rw [h.lz]; exact hi) r, h.kp.setCell (.inr bz) _, h.lx, by simpa using h.lz⟩
theorem FS.getX {w : World} {vx vz : Value} {w' : World} {xs zs : List Nat} {e : Nat} (h : FS w vx vz w' xs zs e) {i : Nat} (hi : i < e) : w'.cell? (idxV vx i) = some (.float .f64 (xs.getD i 0)) := by
  have hl := h.lx
  rw [h.ox.sl.fl (i := i) (by omega)]; simp [List.getD_eq_getElem?_getD, show i < xs.length by omega]
theorem FS.getZ {w : World} {vx vz : Value} {w' : World} {xs zs : List Nat} {e : Nat} (h : FS w vx vz w' xs zs e) {i : Nat} (hi : i < e) : w'.cell? (idxV vz i) = some (.float .f64 (zs.getD i 0)) := by
  have hl := h.lz
  rw [h.oz.sl.fl (i := i) (by omega)]; simp [List.getD_eq_getElem?_getD, show i < zs.length by omega]
theorem FS.fzX {w : World} {vx vz : Value} {w' : World} {xs zs : List Nat} {e : Nat} (h : FS w vx vz w' xs zs e) {i : Nat} (hi : i < e) : w'.frozen? (idxV vx i) = false :=
  h.ox.frozen (by rw [fls_len, h.lx]; exact hi)
theorem FS.fzZ {w : World} {vx vz : Value} {w' : World} {xs zs : List Nat} {e : Nat} (h : FS w vx vz w' xs zs e) {i : Nat} (hi : i < e) : w'.frozen? (idxV vz i) = false :=
  h.oz.frozen (by rw [fls_len, h.lz]; exact hi)
theorem FS.slX {w : World} {vx vz : Value} {w' : World} {xs zs : List Nat} {e : Nat} (h : FS w vx vz w' xs zs e) : isSl vx = true ∧ lenV vx = e := ⟨h.ox.sl.sl, by rw [h.ox.sl.len, fls_len, h.lx]⟩
theorem FS.slZ {w : World} {vx vz : Value} {w' : World} {xs zs : List Nat} {e : Nat} (h : FS w vx vz w' xs zs e) : isSl vz = true ∧ lenV vz = e := ⟨h.oz.sl.sl, by rw [h.oz.sl.len, fls_len, h.lz]⟩

/-! ### One step of the plain function -/
def cl (xs : List Nat) : List Datum := xs.map cls
theorem cl_getD (xs : List Nat) (i : Nat) : (cl xs).getD i dZ = cls (xs.getD i 0) := by
  unfold cl
  simp only [List.getD_eq_getElem?_getD, List.getElem?_map]
  cases xs[i]? with
  | none => simp [cls_zero]
  | some v => simp
theorem cl_set (xs : List Nat) (i r : Nat) : cl (xs.set i r) = (cl xs).set i (cls r) := by unfold cl; simp [List.map_set]
theorem step_mul {xs : List Nat} {Y : List Datum} (h : cl xs = Y) {e c v r1 r : Nat} (h1 : FRes .mul c v r1) (h2 : FRes .sub (xs.getD e 0) r1 r) : cl (xs.set e r) = sub1 e (dmul (rd c) (cls v)) Y := by
  rw [cl_set, sub_res h2, mul_res h1, h]
  unfold sub1 rd
  rw [← h, cl_getD]
theorem step_sub {xs : List Nat} {Y : List Datum} (h : cl xs = Y) {e v r : Nat} (h2 : FRes .sub (xs.getD e 0) v r) : cl (xs.set e r) = sub1 e (cls v) Y := by
  rw [cl_set, sub_res h2, h]
  unfold sub1
  rw [← h, cl_getD]
theorem wrap_pred (a : Int) (h0 : -9223372036854775807 ≤ a) (h1 : a < 9223372036854775808) : IntKind.i64.wrap (a - 1) = a - 1 := by
  rw [IntKind.wrap_i64]; omega
theorem Sl.i32D {w : World} {v : Value} {xs : List Int} (h : Sl w v (i32s xs)) {i : Nat} (hi : i < xs.length) : w.cell? (idxV v i) = some (.int .i32 (xs.getD i 0)) := by
  rw [h.i32 hi]; simp [List.getD_eq_getElem?_getD, hi]
theorem Sl.flD {w : World} {v : Value} {xs : List Nat} (h : Sl w v (fls xs)) {i : Nat} (hi : i < xs.length) : w.cell? (idxV v i) = some (.float .f64 (xs.getD i 0)) := by
  rw [h.fl hi]; simp [List.getD_eq_getElem?_getD, hi]
theorem R32.getD {xs : List Int} (h : R32 xs) (i : Nat) : IntKind.i64.wrap (xs.getD i 0) = xs.getD i 0 := by
  by_cases hi : i < xs.length
  · have := h xs[i] (List.getElem_mem _)
    rw [show xs.getD i 0 = xs[i] by simp [List.getD_eq_getElem?_getD, hi]]
    exact wrap32_64 _ this
  · rw [show xs.getD i 0 = 0 by simp [List.getD_eq_getElem?_getD, hi]]
    exact wrap_id _ (by omega) (by omega)
end Go.Proofs.Qxb6601548a
