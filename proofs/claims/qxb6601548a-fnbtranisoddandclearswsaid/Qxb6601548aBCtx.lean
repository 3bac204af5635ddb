import Derived.Test.Qxb6601548aBSpec
namespace Go.Proofs.Qxb6601548a
open Go.RowKit
open Ieee (Datum)
set_option linter.unusedSimpArgs false
set_option linter.unusedVariables false

/-! ### Three rooms -/
def S3 (vx vz vh : Value) (i : Nat) : Prop := blkV vx = some i ∨ blkV vz = some i ∨ blkV vh = some i
structure FT (w : World) (vx vz vh : Value) (w' : World) (xs zs hs : List Nat) (e n : Nat) : Prop where
  ox : Own w' vx (fls xs)
  oz : Own w' vz (fls zs)
  oh : Own w' vh (fls hs)
  kp : Keep (S3 vx vz vh) w w'
  lx : xs.length = e
  lz : zs.length = e
  lh : hs.length = n
structure GC (w0 w : World) (pp : Nat) (b : BV) (vh : Value) (d : BD) (vx vz : Value) : Prop where
  I : BIn w0 b d
  k0 : Keep (fun _ => False) w0 w
  Pg : Prg w pp b vh
  px : blkV vx ≠ some pp
  pz : blkV vz ≠ some pp
  ph : blkV vh ≠ some pp
  nx : ∀ i, blkV vx = some i → w0.heap.size ≤ i
  nz : ∀ i, blkV vz = some i → w0.heap.size ≤ i
  nh : ∀ i, blkV vh = some i → w0.heap.size ≤ i
  xz : Apt vx vz
  xh : Apt vx vh
  zx : Apt vz vx
  zh : Apt vz vh
  hx : Apt vh vx
  hz : Apt vh vz
  fit : BFit d
  len : BLen d
theorem GC.prg {w0 w w' : World} {pp : Nat} {b : BV} {vh : Value} {d : BD} {vx vz : Value} (c : GC w0 w pp b vh d vx vz) (k : Keep (S3 vx vz vh) w w') : Prg w' pp b vh :=
  c.Pg.keep k fun h => by rcases h with h | h | h; exact c.px h; exact c.pz h; exact c.ph h
theorem GC.kept {w0 w w' : World} {pp : Nat} {b : BV} {vh : Value} {d : BD} {vx vz : Value} (c : GC w0 w pp b vh d vx vz) (k : Keep (S3 vx vz vh) w w') : Keep (fun _ => False) w0 w' :=
  ⟨k.os.trans c.k0.os, k.tape.trans c.k0.tape, k.output.trans c.k0.output, Nat.le_trans c.k0.size k.size, fun i hi _ =>
    (k.block i (Nat.lt_of_lt_of_le hi c.k0.size) (fun h => by rcases h with h | h | h; have := c.nx i h; omega; have := c.nz i h; omega; have := c.nh i h; omega)).trans (c.k0.block i hi (fun h => h))⟩
theorem GC.inn {w0 w w' : World} {pp : Nat} {b : BV} {vh : Value} {d : BD} {vx vz : Value} (c : GC w0 w pp b vh d vx vz) (k : Keep (S3 vx vz vh) w w') : BIn w' b d := c.I.old (c.kept k)
section
variable {w : World} {vx vz vh : Value} {w' : World} {xs zs hs : List Nat} {e n : Nat}
theorem FT.setX (h : FT w vx vz vh w' xs zs hs e n) (a : Apt vx vz) (a' : Apt vx vh) {i : Nat} (hi : i < e) (r : Nat) : FT w vx vz vh (w'.setCell (idxV vx i) (.float .f64 r)) (xs.set i r) zs hs e n := by
  have bx := idx_block h.ox.sl (i := i) (by rw [fls_len, h.lx]; exact hi)
  exact ⟨h.ox.setF (by rw [h.lx]; exact hi) r, h.oz.far bx a _, h.oh.far bx a' _, h.kp.setCell (.inl bx) _, by simpa using h.lx, h.lz, h.lh⟩
theorem FT.setZ (h : FT w vx vz vh w' xs zs hs e n) (a : Apt vz vx) (a' : Apt vz vh) {i : Nat} (hi : i < e) (r : Nat) : FT w vx vz vh (w'.setCell (idxV vz i) (.float .f64 r)) xs (zs.set i r) hs e n := by
  have bx := idx_block h.oz.sl (i := i) (by rw [fls_len, h.lz]; exact hi)
  exact ⟨h.ox.far bx a _, h.oz.setF (by rw [h.lz]; exact hi) r, h.oh.far bx a' _, h.kp.setCell (.inr (.inl bx)) _, h.lx, by simpa using h.lz, h.lh⟩
theorem FT.setH (h : FT w vx vz vh w' xs zs hs e n) (a : Apt vh vx) (a' : Apt vh vz) {i : Nat} (hi : i < n) (r : Nat) : FT w vx vz vh (w'.setCell (idxV vh i) (.float .f64 r)) xs zs (hs.set i r) e n := by
  have bx := idx_block h.oh.sl (i := i) (by rw [fls_len, h.lh]; exact hi)
  exact ⟨h.ox.far bx a _, h.oz.far bx a' _, h.oh.setF (by rw [h.lh]; exact hi) r, h.kp.setCell (.inr (.inr bx)) _, h.lx, h.lz, by simpa using h.lh⟩
theorem FT.getX (h : FT w vx vz vh w' xs zs hs e n) {i : Nat} (hi : i < e) : w'.cell? (idxV vx i) = some (.float .f64 (xs.getD i 0)) := h.ox.sl.flD (by rw [h.lx]; exact hi)
theorem FT.fzX (h : FT w vx vz vh w' xs zs hs e n) {i : Nat} (hi : i < e) : w'.frozen? (idxV vx i) = false := h.ox.frozen (by rw [fls_len, h.lx]; exact hi)
theorem FT.slX (h : FT w vx vz vh w' xs zs hs e n) : isSl vx = true ∧ lenV vx = e := ⟨h.ox.sl.sl, by rw [h.ox.sl.len, fls_len, h.lx]⟩
theorem FT.getZ (h : FT w vx vz vh w' xs zs hs e n) {i : Nat} (hi : i < e) : w'.cell? (idxV vz i) = some (.float .f64 (zs.getD i 0)) := h.oz.sl.flD (by rw [h.lz]; exact hi)
theorem FT.fzZ (h : FT w vx vz vh w' xs zs hs e n) {i : Nat} (hi : i < e) : w'.frozen? (idxV vz i) = false := h.oz.frozen (by rw [fls_len, h.lz]; exact hi)
theorem FT.slZ (h : FT w vx vz vh w' xs zs hs e n) : isSl vz = true ∧ lenV vz = e := ⟨h.oz.sl.sl, by rw [h.oz.sl.len, fls_len, h.lz]⟩
theorem FT.getH (h : FT w vx vz vh w' xs zs hs e n) {i : Nat} (hi : i < n) : w'.cell? (idxV vh i) = some (.float .f64 (hs.getD i 0)) := h.oh.sl.flD (by rw [h.lh]; exact hi)
theorem FT.fzH (h : FT w vx vz vh w' xs zs hs e n) {i : Nat} (hi : i < n) : w'.frozen? (idxV vh i) = false := h.oh.frozen (by rw [fls_len, h.lh]; exact hi)
theorem FT.slH (h : FT w vx vz vh w' xs zs hs e n) : isSl vh = true ∧ lenV vh = n := ⟨h.oh.sl.sl, by rw [h.oh.sl.len, fls_len, h.lh]⟩
end
theorem acc_step {xs : List Nat} {X : List Datum} (hX : cl xs = X) {v e c r1 r : Nat} {V : Datum} (hv : cls v = V) (h1 : FRes .mul c (xs.getD e 0) r1) (h2 : FRes .sub v r1 r) : cls r = dsub V (dmul (rd c) (X.getD e dZ)) := by
  rw [sub_res h2, mul_res h1, hv, ← hX, cl_getD]; rfl
theorem accV_step {xs : List Nat} {X : List Datum} (hX : cl xs = X) {v e r : Nat} {V : Datum} (hv : cls v = V) (h2 : FRes .sub v (xs.getD e 0) r) : cls r = dsub V (X.getD e dZ) := by
  rw [sub_res h2, hv, ← hX, cl_getD]
end Go.Proofs.Qxb6601548a
