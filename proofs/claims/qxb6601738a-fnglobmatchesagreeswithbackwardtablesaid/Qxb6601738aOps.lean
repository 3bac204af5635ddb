/-
  The operations: a generator of conditions, op by op, and its soundness. No program is named here.
-/
import Derived.Test.Qxb6601738aVc
import Derived.Laws.FloatArith
import Derived.Laws.NewBlocks
import Derived.Laws.BytesString
namespace Go.Proofs.Qxb6601738a

/-! ### Closed facts of a program's types -/
def plainT (P : Program) (t : TypeId) : Bool :=
  match P.underlying t with
  | none | some (.struct _) | some (.array ..) => false
  | some _ => true
def eltSz (P : Program) (t : TypeId) : Option Nat :=
  match P.underlying t with
  | some (.slice e) => (P.info? e).map (·.size)
  | _ => none
def fieldOff (P : Program) (s fl : Nat) : Option Nat :=
  match P.underlying s with
  | some (.struct fs) => (match fs[fl]? with
    | some x => (match P.info? x.type with
      | some i => if i.size = 0 then none else some x.offset
      | none => none)
    | none => none)
  | _ => none
/-- the field is of a plain type -/
def fieldPl (P : Program) (s fl : Nat) : Bool :=
  match P.underlying s with
  | some (.struct fs) => (match fs[fl]? with
    | some x => plainT P x.type
    | none => false)
  | _ => false
/-- length and element size of an array's type -/
def arrSz (P : Program) (t : TypeId) : Option (Nat × Nat) :=
  match P.underlying t with
  | some (.array n e) => (P.info? e).map (fun i => (n, i.size))
  | _ => none
def sizeT (P : Program) (t : TypeId) : Option Nat := (P.info? t).map (·.size)
/-- element type, its bytes, its one-cell zero. -/
def mkZ (P : Program) (t : TypeId) : Option (TypeId × Nat × Value) :=
  match P.underlying t with
  | some (.slice e) => (match P.info? e with
    | some i => (match i.zero with
      | some z => if i.size = 1 ∧ z.cells.size = 1 then some (e, i.bytes, z.cells.getD 0 undef) else none
      | none => none)
    | none => none)
  | _ => none
def isSliceT (P : Program) (t : TypeId) : Bool := match P.underlying t with | some (.slice _) => true | _ => false
def isStringT (P : Program) (t : TypeId) : Bool := match P.underlying t with | some .string => true | _ => false
def isBoolT (P : Program) (t : TypeId) : Bool := match P.underlying t with | some .bool => true | _ => false
def convT (P : Program) (s t : TypeId) : Option IntKind := match P.underlying s, P.underlying t with | some _, some (.int k) => some k | _, _ => none
/-- from a slice of bytes to a string -/
def byteStrT (P : Program) (s d : TypeId) : Bool := match P.underlying s, P.underlying d with
  | some (.slice e), some .string => (match P.underlying e with | some (.int .u8) => true | _ => false)
  | _, _ => false
def callable (P : Program) (g : FuncId) : Bool :=
  match P.funcs[g]? with
  | some fn => !(fn.name == "runtime.NumGoroutine") && fn.body.isSome
  | none => false

def zeroC (P : Program) (t : TypeId) : Option (Array Value) :=
  match P.info? t with
  | some i => i.zero.map (·.cells)
  | none => none
def placesL (P : Program) : List Field → Option (List (Nat × Nat))
  | [] => some []
  | x :: r => match P.info? x.type, placesL P r with
    | some i, some l => some ((x.offset, i.size) :: l)
    | _, _ => none
def placesT (P : Program) (t : TypeId) : Option (List (Nat × Nat)) :=
  match P.underlying t with
  | some (.struct fs) => placesL P fs.toList
  | _ => none
def buildC (P : Program) (t : TypeId) (parts : List (Nat × Value)) : Option (Array Value) :=
  match zeroC P t, placesT P t with
  | some z, some pl => Instr.fill (fun i => pl[i]?) z parts
  | _, _ => none

/-- the size of a struct's or an array's type -/
def aggN (P : Program) (t : TypeId) : Option Nat :=
  match P.underlying t with
  | some (.struct _) => (P.info? t).map (·.size)
  | some (.array ..) => (P.info? t).map (·.size)
  | _ => none

/-! ### Floats -/
def NaNb (r : Nat) : Prop := (Ieee.double.read r).isNaN = true ∧ r < 2 ^ 64
def FRes (op : BinOp) (x y r : Nat) : Prop := floatBits op .f64 x y = some r ∨ (floatBits op .f64 x y = none ∧ NaNb r)
def feq (a b : Nat) : Bool := Ieee.double.order a b == some .eq
def flt (a b : Nat) : Bool := Ieee.double.order a b == some .lt
def fgt (a b : Nat) : Bool := Ieee.double.order a b == some .gt
def arithB : BinOp → Bool
  | .add | .sub | .mul | .quo => true
  | _ => false

/-! ### Slices, as values that are not opened -/
def lenV : Value → Nat
  | .slice _ n _ => n
  | _ => 0
def capV : Value → Nat
  | .slice _ _ c => c
  | _ => 0
def isSl : Value → Bool
  | .slice (some _) _ _ => true
  | .slice none n c => n == 0 && c == 0
  | _ => false
def nilV : Value → Bool
  | .slice none _ _ => true
  | _ => false
def idxV : Value → Nat → Addr
  | .slice (some p) _ _, i => p.add i
  | _, _ => ⟨0, 0, none⟩
/-- 'v[l:h]', the elements of 'z' cells. -/
def subV (v : Value) (l h z : Nat) : Value :=
  match v with
  | .slice a _ c => .slice (if c = l then a else a.map (·.add (l * z))) (h - l) (c - l)
  | v => v

/-- The byte at a place. -/
def byteAt (s : ByteArray) (n : Nat) : Int := ((s.data.toList.getD n 0).toNat : Int)
def toStrD (P : Program) (s d : TypeId) (x : Value) (w : World) (k : Value → Prop) : Prop :=
  byteStrT P s d = true ∧ isSl x = true ∧ ∃ bs : List UInt8, bs.length = lenV x ∧ (∀ i, i < bs.length → w.cell? (idxV x i) = some (.int .u8 ((bs.getD i 0).toNat : Int))) ∧ k (.string ⟨bs.toArray⟩)

/-! ### Values only -/
def binN (P : Program) (op : BinOp) (t : TypeId) (x : Value) (k : Value → Prop) : Prop := isSl x = true ∧ isSliceT P t = true ∧ (match op with
    | .eql => k (.bool (nilV x))
    | .neq => k (.bool (!nilV x))
    | _ => False)

def andI (k : IntKind) (a b : Int) : Int := k.wrap ((BitVec.ofInt k.bits a &&& BitVec.ofInt k.bits b).toNat : Int)
def shrI (k : IntKind) (a b : Int) : Int := a.fdiv (2 ^ (min b.toNat k.bits))
def shlI (k : IntKind) (a b : Int) : Int := k.wrap (a * 2 ^ (min b.toNat k.bits))
def binV (P : Program) (op : BinOp) (t : TypeId) (x y : Value) (k : Value → Prop) : Prop :=
  match op, x, y with
  | .shr, .int kx a, .int _ b => 0 ≤ b ∧ k (.int kx (shrI kx a b))
  | .shl, .int kx a, .int _ b => 0 ≤ b ∧ k (.int kx (shlI kx a b))
  | _, x, y => match x, y with
  | .int kx a, .int ky b => kx = ky ∧ (match op with
    | .add => k (.int kx (kx.wrap (a + b)))
    | .sub => k (.int kx (kx.wrap (a - b)))
    | .mul => k (.int kx (kx.wrap (a * b)))
    | .quo => b ≠ 0 ∧ k (.int kx (kx.wrap (a.tdiv b)))
    | .rem => b ≠ 0 ∧ k (.int kx (a.tmod b))
    | .and => k (.int kx (andI kx a b))
    | .eql => k (.bool (a == b))
    | .neq => k (.bool (a != b))
    | .lss => k (.bool (a < b))
    | .leq => k (.bool (a ≤ b))
    | .gtr => k (.bool (a > b))
    | .geq => k (.bool (a ≥ b))
    | _ => False)
  | .float .f64 a, .float .f64 b => (match op with
    | .eql => k (.bool (feq a b))
    | .neq => k (.bool (!feq a b))
    | .lss => k (.bool (flt a b))
    | .leq => k (.bool (flt a b || feq a b))
    | .gtr => k (.bool (fgt a b))
    | .geq => k (.bool (fgt a b || feq a b))
    | _ => False)
  | .string a, .string b => (match op with
    | .add => a.size + b.size < 9223372036854775808 ∧ k (.string (a ++ b))
    | .eql => k (.bool (a.toList == b.toList))
    | .neq => k (.bool (!(a.toList == b.toList)))
    | _ => False)
  | .bool a, .bool b => isBoolT P t = true ∧ (match op with
    | .eql => k (.bool (a == b))
    | .neq => k (.bool (!(a == b)))
    | _ => False)
  | _, _ => False

def binD (P : Program) (op : BinOp) (t : TypeId) (x y : Value) (k : Value → Prop) : Prop :=
  match y with
  | .slice none _ _ => binN P op t x k
  | y => binV P op t x y k

def sliceD (P : Program) (t : TypeId) (x : Value) (lo hi : Option Value) (k : Value → Prop) : Prop :=
  match eltSz P t, lo, hi with
  | some z, some (.int _ l), some (.int _ h) => isSl x = true ∧ (0 ≤ l ∧ l ≤ h ∧ h ≤ capV x) ∧ k (subV x l.toNat h.toNat z)
  | some z, some (.int _ l), none => isSl x = true ∧ (0 ≤ l ∧ l ≤ lenV x) ∧ k (subV x l.toNat (lenV x) z)
  | some z, none, some (.int _ h) => isSl x = true ∧ (0 ≤ h ∧ h ≤ capV x) ∧ k (subV x 0 h.toNat z)
  | _, _, _ => False

def minD (x y : Value) (k : Value → Prop) : Prop :=
  match x, y with
  | .float .f64 a, .float .f64 b => (match Ieee.double.order a b with
    | none => False
    | some .lt => k (.float .f64 a)
    | some .gt => k (.float .f64 b)
    | some .eq => k (.float .f64 (if (Ieee.double.read a).neg then a else b)))
  | _, _ => False
def maxD (x y : Value) (k : Value → Prop) : Prop :=
  match x, y with
  | .float .f64 a, .float .f64 b => (match Ieee.double.order a b with
    | none => False
    | some .lt => k (.float .f64 b)
    | some .gt => k (.float .f64 a)
    | some .eq => k (.float .f64 (if (Ieee.double.read a).neg then b else a)))
  | _, _ => False

def lenD (P : Program) (t : TypeId) (v : Value) (k : Value → Prop) : Prop :=
  match isSliceT P t with
  | true => isSl v = true ∧ k (.int .i64 (lenV v))
  | false => isStringT P t = true ∧ (match v with
    | .string s => k (.int .i64 s.size)
    | _ => False)

def builtinD (P : Program) (b : Builtin) (args : List Value) (tys : List TypeId) (k : Value → Prop) : Prop :=
  match b, args, tys with
  | .len, [v], [t] => lenD P t v k
  | .min, [x, y], _ => minD x y k
  | .max, [x, y], _ => maxD x y k
  | _, _, _ => False

/-- 'm' cells, loaded. -/
def loadN (w : World) (p : Addr) : Nat → Nat → Option (List Value)
  | _, 0 => some []
  | i, m + 1 => match w.cell? (p.add i), loadN w p (i + 1) m with
    | some v, some r => some (v :: r)
    | _, _ => none
def loadB (P : Program) (t : TypeId) (p : Addr) (w : World) (k : Value → Prop) : Prop :=
  match aggN P t with
  | some m => (match loadN w p 0 m with
    | some vs => k (.agg vs.toArray)
    | none => False)
  | none => False
def fieldD (P : Program) (t : TypeId) (x : Value) (fl : Nat) (k : Value → Prop) : Prop :=
  match x with
  | .agg cs => (match fieldOff P t fl with
    | some off => fieldPl P t fl = true ∧ (match cs[off]? with
      | some v => k v
      | none => False)
    | none => False)
  | _ => False

/-- Operations that only compute a value (and read memory). -/
def opd (P : Program) (f : Fr) (w : World) (k : Value → Prop) : Op → Prop
  | .move x => k (ev f x)
  | .assign x => k (ev f x)
  | .pick c x y => (match ev f c with
    | .bool b => k (if b then ev f x else ev f y)
    | _ => False)
  | .nilCheck x => (match ev f x with
    | .pointer (some p) => k (.pointer (some p))
    | _ => False)
  | .load t x => (match ev f x with
    | .pointer (some p) => (match plainT P t with
      | true => (match w.cell? p with
        | some v => k v
        | none => False)
      | false => loadB P t p w k)
    | _ => False)
  | .build t parts => (match buildC P t (parts.toList.map fun q => (q.1, ev f q.2)) with
    | some cs => k (.agg cs)
    | none => False)
  | .field t x fl => fieldD P t (ev f x) fl k
  | .binOp op t x y _ => binD P op t (ev f x) (ev f y) k
  | .unOp op _ x => (match op, ev f x with
    | .not, .bool b => k (.bool (!b))
    | .neg, .float .f64 b => k (.float .f64 (b ^^^ 2 ^ 63))
    | _, _ => False)
  | .convert s d x => (match convT P s d with
    | some kd => (match ev f x with
      | .int _ m => k (.int kd (kd.wrap m))
      | _ => False)
    | none => toStrD P s d (ev f x) w k)
  | .index t x i => (match ev f x, ev f i with
    | .string s, .int _ j => isStringT P t = true ∧ (0 ≤ j ∧ j < s.size) ∧ k (.int .u8 (byteAt s j.toNat))
    | _, _ => False)
  | .slice t x lo hi none => sliceD P t (ev f x) (lo.map (ev f)) (hi.map (ev f)) k
  | .fieldAddr s x fl => (match ev f x with
    | .pointer (some ⟨b, o, none⟩) => (match fieldOff P s fl with
      | some off => k (.pointer (some ⟨b, o + off, none⟩))
      | none => False)
    | _ => False)
  | .indexAddr t x i => (match eltSz P t with
    | some z => (match ev f i with
      | .int _ j => isSl (ev f x) = true ∧ (0 ≤ j ∧ j < lenV (ev f x)) ∧ k (.pointer (some (idxV (ev f x) (j.toNat * z))))
      | _ => False)
    | none => (match arrSz P t, ev f x, ev f i with
      | some (len, z), .pointer (some p), .int _ j => (0 ≤ j ∧ j < len) ∧ k (.pointer (some (p.add (j.toNat * z))))
      | _, _, _ => False))
  | .extract t i => (match ev f t with
    | .tuple vs => (match vs[i]? with
      | some v => k v
      | none => False)
    | _ => False)
  | .call c => (match c.callee with
    | .builtin b => builtinD P b (c.args.toList.map (ev f)) c.argTypes.toList k
    | _ => False)
  | _ => False

/-! ### Soundness of 'opd': one value, whatever world of the kind -/
theorem run_underlying' {P : Program} {t : TypeId} {d : TypeDesc} (h : P.underlying t = some d) (w : World) : (underlying t).run P w = .ok d w := by
  simp [underlying, h]
theorem run_sizeOf' {P : Program} {t : TypeId} {i : TypeInfo} (h : P.info? t = some i) (w : World) : (sizeOf t).run P w = .ok i.size w := by
  simp [sizeOf, typeInfo, h]

theorem addr_add (b o k : Nat) : (⟨b, o, none⟩ : Addr).add k = ⟨b, o + k, none⟩ := by
  unfold Addr.add; split
  · rename_i h; subst h; rfl
  · rfl

theorem run_equal_slice {P : Program} {t e : TypeId} (ht : P.underlying t = some (.slice e)) (p : Option Addr) (n c n' c' d : Nat) (w : World) :
    (Op.equalIn (d + 1) t (.slice p n c) (.slice none n' c')).run P w = .ok p.isNone w := by
  cases p <;> simp [Op.equalIn, run_underlying' ht]
theorem run_equal_bool {P : Program} {t : TypeId} (ht : P.underlying t = some .bool) (a b : Bool) (d : Nat) (w : World) :
    (Op.equalIn (d + 1) t (.bool a) (.bool b)).run P w = .ok (a == b) w := by
  simp [Op.equalIn, run_underlying' ht]

theorem binN_sound {P : Program} {op : BinOp} {t : TypeId} {x : Value} {n c : Nat} {k : Value → Prop} (h : binN P op t x k) :
    ∃ v, k v ∧ ∀ (X Y : Operand) w, (do eqGuard op t X Y x (.slice none n c); binOp op t x (.slice none n c) : Sem Value).run P w = .ok v w := by
  unfold binN at h
  obtain ⟨hx, ht, h⟩ := h
  unfold isSliceT at ht
  split at ht
  · rename_i e he
    have hr := fun (p : Option Addr) n c n' c' w => run_equal_slice he p n c n' c' 9999 w
    cases x <;> simp [isSl] at hx
    rename_i p n' c'
    have hnil : nilV (.slice p n' c') = p.isNone := by cases p <;> rfl
    rw [hnil] at h
    split at h
    · refine ⟨_, h, fun X Y w => ?_⟩
      simp only [eqGuard, binOp, Op.equal, Op.maxDepth]
      simp [hr]
    · refine ⟨_, h, fun X Y w => ?_⟩
      simp only [eqGuard, binOp, Op.equal, Op.maxDepth]
      simp [hr]
    · exact h.elim
  · cases ht

theorem add_str {P : Program} {t : TypeId} {a b : ByteArray} {k : Value → Prop} (h : a.size + b.size < 9223372036854775808 ∧ k (.string (a ++ b))) :
    ∃ v, k v ∧ ∀ (X Y : Operand) w, (do eqGuard .add t X Y (.string a) (.string b); binOp .add t (.string a) (.string b) : Sem Value).run P w = .ok v w := by
  obtain ⟨h1, h⟩ := h
  refine ⟨_, h, fun X Y w => ?_⟩
  have h2 : ¬ (((a.size + b.size : Nat) : Int) > IntKind.i64.max) := by rw [show IntKind.i64.max = 9223372036854775807 from rfl]; omega
  simp only [eqGuard, binOp, Op.stringOp, if_neg h2]
  simp

theorem binV_sound {P : Program} {op : BinOp} {t : TypeId} {x y : Value} {k : Value → Prop} (h : binV P op t x y k) :
    ∃ v, k v ∧ ∀ (X Y : Operand) w, (do eqGuard op t X Y x y; binOp op t x y : Sem Value).run P w = .ok v w := by
  unfold binV at h
  split at h
  · obtain ⟨h0, h⟩ := h
    refine ⟨_, h, fun X Y w => ?_⟩
    have : ¬ (_ < (0 : Int)) := Int.not_lt.2 h0
    simp only [eqGuard, binOp, Op.shift, if_neg this, shrI]
    simp
  · obtain ⟨h0, h⟩ := h
    refine ⟨_, h, fun X Y w => ?_⟩
    have : ¬ (_ < (0 : Int)) := Int.not_lt.2 h0
    simp only [eqGuard, binOp, Op.shift, if_neg this, shlI]
    simp
  rename_i hne1 hne2
  split at h
  · obtain ⟨rfl, h⟩ := h
    split at h <;> first
      | (exact ⟨_, h, fun X Y w => by simp [eqGuard, binOp, Op.intArith, Op.intCmp, Op.intBits, andI]⟩)
      | (exact ⟨_, h.2, fun X Y w => by simp [eqGuard, binOp, Op.intDiv, h.1]⟩)
      | exact h.elim
  · split at h <;> first
      | (exact ⟨_, h, fun X Y w => by simp [eqGuard, binOp, Op.floatCmp, FloatKind.format, feq, flt, fgt] <;> rfl⟩)
      | exact h.elim
  · split at h <;> first
      | (exact ⟨_, h, fun X Y w => by simp [eqGuard, binOp, Op.stringOp]⟩)
      | (exact add_str h)
      | exact h.elim
  · obtain ⟨ht, h⟩ := h
    unfold isBoolT at ht
    split at ht
    · rename_i he
      have hr := fun a b w => run_equal_bool he a b 9999 w
      split at h
      · refine ⟨_, h, fun X Y w => ?_⟩
        simp only [eqGuard, binOp, Op.equal, Op.maxDepth]
        simp [hr]
      · refine ⟨_, h, fun X Y w => ?_⟩
        simp only [eqGuard, binOp, Op.equal, Op.maxDepth]
        simp [hr]
      · exact h.elim
    · cases ht
  · exact h.elim

theorem binD_sound {P : Program} {op : BinOp} {t : TypeId} {x y : Value} {k : Value → Prop} (h : binD P op t x y k) :
    ∃ v, k v ∧ ∀ (X Y : Operand) w, (do eqGuard op t X Y x y; binOp op t x y : Sem Value).run P w = .ok v w := by
  unfold binD at h
  split at h
  · exact binN_sound h
  · exact binV_sound h

theorem run_sliceAt {P : Program} {t e : TypeId} {i : TypeInfo} (he : P.underlying t = some (.slice e)) (hi : P.info? e = some i) {a : Option Addr} {n c l h : Nat} {lo hh : Option Value} (w : World)
    (hb : (Instr.sliceBounds true n c lo hh none).run P w = .ok (l, h, c) w) : (Instr.sliceAt t (.slice a n c) lo hh none).run P w = .ok (subV (.slice a n c) l h i.size) w := by
  simp only [Instr.sliceAt, Instr.slice, Sem.run_bind, run_underlying' he, Result.andThen_ok, hb, run_sizeOf' hi, Sem.run_pure, subV]

theorem sliceD_sound {P : Program} {t : TypeId} {x : Value} {lo hi : Option Value} {k : Value → Prop} (h : sliceD P t x lo hi k) :
    ∃ v, k v ∧ ∀ w, (Instr.sliceAt t x lo hi none).run P w = .ok v w := by
  unfold sliceD at h
  split at h
  · rename_i z kl l kh hh hz
    obtain ⟨hx, ⟨h0, h1, h2⟩, h⟩ := h
    unfold eltSz at hz
    split at hz
    · rename_i e he
      obtain ⟨i, hi, rfl⟩ := Option.map_eq_some_iff.1 hz
      cases x <;> simp [isSl] at hx
      rename_i a n c
      simp only [capV] at h2
      refine ⟨_, h, fun w => run_sliceAt he hi w ?_⟩
      have e1 : ∀ w, (Instr.sliceBound (.int kh hh) c .sliceAcap).run P w = .ok hh.toNat w := fun w => by
        simp [Instr.sliceBound, asIntOf, h2, show 0 ≤ hh by omega]
      have e2 : ∀ w, (Instr.sliceBound (.int kl l) hh.toNat .sliceB).run P w = .ok l.toNat w := fun w => by
        simp [Instr.sliceBound, asIntOf, h0]; omega
      simp [Instr.sliceBounds, e1, e2]
    · cases hz
  · rename_i z kl l hz
    obtain ⟨hx, ⟨h0, h1⟩, h⟩ := h
    unfold eltSz at hz
    split at hz
    · rename_i e he
      obtain ⟨i, hi, rfl⟩ := Option.map_eq_some_iff.1 hz
      cases x <;> simp [isSl] at hx
      rename_i a n c
      simp only [lenV] at h1 h
      refine ⟨_, h, fun w => run_sliceAt he hi w ?_⟩
      have e2 : ∀ w, (Instr.sliceBound (.int kl l) n .sliceB).run P w = .ok l.toNat w := fun w => by
        simp [Instr.sliceBound, asIntOf, h0, h1]
      simp [Instr.sliceBounds, e2]
    · cases hz
  · rename_i z kh hh hz
    obtain ⟨hx, ⟨h0, h1⟩, h⟩ := h
    unfold eltSz at hz
    split at hz
    · rename_i e he
      obtain ⟨i, hi, rfl⟩ := Option.map_eq_some_iff.1 hz
      cases x <;> simp [isSl] at hx
      rename_i a n c
      simp only [capV] at h1
      refine ⟨_, h, fun w => run_sliceAt he hi w ?_⟩
      have e1 : ∀ w, (Instr.sliceBound (.int kh hh) c .sliceAcap).run P w = .ok hh.toNat w := fun w => by
        simp [Instr.sliceBound, asIntOf, h0, h1]
      simp [Instr.sliceBounds, e1]
    · cases hz
  · exact h.elim

theorem minD_sound {x y : Value} {k : Value → Prop} (h : minD x y k) : ∃ v, k v ∧ ∀ P w, (Builtin.min2 x y).run P w = .ok v w := by
  unfold minD at h
  split at h
  · split at h
    · exact h.elim
    all_goals (rename_i ho; refine ⟨_, h, fun P w => ?_⟩; first | (simp [Builtin.min2, FloatKind.format, ho]; done) | (simp [Builtin.min2, FloatKind.format, FloatKind.decode, ho]; rfl))
  · exact h.elim
theorem maxD_sound {x y : Value} {k : Value → Prop} (h : maxD x y k) : ∃ v, k v ∧ ∀ P w, (Builtin.max2 x y).run P w = .ok v w := by
  unfold maxD at h
  split at h
  · split at h
    · exact h.elim
    all_goals (rename_i ho; refine ⟨_, h, fun P w => ?_⟩; first | (simp [Builtin.max2, FloatKind.format, ho]; done) | (simp [Builtin.max2, FloatKind.format, FloatKind.decode, ho]; rfl))
  · exact h.elim

theorem builtinD_sound {P : Program} {b : Builtin} {args : Array Value} {tys : Array TypeId} {k : Value → Prop} (h : builtinD P b args.toList tys.toList k) :
    ∃ v, k v ∧ ∀ ty cs w, (builtin b tys ty cs args).run P w = .ok (.value v) w := by
  generalize ha : args.toList = la at h
  generalize hl : tys.toList = lt at h
  obtain rfl : args = la.toArray := by rw [← ha]
  obtain rfl : tys = lt.toArray := by rw [← hl]
  unfold builtinD at h
  split at h
  · rename_i v t
    unfold lenD at h
    split at h
    · rename_i ht
      obtain ⟨hv, h⟩ := h
      unfold isSliceT at ht
      split at ht
      · rename_i e he
        cases v <;> simp [isSl] at hv
        exact ⟨_, h, fun _ _ w => by simp [builtin, Builtin.len_, run_underlying' he, goInt, lenV]⟩
      · cases ht
    · obtain ⟨ht, h⟩ := h
      unfold isStringT at ht
      split at ht
      · rename_i he
        split at h
        · exact ⟨_, h, fun _ _ w => by simp [builtin, Builtin.len_, run_underlying' he, goInt]⟩
        · exact h.elim
      · cases ht
  · obtain ⟨v, hk, hr⟩ := minD_sound h
    exact ⟨v, hk, fun _ _ w => by simp [builtin, Builtin.min_, hr]⟩
  · obtain ⟨v, hk, hr⟩ := maxD_sound h
    exact ⟨v, hk, fun _ _ w => by simp [builtin, Builtin.max_, hr]⟩
  · exact h.elim

theorem run_places {P : Program} : ∀ (fs : List Field) (l : List (Nat × Nat)), placesL P fs = some l → ∀ w, (fs.mapM (fun f => Prod.mk f.offset <$> sizeOf f.type : Field → Sem (Nat × Nat))).run P w = .ok l w
  | [], l, h, w => by simp only [placesL, Option.some.injEq] at h; subst h; rfl
  | x :: r, l, h, w => by
    simp only [placesL] at h
    split at h
    · rename_i i l' hi hl
      cases h
      rw [List.mapM_cons]
      simp [run_sizeOf' hi, run_places r l' hl]
    · cases h

theorem run_build {P : Program} {t : TypeId} {parts : Array (Nat × Value)} {cs : Array Value} (h : buildC P t parts.toList = some cs) (w : World) : (Instr.build t parts).run P w = .ok (.agg cs) w := by
  unfold buildC at h
  split at h
  · rename_i z pl hz hpl
    unfold zeroC at hz
    split at hz
    · rename_i i hi
      obtain ⟨zv, hzv, rfl⟩ := Option.map_eq_some_iff.1 hz
      unfold placesT at hpl
      split at hpl
      · rename_i fs hfs
        have hz' : ∀ w, (zeroValue t).run P w = .ok zv w := fun w => by simp [zeroValue, typeInfo, hi, hzv]
        have hpl' : ∀ w, (fs.mapM (fun f => do pure (f.offset, ← sizeOf f.type) : Field → Sem (Nat × Nat))).run P w = .ok pl.toArray w := fun w => by
          simp only [bind_pure_comp]
          rw [Array.mapM_eq_mapM_toList]
          simp [run_places fs.toList pl hpl w]
        simp only [Instr.build, Sem.run_bind, hz', Result.andThen_ok, run_underlying' hfs, hpl']
        have : (fun i : Nat => pl.toArray[i]?) = (fun i : Nat => pl[i]?) := by funext i; simp
        simp only [this, h]
        rfl
      · cases hpl
    · cases hz
  · cases h

theorem loadCells_block {P : Program} (b : Nat) (cs : Array Value) (T : TypeId) (fz : Nat × Nat) : ∀ (n i : Nat) (acc : Array Value) (u : World), u.heap[b]? = some (.cells cs T fz) → i + n = cs.size → acc = cs.extract 0 i →
    (loadCellsFrom ⟨b, 0, none⟩ i n acc).run P u = .ok cs u
  | 0, i, acc, u, hb, hn, ha => by
    have : acc = cs := by rw [ha]; simp; omega
    simp [loadCellsFrom, this]
  | n + 1, i, acc, u, hb, hn, ha => by
    have hc : u.cell? ⟨b, i, none⟩ = some (cs[i]'(by omega)) := by simp [World.cell?, hb]
    have := loadCells_block (P := P) b cs T fz n (i + 1) (acc.push (cs[i]'(by omega))) u hb (by omega) (by
      rw [ha]
      apply Array.ext
      · simp
      · intro q h1 h2
        simp only [Array.getElem_push, Array.getElem_extract, Array.size_extract]
        split
        · simp
        · have : q = i := by simp at h1 h2 ⊢; rename_i hq; simp at hq; omega
          subst this; simp)
    simp [loadCellsFrom, addr_add, hc, this]

theorem isAgg_of {P : Program} {t n : Nat} (h : aggN P t = some n) (u : World) : (isAgg t).run P u = .ok true u ∧ (sizeOf t).run P u = .ok n u := by
  unfold aggN at h
  split at h
  · rename_i fs hf
    obtain ⟨i, hi, rfl⟩ := Option.map_eq_some_iff.1 h
    exact ⟨by simp [isAgg, run_underlying' hf], run_sizeOf' hi u⟩
  · rename_i m e hf
    obtain ⟨i, hi, rfl⟩ := Option.map_eq_some_iff.1 h
    exact ⟨by simp [isAgg, run_underlying' hf], run_sizeOf' hi u⟩
  · cases h

theorem isAgg_plain {P : Program} {t : TypeId} (ht : plainT P t = true) (u : World) : (isAgg t).run P u = .ok false u := by
  unfold plainT at ht
  split at ht
  · cases ht
  · cases ht
  · cases ht
  · rename_i d h1 h2 hd
    cases d <;> simp [isAgg, run_underlying' hd] <;> simp_all

theorem loadCells_list {P : Program} (a : Addr) : ∀ (vs : List Value) (n i : Nat) (acc : Array Value) (u : World), n = vs.length → (∀ j, j < vs.length → u.cell? (a.add (i + j)) = vs[j]?) →
    (loadCellsFrom a i n acc).run P u = .ok (acc ++ vs.toArray) u
  | [], n, i, acc, u, hn, h => by subst hn; simp [loadCellsFrom]
  | v :: r, n, i, acc, u, hn, h => by
    subst hn
    have h0 := h 0 (by simp)
    simp only [Nat.add_zero, List.getElem?_cons_zero] at h0
    have := loadCells_list (P := P) a r r.length (i + 1) (acc.push v) u rfl (fun j hj => by
      have := h (j + 1) (by simpa using hj)
      rw [show i + 1 + j = i + (j + 1) by omega, this]; simp)
    simp only [List.length_cons]
    simp [loadCellsFrom, h0, this]

theorem foldl_bytes : ∀ (bs : List UInt8) (s : ByteArray), (bs.map (fun b => (b.toNat : Int))).foldl (fun r n => r.push (UInt8.ofNat n.toNat)) s = ⟨s.data ++ bs.toArray⟩
  | [], s => by simp
  | b :: r, s => by
    rw [List.map_cons, List.foldl_cons, foldl_bytes r]
    simp [ByteArray.push]

theorem loadN_al {u w : World} (h : Al u w) (p : Addr) : ∀ m i, loadN u p i m = loadN w p i m
  | 0, i => rfl
  | m + 1, i => by simp only [loadN, Al.cell? h, loadN_al h p m (i + 1)]
theorem loadN_spec {w : World} {p : Addr} : ∀ {m i : Nat} {vs : List Value}, loadN w p i m = some vs → vs.length = m ∧ ∀ j, j < vs.length → w.cell? (p.add (i + j)) = vs[j]?
  | 0, i, vs, h => by simp only [loadN, Option.some.injEq] at h; subst h; exact ⟨rfl, fun j hj => by simp at hj⟩
  | m + 1, i, vs, h => by
    simp only [loadN] at h
    split at h
    · rename_i v r hv hr
      cases h
      obtain ⟨h1, h2⟩ := loadN_spec hr
      refine ⟨by simp [h1], fun j hj => ?_⟩
      cases j with
      | zero => simpa using hv
      | succ j => rw [show i + (j + 1) = i + 1 + j by omega, h2 j (by simpa using hj)]; simp
    · cases h

theorem toStrD_sound {P : Program} {s d : TypeId} {x : Value} {w : World} {k : Value → Prop} (h : toStrD P s d x w k) :
    ∃ v, k v ∧ ∀ u, Al u w → (convert s d x).run P u = .ok v u := by
  obtain ⟨ht, hx, bs, hl, hc, hk⟩ := h
  refine ⟨_, hk, fun u hu => ?_⟩
  unfold byteStrT at ht
  split at ht
  · rename_i e hs hd
    split at ht
    · rename_i he
      cases x <;> simp [isSl] at hx
      rename_i a n c
      rw [run_convert_bytes_string u s d e a n c hs he hd]
      simp only [lenV] at hl
      cases a with
      | none =>
        obtain ⟨rfl, rfl⟩ : n = 0 ∧ c = 0 := by simpa using hx
        obtain rfl : bs = [] := List.eq_nil_of_length_eq_zero hl
        simp only [Conv.bytesToString, Sem.run_pure]
        rfl
      | some a =>
        have hload : (loadCells a n).run P u = .ok ((bs.map (fun b => (b.toNat : Int))).map (Value.int .u8)).toArray u := by
          have := loadCells_list (P := P) a ((bs.map (fun b => (b.toNat : Int))).map (Value.int .u8)) n 0 #[] u (by simp [hl]) (fun j hj => by
            have hj' : j < bs.length := by simpa using hj
            have := hc j hj'
            rw [Al.cell? hu, Nat.zero_add]
            simp only [idxV] at this
            rw [this]
            simp [hj'])
          simpa [loadCells] using this
        rw [run_bytesToString u a n c _ hload, foldl_bytes]
        congr 2
        simp
    · cases ht
  · cases ht

theorem opd_sound {P : Program} {f : Fr} {w : World} {k : Value → Prop} (o : Oper) (h : opd P f w k o.op) :
    ∃ v, k v ∧ ∀ u, Al u w → (execOp (ev f) o).run P u = .ok (.value v) u := by
  cases ho : o.op <;> rw [ho] at h <;> simp only [opd] at h
  case move x => exact ⟨_, h, fun u _ => by simp [execOp, ho]⟩
  case assign x => exact ⟨_, h, fun u _ => by simp [execOp, ho]⟩
  case pick c x y =>
    split at h
    · rename_i b hb; exact ⟨_, h, fun u _ => by simp [execOp, ho, hb, asBool]⟩
    · exact h.elim
  case nilCheck x =>
    split at h
    · rename_i p hp; exact ⟨_, h, fun u _ => by simp [execOp, ho, hp]⟩
    · exact h.elim
  case load t x =>
    split at h
    · rename_i p hp
      split at h
      · rename_i ht
        split at h
        · rename_i v hv
          refine ⟨_, h, fun u hu => ?_⟩
          have hc : u.cell? p = some v := by rw [Al.cell? hu, hv]
          simp [execOp, ho, hp, Instr.loadAt, Instr.sureAddr, loadVar, isAgg_plain ht, hc]
        · exact h.elim
      · unfold loadB at h
        split at h
        · rename_i m hn
          split at h
          · rename_i vs hvs
            refine ⟨_, h, fun u hu => ?_⟩
            have hvs' : loadN u p 0 m = some vs := by rw [loadN_al hu]; exact hvs
            obtain ⟨hlen, hall⟩ := loadN_spec hvs'
            have hl := loadCells_list (P := P) p vs m 0 #[] u hlen.symm hall
            simp [execOp, ho, hp, Instr.loadAt, Instr.sureAddr, loadVar, (isAgg_of hn u).1, (isAgg_of hn u).2, loadCells, hl]
          · exact h.elim
        · exact h.elim
    · exact h.elim
  case build t parts =>
    split at h
    · rename_i cs hcs
      refine ⟨_, h, fun u hu => ?_⟩
      have hb : buildC P t (parts.map fun q => (q.1, ev f q.2)).toList = some cs := by simpa using hcs
      have := run_build hb u
      simp [execOp, ho, this]
    · exact h.elim
  case field t x fl =>
    unfold fieldD at h
    split at h
    · rename_i cs hx
      split at h
      · rename_i off hoff
        obtain ⟨hpl, h⟩ := h
        split at h
        · rename_i v hv
          refine ⟨_, h, fun u hu => ?_⟩
          unfold fieldOff at hoff
          unfold fieldPl at hpl
          split at hoff
          · rename_i fs hs
            simp only [hs] at hpl
            split at hoff
            · rename_i fd hfd
              simp only [hfd] at hpl
              split at hoff
              · split at hoff
                · cases hoff
                · cases hoff
                  simp [execOp, ho, hx, Instr.field, run_underlying' hs, hfd, asAgg, part, isAgg_plain hpl, hv]
              · cases hoff
            · cases hoff
          · cases hoff
        · exact h.elim
      · exact h.elim
    · exact h.elim
  case binOp op t x y yt =>
    obtain ⟨v, hk, hr⟩ := binD_sound h
    refine ⟨v, hk, fun u _ => ?_⟩
    have := hr x y u
    simp only [Sem.run_bind] at this
    simp only [execOp, ho, Sem.run_bind]
    generalize (eqGuard op t x y (ev f x) (ev f y)).run P u = r at *
    cases r with
    | ok a w' => simp at this ⊢; simp [this]
    | halt x w' => simp at this
  case unOp op t x =>
    split at h
    · rename_i b hb; exact ⟨_, h, fun u _ => by simp [execOp, ho, hb, Op.unary]⟩
    · rename_i b hb; exact ⟨_, h, fun u _ => by simp [execOp, ho, hb, Op.unary, Op.negFloat, FloatKind.format, Ieee.double]⟩
    · exact h.elim
  case convert s d x =>
    split at h
    · rename_i kd hd
      split at h
      · rename_i k' m hx
        refine ⟨_, h, fun u _ => ?_⟩
        unfold convT at hd
        split at hd
        · rename_i ds k2 hs hk2
          cases hd
          simp [execOp, ho, hx, convert, run_underlying' hs, run_underlying' hk2, Conv.intToInt]
        · cases hd
      · exact h.elim
    · obtain ⟨v, hk, hr⟩ := toStrD_sound h
      refine ⟨v, hk, fun u hu => ?_⟩
      have := hr u hu
      simp only [execOp, ho, Sem.run_bind, this, Result.andThen_ok, Sem.run_pure]
  case index t x i =>
    split at h
    · rename_i s kj j hx hi
      obtain ⟨ht, ⟨h0, h1⟩, h⟩ := h
      refine ⟨_, h, fun u _ => ?_⟩
      unfold isStringT at ht
      split at ht
      · rename_i he
        have hj : s[j.toNat]? = some (s.data.toList.getD j.toNat 0) := by
          have hlt : j.toNat < s.data.toList.length := by rw [Array.length_toList]; show j.toNat < s.size; omega
          have hlt2 : j.toNat < s.size := by omega
          rw [List.getD_eq_getElem?_getD, List.getElem?_eq_getElem hlt]
          simp only [Option.getD_some, Array.getElem_toList]
          rw [getElem?_pos s j.toNat hlt2]
          rfl
        simp [execOp, ho, hx, hi, Instr.index, asIntOf, run_underlying' he, h0, hj, byteAt]
      · cases ht
    · exact h.elim
  case slice t x lo hi mx =>
    cases mx with
    | none =>
      obtain ⟨v, hk, hr⟩ := sliceD_sound h
      exact ⟨v, hk, fun u _ => by simp [execOp, ho, hr]⟩
    | some m => exact h.elim
  case fieldAddr s x fl =>
    split at h
    · rename_i b o hx
      split at h
      · rename_i off hoff
        refine ⟨_, h, fun u _ => ?_⟩
        unfold fieldOff at hoff
        split at hoff
        · rename_i fs hs
          split at hoff
          · rename_i fd hfd
            split at hoff
            · rename_i i hi
              split at hoff
              · cases hoff
              · rename_i hne
                cases hoff
                simp [execOp, ho, hx, Instr.fieldAt, run_underlying' hs, hfd, Instr.sureAddr, fieldPlace, run_sizeOf' hi, hne, addr_add]
            · cases hoff
          · cases hoff
        · cases hoff
      · exact h.elim
    · exact h.elim
  case indexAddr t x i =>
    split at h
    · rename_i z hz
      split at h
      · rename_i kj j hi
        obtain ⟨hx, ⟨h0, h1⟩, h⟩ := h
        refine ⟨_, h, fun u _ => ?_⟩
        unfold eltSz at hz
        split at hz
        · rename_i e he
          obtain ⟨inf, hinf, rfl⟩ := Option.map_eq_some_iff.1 hz
          generalize hxv : ev f x = xv at *
          cases xv <;> try (simp [isSl] at hx; done)
          rename_i a m c
          simp only [lenV] at h1
          cases a with
          | none => simp [isSl] at hx; omega
          | some p => simp [execOp, ho, hxv, hi, Instr.indexAt, asIntOf, run_underlying' he, run_sizeOf' hinf, h0, h1, idxV]
        · cases hz
      · exact h.elim
    · split at h
      · rename_i len z p kj j hz hx hi
        obtain ⟨⟨h0, h1⟩, h⟩ := h
        refine ⟨_, h, fun u _ => ?_⟩
        unfold arrSz at hz
        split at hz
        · rename_i n e he
          obtain ⟨inf, hinf, heq⟩ := Option.map_eq_some_iff.1 hz
          cases heq
          simp [execOp, ho, hx, hi, Instr.indexAt, asIntOf, run_underlying' he, Instr.sureAddr, run_sizeOf' hinf, h0, h1]
        · cases hz
      · exact h.elim
  case extract t i =>
    split at h
    · rename_i vs hv
      split at h
      · rename_i v hvi; exact ⟨_, h, fun u _ => by simp [execOp, ho, hv, Instr.extract, hvi]⟩
      · exact h.elim
    · exact h.elim
  case call c =>
    split at h
    · rename_i b hb
      have h' : builtinD P b (c.args.map (ev f)).toList c.argTypes.toList k := by simpa using h
      obtain ⟨v, hk, hr⟩ := builtinD_sound h'
      refine ⟨v, hk, fun u _ => ?_⟩
      simp only [execOp, ho, resolve, hb, invoke, Sem.run_bind, Sem.run_pure, Result.andThen_ok]
      exact hr _ _ _
    · exact h.elim
  all_goals (first | exact h.elim | skip)
end Go.Proofs.Qxb6601738a
