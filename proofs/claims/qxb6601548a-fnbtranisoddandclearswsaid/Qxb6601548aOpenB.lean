import Derived.Test.Qxb6601548aRows
import Derived.Test.Qxb6601548aOpen
import Derived.Test.Qxb6601548aLawF
namespace Go.Proofs.Qxb6601548a
open Go.ChangeShapes Go.WideShapes Go.ChangeAt Go.RowKit
set_option linter.unusedVariables false
set_option linter.unusedSimpArgs false

section
variable {H : Type} {enc : TypeId × Value → H} {P : Program} {w : World} {base : Nat} {spare : Nat → Bool} {held : Bool}
theorem open_fltsT {t e : TypeId} {v : Value} {fuel : Nat} {x : DataW H × List MemPlace} (ht : P.underlying t = some (.slice e)) (he : P.underlying e = some (.float .f64)) (hc : P.cellsOf e = 1) (h : DataW.trod enc P w base spare held fuel t [v] = some x) :
    ∃ xs : List Nat, Sl w v (fls xs) ∧ ∀ x ∈ xs, x < 18446744073709551616 := by
  obtain ⟨vs, hs, hp⟩ := open_row (fun u => ∃ n, u = .float .f64 n ∧ n < 18446744073709551616) ht hc (fun fuel cs x hx => by
    obtain ⟨n, rfl, hw⟩ := trod_flt he hx
    exact ⟨_, rfl, n, rfl, by simpa [Lit.wf] using hw⟩) h
  obtain ⟨xs, rfl, hx⟩ := list_of (Value.float .f64) vs _ hp
  exact ⟨xs, hs, hx⟩
theorem open_numsT {t e : TypeId} {k : IntKind} {v : Value} {fuel : Nat} {x : DataW H × List MemPlace} (ht : P.underlying t = some (.slice e)) (he : P.underlying e = some (.int k)) (hc : P.cellsOf e = 1) (h : DataW.trod enc P w base spare held fuel t [v] = some x) :
    ∃ xs : List Int, Sl w v (xs.map (Value.int k)) ∧ ∀ x ∈ xs, k.min ≤ x ∧ x ≤ k.max := by
  obtain ⟨vs, hs, hp⟩ := open_row (fun u => ∃ n, u = .int k n ∧ (k.min ≤ n ∧ n ≤ k.max)) ht hc (fun fuel cs x hx => by
    obtain ⟨n, rfl, _, hw⟩ := DataW.trod_int he hx
    exact ⟨_, rfl, n, rfl, by simpa [Lit.wf] using hw⟩) h
  obtain ⟨xs, rfl, hx⟩ := list_of (Value.int k) vs _ hp
  exact ⟨xs, hs, hx⟩
theorem open_field {t : TypeId} {fs : Array Field} {fuel : Nat} {cs : List Value} {x : DataW H × List MemPlace} (ht : P.underlying t = some (.struct fs)) (h : DataW.trod enc P w base spare held fuel t cs = some x)
    (i : Nat) (f : Field) (hi : fs[i]? = some f) (hc : P.cellsOf f.type = 1) {v : Value} (hv : cs[f.offset]? = some v) : ∃ n y, DataW.trod enc P w base spare held n f.type [v] = some y := by
  obtain ⟨xs, n, _, rfl, hl, hlen, hf⟩ := DataW.trod_struct ht h
  have := hf i f hi
  have hlt : i < xs.length := by
    rcases Nat.lt_or_ge i fs.size with h' | h'
    · omega
    · rw [Array.getElem?_eq_none h'] at hi; cases hi
  obtain ⟨ho, hv'⟩ := List.getElem?_eq_some_iff.1 hv
  have e : (cs.drop f.offset).take 1 = [v] := by
    rw [List.drop_eq_getElem_cons ho, hv']; rfl
  rw [hc, e, List.getElem?_eq_getElem hlt] at this
  exact ⟨n, _, this⟩
end
theorem own : ownKnob Try.prog.godebug = none := by kernel_rfl
theorem laidOut : laidOutB Try.prog = true := by kernel_rfl
theorem cells34 : Try.prog.cellsOf 34 = 1 := by kernel_rfl
theorem cells21 : Try.prog.cellsOf 21 = 1 := by kernel_rfl
theorem cells3 : Try.prog.cellsOf 3 = 1 := by kernel_rfl
theorem cells22 : Try.prog.cellsOf 22 = 1 := by kernel_rfl
theorem cells24 : Try.prog.cellsOf 24 = 1 := by kernel_rfl
theorem cells25 : Try.prog.cellsOf 25 = 1 := by kernel_rfl
theorem cells38 : Try.prog.cellsOf 38 = 19 := by kernel_rfl

theorem open_basis {H : Type} {enc : TypeId × Value → H} {w : World} {base : Nat} {spare : Nat → Bool} {held : Bool} {cs : Array Value} {dd : DataW H} {ps : List MemPlace} (hs : cs.size = 19) (h : DataW.Trod enc Try.prog w base spare held 38 (.agg cs) dd ps) :
    ∃ (b : BV) (d : BD), cs = b.arr ∧ BIn w b d := by
  obtain ⟨fuel, hf⟩ := h
  have hcs : cs.toList.length = 19 := by simpa using hs
  have hcl : (Value.agg cs).cells.toList = cs.toList := rfl
  rw [hcl] at hf
  match hm : cs.toList, hcs with
  | [v0, v1, v2, v3, v4, v5, v6, v7, v8, v9, v10, v11, v12, v13, v14, v15, v16, v17, v18], _ =>
    rw [hm] at hf
    obtain ⟨n0, y0, e0⟩ := open_field Try.underlying38 hf 0 _ rfl cells24 rfl
    obtain ⟨x0, s0, r0⟩ := open_numsT Try.underlying24 Try.underlying21 cells21 e0
    obtain ⟨n1, y1, e1⟩ := open_field Try.underlying38 hf 1 _ rfl cells24 rfl
    obtain ⟨x1, s1, r1⟩ := open_numsT Try.underlying24 Try.underlying21 cells21 e1
    obtain ⟨n2, y2, e2⟩ := open_field Try.underlying38 hf 2 _ rfl cells24 rfl
    obtain ⟨x2, s2, r2⟩ := open_numsT Try.underlying24 Try.underlying21 cells21 e2
    obtain ⟨n3, y3, e3⟩ := open_field Try.underlying38 hf 3 _ rfl cells22 rfl
    obtain ⟨x3, s3, r3⟩ := open_fltsT Try.underlying22 Try.underlying34 cells34 e3
    obtain ⟨n4, y4, e4⟩ := open_field Try.underlying38 hf 4 _ rfl cells24 rfl
    obtain ⟨x4, s4, r4⟩ := open_numsT Try.underlying24 Try.underlying21 cells21 e4
    obtain ⟨n5, y5, e5⟩ := open_field Try.underlying38 hf 5 _ rfl cells22 rfl
    obtain ⟨x5, s5, r5⟩ := open_fltsT Try.underlying22 Try.underlying34 cells34 e5
    obtain ⟨n6, y6, e6⟩ := open_field Try.underlying38 hf 6 _ rfl cells25 rfl
    obtain ⟨x6, s6, r6⟩ := open_numsT Try.underlying25 Try.underlying3 cells3 e6
    obtain ⟨n7, y7, e7⟩ := open_field Try.underlying38 hf 7 _ rfl cells24 rfl
    obtain ⟨x7, s7, r7⟩ := open_numsT Try.underlying24 Try.underlying21 cells21 e7
    obtain ⟨n8, y8, e8⟩ := open_field Try.underlying38 hf 8 _ rfl cells22 rfl
    obtain ⟨x8, s8, r8⟩ := open_fltsT Try.underlying22 Try.underlying34 cells34 e8
    obtain ⟨n9, y9, e9⟩ := open_field Try.underlying38 hf 9 _ rfl cells25 rfl
    obtain ⟨x9, s9, r9⟩ := open_numsT Try.underlying25 Try.underlying3 cells3 e9
    obtain ⟨n10, y10, e10⟩ := open_field Try.underlying38 hf 10 _ rfl cells24 rfl
    obtain ⟨x10, s10, r10⟩ := open_numsT Try.underlying24 Try.underlying21 cells21 e10
    obtain ⟨n11, y11, e11⟩ := open_field Try.underlying38 hf 11 _ rfl cells22 rfl
    obtain ⟨x11, s11, r11⟩ := open_fltsT Try.underlying22 Try.underlying34 cells34 e11
    obtain ⟨n12, y12, e12⟩ := open_field Try.underlying38 hf 12 _ rfl cells25 rfl
    obtain ⟨x12, s12, r12⟩ := open_numsT Try.underlying25 Try.underlying3 cells3 e12
    obtain ⟨n13, y13, e13⟩ := open_field Try.underlying38 hf 13 _ rfl cells24 rfl
    obtain ⟨x13, s13, r13⟩ := open_numsT Try.underlying24 Try.underlying21 cells21 e13
    obtain ⟨n14, y14, e14⟩ := open_field Try.underlying38 hf 14 _ rfl cells22 rfl
    obtain ⟨x14, s14, r14⟩ := open_fltsT Try.underlying22 Try.underlying34 cells34 e14
    obtain ⟨n15, y15, e15⟩ := open_field Try.underlying38 hf 15 _ rfl cells24 rfl
    obtain ⟨x15, s15, r15⟩ := open_numsT Try.underlying24 Try.underlying21 cells21 e15
    obtain ⟨n16, y16, e16⟩ := open_field Try.underlying38 hf 16 _ rfl cells24 rfl
    obtain ⟨x16, s16, r16⟩ := open_numsT Try.underlying24 Try.underlying21 cells21 e16
    obtain ⟨n17, y17, e17⟩ := open_field Try.underlying38 hf 17 _ rfl cells25 rfl
    obtain ⟨x17, s17, r17⟩ := open_numsT Try.underlying25 Try.underlying3 cells3 e17
    obtain ⟨n18, y18, e18⟩ := open_field Try.underlying38 hf 18 _ rfl cells22 rfl
    obtain ⟨x18, s18, r18⟩ := open_fltsT Try.underlying22 Try.underlying34 cells34 e18
    refine ⟨⟨v0, v1, v2, v3, v4, v5, v6, v7, v8, v9, v10, v11, v12, v13, v14, v15, v16, v17, v18⟩, ⟨x0, x1, x2, x3, x4, x5, x6, x7, x8, x9, x10, x11, x12, x13, x14, x15, x16, x17, x18⟩, ?_, ?_⟩
    · apply Array.ext'
      rw [hm]; rfl
    · exact ⟨s0, s1, s2, s3, s4, s5, s6, s7, s8, s9, s10, s11, s12, s13, s14, s15, s16, s17, s18, fun x hx => r0 x hx, fun x hx => r1 x hx, fun x hx => r2 x hx, fun x hx => r4 x hx, fun x hx => r7 x hx, fun x hx => r10 x hx, fun x hx => r13 x hx, fun x hx => r15 x hx, fun x hx => r16 x hx⟩
end Go.Proofs.Qxb6601548a
