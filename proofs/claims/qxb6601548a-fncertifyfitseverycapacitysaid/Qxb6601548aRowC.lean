import Derived.Test.Qxb6601548aRows
import Derived.Test.Qxb6601548aLawC
import Derived.Test.Qxb6601548aOpen
namespace Go.Proofs.Qxb6601548a
open Go.ChangeShapes Go.WideShapes Go.ChangeAt Go.RowKit
set_option linter.unusedVariables false
set_option linter.unusedSimpArgs false

theorem own : ownKnob Try.prog.godebug = none := by kernel_rfl
theorem laidOut : laidOutB Try.prog = true := by kernel_rfl
theorem cells34 : Try.prog.cellsOf 34 = 1 := by kernel_rfl
theorem cells35 : Try.prog.cellsOf 35 = 1 := by kernel_rfl
theorem cells21 : Try.prog.cellsOf 21 = 1 := by kernel_rfl
theorem cells3 : Try.prog.cellsOf 3 = 1 := by kernel_rfl

namespace RowC
set_option maxHeartbeats 1600000 in
set_option maxRecDepth 100000 in
theorem lifted (cap : CapOk) (os : Os) (started : os.Started) (H : Type) (enc : TypeId × Value → H) :
    ReturnsInHanded {} Try.checked os 3 .any (Rows.fnCertifyFitsEveryCapacitySpec.pre6 enc Try.prog Try.f3 Rows.fnCertifyFitsEveryCapacityRow.domain false) (Rows.fnCertifyFitsEveryCapacitySpec.post enc Try.prog Try.f3 false true false false) := by
  refine returnsInHanded_of_change (C := Try.checked) own started (by kernel_rfl) Try.func3
    (ChangeSpec.witness6 (enc := enc) (C := Try.checked) false ⟨#[], #[.slice none 0 0, .slice none 0 0, .slice none 0 0, .slice none 0 0, .slice none 0 0, .slice none 0 0], []⟩ 8 (by kernel_rfl) (by kernel_rfl) (by kernel_rfl) (by kernel_rfl)) ?_
  intro W base args ds gs before hval0 hW hcnd _
  have hval : ∀ (j : Nat) t v, Try.f3.params[j]? = some t → args[j]? = some v → Value.okWide Try.prog W .any base t v := hval0
  have hW' := hW
  obtain ⟨p, q, hA0, hV, rfl, hfz, hnd⟩ := hW
  have hA : DataW.TrodAll enc Try.prog W 0 (fun _ => true) true Try.f3.params.toList args.toList ds p := hA0
  rw [Try.params3] at hA hval
  obtain ⟨v0, vs0, d0, ds0, p0, q0, hargs, rfl, rfl, h0, r0⟩ := trodAll_cons hA
  obtain ⟨v1, vs1, d1, ds1, p1, q1, rfl, rfl, rfl, h1, r1⟩ := trodAll_cons r0
  obtain ⟨v2, vs2, d2, ds2, p2, q2, rfl, rfl, rfl, h2, r2⟩ := trodAll_cons r1
  obtain ⟨v3, vs3, d3, ds3, p3, q3, rfl, rfl, rfl, h3, r3⟩ := trodAll_cons r2
  obtain ⟨v4, vs4, d4, ds4, p4, q4, rfl, rfl, rfl, h4, r4⟩ := trodAll_cons r3
  obtain ⟨v5, vs5, d5, ds5, p5, q5, rfl, rfl, rfl, h5, r5⟩ := trodAll_cons r4
  obtain ⟨rfl, rfl, rfl⟩ := trodAll_nil r5
  obtain rfl : args = #[v0, v1, v2, v3, v4, v5] := by cases args; simp_all
  obtain ⟨rfl, rfl⟩ := trodVars_none hV
  have c0 : v0.cells.toList = [v0] := by obtain ⟨a, l, c, rfl⟩ := okWide_slice Try.underlying22 (hval 0 22 v0 rfl rfl); rfl
  have c1 : v1.cells.toList = [v1] := by obtain ⟨a, l, c, rfl⟩ := okWide_slice Try.underlying23 (hval 1 23 v1 rfl rfl); rfl
  have c2 : v2.cells.toList = [v2] := by obtain ⟨a, l, c, rfl⟩ := okWide_slice Try.underlying24 (hval 2 24 v2 rfl rfl); rfl
  have c3 : v3.cells.toList = [v3] := by obtain ⟨a, l, c, rfl⟩ := okWide_slice Try.underlying25 (hval 3 25 v3 rfl rfl); rfl
  have c4 : v4.cells.toList = [v4] := by obtain ⟨a, l, c, rfl⟩ := okWide_slice Try.underlying24 (hval 4 24 v4 rfl rfl); rfl
  have c5 : v5.cells.toList = [v5] := by obtain ⟨a, l, c, rfl⟩ := okWide_slice Try.underlying22 (hval 5 22 v5 rfl rfl); rfl
  obtain ⟨ws, S0, b0⟩ := open_flts Try.underlying22 Try.underlying34 cells34 c0 h0
  obtain ⟨fs, S1, b1⟩ := open_nums Try.underlying23 Try.underlying35 cells35 c1 h1
  obtain ⟨ms, S2, b2⟩ := open_nums Try.underlying24 Try.underlying21 cells21 c2 h2
  obtain ⟨es, S3, b3⟩ := open_nums Try.underlying25 Try.underlying3 cells3 c3 h3
  obtain ⟨hs, S4, b4⟩ := open_nums Try.underlying24 Try.underlying21 cells21 c4 h4
  obtain ⟨xs, S5, b5⟩ := open_flts Try.underlying22 Try.underlying34 cells34 c5 h5
  have lt0 : ∀ x ∈ p0, x.block < W.heap.size := by obtain ⟨m, hm⟩ := h0; exact DataW.trod_lt m _ _ _ hm
  have lt1 : ∀ x ∈ p1, x.block < W.heap.size := by obtain ⟨m, hm⟩ := h1; exact DataW.trod_lt m _ _ _ hm
  have lt2 : ∀ x ∈ p2, x.block < W.heap.size := by obtain ⟨m, hm⟩ := h2; exact DataW.trod_lt m _ _ _ hm
  have lt3 : ∀ x ∈ p3, x.block < W.heap.size := by obtain ⟨m, hm⟩ := h3; exact DataW.trod_lt m _ _ _ hm
  have lt4 : ∀ x ∈ p4, x.block < W.heap.size := by obtain ⟨m, hm⟩ := h4; exact DataW.trod_lt m _ _ _ hm
  have lt5 : ∀ x ∈ p5, x.block < W.heap.size := by obtain ⟨m, hm⟩ := h5; exact DataW.trod_lt m _ _ _ hm
  clear hA0 hval0
  have walk := calls_of_hc (lawC_hc cap W v0 v1 v2 v3 v4 v5 ws fs ms es hs xs S0 S1 S2 S3 S4 S5 b0 b5 (fun x hx => b2 x hx) (fun x hx => b4 x hx))
  refine walk.mono fun e W' ⟨he, bel⟩ => ?_
  subst he
  exact ⟨_, rfl, _, _, _, [], _, [], hW', trodAll_mk1 (shut_bool Try.underlying4 _),
    (trodAll_cons_mk (Below.trod laidOut (by kernel_rfl) (of_decide_eq_true (by kernel_rfl)) h0 bel lt0)
    (trodAll_cons_mk (Below.trod laidOut (by kernel_rfl) (of_decide_eq_true (by kernel_rfl)) h1 bel lt1)
    (trodAll_cons_mk (Below.trod laidOut (by kernel_rfl) (of_decide_eq_true (by kernel_rfl)) h2 bel lt2)
    (trodAll_cons_mk (Below.trod laidOut (by kernel_rfl) (of_decide_eq_true (by kernel_rfl)) h3 bel lt3)
    (trodAll_cons_mk (Below.trod laidOut (by kernel_rfl) (of_decide_eq_true (by kernel_rfl)) h4 bel lt4)
    (trodAll_cons_mk (Below.trod laidOut (by kernel_rfl) (of_decide_eq_true (by kernel_rfl)) h5 bel lt5) trodAll_mk0)))))), rfl, bel.frame _, fun h => by cases h⟩

theorem over (cap : CapOk) : Rows.fnCertifyFitsEveryCapacityRow.holds Try.pinned (OpenSpec.ofChange Rows.fnCertifyFitsEveryCapacitySpec) :=
  OpenClaim.holds_of_wide 3 Try.f3 rfl rfl rfl rfl rfl rfl rfl ⟨rfl, rfl, rfl, rfl, rfl⟩ rfl rfl rfl rfl rfl (by kernel_rfl) Try.func3 (by kernel_rfl)
    (of_decide_eq_true (by kernel_rfl)) (by unfold Func.isWrapper; first | (rw [if_pos (by decide +kernel)]; kernel_rfl) | (rw [if_neg (by decide +kernel)]; exact ⟨rfl, rfl⟩))
    (fun os started H enc _ => lifted cap os started H enc)
end RowC
end Go.Proofs.Qxb6601548a
