/-
  The proof of Rows.FnBackrefReadsFirstCapturedElseLastSaid. The frame is what the skeleton tool writes for a law with memory among its arguments, turned to five arguments.
-/
import Derived.Test.Qxb6601528aRows
import Derived.WalkKit
import Derived.ProofKit
import Derived.OpenShut
import Derived.ShutString
import Derived.ChangeOld
import Derived.Below
import Derived.Test.Qxb6601528aBrMain
import Derived.Test.Qxb6601528aBrOpen
namespace Go.Proofs.Qxb6601528a.fnBackrefReadsFirstCapturedElseLast
open Go.ChangeShapes Go.WideShapes Go.ChangeAt Go.RowKit
set_option linter.unusedVariables false

theorem own : ownKnob Try.prog.godebug = none := by kernel_rfl
theorem laidOut : laidOutB Try.prog = true := by kernel_rfl

set_option maxRecDepth 100000 in
theorem lifted (os : Os) (started : os.Started) (H : Type) (enc : TypeId × Value → H) :
    ReturnsInHanded {} Try.checked os 5 .any (Rows.fnBackrefReadsFirstCapturedElseLastSpec.pre6 enc Try.prog Try.f5 Rows.fnBackrefReadsFirstCapturedElseLastRow.domain false) (Rows.fnBackrefReadsFirstCapturedElseLastSpec.post enc Try.prog Try.f5 false true false false) := by
  refine returnsInHanded_of_change (C := Try.checked) own started (by kernel_rfl) Try.func5
    (ChangeSpec.witness6 (enc := enc) (C := Try.checked) false ⟨#[], #[.slice none 0 0, .int .i64 0, .slice none 0 0, .bool false, .slice none 0 0], []⟩ 8 (by kernel_rfl) (by kernel_rfl) (by kernel_rfl) (by kernel_rfl)) ?_
  intro W base args ds gs before hval0 hW hcnd _
  have hval : ∀ (j : Nat) t v, Try.f5.params[j]? = some t → args[j]? = some v → Value.okWide Try.prog W .any base t v := hval0
  have hW' := hW
  obtain ⟨p, q, hA0, hV, rfl, hfz, hnd⟩ := hW
  have hA : DataW.TrodAll enc Try.prog W 0 (fun _ => true) true Try.f5.params.toList args.toList ds p := hA0
  rw [Try.params5] at hA hval
  obtain ⟨v0, vs0, d0, ds0, p0, q0, hargs, rfl, rfl, h0, r0⟩ := trodAll_cons hA
  obtain ⟨v1, vs1, d1, ds1, p1, q1, rfl, rfl, rfl, h1, r1⟩ := trodAll_cons r0
  obtain ⟨v2, vs2, d2, ds2, p2, q2, rfl, rfl, rfl, h2, r2⟩ := trodAll_cons r1
  obtain ⟨v3, vs3, d3, ds3, p3, q3, rfl, rfl, rfl, h3, r3⟩ := trodAll_cons r2
  obtain ⟨v4, vs4, d4, ds4, p4, q4, rfl, rfl, rfl, h4, r4⟩ := trodAll_cons r3
  obtain ⟨rfl, rfl, rfl⟩ := trodAll_nil r4
  obtain rfl : args = #[v0, v1, v2, v3, v4] := by cases args; simp_all
  obtain ⟨rfl, rfl⟩ := trodVars_none hV
  have k0 := h0
  have k1 := h1
  have k2 := h2
  have k3 := h3
  have k4 := h4
  have lt0 : ∀ x ∈ p0, x.block < W.heap.size := by obtain ⟨m, hm⟩ := k0; exact DataW.trod_lt m _ _ _ hm
  have lt1 : ∀ x ∈ p1, x.block < W.heap.size := by obtain ⟨m, hm⟩ := k1; exact DataW.trod_lt m _ _ _ hm
  have lt2 : ∀ x ∈ p2, x.block < W.heap.size := by obtain ⟨m, hm⟩ := k2; exact DataW.trod_lt m _ _ _ hm
  have lt3 : ∀ x ∈ p3, x.block < W.heap.size := by obtain ⟨m, hm⟩ := k3; exact DataW.trod_lt m _ _ _ hm
  have lt4 : ∀ x ∈ p4, x.block < W.heap.size := by obtain ⟨m, hm⟩ := k4; exact DataW.trod_lt m _ _ _ hm
  obtain ⟨x0, y0, z0, rfl⟩ := okWide_slice Try.underlying33 (hval 0 33 v0 rfl rfl)
  obtain ⟨n1, rfl⟩ := okWide_int Try.underlying3 (hval 1 3 v1 rfl rfl)
  obtain ⟨x2, y2, z2, rfl⟩ := okWide_slice Try.underlying34 (hval 2 34 v2 rfl rfl)
  obtain ⟨b3, rfl⟩ := okWide_bool Try.underlying4 (hval 3 4 v3 rfl rfl)
  obtain ⟨x4, y4, z4, rfl⟩ := okWide_slice Try.underlying34 (hval 4 34 v4 rfl rfl)
  obtain ⟨fu0, h0⟩ := h0
  obtain ⟨fu2, h2⟩ := h2
  obtain ⟨fu4, h4⟩ := h4
  obtain ⟨ad0, l0, c0, e0, hp0⟩ := Br.pre_of enc W (v := .slice x0 y0 z0) h0
  obtain ⟨ad2, l2, c2, zg, e2, hp2⟩ := Br.ints_of enc W (v := .slice x2 y2 z2) h2
  obtain ⟨ad4, l4, c4, zc, e4, hp4⟩ := Br.ints_of enc W (v := .slice x4 y4 z4) h4
  obtain ⟨rfl, rfl, rfl⟩ : x0 = ad0 ∧ y0 = l0 ∧ z0 = c0 := by simpa using e0
  obtain ⟨rfl, rfl, rfl⟩ : x2 = ad2 ∧ y2 = l2 ∧ z2 = c2 := by simpa using e2
  obtain ⟨rfl, rfl, rfl⟩ : x4 = ad4 ∧ y4 = l4 ∧ z4 = c4 := by simpa using e4
  clear hA0 hval0
  refine (Br.main_any x0 x2 x4 y0 z0 y2 z2 y4 z4 n1 b3 zg zc W hp0 hp2 hp4).mono fun e W' ⟨he, bel⟩ => ?_
  subst he
  exact ⟨_, rfl, _, _, _, [], _, [], hW', trodAll_mk1 (shut_bool Try.underlying4 _), (trodAll_cons_mk (Below.trod laidOut (by kernel_rfl) (of_decide_eq_true (by kernel_rfl)) k0 bel lt0) (trodAll_cons_mk (Below.trod laidOut (by kernel_rfl) (of_decide_eq_true (by kernel_rfl)) k1 bel lt1) (trodAll_cons_mk (Below.trod laidOut (by kernel_rfl) (of_decide_eq_true (by kernel_rfl)) k2 bel lt2) (trodAll_cons_mk (Below.trod laidOut (by kernel_rfl) (of_decide_eq_true (by kernel_rfl)) k3 bel lt3) (trodAll_cons_mk (Below.trod laidOut (by kernel_rfl) (of_decide_eq_true (by kernel_rfl)) k4 bel lt4) trodAll_mk0))))), rfl, bel.frame _, fun h => by cases h⟩

theorem over : Rows.fnBackrefReadsFirstCapturedElseLastRow.holds Try.pinned (OpenSpec.ofChange Rows.fnBackrefReadsFirstCapturedElseLastSpec) :=
  OpenClaim.holds_of_wide 5 Try.f5 rfl rfl rfl rfl rfl rfl rfl ⟨rfl, rfl, rfl, rfl, rfl⟩ rfl rfl rfl rfl rfl (by kernel_rfl) Try.func5 (by kernel_rfl)
    (of_decide_eq_true (by kernel_rfl)) (by unfold Func.isWrapper; first | (rw [if_pos (by decide +kernel)]; kernel_rfl) | (rw [if_neg (by decide +kernel)]; exact ⟨rfl, rfl⟩))
    (fun os started H enc _ => lifted os started H enc)

/-- THE STATEMENT -/
theorem proved : Rows.FnBackrefReadsFirstCapturedElseLastSaid := over
end Go.Proofs.Qxb6601528a.fnBackrefReadsFirstCapturedElseLast
