/-
  The proof of Rows.FnSeriesChangesOfOnePlacedOrNoneSaid. The frame is what the skeleton tool writes for a law with memory among its arguments, turned to one argument, a struct by value.
-/
import Derived.Test.Qxb6601837aRows
import Derived.WalkKit
import Derived.ProofKit
import Derived.OpenShut
import Derived.ShutString
import Derived.ChangeOld
import Derived.Below
import Derived.Test.Qxb6601837aSeMain
import Derived.Test.Qxb6601837aSeOpen
namespace Go.Proofs.Qxb6601837a.fnSeriesChangesOfOnePlacedOrNone
open Go.ChangeShapes Go.WideShapes Go.ChangeAt Go.RowKit
set_option linter.unusedVariables false

theorem own : ownKnob Try.prog.godebug = none := by kernel_rfl
theorem laidOut : laidOutB Try.prog = true := by kernel_rfl

set_option maxRecDepth 100000 in
theorem lifted (os : Os) (started : os.Started) (H : Type) (enc : TypeId × Value → H) :
    ReturnsInHanded {} Try.checked os 6 .any (Rows.fnSeriesChangesOfOnePlacedOrNoneSpec.pre6 enc Try.prog Try.f6 Rows.fnSeriesChangesOfOnePlacedOrNoneRow.domain false) (Rows.fnSeriesChangesOfOnePlacedOrNoneSpec.post enc Try.prog Try.f6 false true false false) := by
  refine returnsInHanded_of_change (C := Try.checked) own started (by kernel_rfl) Try.func6
    (ChangeSpec.witness6 (enc := enc) (C := Try.checked) false ⟨#[], #[.agg #[.string ⟨#[]⟩, .string ⟨#[]⟩, .slice none 0 0, .string ⟨#[]⟩, .string ⟨#[]⟩, .slice none 0 0, .string ⟨#[]⟩, .bool false, .bool false, .string ⟨#[]⟩]], []⟩ 8 (by kernel_rfl) (by kernel_rfl) (by kernel_rfl) (by kernel_rfl)) ?_
  intro W base args ds gs before hval0 hW hcnd _
  have hval : ∀ (j : Nat) t v, Try.f6.params[j]? = some t → args[j]? = some v → Value.okWide Try.prog W .any base t v := hval0
  have hW' := hW
  obtain ⟨p, q, hA0, hV, rfl, hfz, hnd⟩ := hW
  have hA : DataW.TrodAll enc Try.prog W 0 (fun _ => true) true Try.f6.params.toList args.toList ds p := hA0
  rw [Try.params6] at hA hval
  obtain ⟨v0, vs0, d0, ds0, p0, q0, hargs, rfl, rfl, h0, r0⟩ := trodAll_cons hA
  obtain ⟨rfl, rfl, rfl⟩ := trodAll_nil r0
  obtain rfl : args = #[v0] := by cases args; simp_all
  obtain ⟨rfl, rfl⟩ := trodVars_none hV
  have k0 := h0
  have lt0 : ∀ x ∈ p0, x.block < W.heap.size := by obtain ⟨m, hm⟩ := k0; exact DataW.trod_lt m _ _ _ hm
  obtain ⟨cs, rfl, _⟩ := okWide_struct Try.underlying55 (hval 0 55 v0 rfl rfl)
  obtain ⟨fu0, h0⟩ := h0
  obtain ⟨hh, ch, pa, lp, cp, tr, ms, ta, lt, ct, ci, mg, co, ti, e, z1, z2, z3, z4, z5, z6, hP, hT⟩ := Se.placed_of enc W h0
  obtain rfl : cs = #[.string hh, .string ch, .slice pa lp cp, .string tr, .string ms, .slice ta lt ct, .string ci, .bool mg, .bool co, .string ti] := by
    have e' : cs.toList = _ := e
    obtain ⟨l⟩ := cs
    exact congrArg Array.mk e'
  clear hA0 hval0
  refine (Se.main_any hh ch tr ms ci ti pa ta lp cp lt ct mg co W z1 z2 z3 z4 z5 z6 hP hT).mono fun e W' ⟨he, bel⟩ => ?_
  subst he
  exact ⟨_, rfl, _, _, _, [], _, [], hW', trodAll_mk1 (shut_bool Try.underlying4 _), (trodAll_cons_mk (Below.trod laidOut (by kernel_rfl) (of_decide_eq_true (by kernel_rfl)) k0 bel lt0) trodAll_mk0), rfl, bel.frame _, fun h => by cases h⟩

theorem over : Rows.fnSeriesChangesOfOnePlacedOrNoneRow.holds Try.pinned (OpenSpec.ofChange Rows.fnSeriesChangesOfOnePlacedOrNoneSpec) :=
  OpenClaim.holds_of_wide 6 Try.f6 rfl rfl rfl rfl rfl rfl rfl ⟨rfl, rfl, rfl, rfl, rfl⟩ rfl rfl rfl rfl rfl (by kernel_rfl) Try.func6 (by kernel_rfl)
    (of_decide_eq_true (by kernel_rfl)) (by unfold Func.isWrapper; first | (rw [if_pos (by decide +kernel)]; kernel_rfl) | (rw [if_neg (by decide +kernel)]; exact ⟨rfl, rfl⟩))
    (fun os started H enc _ => lifted os started H enc)

/-- THE STATEMENT -/
theorem proved : Rows.FnSeriesChangesOfOnePlacedOrNoneSaid := over
end Go.Proofs.Qxb6601837a.fnSeriesChangesOfOnePlacedOrNone
