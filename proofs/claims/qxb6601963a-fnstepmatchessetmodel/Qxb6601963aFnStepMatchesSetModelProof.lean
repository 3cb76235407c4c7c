/-
  The proof of Rows.FnStepMatchesSetModelSaid. The frame is what the skeleton tool writes for a law with memory among its arguments, turned to three arguments, two of them structs by value.
-/
import Derived.Test.Qxb6601963aRows
import Derived.WalkKit
import Derived.ProofKit
import Derived.OpenShut
import Derived.ShutString
import Derived.ChangeOld
import Derived.Below
import Derived.Test.Qxb6601963aStMain
import Derived.Test.Qxb6601963aStOpen
namespace Go.Proofs.Qxb6601963a.fnStepMatchesSetModel
open Go.ChangeShapes Go.WideShapes Go.ChangeAt Go.RowKit
set_option linter.unusedVariables false

theorem own : ownKnob Try.prog.godebug = none := by kernel_rfl
theorem laidOut : laidOutB Try.prog = true := by kernel_rfl

set_option maxRecDepth 100000 in
theorem lifted (os : Os) (started : os.Started) (H : Type) (enc : TypeId × Value → H) :
    ReturnsInHanded {} Try.checked os 3 .any (Rows.fnStepMatchesSetModelSpec.pre6 enc Try.prog Try.f3 Rows.fnStepMatchesSetModelRow.domain false) (Rows.fnStepMatchesSetModelSpec.post enc Try.prog Try.f3 false true false false) := by
  refine returnsInHanded_of_change (C := Try.checked) own started (by kernel_rfl) Try.func3
    (ChangeSpec.witness6 (enc := enc) (C := Try.checked) false ⟨#[], #[.agg #[.bool false, .string ⟨#[]⟩, .int .u64 0, .bool false, .slice none 0 0], .agg #[.int .i64 0, .int .i64 0, .int .i64 0, .string ⟨#[]⟩, .string ⟨#[]⟩, .string ⟨#[]⟩, .int .u64 0, .int .u64 0, .bool false, .bool false], .int .u64 0], []⟩ 8 (by kernel_rfl) (by kernel_rfl) (by kernel_rfl) (by kernel_rfl)) ?_
  intro W base args ds gs before hval0 hW hcnd _
  have hval : ∀ (j : Nat) t v, Try.f3.params[j]? = some t → args[j]? = some v → Value.okWide Try.prog W .any base t v := hval0
  have hW' := hW
  obtain ⟨p, q, hA0, hV, rfl, hfz, hnd⟩ := hW
  have hA : DataW.TrodAll enc Try.prog W 0 (fun _ => true) true Try.f3.params.toList args.toList ds p := hA0
  rw [Try.params3] at hA hval
  obtain ⟨v0, vs0, d0, ds0, p0, q0, hargs, rfl, rfl, h0, r0⟩ := trodAll_cons hA
  obtain ⟨v1, vs1, d1, ds1, p1, q1, rfl, rfl, rfl, h1, r1⟩ := trodAll_cons r0
  obtain ⟨v2, vs2, d2, ds2, p2, q2, rfl, rfl, rfl, h2, r2⟩ := trodAll_cons r1
  obtain ⟨rfl, rfl, rfl⟩ := trodAll_nil r2
  obtain rfl : args = #[v0, v1, v2] := by cases args; simp_all
  obtain ⟨rfl, rfl⟩ := trodVars_none hV
  have k0 := h0
  have k1 := h1
  have k2 := h2
  have lt0 : ∀ x ∈ p0, x.block < W.heap.size := by obtain ⟨m, hm⟩ := k0; exact DataW.trod_lt m _ _ _ hm
  have lt1 : ∀ x ∈ p1, x.block < W.heap.size := by obtain ⟨m, hm⟩ := k1; exact DataW.trod_lt m _ _ _ hm
  have lt2 : ∀ x ∈ p2, x.block < W.heap.size := by obtain ⟨m, hm⟩ := k2; exact DataW.trod_lt m _ _ _ hm
  obtain ⟨cs, rfl, _⟩ := okWide_struct Try.underlying25 (hval 0 25 v0 rfl rfl)
  obtain ⟨cs', rfl, _⟩ := okWide_struct Try.underlying27 (hval 1 27 v1 rfl rfl)
  obtain ⟨n2, rfl⟩ := okWide_int Try.underlying22 (hval 2 22 v2 rfl rfl)
  obtain ⟨fu0, h0⟩ := h0
  obtain ⟨fu1, h1⟩ := h1
  obtain ⟨fu2, h2⟩ := h2
  obtain ⟨kn, sv, gen, ex, ad, len, cap, z, e, z1, g0, g1, hw⟩ := St.state_of enc W h0
  obtain ⟨oc, o1, o2, kind, nm, ov, og, oe, oo, ou, e', z3, z4, z5, e0, e1⟩ := St.oper_of enc W h1
  obtain ⟨n2', e2, _, w2⟩ := DataW.trod_int (cs := [.int .u64 n2]) Try.underlying22 h2
  obtain rfl : n2 = n2' := by simpa using e2
  obtain rfl : cs = #[.bool kn, .string sv, .int .u64 gen, .bool ex, .slice ad len cap] := by
    have e' : cs.toList = _ := e
    obtain ⟨l⟩ := cs
    exact congrArg Array.mk e'
  obtain rfl : cs' = #[.int .i64 oc, .int .i64 o1, .int .i64 o2, .string kind, .string nm, .string ov, .int .u64 og, .int .u64 oe, .bool oo, .bool ou] := by
    have e'' : cs'.toList = _ := e'
    obtain ⟨l⟩ := cs'
    exact congrArg Array.mk e''
  clear hA0 hval0
  refine (St.main_any sv kind nm ov gen oc o1 o2 og oe n2 ad len cap z kn ex oo ou W hw z1 z3 z4 z5 g0 g1 e0 e1 (St.rng_of w2).1).mono fun e W' ⟨he, bel⟩ => ?_
  subst he
  exact ⟨_, rfl, _, _, _, [], _, [], hW', trodAll_mk1 (shut_bool Try.underlying4 _), (trodAll_cons_mk (Below.trod laidOut (by kernel_rfl) (of_decide_eq_true (by kernel_rfl)) k0 bel lt0) (trodAll_cons_mk (Below.trod laidOut (by kernel_rfl) (of_decide_eq_true (by kernel_rfl)) k1 bel lt1) (trodAll_cons_mk (Below.trod laidOut (by kernel_rfl) (of_decide_eq_true (by kernel_rfl)) k2 bel lt2) trodAll_mk0))), rfl, bel.frame _, fun h => by cases h⟩

theorem over : Rows.fnStepMatchesSetModelRow.holds Try.pinned (OpenSpec.ofChange Rows.fnStepMatchesSetModelSpec) :=
  OpenClaim.holds_of_wide 3 Try.f3 rfl rfl rfl rfl rfl rfl rfl ⟨rfl, rfl, rfl, rfl, rfl⟩ rfl rfl rfl rfl rfl (by kernel_rfl) Try.func3 (by kernel_rfl)
    (of_decide_eq_true (by kernel_rfl)) (by unfold Func.isWrapper; first | (rw [if_pos (by decide +kernel)]; kernel_rfl) | (rw [if_neg (by decide +kernel)]; exact ⟨rfl, rfl⟩))
    (fun os started H enc _ => lifted os started H enc)

/-- THE STATEMENT -/
theorem proved : Rows.FnStepMatchesSetModelSaid := over
end Go.Proofs.Qxb6601963a.fnStepMatchesSetModel
