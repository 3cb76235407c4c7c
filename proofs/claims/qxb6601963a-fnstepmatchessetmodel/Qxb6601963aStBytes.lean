import Derived.Test.Qxb6601963aStWords
set_option linter.unusedVariables false
namespace Go.Proofs.Qxb6601963a.St
open Go.RowKit

set_option maxRecDepth 100000 in
set_option maxHeartbeats 4000000 in
theorem bytes_any (sv kind nm ov : ByteArray) (gen oc o1 o2 og oe p : Int) (ad : Option Addr) (len cap : Nat) (kn ex oo ou : Bool) (w : World)
    (z1 : sv.size ≤ maxLen) (z2 : len ≤ maxLen) (z3 : kind.size ≤ maxLen) (z4 : nm.size ≤ maxLen) (z5 : ov.size ≤ maxLen) :
    Calls Try.prog 6 #[.agg #[.bool kn, .string sv, .int .u64 gen, .bool ex, .slice ad len cap], .agg #[.int .i64 oc, .int .i64 o1, .int .i64 o2, .string kind, .string nm, .string ov, .int .u64 og, .int .u64 oe, .bool oo, .bool ou], .int .u64 p] w fun e w' => e = .returned (.bool (decide (sv.size + len + kind.size + nm.size + ov.size ≤ 1048576))) ∧ Below w.heap.size w w' := by
  unfold maxLen at z1 z2 z3 z4 z5
  have HB := hid (((Below.refl w.heap.size w).alloc (Nat.le_refl _) (.cells #[.bool kn, .string sv, .int .u64 gen, .bool ex, .slice ad len cap] 25)).alloc (by simp) (.cells #[.int .i64 oc, .int .i64 o1, .int .i64 o2, .string kind, .string nm, .string ov, .int .u64 og, .int .u64 oe, .bool oo, .bool ou] 27))
  by_cases h0 : sv.size ≤ 1048576
  case neg =>
    have g0 : (1048576 : Int) < sv.size := by omega
    go_enter Try.func6, Try.ntmps6
    go_wp2_with fail
    go_ret
    exact ⟨by first | rfl | (rw [decide_eq_false (by omega)]; rfl), HB.out⟩
  have g0 : ¬ (1048576 : Int) < sv.size := by omega
  by_cases h1 : len ≤ 1048576
  case neg =>
    have g1 : (1048576 : Int) < len := by omega
    go_enter Try.func6, Try.ntmps6
    go_wp2_with fail
    go_ret
    exact ⟨by first | rfl | (rw [decide_eq_false (by omega)]; rfl), HB.out⟩
  have g1 : ¬ (1048576 : Int) < len := by omega
  by_cases s1 : sv.size + len ≤ 1048576
  case neg =>
    have t1 : (1048576 : Int) < (sv.size : Int) + (len : Int) := by omega
    go_enter Try.func6, Try.ntmps6
    go_wp2_with fail
    go_ret
    exact ⟨by first | rfl | (rw [decide_eq_false (by omega)]; rfl), HB.out⟩
  have t1 : ¬ (1048576 : Int) < (sv.size : Int) + (len : Int) := by omega
  by_cases h2 : kind.size ≤ 1048576
  case neg =>
    have g2 : (1048576 : Int) < kind.size := by omega
    go_enter Try.func6, Try.ntmps6
    go_wp2_with fail
    go_ret
    exact ⟨by first | rfl | (rw [decide_eq_false (by omega)]; rfl), HB.out⟩
  have g2 : ¬ (1048576 : Int) < kind.size := by omega
  by_cases s2 : sv.size + len + kind.size ≤ 1048576
  case neg =>
    have t2 : (1048576 : Int) < (sv.size : Int) + (len : Int) + (kind.size : Int) := by omega
    go_enter Try.func6, Try.ntmps6
    go_wp2_with fail
    go_ret
    exact ⟨by first | rfl | (rw [decide_eq_false (by omega)]; rfl), HB.out⟩
  have t2 : ¬ (1048576 : Int) < (sv.size : Int) + (len : Int) + (kind.size : Int) := by omega
  by_cases h3 : nm.size ≤ 1048576
  case neg =>
    have g3 : (1048576 : Int) < nm.size := by omega
    go_enter Try.func6, Try.ntmps6
    go_wp2_with fail
    go_ret
    exact ⟨by first | rfl | (rw [decide_eq_false (by omega)]; rfl), HB.out⟩
  have g3 : ¬ (1048576 : Int) < nm.size := by omega
  by_cases s3 : sv.size + len + kind.size + nm.size ≤ 1048576
  case neg =>
    have t3 : (1048576 : Int) < (sv.size : Int) + (len : Int) + (kind.size : Int) + (nm.size : Int) := by omega
    go_enter Try.func6, Try.ntmps6
    go_wp2_with fail
    go_ret
    exact ⟨by first | rfl | (rw [decide_eq_false (by omega)]; rfl), HB.out⟩
  have t3 : ¬ (1048576 : Int) < (sv.size : Int) + (len : Int) + (kind.size : Int) + (nm.size : Int) := by omega
  by_cases h4 : ov.size ≤ 1048576
  case neg =>
    have g4 : (1048576 : Int) < ov.size := by omega
    go_enter Try.func6, Try.ntmps6
    go_wp2_with fail
    go_ret
    exact ⟨by first | rfl | (rw [decide_eq_false (by omega)]; rfl), HB.out⟩
  have g4 : ¬ (1048576 : Int) < ov.size := by omega
  by_cases s4 : sv.size + len + kind.size + nm.size + ov.size ≤ 1048576
  case neg =>
    have t4 : (1048576 : Int) < (sv.size : Int) + (len : Int) + (kind.size : Int) + (nm.size : Int) + (ov.size : Int) := by omega
    go_enter Try.func6, Try.ntmps6
    go_wp2_with fail
    go_ret
    exact ⟨by first | rfl | (rw [decide_eq_false (by omega)]; rfl), HB.out⟩
  have t4 : ¬ (1048576 : Int) < (sv.size : Int) + (len : Int) + (kind.size : Int) + (nm.size : Int) + (ov.size : Int) := by omega
  go_enter Try.func6, Try.ntmps6
  go_wp2_with fail
  go_ret
  exact ⟨by first | rfl | (rw [decide_eq_true (by omega)]; rfl), HB.out⟩
end Go.Proofs.Qxb6601963a.St
