import Derived.Test.Qxb6601963aStZ11
import Derived.Test.Qxb6601963aStBytes
set_option linter.unusedVariables false
namespace Go.Proofs.Qxb6601963a.St
open Go.RowKit


set_option maxRecDepth 100000 in
set_option maxHeartbeats 8000000 in
theorem main_far (sv kind nm ov : ByteArray) (gen oc o1 o2 og oe p : Int) (ad : Option Addr) (len cap : Nat) (z : Nat → Int) (kn ex oo ou : Bool) (w : World) (h : IsW w ad len cap z) (z1 : sv.size ≤ maxLen) (z3 : kind.size ≤ maxLen) (z4 : nm.size ≤ maxLen) (z5 : ov.size ≤ maxLen) (hf : ¬ (sv.size + len + kind.size + nm.size + ov.size ≤ 1048576 ∧ len ≤ 131072 ∧ sv.size + 8 * len + kind.size + nm.size + ov.size ≤ 1048576 ∧ wellB kn ex gen len z = true)) :
    Calls Try.prog 3 #[.agg #[.bool kn, .string sv, .int .u64 gen, .bool ex, .slice ad len cap], .agg #[.int .i64 oc, .int .i64 o1, .int .i64 o2, .string kind, .string nm, .string ov, .int .u64 og, .int .u64 oe, .bool oo, .bool ou], .int .u64 p] w fun e w' => e = .returned (.bool true) ∧ Below w.heap.size w w' := by
  have HB : Hid (Below w.heap.size w ((w.alloc (.cells #[.bool kn, .string sv, .int .u64 gen, .bool ex, .slice ad len cap] 25)).alloc (.cells #[.int .i64 oc, .int .i64 o1, .int .i64 o2, .string kind, .string nm, .string ov, .int .u64 og, .int .u64 oe, .bool oo, .bool ou] 27))) := ((Below.refl _ _).alloc (Nat.le_refl _) _).alloc (by simp) _
  have HH := hid (h.below HB.out)
  have hlen : len ≤ maxLen := Nat.le_trans h.le h.capM
  have CB := hid (bytes_any sv kind nm ov gen oc o1 o2 og oe p ad len cap kn ex oo ou ((w.alloc (.cells #[.bool kn, .string sv, .int .u64 gen, .bool ex, .slice ad len cap] 25)).alloc (.cells #[.int .i64 oc, .int .i64 o1, .int .i64 o2, .string kind, .string nm, .string ov, .int .u64 og, .int .u64 oe, .bool oo, .bool ou] 27)) z1 hlen z3 z4 z5)
  unfold maxLen at hlen z1 z3 z4 z5
  have HF := hid hf
  clear h hf
  have HS : Hid (((w.alloc (.cells #[.bool kn, .string sv, .int .u64 gen, .bool ex, .slice ad len cap] 25)).alloc (.cells #[.int .i64 oc, .int .i64 o1, .int .i64 o2, .string kind, .string nm, .string ov, .int .u64 og, .int .u64 oe, .bool oo, .bool ou] 27)).heap[w.heap.size]? = some (.cells #[.bool kn, .string sv, .int .u64 gen, .bool ex, .slice ad len cap] 25 (0, 0))) := box_below w _ _
  have HO : Hid (((w.alloc (.cells #[.bool kn, .string sv, .int .u64 gen, .bool ex, .slice ad len cap] 25)).alloc (.cells #[.int .i64 oc, .int .i64 o1, .int .i64 o2, .string kind, .string nm, .string ov, .int .u64 og, .int .u64 oe, .bool oo, .bool ou] 27)).heap[w.heap.size + 1]? = some (.cells #[.int .i64 oc, .int .i64 o1, .int .i64 o2, .string kind, .string nm, .string ov, .int .u64 og, .int .u64 oe, .bool oo, .bool ou] 27 (0, 0))) := box_above w _ _
  go_enter Try.func3, Try.ntmps3
  go_wp2_with fail
  generalize ((w.alloc (.cells #[.bool kn, .string sv, .int .u64 gen, .bool ex, .slice ad len cap] 25)).alloc (.cells #[.int .i64 oc, .int .i64 o1, .int .i64 o2, .string kind, .string nm, .string ov, .int .u64 og, .int .u64 oe, .bool oo, .bool ou] 27)) = w1 at HB HH HS HO CB
  refine CB.out.mono ?_
  rintro e w2 ⟨rfl, hb2⟩
  have HS2 := hid (block_later HS.out hb2)
  have HO2 := hid (block_later HO.out hb2)
  have HB2 : Hid (Below w.heap.size w w2) := HB.out.trans (hb2.mono HB.out.size)
  have HH2 := hid (HH.out.below hb2)
  clear hb2 HS HO HB HH CB
  obtain ⟨k0, k1, k2, k3, k4, _⟩ := five_cells HS2.out
  obtain ⟨x0, x1, x2, x3, x4, x5, x6, x7, x8, x9⟩ := ten_cells HO2.out
  by_cases h1 : sv.size + len + kind.size + nm.size + ov.size ≤ 1048576
  case neg =>
    rw [decide_eq_false h1]
    go_wp2_with fail
    go_ret
    exact ⟨rfl, HB2.out⟩
  rw [decide_eq_true h1]
  have a1 : ¬ (1048576 : Int) < sv.size := by omega
  have a2 : ¬ (1048576 : Int) < kind.size := by omega
  have a3 : ¬ (1048576 : Int) < nm.size := by omega
  have a4 : ¬ (1048576 : Int) < ov.size := by omega
  by_cases h2 : len ≤ 131072
  case neg =>
    have g2 : (131072 : Int) < len := by omega
    go_wp2_with fail
    go_ret
    exact ⟨rfl, HB2.out⟩
  have g2 : ¬ (131072 : Int) < len := by omega
  by_cases h3 : sv.size + 8 * len + kind.size + nm.size + ov.size ≤ 1048576
  case neg =>
    have g3 : (1048576 : Int) < sv.size + 8 * len + kind.size + nm.size + ov.size := by omega
    go_wp2_with fail
    go_ret
    exact ⟨rfl, HB2.out⟩
  have g3 : ¬ (1048576 : Int) < sv.size + 8 * len + kind.size + nm.size + ov.size := by omega
  have hwf : wellB kn ex gen len z = false := by
    cases hw : wellB kn ex gen len z with
    | false => rfl
    | true => exact absurd ⟨h1, h2, h3, hw⟩ HF.out
  have HWF := hid hwf
  clear hwf
  go_wp2_with fail
  refine (well_any kn ex gen ad len cap z w2 HH2.out).mono ?_
  rintro e w3 ⟨rfl, rfl⟩
  rw [HWF.out]
  go_wp2_with fail
  go_ret
  exact ⟨rfl, HB2.out⟩
end Go.Proofs.Qxb6601963a.St
