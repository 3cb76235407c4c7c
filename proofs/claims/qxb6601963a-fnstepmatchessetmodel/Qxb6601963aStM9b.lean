import Derived.Test.Qxb6601963aStM1
import Derived.Test.Qxb6601963aStStepD
set_option linter.unusedVariables false
namespace Go.Proofs.Qxb6601963a.St
open Go.RowKit

set_option maxRecDepth 100000 in
set_option maxHeartbeats 16000000 in
theorem m_cf1 (sv kind nm ov : ByteArray) (gen oc o1 o2 og oe p : Int) (ad : Option Addr) (len cap : Nat) (z : Nat → Int) (w : World) (h : IsW w ad len cap z) (z1 : sv.size ≤ maxLen) (z3 : kind.size ≤ maxLen) (z4 : nm.size ≤ maxLen) (z5 : ov.size ≤ maxLen)
    (h1 : sv.size + len + kind.size + nm.size + ov.size ≤ 1048576) (h2 : len ≤ 131072) (h3 : sv.size + 8 * len + kind.size + nm.size + ov.size ≤ 1048576) (hw : wellB true true gen len z = true) (hk : kind.toList = kCas) (hge : gen = oe) :
    Calls Try.prog 3 #[.agg #[.bool true, .string sv, .int .u64 gen, .bool true, .slice ad len cap], .agg #[.int .i64 oc, .int .i64 o1, .int .i64 o2, .string kind, .string nm, .string ov, .int .u64 og, .int .u64 oe, .bool false, .bool false], .int .u64 p] w fun e w' => e = .returned (.bool true) ∧ Below w.heap.size w w' := by
  have hb1 : (gen == oe) = true := by simpa using hge
  have hb2 : (gen != oe) = false := by simpa using hge
  clear hge
  have HB : Hid (Below w.heap.size w ((w.alloc (.cells #[.bool true, .string sv, .int .u64 gen, .bool true, .slice ad len cap] 25)).alloc (.cells #[.int .i64 oc, .int .i64 o1, .int .i64 o2, .string kind, .string nm, .string ov, .int .u64 og, .int .u64 oe, .bool false, .bool false] 27))) := ((Below.refl _ _).alloc (Nat.le_refl _) _).alloc (by simp) _
  have HH := hid (h.below HB.out)
  have hlen : len ≤ maxLen := Nat.le_trans h.le h.capM
  have CB := hid (bytes_any sv kind nm ov gen oc o1 o2 og oe p ad len cap true true false false ((w.alloc (.cells #[.bool true, .string sv, .int .u64 gen, .bool true, .slice ad len cap] 25)).alloc (.cells #[.int .i64 oc, .int .i64 o1, .int .i64 o2, .string kind, .string nm, .string ov, .int .u64 og, .int .u64 oe, .bool false, .bool false] 27)) z1 hlen z3 z4 z5)
  unfold maxLen at hlen z1 z3 z4 z5
  have HW := hid hw
  clear h hw
  have HS : Hid (((w.alloc (.cells #[.bool true, .string sv, .int .u64 gen, .bool true, .slice ad len cap] 25)).alloc (.cells #[.int .i64 oc, .int .i64 o1, .int .i64 o2, .string kind, .string nm, .string ov, .int .u64 og, .int .u64 oe, .bool false, .bool false] 27)).heap[w.heap.size]? = some (.cells #[.bool true, .string sv, .int .u64 gen, .bool true, .slice ad len cap] 25 (0, 0))) := box_below w _ _
  have HO : Hid (((w.alloc (.cells #[.bool true, .string sv, .int .u64 gen, .bool true, .slice ad len cap] 25)).alloc (.cells #[.int .i64 oc, .int .i64 o1, .int .i64 o2, .string kind, .string nm, .string ov, .int .u64 og, .int .u64 oe, .bool false, .bool false] 27)).heap[w.heap.size + 1]? = some (.cells #[.int .i64 oc, .int .i64 o1, .int .i64 o2, .string kind, .string nm, .string ov, .int .u64 og, .int .u64 oe, .bool false, .bool false] 27 (0, 0))) := box_above w _ _
  have a1 : ¬ (1048576 : Int) < sv.size := by omega
  have a2 : ¬ (1048576 : Int) < kind.size := by omega
  have a3 : ¬ (1048576 : Int) < nm.size := by omega
  have a4 : ¬ (1048576 : Int) < ov.size := by omega
  have g2 : ¬ (131072 : Int) < len := by omega
  have g3 : ¬ (1048576 : Int) < sv.size + 8 * len + kind.size + nm.size + ov.size := by omega
  go_enter Try.func3, Try.ntmps3
  go_wp2_with fail
  generalize ((w.alloc (.cells #[.bool true, .string sv, .int .u64 gen, .bool true, .slice ad len cap] 25)).alloc (.cells #[.int .i64 oc, .int .i64 o1, .int .i64 o2, .string kind, .string nm, .string ov, .int .u64 og, .int .u64 oe, .bool false, .bool false] 27)) = w1 at HB HH HS HO CB
  refine CB.out.mono ?_
  rintro e w2 ⟨rfl, hb2⟩
  rw [decide_eq_true h1]
  have HS2 := hid (block_later HS.out hb2)
  have HO2 := hid (block_later HO.out hb2)
  have HB2 : Hid (Below w.heap.size w w2) := HB.out.trans (hb2.mono HB.out.size)
  have HH2 := hid (HH.out.below hb2)
  clear hb2 HS HO HB HH CB
  obtain ⟨k0, k1, k2, k3, k4, _⟩ := five_cells HS2.out
  obtain ⟨x0, x1, x2, x3, x4, x5, x6, x7, x8, x9⟩ := ten_cells HO2.out
  go_wp2_with fail
  refine (well_any true true gen ad len cap z w2 HH2.out).mono ?_
  rintro e w3 ⟨rfl, rfl⟩
  rw [HW.out]
  go_upto_region 16 with fail
  have hbA : Below w3.heap.size w3 (w3.alloc (.cells #[.bool true, .string sv, .int .u64 gen, .bool true, .slice ad len cap] 25)) := (Below.refl _ _).alloc (Nat.le_refl _) _
  have HC3 := hid (heap_alloc_new w3 (.cells #[.bool true, .string sv, .int .u64 gen, .bool true, .slice ad len cap] 25))
  have HS3 := hid (block_later HS2.out hbA)
  have HO3 := hid (block_later HO2.out hbA)
  have HB3 : Hid (Below w.heap.size w (w3.alloc (.cells #[.bool true, .string sv, .int .u64 gen, .bool true, .slice ad len cap] 25))) := HB2.out.trans (hbA.mono HB2.out.size)
  have HH3 := hid (HH2.out.below hbA)
  have hsA : (w3.alloc (.cells #[.bool true, .string sv, .int .u64 gen, .bool true, .slice ad len cap] 25)).heap.size = w3.heap.size + 1 := by simp
  have hso : w.heap.size + 1 < w3.heap.size := by
    rcases Nat.lt_or_ge (w.heap.size + 1) w3.heap.size with h' | h'
    · exact h'
    · have := HO2.out; simp [Array.getElem?_eq_none h'] at this
  have HSA := hid hsA
  clear hbA HS2 HO2 HB2 HH2 hsA k0 k1 k2 k3 k4 x0 x1 x2 x3 x4 x5 x6 x7 x8 x9
  obtain ⟨c, hcq⟩ : ∃ c, c = w3.heap.size := ⟨_, rfl⟩
  rw [← hcq] at HC3 HSA hso ⊢
  have HCQ := hid hcq
  clear hcq
  generalize w3.alloc (.cells #[.bool true, .string sv, .int .u64 gen, .bool true, .slice ad len cap] 25) = w4 at HC3 HS3 HO3 HB3 HH3 HSA
  have hwc : w.heap.size ≤ c := by omega
  obtain ⟨k0, k1, k2, k3, k4, _⟩ := five_cells HS3.out
  go_wp2_with fail
  clear k0 k1 k2 k3 k4
  refine (copy_any ad len cap z w4 HH3.out (by omega)).mono ?_
  rintro e w5 ⟨⟨ad2, cap2, rfl, hnil, hfr, hw5⟩, hb5⟩
  have hC5 := block_later HC3.out hb5
  have hS5 := block_later HS3.out hb5
  have hO5 := block_later HO3.out hb5
  have hcc := heap_setCell_same _ c 4 _ 25 (.slice ad2 len cap2) hC5
  have HC6 : Hid ((w5.setCell ⟨c, 4, none⟩ (.slice ad2 len cap2)).heap[c]? = some (.cells #[.bool true, .string sv, .int .u64 gen, .bool true, .slice ad2 len cap2] 25 (0, 0))) := hcc
  have HS6 : Hid ((w5.setCell ⟨c, 4, none⟩ (.slice ad2 len cap2)).heap[w.heap.size]? = some (.cells #[.bool true, .string sv, .int .u64 gen, .bool true, .slice ad len cap] 25 (0, 0))) := (Below.heap_setCell _ _ _ _ (by simp; omega)).trans hS5
  have HO6 : Hid ((w5.setCell ⟨c, 4, none⟩ (.slice ad2 len cap2)).heap[w.heap.size + 1]? = some (.cells #[.int .i64 oc, .int .i64 o1, .int .i64 o2, .string kind, .string nm, .string ov, .int .u64 og, .int .u64 oe, .bool false, .bool false] 27 (0, 0))) := (Below.heap_setCell _ _ _ _ (by simp; omega)).trans hO5
  have HB6 : Hid (Below w.heap.size w (w5.setCell ⟨c, 4, none⟩ (.slice ad2 len cap2))) := (HB3.out.trans (hb5.mono HB3.out.size)).setCell (by exact hwc) _
  have HI6 : Hid (IsW (w5.setCell ⟨c, 4, none⟩ (.slice ad2 len cap2)) ad2 len cap2 z) := hw5.set c 4 _ (fun a ha => by have h5 := hfr a ha; have h6 := HSA.out; omega)
  obtain ⟨y0, y1, y2, y3, y4, yf0, yf1, yf2, yf3, yf4⟩ := five_cells hC5
  clear hcc hS5 hO5 hb5 hw5 hfr hC5
  go_upto_region 17 with fail
  generalize w5.setCell ⟨c, 4, none⟩ (.slice ad2 len cap2) = w6 at HC6 HS6 HO6 HB6 HI6
  clear y0 y1 y2 y3 y4 yf0 yf1 yf2 yf3 yf4 HC3 HS3 HO3 HB3 HH3
  obtain ⟨k0, k1, k2, k3, k4, _⟩ := five_cells HS6.out
  obtain ⟨x0, x1, x2, x3, x4, x5, x6, x7, x8, x9⟩ := ten_cells HO6.out
  obtain ⟨y0, y1, y2, y3, y4, _⟩ := five_cells HC6.out
  go_wp2_with fail
  have hnl := fun w => Lib.run_eql_slice_nil (P := Try.prog) w 23 22 ad2 len cap2 0 0 Try.underlying23
  have hstep := zz11 (fun kn' v' g' ex' ad' len' cap' ok => true = kn' ∧ sv = v' ∧ gen = g' ∧ true = ex' ∧ ad2 = ad' ∧ len = len' ∧ cap2 = cap' ∧ (gen != oe) = ok) (fun _ _ _ _ _ _ _ => False) sv kind nm ov gen oc o1 o2 og oe ad2 len cap2 z true true false false w6 HI6.out (fun w1 h1 => (cas_fail1 sv kind nm ov gen oc o1 o2 og oe ad2 len cap2 z w1 h1 hk).mono (by rintro e w' ⟨rfl, hb⟩; exact ⟨⟨_, _, _, _, _, _, _, _, rfl, Or.inl ⟨rfl, rfl, rfl, rfl, rfl, rfl, rfl, rfl⟩⟩, hb⟩))
  refine hstep.mono ?_
  clear hstep
  rintro e w7 ⟨⟨kn', v', g', ex', ad', len', cap', ok, rfl, hq⟩, hb7⟩
  obtain ⟨rfl, rfl, rfl, rfl, rfl, rfl, rfl, rfl⟩ := hq.resolve_right (by rintro ⟨_, _, _, hf⟩; exact hf)
  clear hq
  have HC7 := hid (block_later HC6.out hb7)
  have HS7 := hid (block_later HS6.out hb7)
  have HO7 := hid (block_later HO6.out hb7)
  have HB7 : Hid (Below w.heap.size w w7) := HB6.out.trans (hb7.mono HB6.out.size)
  have HI7 := hid (HI6.out.below hb7)
  clear hb7 HC6 HS6 HO6 HB6 HI6 k0 k1 k2 k3 k4 x0 x1 x2 x3 x4 x5 x6 x7 x8 x9 y0 y1 y2 y3 y4
  go_upto_region 61 with fail
  have hbD : Below w7.heap.size w7 (w7.alloc (.cells #[.bool true, .string sv, .int .u64 gen, .bool true, .slice ad2 len cap2] 25)) := (Below.refl _ _).alloc (Nat.le_refl _) _
  have HD8 := hid (heap_alloc_new w7 (.cells #[.bool true, .string sv, .int .u64 gen, .bool true, .slice ad2 len cap2] 25))
  have HC8 := hid (block_later HC7.out hbD)
  have HS8 := hid (block_later HS7.out hbD)
  have HO8 := hid (block_later HO7.out hbD)
  have HB8 : Hid (Below w.heap.size w (w7.alloc (.cells #[.bool true, .string sv, .int .u64 gen, .bool true, .slice ad2 len cap2] 25))) := HB7.out.trans (hbD.mono HB7.out.size)
  have HI8 := hid (HI7.out.below hbD)
  clear hbD HC7 HS7 HO7 HB7 HI7
  generalize w7.alloc (.cells #[.bool true, .string sv, .int .u64 gen, .bool true, .slice ad2 len cap2] 25) = w8 at HD8 HC8 HS8 HO8 HB8 HI8
  obtain ⟨x0, x1, x2, x3, x4, x5, x6, x7, x8, x9⟩ := ten_cells HO8.out
  obtain ⟨y0, y1, y2, y3, y4, _⟩ := five_cells HC8.out
  obtain ⟨d0, d1, d2, d3, d4, _⟩ := five_cells HD8.out
  go_wp2_with fail
  refine (sameS_any true true sv gen ad2 len cap2 z w8 HI8.out).mono ?_
  rintro e w9 ⟨rfl, hb9⟩
  have HD9 := hid (block_later HD8.out hb9)
  have HC9 := hid (block_later HC8.out hb9)
  have HB9 : Hid (Below w.heap.size w w9) := HB8.out.trans (hb9.mono HB8.out.size)
  clear hb9 x0 x1 x2 x3 x4 x5 x6 x7 x8 x9 y0 y1 y2 y3 y4 d0 d1 d2 d3 d4
  obtain ⟨y0, y1, y2, y3, y4, _⟩ := five_cells HC9.out
  obtain ⟨d0, d1, d2, d3, d4, _⟩ := five_cells HD9.out
  go_wp2_with fail
  go_ret
  exact ⟨by first | rfl | simp, HB9.out⟩

end Go.Proofs.Qxb6601963a.St
