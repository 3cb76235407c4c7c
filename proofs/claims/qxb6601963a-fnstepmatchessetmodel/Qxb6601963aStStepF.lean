import Derived.Test.Qxb6601963aStStep
set_option linter.unusedVariables false
namespace Go.Proofs.Qxb6601963a.St
open Go.RowKit

set_option maxRecDepth 100000 in
set_option maxHeartbeats 8000000 in
theorem cas_fail3 (sv kind nm ov : ByteArray) (gen oc o1 o2 og oe : Int) (ad : Option Addr) (len cap : Nat) (z : Nat → Int) (w : World) (h : IsW w ad len cap z) (hk : kind.toList = kCas) (hl : len ≤ 131072) (hw : upB z gen len = true) (hg : gen ≤ oe) (hno : hasB z len oe = false) (h0 : 0 ≤ gen) (ht : oe ≤ 18446744073709551615) (hgd : ¬ (oe = gen ∧ gen + len = 18446744073709551615)) :
    Calls Try.prog 23 #[.agg #[.bool true, .string sv, .int .u64 gen, .bool false, .slice ad len cap], .agg #[.int .i64 oc, .int .i64 o1, .int .i64 o2, .string kind, .string nm, .string ov, .int .u64 og, .int .u64 oe, .bool false, .bool false]] w fun e w' => (∃ least ad' len' cap' z', e = .returned (.tuple #[.agg #[.bool true, .string sv, .int .u64 least, .bool false, .slice ad' len' cap'], .bool true]) ∧ IsW w' ad' len' cap' z' ∧ (∀ a, ad' = some a → w.heap.size ≤ a.block) ∧ 0 ≤ least ∧ least ≤ 18446744073709551615 ∧ upB z' least len' = true ∧ ∀ p, admB true false least z' len' p = (p != oe && admB true false gen z len p)) ∧ Below w.heap.size w w' := by
  have HWQ := hid hw
  have HNO := hid hno
  have HGD := hid hgd
  clear hw hno hgd
  have HB : Hid (Below w.heap.size w ((((w.alloc (.cells #[.bool true, .string sv, .int .u64 gen, .bool false, .slice ad len cap] 56)).alloc (.cells #[.int .i64 oc, .int .i64 o1, .int .i64 o2, .string kind, .string nm, .string ov, .int .u64 og, .int .u64 oe, .bool false, .bool false] 48)).alloc (.cells #[.bool false, .string ⟨#[]⟩, .int .u64 0, .bool false, .slice none 0 0] 56)).alloc (.cells #[.bool true, .string ov, .int .u64 og, .bool true, .slice none 0 0] 56))) := ((((Below.refl _ _).alloc (Nat.le_refl _) _).alloc (by simp) _).alloc (by simp; omega) _).alloc (by simp; omega) _
  have HH := hid (h.below HB.out)
  clear h
  obtain ⟨hs0, hs1, hs2, hs3⟩ := four_boxes w (.cells #[.bool true, .string sv, .int .u64 gen, .bool false, .slice ad len cap] 56) (.cells #[.int .i64 oc, .int .i64 o1, .int .i64 o2, .string kind, .string nm, .string ov, .int .u64 og, .int .u64 oe, .bool false, .bool false] 48) (.cells #[.bool false, .string ⟨#[]⟩, .int .u64 0, .bool false, .slice none 0 0] 56) (.cells #[.bool true, .string ov, .int .u64 og, .bool true, .slice none 0 0] 56)
  have HS := hid hs0
  have HO := hid hs1
  have HR := hid hs2
  have HT := hid hs3
  clear hs0 hs1 hs2 hs3
  go_enter Try.func23, Try.ntmps23
  go_upto_region 2 with fail
  generalize ((((w.alloc (.cells #[.bool true, .string sv, .int .u64 gen, .bool false, .slice ad len cap] 56)).alloc (.cells #[.int .i64 oc, .int .i64 o1, .int .i64 o2, .string kind, .string nm, .string ov, .int .u64 og, .int .u64 oe, .bool false, .bool false] 48)).alloc (.cells #[.bool false, .string ⟨#[]⟩, .int .u64 0, .bool false, .slice none 0 0] 56)).alloc (.cells #[.bool true, .string ov, .int .u64 og, .bool true, .slice none 0 0] 56)) = w1 at HB HH HS HO HR HT
  have hq1 : w.heap.size ≠ w.heap.size + 1 + 1 := by omega
  have hq2 : w.heap.size + 1 + 1 ≠ w.heap.size := by omega
  obtain ⟨k0, k1, k2, k3, k4, _⟩ := five_cells HS.out
  obtain ⟨o0, o1', o2', o3, o4, o5, o6, o7, o8, o9⟩ := ten_cells HO.out
  obtain ⟨r0, r1, r2, r3, r4, f0, f1, f2, f3, f4⟩ := five_cells HR.out
  obtain ⟨t0, t1, t2, t3, t4, _⟩ := five_cells HT.out
  go_wp2_with fail
  refine (without_new sv gen oe ad len cap z w1 HH.out hl HWQ.out hg HNO.out h0 ht HGD.out).mono ?_
  rintro e w5 ⟨⟨least, ad', len', cap', z', rfl, hiw, hfr, l0, l1, hu, ha⟩, hb5⟩
  have HIW := hid hiw
  have HFR := hid hfr
  have hsz1 : w.heap.size + 1 + 1 + 1 < w1.heap.size := World.block_lt_of_cell? w1 ⟨w.heap.size + 1 + 1 + 1, 0, none⟩ t0
  have HU := hid hu
  have HADM := hid ha
  clear hiw hu ha hfr
  have HS5 := hid (block_later HS.out hb5)
  have HO5 := hid (block_later HO.out hb5)
  have HR5 := hid (block_later HR.out hb5)
  have HT5 := hid (block_later HT.out hb5)
  obtain ⟨a05, a15, a25, a35, a45, _⟩ := five_cells HS5.out
  obtain ⟨b05, b15, b25, b35, b45, b55, b65, b75, b85, b95⟩ := ten_cells HO5.out
  obtain ⟨c05, c15, c25, c35, c45, _⟩ := five_cells HT5.out
  obtain ⟨d05, d15, d25, d35, d45, g05, g15, g25, g35, g45⟩ := five_cells HR5.out
  have HB5 := hid (HB.out.trans (hb5.mono HB.out.size))
  have HH5 := hid (HH.out.below hb5)
  clear hb5
  go_wp2_with fail
  refine bodyPost_ret (v := .tuple #[.agg #[.bool true, .string sv, .int .u64 least, .bool false, .slice ad' len' cap'], .bool true]) (by simp [results, Try.results23, go_sem, d05, d15, d25, d35, d45]) rfl ⟨⟨least, ad', len', cap', z', rfl, ?_, ?_, l0, l1, HU.out, HADM.out⟩, (((((HB5.out.setCell (by simp; omega) _).setCell (by simp; omega) _).setCell (by simp; omega) _).setCell (by simp; omega) _).setCell (by simp; omega) _)⟩
  · have hne : ∀ a, ad' = some a → a.block ≠ w.heap.size + 1 + 1 := fun a ha => by have := HFR.out a ha; omega
    exact ((((HIW.out.set _ _ _ hne).set _ _ _ hne).set _ _ _ hne).set _ _ _ hne).set _ _ _ hne
  · intro a ha
    have := HFR.out a ha
    have := HB.out.size
    omega

end Go.Proofs.Qxb6601963a.St
