import Derived.Test.Qxb6601963aStStep
set_option linter.unusedVariables false
namespace Go.Proofs.Qxb6601963a.St
open Go.RowKit

set_option maxRecDepth 100000 in
set_option maxHeartbeats 8000000 in
theorem write_unk0 (sv kind nm ov : ByteArray) (gen oc o1 o2 og oe : Int) (ad : Option Addr) (len cap : Nat) (z : Nat → Int) (ex oo : Bool) (w : World) (h : IsW w ad len cap z) (hk : kind.toList = kWrite)  :
    Calls Try.prog 23 #[.agg #[.bool false, .string sv, .int .u64 gen, .bool ex, .slice ad len cap], .agg #[.int .i64 oc, .int .i64 o1, .int .i64 o2, .string kind, .string nm, .string ov, .int .u64 og, .int .u64 oe, .bool oo, .bool true]] w fun e w' => e = .returned (.tuple #[.agg #[.bool true, .string ov, .int .u64 0, .bool false, .slice none 0 0], .bool true]) ∧ Below w.heap.size w w' := by
  have HB : Hid (Below w.heap.size w ((((w.alloc (.cells #[.bool false, .string sv, .int .u64 gen, .bool ex, .slice ad len cap] 56)).alloc (.cells #[.int .i64 oc, .int .i64 o1, .int .i64 o2, .string kind, .string nm, .string ov, .int .u64 og, .int .u64 oe, .bool oo, .bool true] 48)).alloc (.cells #[.bool false, .string ⟨#[]⟩, .int .u64 0, .bool false, .slice none 0 0] 56)).alloc (.cells #[.bool true, .string ov, .int .u64 og, .bool true, .slice none 0 0] 56))) := ((((Below.refl _ _).alloc (Nat.le_refl _) _).alloc (by simp) _).alloc (by simp; omega) _).alloc (by simp; omega) _
  have HH := hid (h.below HB.out)
  clear h
  obtain ⟨hs0, hs1, hs2, hs3⟩ := four_boxes w (.cells #[.bool false, .string sv, .int .u64 gen, .bool ex, .slice ad len cap] 56) (.cells #[.int .i64 oc, .int .i64 o1, .int .i64 o2, .string kind, .string nm, .string ov, .int .u64 og, .int .u64 oe, .bool oo, .bool true] 48) (.cells #[.bool false, .string ⟨#[]⟩, .int .u64 0, .bool false, .slice none 0 0] 56) (.cells #[.bool true, .string ov, .int .u64 og, .bool true, .slice none 0 0] 56)
  have HS := hid hs0
  have HO := hid hs1
  have HR := hid hs2
  have HT := hid hs3
  clear hs0 hs1 hs2 hs3
  go_enter Try.func23, Try.ntmps23
  go_upto_region 2 with fail
  generalize ((((w.alloc (.cells #[.bool false, .string sv, .int .u64 gen, .bool ex, .slice ad len cap] 56)).alloc (.cells #[.int .i64 oc, .int .i64 o1, .int .i64 o2, .string kind, .string nm, .string ov, .int .u64 og, .int .u64 oe, .bool oo, .bool true] 48)).alloc (.cells #[.bool false, .string ⟨#[]⟩, .int .u64 0, .bool false, .slice none 0 0] 56)).alloc (.cells #[.bool true, .string ov, .int .u64 og, .bool true, .slice none 0 0] 56)) = w1 at HB HH HS HO HR HT
  have hq1 : w.heap.size ≠ w.heap.size + 1 + 1 := by omega
  have hq2 : w.heap.size + 1 + 1 ≠ w.heap.size := by omega
  obtain ⟨k0, k1, k2, k3, k4, _⟩ := five_cells HS.out
  obtain ⟨o0, o1', o2', o3, o4, o5, o6, o7, o8, o9⟩ := ten_cells HO.out
  obtain ⟨r0, r1, r2, r3, r4, f0, f1, f2, f3, f4⟩ := five_cells HR.out
  obtain ⟨t0, t1, t2, t3, t4, _⟩ := five_cells HT.out
  go_wp2_with fail
  refine (bounded_any ov _ w1).mono ?_
  rintro e w5 ⟨rfl, hb5⟩
  have HS5 := hid (block_later HS.out hb5)
  have HO5 := hid (block_later HO.out hb5)
  have HR5 := hid (block_later HR.out hb5)
  have HT5 := hid (block_later HT.out hb5)
  obtain ⟨a05, a15, a25, a35, a45, _⟩ := five_cells HS5.out
  obtain ⟨b05, b15, b25, b35, b45, b55, b65, b75, b85, b95⟩ := ten_cells HO5.out
  obtain ⟨c05, c15, c25, c35, c45, _⟩ := five_cells HT5.out
  obtain ⟨d05, d15, d25, d35, d45, g05, g15, g25, g35, g45⟩ := five_cells HR5.out
  have HB5 := hid (HB.out.trans (hb5.mono HB.out.size))
  have HH5 := hid (HH.out.below hb5)
  clear hb5
  go_wp2_with fail
  exact bodyPost_ret (v := .tuple #[.agg #[.bool true, .string ov, .int .u64 0, .bool false, .slice none 0 0], .bool true]) (by simp [results, Try.results23, go_sem, d05, d15, d25, d35, d45]) rfl ⟨rfl, (((((HB5.out.setCell (by simp; omega) _).setCell (by simp; omega) _).setCell (by simp; omega) _).setCell (by simp; omega) _).setCell (by simp; omega) _)⟩

set_option maxRecDepth 100000 in
set_option maxHeartbeats 8000000 in
theorem write_unk1 (sv kind nm ov : ByteArray) (gen oc o1 o2 og oe : Int) (ad : Option Addr) (len cap : Nat) (z : Nat → Int) (ex oo : Bool) (w : World) (h : IsW w ad len cap z) (hk : kind.toList = kWrite) (h0 : 0 ≤ gen) (ht : gen < 18446744073709551615) :
    Calls Try.prog 23 #[.agg #[.bool true, .string sv, .int .u64 gen, .bool ex, .slice ad len cap], .agg #[.int .i64 oc, .int .i64 o1, .int .i64 o2, .string kind, .string nm, .string ov, .int .u64 og, .int .u64 oe, .bool oo, .bool true]] w fun e w' => e = .returned (.tuple #[.agg #[.bool true, .string ov, .int .u64 (gen + 1), .bool false, .slice none 0 0], .bool true]) ∧ Below w.heap.size w w' := by
  have HB : Hid (Below w.heap.size w ((((w.alloc (.cells #[.bool true, .string sv, .int .u64 gen, .bool ex, .slice ad len cap] 56)).alloc (.cells #[.int .i64 oc, .int .i64 o1, .int .i64 o2, .string kind, .string nm, .string ov, .int .u64 og, .int .u64 oe, .bool oo, .bool true] 48)).alloc (.cells #[.bool false, .string ⟨#[]⟩, .int .u64 0, .bool false, .slice none 0 0] 56)).alloc (.cells #[.bool true, .string ov, .int .u64 og, .bool true, .slice none 0 0] 56))) := ((((Below.refl _ _).alloc (Nat.le_refl _) _).alloc (by simp) _).alloc (by simp; omega) _).alloc (by simp; omega) _
  have HH := hid (h.below HB.out)
  clear h
  obtain ⟨hs0, hs1, hs2, hs3⟩ := four_boxes w (.cells #[.bool true, .string sv, .int .u64 gen, .bool ex, .slice ad len cap] 56) (.cells #[.int .i64 oc, .int .i64 o1, .int .i64 o2, .string kind, .string nm, .string ov, .int .u64 og, .int .u64 oe, .bool oo, .bool true] 48) (.cells #[.bool false, .string ⟨#[]⟩, .int .u64 0, .bool false, .slice none 0 0] 56) (.cells #[.bool true, .string ov, .int .u64 og, .bool true, .slice none 0 0] 56)
  have HS := hid hs0
  have HO := hid hs1
  have HR := hid hs2
  have HT := hid hs3
  clear hs0 hs1 hs2 hs3
  go_enter Try.func23, Try.ntmps23
  go_upto_region 2 with fail
  generalize ((((w.alloc (.cells #[.bool true, .string sv, .int .u64 gen, .bool ex, .slice ad len cap] 56)).alloc (.cells #[.int .i64 oc, .int .i64 o1, .int .i64 o2, .string kind, .string nm, .string ov, .int .u64 og, .int .u64 oe, .bool oo, .bool true] 48)).alloc (.cells #[.bool false, .string ⟨#[]⟩, .int .u64 0, .bool false, .slice none 0 0] 56)).alloc (.cells #[.bool true, .string ov, .int .u64 og, .bool true, .slice none 0 0] 56)) = w1 at HB HH HS HO HR HT
  have hq1 : w.heap.size ≠ w.heap.size + 1 + 1 := by omega
  have hq2 : w.heap.size + 1 + 1 ≠ w.heap.size := by omega
  obtain ⟨k0, k1, k2, k3, k4, _⟩ := five_cells HS.out
  obtain ⟨o0, o1', o2', o3, o4, o5, o6, o7, o8, o9⟩ := ten_cells HO.out
  obtain ⟨r0, r1, r2, r3, r4, f0, f1, f2, f3, f4⟩ := five_cells HR.out
  obtain ⟨t0, t1, t2, t3, t4, _⟩ := five_cells HT.out
  go_wp2_with fail
  refine (bounded_any ov _ w1).mono ?_
  rintro e w5 ⟨rfl, hb5⟩
  have HS5 := hid (block_later HS.out hb5)
  have HO5 := hid (block_later HO.out hb5)
  have HR5 := hid (block_later HR.out hb5)
  have HT5 := hid (block_later HT.out hb5)
  obtain ⟨a05, a15, a25, a35, a45, _⟩ := five_cells HS5.out
  obtain ⟨b05, b15, b25, b35, b45, b55, b65, b75, b85, b95⟩ := ten_cells HO5.out
  obtain ⟨c05, c15, c25, c35, c45, _⟩ := five_cells HT5.out
  obtain ⟨d05, d15, d25, d35, d45, g05, g15, g25, g35, g45⟩ := five_cells HR5.out
  have HB5 := hid (HB.out.trans (hb5.mono HB.out.size))
  have HH5 := hid (HH.out.below hb5)
  clear hb5
  go_wp2_with fail
  exact bodyPost_ret (v := .tuple #[.agg #[.bool true, .string ov, .int .u64 (gen + 1), .bool false, .slice none 0 0], .bool true]) (by simp [results, Try.results23, go_sem, d05, d15, d25, d35, d45]) rfl ⟨rfl, (((((HB5.out.setCell (by simp; omega) _).setCell (by simp; omega) _).setCell (by simp; omega) _).setCell (by simp; omega) _).setCell (by simp; omega) _)⟩

set_option maxRecDepth 100000 in
set_option maxHeartbeats 8000000 in
theorem write_ok (sv kind nm ov : ByteArray) (gen oc o1 o2 og oe : Int) (ad : Option Addr) (len cap : Nat) (z : Nat → Int) (kn ex oo : Bool) (w : World) (h : IsW w ad len cap z) (hk : kind.toList = kWrite) :
    Calls Try.prog 23 #[.agg #[.bool kn, .string sv, .int .u64 gen, .bool ex, .slice ad len cap], .agg #[.int .i64 oc, .int .i64 o1, .int .i64 o2, .string kind, .string nm, .string ov, .int .u64 og, .int .u64 oe, .bool oo, .bool false]] w fun e w' => e = .returned (.tuple #[.agg #[.bool true, .string ov, .int .u64 og, .bool true, .slice none 0 0], .bool (!kn || decide (gen < og))]) ∧ Below w.heap.size w w' := by
  have HB : Hid (Below w.heap.size w ((((w.alloc (.cells #[.bool kn, .string sv, .int .u64 gen, .bool ex, .slice ad len cap] 56)).alloc (.cells #[.int .i64 oc, .int .i64 o1, .int .i64 o2, .string kind, .string nm, .string ov, .int .u64 og, .int .u64 oe, .bool oo, .bool false] 48)).alloc (.cells #[.bool false, .string ⟨#[]⟩, .int .u64 0, .bool false, .slice none 0 0] 56)).alloc (.cells #[.bool true, .string ov, .int .u64 og, .bool true, .slice none 0 0] 56))) := ((((Below.refl _ _).alloc (Nat.le_refl _) _).alloc (by simp) _).alloc (by simp; omega) _).alloc (by simp; omega) _
  have HH := hid (h.below HB.out)
  clear h
  obtain ⟨hs0, hs1, hs2, hs3⟩ := four_boxes w (.cells #[.bool kn, .string sv, .int .u64 gen, .bool ex, .slice ad len cap] 56) (.cells #[.int .i64 oc, .int .i64 o1, .int .i64 o2, .string kind, .string nm, .string ov, .int .u64 og, .int .u64 oe, .bool oo, .bool false] 48) (.cells #[.bool false, .string ⟨#[]⟩, .int .u64 0, .bool false, .slice none 0 0] 56) (.cells #[.bool true, .string ov, .int .u64 og, .bool true, .slice none 0 0] 56)
  have HS := hid hs0
  have HO := hid hs1
  have HR := hid hs2
  have HT := hid hs3
  clear hs0 hs1 hs2 hs3
  go_enter Try.func23, Try.ntmps23
  go_upto_region 2 with fail
  generalize ((((w.alloc (.cells #[.bool kn, .string sv, .int .u64 gen, .bool ex, .slice ad len cap] 56)).alloc (.cells #[.int .i64 oc, .int .i64 o1, .int .i64 o2, .string kind, .string nm, .string ov, .int .u64 og, .int .u64 oe, .bool oo, .bool false] 48)).alloc (.cells #[.bool false, .string ⟨#[]⟩, .int .u64 0, .bool false, .slice none 0 0] 56)).alloc (.cells #[.bool true, .string ov, .int .u64 og, .bool true, .slice none 0 0] 56)) = w1 at HB HH HS HO HR HT
  have hq1 : w.heap.size ≠ w.heap.size + 1 + 1 := by omega
  have hq2 : w.heap.size + 1 + 1 ≠ w.heap.size := by omega
  obtain ⟨k0, k1, k2, k3, k4, _⟩ := five_cells HS.out
  obtain ⟨o0, o1', o2', o3, o4, o5, o6, o7, o8, o9⟩ := ten_cells HO.out
  obtain ⟨r0, r1, r2, r3, r4, f0, f1, f2, f3, f4⟩ := five_cells HR.out
  obtain ⟨t0, t1, t2, t3, t4, _⟩ := five_cells HT.out
  go_wp2_with fail
  go_region_held3 (fun w' => w'.cell? ⟨w.heap.size, 0, none⟩ = some (.bool kn) ∧ w'.cell? ⟨w.heap.size, 1, none⟩ = some (.string sv) ∧ w'.cell? ⟨w.heap.size, 2, none⟩ = some (.int .u64 gen) ∧ w'.cell? ⟨w.heap.size, 3, none⟩ = some (.bool ex) ∧ w'.cell? ⟨w.heap.size, 4, none⟩ = some (.slice ad len cap) ∧ w'.cell? ⟨w.heap.size + 1, 5, none⟩ = some (.string ov) ∧ w'.cell? ⟨w.heap.size + 1, 6, none⟩ = some (.int .u64 og) ∧ w'.cell? ⟨w.heap.size + 1, 7, none⟩ = some (.int .u64 oe) ∧ w'.cell? ⟨w.heap.size + 1 + 1 + 1, 0, none⟩ = some (.bool true) ∧ w'.cell? ⟨w.heap.size + 1 + 1 + 1, 1, none⟩ = some (.string ov) ∧ w'.cell? ⟨w.heap.size + 1 + 1 + 1, 2, none⟩ = some (.int .u64 og) ∧ w'.cell? ⟨w.heap.size + 1 + 1 + 1, 3, none⟩ = some (.bool true) ∧ w'.cell? ⟨w.heap.size + 1 + 1 + 1, 4, none⟩ = some (.slice none 0 0)) (go_keep) ((first | (go_at_call 26; refine (below_any kn ex sv gen og _ w1.drew ⟨_, _, _, rfl⟩).mono ?_; rintro e w5 ⟨rfl, hb5⟩; have HS5 := hid (block_laterd HS.out hb5); have HO5 := hid (block_laterd HO.out hb5); have HR5 := hid (block_laterd HR.out hb5); have HT5 := hid (block_laterd HT.out hb5); obtain ⟨a05, a15, a25, a35, a45, _⟩ := five_cells HS5.out; obtain ⟨b05, b15, b25, b35, b45, b55, b65, b75, b85, b95⟩ := ten_cells HO5.out; obtain ⟨c05, c15, c25, c35, c45, _⟩ := five_cells HT5.out; obtain ⟨d05, d15, d25, d35, d45, g05, g15, g25, g35, g45⟩ := five_cells HR5.out; have HB5 := hid ((HB.out.drew).trans (hb5.mono (HB.out.drew).size)); have HH5 := hid ((HH.out.below ((Below.refl _ _).drew)).below hb5); clear hb5)))
  all_goals go_wp2_with fail
  exact bodyPost_ret (v := .tuple #[.agg #[.bool true, .string ov, .int .u64 og, .bool true, .slice none 0 0], .bool (!kn || decide (gen < og))]) (by simp [results, Try.results23, go_sem, d05, d15, d25, d35, d45]) rfl ⟨rfl, (((((HB5.out.setCell (by simp; omega) _).setCell (by simp; omega) _).setCell (by simp; omega) _).setCell (by simp; omega) _).setCell (by simp; omega) _)⟩

set_option maxRecDepth 100000 in
set_option maxHeartbeats 8000000 in
theorem other_kind (sv kind nm ov : ByteArray) (gen oc o1 o2 og oe : Int) (ad : Option Addr) (len cap : Nat) (z : Nat → Int) (kn ex oo ou : Bool) (w : World) (h : IsW w ad len cap z) (h1 : ¬ kind.toList = kRead) (h2 : ¬ kind.toList = kWrite) (h3 : ¬ kind.toList = kCas) :
    Calls Try.prog 23 #[.agg #[.bool kn, .string sv, .int .u64 gen, .bool ex, .slice ad len cap], .agg #[.int .i64 oc, .int .i64 o1, .int .i64 o2, .string kind, .string nm, .string ov, .int .u64 og, .int .u64 oe, .bool oo, .bool ou]] w fun e w' => e = .returned (.tuple #[.agg #[.bool kn, .string sv, .int .u64 gen, .bool ex, .slice ad len cap], .bool false]) ∧ Below w.heap.size w w' := by
  have e1 : (kind.toList == [114, 101, 97, 100]) = false := by rw [beq_eq_false_iff_ne]; exact h1
  have e2 : (kind.toList == [119, 114, 105, 116, 101]) = false := by rw [beq_eq_false_iff_ne]; exact h2
  have e3 : (kind.toList == [99, 97, 115]) = false := by rw [beq_eq_false_iff_ne]; exact h3
  clear h1 h2 h3
  have HB : Hid (Below w.heap.size w ((((w.alloc (.cells #[.bool kn, .string sv, .int .u64 gen, .bool ex, .slice ad len cap] 56)).alloc (.cells #[.int .i64 oc, .int .i64 o1, .int .i64 o2, .string kind, .string nm, .string ov, .int .u64 og, .int .u64 oe, .bool oo, .bool ou] 48)).alloc (.cells #[.bool false, .string ⟨#[]⟩, .int .u64 0, .bool false, .slice none 0 0] 56)).alloc (.cells #[.bool true, .string ov, .int .u64 og, .bool true, .slice none 0 0] 56))) := ((((Below.refl _ _).alloc (Nat.le_refl _) _).alloc (by simp) _).alloc (by simp; omega) _).alloc (by simp; omega) _
  have HH := hid (h.below HB.out)
  clear h
  obtain ⟨hs0, hs1, hs2, hs3⟩ := four_boxes w (.cells #[.bool kn, .string sv, .int .u64 gen, .bool ex, .slice ad len cap] 56) (.cells #[.int .i64 oc, .int .i64 o1, .int .i64 o2, .string kind, .string nm, .string ov, .int .u64 og, .int .u64 oe, .bool oo, .bool ou] 48) (.cells #[.bool false, .string ⟨#[]⟩, .int .u64 0, .bool false, .slice none 0 0] 56) (.cells #[.bool true, .string ov, .int .u64 og, .bool true, .slice none 0 0] 56)
  have HS := hid hs0
  have HO := hid hs1
  have HR := hid hs2
  have HT := hid hs3
  clear hs0 hs1 hs2 hs3
  go_enter Try.func23, Try.ntmps23
  go_upto_region 2 with fail
  generalize ((((w.alloc (.cells #[.bool kn, .string sv, .int .u64 gen, .bool ex, .slice ad len cap] 56)).alloc (.cells #[.int .i64 oc, .int .i64 o1, .int .i64 o2, .string kind, .string nm, .string ov, .int .u64 og, .int .u64 oe, .bool oo, .bool ou] 48)).alloc (.cells #[.bool false, .string ⟨#[]⟩, .int .u64 0, .bool false, .slice none 0 0] 56)).alloc (.cells #[.bool true, .string ov, .int .u64 og, .bool true, .slice none 0 0] 56)) = w1 at HB HH HS HO HR HT
  have hq1 : w.heap.size ≠ w.heap.size + 1 + 1 := by omega
  have hq2 : w.heap.size + 1 + 1 ≠ w.heap.size := by omega
  obtain ⟨k0, k1, k2, k3, k4, _⟩ := five_cells HS.out
  obtain ⟨o0, o1', o2', o3, o4, o5, o6, o7, o8, o9⟩ := ten_cells HO.out
  obtain ⟨r0, r1, r2, r3, r4, f0, f1, f2, f3, f4⟩ := five_cells HR.out
  obtain ⟨t0, t1, t2, t3, t4, _⟩ := five_cells HT.out
  go_wp2_with fail
  exact bodyPost_ret (v := .tuple #[.agg #[.bool kn, .string sv, .int .u64 gen, .bool ex, .slice ad len cap], .bool false]) (by simp [results, Try.results23, go_sem, r0, r1, r2, r3, r4]) rfl ⟨rfl, (((((HB.out.setCell (by simp; omega) _).setCell (by simp; omega) _).setCell (by simp; omega) _).setCell (by simp; omega) _).setCell (by simp; omega) _)⟩

end Go.Proofs.Qxb6601963a.St
