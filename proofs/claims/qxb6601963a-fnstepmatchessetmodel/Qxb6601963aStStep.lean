import Derived.Test.Qxb6601963aStStrike
set_option linter.unusedVariables false
namespace Go.Proofs.Qxb6601963a.St
open Go.RowKit

theorem ten_cells {w : World} {b : Nat} {x0 x1 x2 x3 x4 x5 x6 x7 x8 x9 : Value} {t : TypeId} (h : w.heap[b]? = some (.cells #[x0, x1, x2, x3, x4, x5, x6, x7, x8, x9] t (0, 0))) :
    w.cell? ⟨b, 0, none⟩ = some x0 ∧ w.cell? ⟨b, 1, none⟩ = some x1 ∧ w.cell? ⟨b, 2, none⟩ = some x2 ∧ w.cell? ⟨b, 3, none⟩ = some x3 ∧ w.cell? ⟨b, 4, none⟩ = some x4 ∧ w.cell? ⟨b, 5, none⟩ = some x5 ∧ w.cell? ⟨b, 6, none⟩ = some x6 ∧ w.cell? ⟨b, 7, none⟩ = some x7 ∧ w.cell? ⟨b, 8, none⟩ = some x8 ∧ w.cell? ⟨b, 9, none⟩ = some x9 := by
  simp [World.cell?, h]
theorem four_boxes (w : World) (p q r s : Obj) :
    ((((w.alloc p).alloc q).alloc r).alloc s).heap[w.heap.size]? = some p ∧ ((((w.alloc p).alloc q).alloc r).alloc s).heap[w.heap.size + 1]? = some q ∧
    ((((w.alloc p).alloc q).alloc r).alloc s).heap[w.heap.size + 1 + 1]? = some r ∧ ((((w.alloc p).alloc q).alloc r).alloc s).heap[w.heap.size + 1 + 1 + 1]? = some s := by
  have e1 : (w.alloc p).heap.size = w.heap.size + 1 := by simp
  have e2 : ((w.alloc p).alloc q).heap.size = w.heap.size + 2 := by simp
  have e3 : (((w.alloc p).alloc q).alloc r).heap.size = w.heap.size + 3 := by simp
  have n0 := heap_alloc_new w p
  have n1 := heap_alloc_new (w.alloc p) q
  have n2 := heap_alloc_new ((w.alloc p).alloc q) r
  have n3 := heap_alloc_new (((w.alloc p).alloc q).alloc r) s
  rw [e1] at n1
  rw [e2] at n2
  rw [e3] at n3
  have b : ∀ (x : World) (o o' : Obj) (k : Nat), x.heap[k]? = some o → (x.alloc o').heap[k]? = some o := fun x o o' k h => block_later h ((Below.refl _ _).alloc (Nat.le_refl _) _)
  exact ⟨b _ _ _ _ (b _ _ _ _ (b _ _ _ _ n0)), b _ _ _ _ (b _ _ _ _ n1), b _ _ _ _ n2, n3⟩

/-- the kinds -/
def kRead : List UInt8 := [114, 101, 97, 100]
def kWrite : List UInt8 := [119, 114, 105, 116, 101]
def kCas : List UInt8 := [99, 97, 115]

theorem block_laterd {w w' : World} {b : Nat} {o : Obj} (h : w.heap[b]? = some o) (hb : Below w.drew.heap.size w.drew w') : w'.heap[b]? = some o := block_later (w := w.drew) h hb

set_option maxRecDepth 100000 in
set_option maxHeartbeats 8000000 in
theorem read_unknown (sv kind nm ov : ByteArray) (gen oc o1 o2 og oe : Int) (ad : Option Addr) (len cap : Nat) (z : Nat → Int) (ex oo ou : Bool) (w : World) (h : IsW w ad len cap z) (hk : kind.toList = kRead) :
    Calls Try.prog 23 #[.agg #[.bool false, .string sv, .int .u64 gen, .bool ex, .slice ad len cap], .agg #[.int .i64 oc, .int .i64 o1, .int .i64 o2, .string kind, .string nm, .string ov, .int .u64 og, .int .u64 oe, .bool oo, .bool ou]] w fun e w' => e = .returned (.tuple #[.agg #[.bool true, .string ov, .int .u64 og, .bool true, .slice none 0 0], .bool true]) ∧ Below w.heap.size w w' := by
  have HB : Hid (Below w.heap.size w ((((w.alloc (.cells #[.bool false, .string sv, .int .u64 gen, .bool ex, .slice ad len cap] 56)).alloc (.cells #[.int .i64 oc, .int .i64 o1, .int .i64 o2, .string kind, .string nm, .string ov, .int .u64 og, .int .u64 oe, .bool oo, .bool ou] 48)).alloc (.cells #[.bool false, .string ⟨#[]⟩, .int .u64 0, .bool false, .slice none 0 0] 56)).alloc (.cells #[.bool true, .string ov, .int .u64 og, .bool true, .slice none 0 0] 56))) := ((((Below.refl _ _).alloc (Nat.le_refl _) _).alloc (by simp) _).alloc (by simp; omega) _).alloc (by simp; omega) _
  have HH := hid (h.below HB.out)
  clear h
  obtain ⟨hs0, hs1, hs2, hs3⟩ := four_boxes w (.cells #[.bool false, .string sv, .int .u64 gen, .bool ex, .slice ad len cap] 56) (.cells #[.int .i64 oc, .int .i64 o1, .int .i64 o2, .string kind, .string nm, .string ov, .int .u64 og, .int .u64 oe, .bool oo, .bool ou] 48) (.cells #[.bool false, .string ⟨#[]⟩, .int .u64 0, .bool false, .slice none 0 0] 56) (.cells #[.bool true, .string ov, .int .u64 og, .bool true, .slice none 0 0] 56)
  have HS := hid hs0
  have HO := hid hs1
  have HR := hid hs2
  have HT := hid hs3
  clear hs0 hs1 hs2 hs3
  go_enter Try.func23, Try.ntmps23
  go_upto_region 2 with fail
  generalize ((((w.alloc (.cells #[.bool false, .string sv, .int .u64 gen, .bool ex, .slice ad len cap] 56)).alloc (.cells #[.int .i64 oc, .int .i64 o1, .int .i64 o2, .string kind, .string nm, .string ov, .int .u64 og, .int .u64 oe, .bool oo, .bool ou] 48)).alloc (.cells #[.bool false, .string ⟨#[]⟩, .int .u64 0, .bool false, .slice none 0 0] 56)).alloc (.cells #[.bool true, .string ov, .int .u64 og, .bool true, .slice none 0 0] 56)) = w1 at HB HH HS HO HR HT
  have hq1 : w.heap.size ≠ w.heap.size + 1 + 1 := by omega
  have hq2 : w.heap.size + 1 + 1 ≠ w.heap.size := by omega
  obtain ⟨k0, k1, k2, k3, k4, _⟩ := five_cells HS.out
  obtain ⟨o0, o1', o2', o3, o4, o5, o6, o7, o8, o9⟩ := ten_cells HO.out
  obtain ⟨r0, r1, r2, r3, r4, f0, f1, f2, f3, f4⟩ := five_cells HR.out
  obtain ⟨t0, t1, t2, t3, t4, _⟩ := five_cells HT.out
  go_wp2_with fail
  go_region
  all_goals go_wp2_with fail
  exact bodyPost_ret (v := .tuple #[.agg #[.bool true, .string ov, .int .u64 og, .bool true, .slice none 0 0], .bool true]) (by simp [results, Try.results23, go_sem, r0, r1, r2, r3, r4]) rfl ⟨rfl, (((((HB.out.setCell (by simp; omega) _).setCell (by simp; omega) _).setCell (by simp; omega) _).setCell (by simp; omega) _).setCell (by simp; omega) _).drew⟩

set_option maxRecDepth 100000 in
set_option maxHeartbeats 8000000 in
theorem read_other (sv kind nm ov : ByteArray) (gen oc o1 o2 og oe : Int) (ad : Option Addr) (len cap : Nat) (z : Nat → Int) (ex oo ou : Bool) (w : World) (h : IsW w ad len cap z) (hk : kind.toList = kRead) (hv : (sv.toList == ov.toList) = false) :
    Calls Try.prog 23 #[.agg #[.bool true, .string sv, .int .u64 gen, .bool ex, .slice ad len cap], .agg #[.int .i64 oc, .int .i64 o1, .int .i64 o2, .string kind, .string nm, .string ov, .int .u64 og, .int .u64 oe, .bool oo, .bool ou]] w fun e w' => e = .returned (.tuple #[.agg #[.bool true, .string ov, .int .u64 og, .bool true, .slice none 0 0], .bool false]) ∧ Below w.heap.size w w' := by
  have HB : Hid (Below w.heap.size w ((((w.alloc (.cells #[.bool true, .string sv, .int .u64 gen, .bool ex, .slice ad len cap] 56)).alloc (.cells #[.int .i64 oc, .int .i64 o1, .int .i64 o2, .string kind, .string nm, .string ov, .int .u64 og, .int .u64 oe, .bool oo, .bool ou] 48)).alloc (.cells #[.bool false, .string ⟨#[]⟩, .int .u64 0, .bool false, .slice none 0 0] 56)).alloc (.cells #[.bool true, .string ov, .int .u64 og, .bool true, .slice none 0 0] 56))) := ((((Below.refl _ _).alloc (Nat.le_refl _) _).alloc (by simp) _).alloc (by simp; omega) _).alloc (by simp; omega) _
  have HH := hid (h.below HB.out)
  clear h
  obtain ⟨hs0, hs1, hs2, hs3⟩ := four_boxes w (.cells #[.bool true, .string sv, .int .u64 gen, .bool ex, .slice ad len cap] 56) (.cells #[.int .i64 oc, .int .i64 o1, .int .i64 o2, .string kind, .string nm, .string ov, .int .u64 og, .int .u64 oe, .bool oo, .bool ou] 48) (.cells #[.bool false, .string ⟨#[]⟩, .int .u64 0, .bool false, .slice none 0 0] 56) (.cells #[.bool true, .string ov, .int .u64 og, .bool true, .slice none 0 0] 56)
  have HS := hid hs0
  have HO := hid hs1
  have HR := hid hs2
  have HT := hid hs3
  clear hs0 hs1 hs2 hs3
  go_enter Try.func23, Try.ntmps23
  go_upto_region 2 with fail
  generalize ((((w.alloc (.cells #[.bool true, .string sv, .int .u64 gen, .bool ex, .slice ad len cap] 56)).alloc (.cells #[.int .i64 oc, .int .i64 o1, .int .i64 o2, .string kind, .string nm, .string ov, .int .u64 og, .int .u64 oe, .bool oo, .bool ou] 48)).alloc (.cells #[.bool false, .string ⟨#[]⟩, .int .u64 0, .bool false, .slice none 0 0] 56)).alloc (.cells #[.bool true, .string ov, .int .u64 og, .bool true, .slice none 0 0] 56)) = w1 at HB HH HS HO HR HT
  have hq1 : w.heap.size ≠ w.heap.size + 1 + 1 := by omega
  have hq2 : w.heap.size + 1 + 1 ≠ w.heap.size := by omega
  obtain ⟨k0, k1, k2, k3, k4, _⟩ := five_cells HS.out
  obtain ⟨o0, o1', o2', o3, o4, o5, o6, o7, o8, o9⟩ := ten_cells HO.out
  obtain ⟨r0, r1, r2, r3, r4, f0, f1, f2, f3, f4⟩ := five_cells HR.out
  obtain ⟨t0, t1, t2, t3, t4, _⟩ := five_cells HT.out
  go_wp2_with fail
  go_region
  all_goals go_wp2_with fail
  exact bodyPost_ret (v := .tuple #[.agg #[.bool true, .string ov, .int .u64 og, .bool true, .slice none 0 0], .bool false]) (by simp [results, Try.results23, go_sem, r0, r1, r2, r3, r4]) rfl ⟨rfl, (((((HB.out.setCell (by simp; omega) _).setCell (by simp; omega) _).setCell (by simp; omega) _).setCell (by simp; omega) _).setCell (by simp; omega) _).drew⟩

set_option maxRecDepth 100000 in
set_option maxHeartbeats 8000000 in
theorem read_same (sv kind nm ov : ByteArray) (gen oc o1 o2 og oe : Int) (ad : Option Addr) (len cap : Nat) (z : Nat → Int) (ex oo ou : Bool) (w : World) (h : IsW w ad len cap z) (hk : kind.toList = kRead) (hv : (sv.toList == ov.toList) = true) :
    Calls Try.prog 23 #[.agg #[.bool true, .string sv, .int .u64 gen, .bool ex, .slice ad len cap], .agg #[.int .i64 oc, .int .i64 o1, .int .i64 o2, .string kind, .string nm, .string ov, .int .u64 og, .int .u64 oe, .bool oo, .bool ou]] w fun e w' => e = .returned (.tuple #[.agg #[.bool true, .string ov, .int .u64 og, .bool true, .slice none 0 0], .bool (admB true ex gen z len og)]) ∧ Below w.heap.size w w' := by
  have HB : Hid (Below w.heap.size w ((((w.alloc (.cells #[.bool true, .string sv, .int .u64 gen, .bool ex, .slice ad len cap] 56)).alloc (.cells #[.int .i64 oc, .int .i64 o1, .int .i64 o2, .string kind, .string nm, .string ov, .int .u64 og, .int .u64 oe, .bool oo, .bool ou] 48)).alloc (.cells #[.bool false, .string ⟨#[]⟩, .int .u64 0, .bool false, .slice none 0 0] 56)).alloc (.cells #[.bool true, .string ov, .int .u64 og, .bool true, .slice none 0 0] 56))) := ((((Below.refl _ _).alloc (Nat.le_refl _) _).alloc (by simp) _).alloc (by simp; omega) _).alloc (by simp; omega) _
  have HH := hid (h.below HB.out)
  clear h
  obtain ⟨hs0, hs1, hs2, hs3⟩ := four_boxes w (.cells #[.bool true, .string sv, .int .u64 gen, .bool ex, .slice ad len cap] 56) (.cells #[.int .i64 oc, .int .i64 o1, .int .i64 o2, .string kind, .string nm, .string ov, .int .u64 og, .int .u64 oe, .bool oo, .bool ou] 48) (.cells #[.bool false, .string ⟨#[]⟩, .int .u64 0, .bool false, .slice none 0 0] 56) (.cells #[.bool true, .string ov, .int .u64 og, .bool true, .slice none 0 0] 56)
  have HS := hid hs0
  have HO := hid hs1
  have HR := hid hs2
  have HT := hid hs3
  clear hs0 hs1 hs2 hs3
  go_enter Try.func23, Try.ntmps23
  go_upto_region 2 with fail
  generalize ((((w.alloc (.cells #[.bool true, .string sv, .int .u64 gen, .bool ex, .slice ad len cap] 56)).alloc (.cells #[.int .i64 oc, .int .i64 o1, .int .i64 o2, .string kind, .string nm, .string ov, .int .u64 og, .int .u64 oe, .bool oo, .bool ou] 48)).alloc (.cells #[.bool false, .string ⟨#[]⟩, .int .u64 0, .bool false, .slice none 0 0] 56)).alloc (.cells #[.bool true, .string ov, .int .u64 og, .bool true, .slice none 0 0] 56)) = w1 at HB HH HS HO HR HT
  have hq1 : w.heap.size ≠ w.heap.size + 1 + 1 := by omega
  have hq2 : w.heap.size + 1 + 1 ≠ w.heap.size := by omega
  obtain ⟨k0, k1, k2, k3, k4, _⟩ := five_cells HS.out
  obtain ⟨o0, o1', o2', o3, o4, o5, o6, o7, o8, o9⟩ := ten_cells HO.out
  obtain ⟨r0, r1, r2, r3, r4, f0, f1, f2, f3, f4⟩ := five_cells HR.out
  obtain ⟨t0, t1, t2, t3, t4, _⟩ := five_cells HT.out
  go_wp2_with fail
  go_region_held3 (fun w' => w'.cell? ⟨w.heap.size, 0, none⟩ = some (.bool true) ∧ w'.cell? ⟨w.heap.size, 1, none⟩ = some (.string sv) ∧ w'.cell? ⟨w.heap.size, 2, none⟩ = some (.int .u64 gen) ∧ w'.cell? ⟨w.heap.size, 3, none⟩ = some (.bool ex) ∧ w'.cell? ⟨w.heap.size, 4, none⟩ = some (.slice ad len cap) ∧ w'.cell? ⟨w.heap.size + 1, 5, none⟩ = some (.string ov) ∧ w'.cell? ⟨w.heap.size + 1, 6, none⟩ = some (.int .u64 og) ∧ w'.cell? ⟨w.heap.size + 1, 7, none⟩ = some (.int .u64 oe) ∧ w'.cell? ⟨w.heap.size + 1 + 1 + 1, 0, none⟩ = some (.bool true) ∧ w'.cell? ⟨w.heap.size + 1 + 1 + 1, 1, none⟩ = some (.string ov) ∧ w'.cell? ⟨w.heap.size + 1 + 1 + 1, 2, none⟩ = some (.int .u64 og) ∧ w'.cell? ⟨w.heap.size + 1 + 1 + 1, 3, none⟩ = some (.bool true) ∧ w'.cell? ⟨w.heap.size + 1 + 1 + 1, 4, none⟩ = some (.slice none 0 0)) (go_keep) ((first | (go_at_call 24; refine (admits_any true ex sv gen og ad len cap z w1.drew (HH.out.below ((Below.refl _ _).drew))).mono ?_; rintro e w5 ⟨rfl, hb5⟩; have HS5 := hid (block_laterd HS.out hb5); have HO5 := hid (block_laterd HO.out hb5); have HR5 := hid (block_laterd HR.out hb5); have HT5 := hid (block_laterd HT.out hb5); obtain ⟨a0, a1, a2, a3, a4, _⟩ := five_cells HS5.out; obtain ⟨b0, b1, b2, b3, b4, b5, b6, b7, b8, b9⟩ := ten_cells HO5.out; obtain ⟨c0, c1, c2, c3, c4, _⟩ := five_cells HT5.out; obtain ⟨d0, d1, d2, d3, d4, g0, g1, g2, g3, g4⟩ := five_cells HR5.out; have HB5 := hid ((HB.out.drew).trans (hb5.mono HB.out.size)); clear hb5)))
  all_goals go_wp2_with fail
  exact bodyPost_ret (v := .tuple #[.agg #[.bool true, .string ov, .int .u64 og, .bool true, .slice none 0 0], .bool (admB true ex gen z len og)]) (by simp [results, Try.results23, go_sem, d0, d1, d2, d3, d4]) rfl ⟨rfl, (((((HB5.out.setCell (by simp; omega) _).setCell (by simp; omega) _).setCell (by simp; omega) _).setCell (by simp; omega) _).setCell (by simp; omega) _)⟩

end Go.Proofs.Qxb6601963a.St
