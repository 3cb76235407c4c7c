import Derived.Test.Qxb6601963aStZ
set_option linter.unusedVariables false
namespace Go.Proofs.Qxb6601963a.St
open Go.RowKit

theorem three_boxes (w : World) (p q r : Obj) :
    (((w.alloc p).alloc q).alloc r).heap[w.heap.size]? = some p ∧ (((w.alloc p).alloc q).alloc r).heap[w.heap.size + 1]? = some q ∧ (((w.alloc p).alloc q).alloc r).heap[w.heap.size + 1 + 1]? = some r := by
  have e1 : (w.alloc p).heap.size = w.heap.size + 1 := by simp
  have e2 : ((w.alloc p).alloc q).heap.size = w.heap.size + 2 := by simp
  have n0 := heap_alloc_new w p
  have n1 := heap_alloc_new (w.alloc p) q
  have n2 := heap_alloc_new ((w.alloc p).alloc q) r
  rw [e1] at n1
  rw [e2] at n2
  have b : ∀ (x : World) (o o' : Obj) (k : Nat), x.heap[k]? = some o → (x.alloc o').heap[k]? = some o := fun x o o' k h => block_later h ((Below.refl _ _).alloc (Nat.le_refl _) _)
  exact ⟨b _ _ _ _ (b _ _ _ _ n0), b _ _ _ _ n1, n2⟩

set_option maxRecDepth 100000 in
set_option maxHeartbeats 8000000 in
theorem zz11 (P : Bool → ByteArray → Int → Bool → Option Addr → Nat → Nat → Bool → Prop) (P2 : Bool → ByteArray → Int → Bool → Nat → (Nat → Int) → Bool → Prop)
    (sv kind nm ov : ByteArray) (gen oc o1 o2 og oe : Int) (ad : Option Addr) (len cap : Nat) (z : Nat → Int) (kn ex oo ou : Bool) (w : World) (h : IsW w ad len cap z)
    (hc : ∀ w1, IsW w1 ad len cap z → Calls Try.prog 23 #[.agg #[.bool kn, .string sv, .int .u64 gen, .bool ex, .slice ad len cap], .agg #[.int .i64 oc, .int .i64 o1, .int .i64 o2, .string kind, .string nm, .string ov, .int .u64 og, .int .u64 oe, .bool oo, .bool ou]] w1 fun e w' =>
      (∃ kn' v' g' ex' ad' len' cap' ok, e = .returned (.tuple #[.agg #[.bool kn', .string v', .int .u64 g', .bool ex', .slice ad' len' cap'], .bool ok]) ∧ QQ P P2 w1.heap.size w' kn' v' g' ex' ad' len' cap' ok) ∧ Below w1.heap.size w1 w') :
    Calls Try.prog 11 #[.agg #[.bool kn, .string sv, .int .u64 gen, .bool ex, .slice ad len cap], .agg #[.int .i64 oc, .int .i64 o1, .int .i64 o2, .string kind, .string nm, .string ov, .int .u64 og, .int .u64 oe, .bool oo, .bool ou]] w fun e w' =>
      (∃ kn' v' g' ex' ad' len' cap' ok, e = .returned (.tuple #[.agg #[.bool kn', .string v', .int .u64 g', .bool ex', .slice ad' len' cap'], .bool ok]) ∧ QQ P P2 w.heap.size w' kn' v' g' ex' ad' len' cap' ok) ∧ Below w.heap.size w w' := by
  have HB : Hid (Below w.heap.size w (((w.alloc (.cells #[.bool kn, .string sv, .int .u64 gen, .bool ex, .slice ad len cap] 25)).alloc (.cells #[.int .i64 oc, .int .i64 o1, .int .i64 o2, .string kind, .string nm, .string ov, .int .u64 og, .int .u64 oe, .bool oo, .bool ou] 27)).alloc (.cells #[.bool false, .string ⟨#[]⟩, .int .u64 0, .bool false, .slice none 0 0] 25))) := (((Below.refl _ _).alloc (Nat.le_refl _) _).alloc (by simp) _).alloc (by simp; omega) _
  have HH := hid (h.below HB.out)
  have HC := hid hc
  clear h hc
  obtain ⟨hs0, hs1, hs2⟩ := three_boxes w (.cells #[.bool kn, .string sv, .int .u64 gen, .bool ex, .slice ad len cap] 25) (.cells #[.int .i64 oc, .int .i64 o1, .int .i64 o2, .string kind, .string nm, .string ov, .int .u64 og, .int .u64 oe, .bool oo, .bool ou] 27) (.cells #[.bool false, .string ⟨#[]⟩, .int .u64 0, .bool false, .slice none 0 0] 25)
  have HS := hid hs0
  have HO := hid hs1
  have HR := hid hs2
  clear hs0 hs1 hs2
  go_enter Try.func11, Try.ntmps11
  go_upto_region 1 with fail
  generalize (((w.alloc (.cells #[.bool kn, .string sv, .int .u64 gen, .bool ex, .slice ad len cap] 25)).alloc (.cells #[.int .i64 oc, .int .i64 o1, .int .i64 o2, .string kind, .string nm, .string ov, .int .u64 og, .int .u64 oe, .bool oo, .bool ou] 27)).alloc (.cells #[.bool false, .string ⟨#[]⟩, .int .u64 0, .bool false, .slice none 0 0] 25)) = w1 at HB HH HS HO HR
  obtain ⟨k0, k1, k2, k3, k4, _⟩ := five_cells HS.out
  obtain ⟨x0, x1, x2, x3, x4, x5, x6, x7, x8, x9⟩ := ten_cells HO.out
  have hr1 : w.heap.size + 1 + 1 < w1.heap.size := by
    rcases Nat.lt_or_ge (w.heap.size + 1 + 1) w1.heap.size with h' | h'
    · exact h'
    · have := HR.out; simp [Array.getElem?_eq_none h'] at this
  go_region_held3 (fun w' => w'.cell? ⟨w.heap.size, 0, none⟩ = some (.bool kn) ∧ w'.cell? ⟨w.heap.size, 1, none⟩ = some (.string sv) ∧ w'.cell? ⟨w.heap.size, 2, none⟩ = some (.int .u64 gen) ∧ w'.cell? ⟨w.heap.size, 3, none⟩ = some (.bool ex) ∧ w'.cell? ⟨w.heap.size, 4, none⟩ = some (.slice ad len cap) ∧ w'.cell? ⟨w.heap.size + 1, 0, none⟩ = some (.int .i64 oc) ∧ w'.cell? ⟨w.heap.size + 1, 1, none⟩ = some (.int .i64 o1) ∧ w'.cell? ⟨w.heap.size + 1, 2, none⟩ = some (.int .i64 o2) ∧ w'.cell? ⟨w.heap.size + 1, 3, none⟩ = some (.string kind) ∧ w'.cell? ⟨w.heap.size + 1, 4, none⟩ = some (.string nm) ∧ w'.cell? ⟨w.heap.size + 1, 5, none⟩ = some (.string ov) ∧ w'.cell? ⟨w.heap.size + 1, 6, none⟩ = some (.int .u64 og) ∧ w'.cell? ⟨w.heap.size + 1, 7, none⟩ = some (.int .u64 oe) ∧ w'.cell? ⟨w.heap.size + 1, 8, none⟩ = some (.bool oo) ∧ w'.cell? ⟨w.heap.size + 1, 9, none⟩ = some (.bool ou)) (go_keep) ((first | (go_at_call 19; refine (zzop_any kind nm ov oc o1 o2 og oe oo ou w1.drew).mono ?_; rintro e w5 ⟨rfl, hb5⟩; have HS5 := hid (block_laterd HS.out hb5); have HO5 := hid (block_laterd HO.out hb5); have HR5 := hid (block_laterd HR.out hb5); obtain ⟨a05, a15, a25, a35, a45, _⟩ := five_cells HS5.out; obtain ⟨b05, b15, b25, b35, b45, b55, b65, b75, b85, b95⟩ := ten_cells HO5.out; obtain ⟨d05, d15, d25, d35, d45, g05, g15, g25, g35, g45⟩ := five_cells HR5.out; have HB5 := hid ((HB.out.drew).trans (hb5.mono (HB.out.drew).size)); have HH5 := hid ((HH.out.below ((Below.refl _ _).drew)).below hb5); clear hb5) | (go_at_call 18; refine (zz18 P P2 sv kind nm ov gen oc o1 o2 og oe ad len cap z kn ex oo ou w5 HH5.out HC.out).mono ?_; rintro e w6 ⟨⟨kn', v', g', ex', ad', len', cap', ok, rfl, hq⟩, hb6⟩; have HS6 := hid (block_later HS5.out hb6); have HO6 := hid (block_later HO5.out hb6); have HR6 := hid (block_later HR5.out hb6); obtain ⟨a06, a16, a26, a36, a46, _⟩ := five_cells HS6.out; obtain ⟨b06, b16, b26, b36, b46, b56, b66, b76, b86, b96⟩ := ten_cells HO6.out; obtain ⟨d06, d16, d26, d36, d46, g06, g16, g26, g36, g46⟩ := five_cells HR6.out; have HB6 := hid (HB5.out.trans (hb6.mono HB5.out.size)); have HQ6 := hid hq; have hs6 := hb6.size; clear hb6 hq)))
  all_goals go_wp2_with fail
  have hz : w.heap.size + 1 + 1 < w5.heap.size := by
    rcases Nat.lt_or_ge (w.heap.size + 1 + 1) w5.heap.size with h' | h'
    · exact h'
    · have := HR5.out; simp [Array.getElem?_eq_none h'] at this
  exact bodyPost_ret (v := .tuple #[.agg #[.bool kn', .string v', .int .u64 g', .bool ex', .slice ad' len' cap'], .bool ok]) (by simp [results, Try.results11, go_sem, d06, d16, d26, d36, d46]) rfl
    ⟨⟨kn', v', g', ex', ad', len', cap', ok, rfl, (((((HQ6.out.set _ _ _ hz).set _ _ _ hz).set _ _ _ hz).set _ _ _ hz).set _ _ _ hz).less HB5.out.size⟩,
      (((((HB6.out.setCell (by simp; omega) _).setCell (by simp; omega) _).setCell (by simp; omega) _).setCell (by simp; omega) _).setCell (by simp; omega) _)⟩
end Go.Proofs.Qxb6601963a.St
