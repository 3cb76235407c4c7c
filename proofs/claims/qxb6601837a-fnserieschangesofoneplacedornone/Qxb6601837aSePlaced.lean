import Derived.Test.Qxb6601837aSeCopy
set_option linter.unusedVariables false
namespace Go.Proofs.Qxb6601837a.Se
open Go.RowKit

/-- the placed commit as zzPlacedOne makes it -/
def PlacedPost (hh ch tr ms ci ti : ByteArray) (mg co : Bool) (e : Ending) : Prop :=
  ∃ a n c a' n' c', e = .returned (.agg #[.string hh, .string ch, .slice a n c, .string tr, .string ms, .slice a' n' c', .string ⟨#[]⟩, .string ci, .bool mg, .bool co, .string ti])

theorem ten_cells {w : World} {b : Nat} {x0 x1 x2 x3 x4 x5 x6 x7 x8 x9 : Value} {t : TypeId} (h : w.heap[b]? = some (.cells #[x0, x1, x2, x3, x4, x5, x6, x7, x8, x9] t (0, 0))) :
    w.cell? ⟨b, 0, none⟩ = some x0 ∧ w.cell? ⟨b, 1, none⟩ = some x1 ∧ w.cell? ⟨b, 2, none⟩ = some x2 ∧ w.cell? ⟨b, 3, none⟩ = some x3 ∧ w.cell? ⟨b, 4, none⟩ = some x4 ∧ w.cell? ⟨b, 5, none⟩ = some x5 ∧ w.cell? ⟨b, 6, none⟩ = some x6 ∧ w.cell? ⟨b, 7, none⟩ = some x7 ∧ w.cell? ⟨b, 8, none⟩ = some x8 ∧ w.cell? ⟨b, 9, none⟩ = some x9 := by
  simp [World.cell?, h]

theorem eight_cells {w : World} {b : Nat} {x0 x1 x2 x3 x4 x5 x6 x7 : Value} {t : TypeId} (h : w.heap[b]? = some (.cells #[x0, x1, x2, x3, x4, x5, x6, x7] t (0, 0))) :
    w.cell? ⟨b, 0, none⟩ = some x0 ∧ w.cell? ⟨b, 1, none⟩ = some x1 ∧ w.cell? ⟨b, 2, none⟩ = some x2 ∧ w.cell? ⟨b, 3, none⟩ = some x3 ∧ w.cell? ⟨b, 4, none⟩ = some x4 ∧ w.cell? ⟨b, 5, none⟩ = some x5 ∧ w.cell? ⟨b, 6, none⟩ = some x6 ∧ w.cell? ⟨b, 7, none⟩ = some x7 ∧
    w.frozen? ⟨b, 0, none⟩ = false ∧ w.frozen? ⟨b, 1, none⟩ = false ∧ w.frozen? ⟨b, 2, none⟩ = false ∧ w.frozen? ⟨b, 3, none⟩ = false ∧ w.frozen? ⟨b, 4, none⟩ = false ∧ w.frozen? ⟨b, 5, none⟩ = false ∧ w.frozen? ⟨b, 6, none⟩ = false ∧ w.frozen? ⟨b, 7, none⟩ = false := by
  simp [World.cell?, World.frozen?, h]

theorem eleven_cells {w : World} {b : Nat} {x0 x1 x2 x3 x4 x5 x6 x7 x8 x9 x10 : Value} {t : TypeId} (h : w.heap[b]? = some (.cells #[x0, x1, x2, x3, x4, x5, x6, x7, x8, x9, x10] t (0, 0))) :
    w.cell? ⟨b, 0, none⟩ = some x0 ∧ w.cell? ⟨b, 1, none⟩ = some x1 ∧ w.cell? ⟨b, 2, none⟩ = some x2 ∧ w.cell? ⟨b, 3, none⟩ = some x3 ∧ w.cell? ⟨b, 4, none⟩ = some x4 ∧ w.cell? ⟨b, 5, none⟩ = some x5 ∧ w.cell? ⟨b, 6, none⟩ = some x6 ∧ w.cell? ⟨b, 7, none⟩ = some x7 ∧ w.cell? ⟨b, 8, none⟩ = some x8 ∧ w.cell? ⟨b, 9, none⟩ = some x9 ∧ w.cell? ⟨b, 10, none⟩ = some x10 ∧
    w.frozen? ⟨b, 0, none⟩ = false ∧ w.frozen? ⟨b, 1, none⟩ = false ∧ w.frozen? ⟨b, 2, none⟩ = false ∧ w.frozen? ⟨b, 3, none⟩ = false ∧ w.frozen? ⟨b, 4, none⟩ = false ∧ w.frozen? ⟨b, 5, none⟩ = false ∧ w.frozen? ⟨b, 6, none⟩ = false ∧ w.frozen? ⟨b, 7, none⟩ = false ∧ w.frozen? ⟨b, 8, none⟩ = false ∧ w.frozen? ⟨b, 9, none⟩ = false ∧ w.frozen? ⟨b, 10, none⟩ = false := by
  simp [World.cell?, World.frozen?, h]
theorem gt_of {w : World} {k : Nat} {o : Obj} (h : w.heap[k]? = some o) : k < w.heap.size := by
  rcases Nat.lt_or_ge k w.heap.size with h' | h'
  · exact h'
  · simp [Array.getElem?_eq_none h'] at h
theorem eight_set {w : World} {q : Nat} {x0 x1 x2 x3 x4 x5 x6 x7 v0 v1 v2 v3 v4 v5 v6 v7 : Value} {t : TypeId} (h : w.heap[q]? = some (.cells #[x0, x1, x2, x3, x4, x5, x6, x7] t (0, 0))) :
    ((((((((w.setCell ⟨q, 0, none⟩ v0).setCell ⟨q, 1, none⟩ v1).setCell ⟨q, 2, none⟩ v2).setCell ⟨q, 3, none⟩ v3).setCell ⟨q, 4, none⟩ v4).setCell ⟨q, 5, none⟩ v5).setCell ⟨q, 6, none⟩ v6).setCell ⟨q, 7, none⟩ v7).heap[q]? = some (.cells #[v0, v1, v2, v3, v4, v5, v6, v7] t (0, 0)) := by
  have h1 : (w.setCell ⟨q, 0, none⟩ v0).heap[q]? = some (.cells #[v0, x1, x2, x3, x4, x5, x6, x7] t (0, 0)) := by rw [heap_setCell_same _ q 0 _ t v0 h]; rfl
  have h2 : ((w.setCell ⟨q, 0, none⟩ v0).setCell ⟨q, 1, none⟩ v1).heap[q]? = some (.cells #[v0, v1, x2, x3, x4, x5, x6, x7] t (0, 0)) := by rw [heap_setCell_same _ q 1 _ t v1 h1]; rfl
  have h3 : (((w.setCell ⟨q, 0, none⟩ v0).setCell ⟨q, 1, none⟩ v1).setCell ⟨q, 2, none⟩ v2).heap[q]? = some (.cells #[v0, v1, v2, x3, x4, x5, x6, x7] t (0, 0)) := by rw [heap_setCell_same _ q 2 _ t v2 h2]; rfl
  have h4 : ((((w.setCell ⟨q, 0, none⟩ v0).setCell ⟨q, 1, none⟩ v1).setCell ⟨q, 2, none⟩ v2).setCell ⟨q, 3, none⟩ v3).heap[q]? = some (.cells #[v0, v1, v2, v3, x4, x5, x6, x7] t (0, 0)) := by rw [heap_setCell_same _ q 3 _ t v3 h3]; rfl
  have h5 : (((((w.setCell ⟨q, 0, none⟩ v0).setCell ⟨q, 1, none⟩ v1).setCell ⟨q, 2, none⟩ v2).setCell ⟨q, 3, none⟩ v3).setCell ⟨q, 4, none⟩ v4).heap[q]? = some (.cells #[v0, v1, v2, v3, v4, x5, x6, x7] t (0, 0)) := by rw [heap_setCell_same _ q 4 _ t v4 h4]; rfl
  have h6 : ((((((w.setCell ⟨q, 0, none⟩ v0).setCell ⟨q, 1, none⟩ v1).setCell ⟨q, 2, none⟩ v2).setCell ⟨q, 3, none⟩ v3).setCell ⟨q, 4, none⟩ v4).setCell ⟨q, 5, none⟩ v5).heap[q]? = some (.cells #[v0, v1, v2, v3, v4, v5, x6, x7] t (0, 0)) := by rw [heap_setCell_same _ q 5 _ t v5 h5]; rfl
  have h7 : (((((((w.setCell ⟨q, 0, none⟩ v0).setCell ⟨q, 1, none⟩ v1).setCell ⟨q, 2, none⟩ v2).setCell ⟨q, 3, none⟩ v3).setCell ⟨q, 4, none⟩ v4).setCell ⟨q, 5, none⟩ v5).setCell ⟨q, 6, none⟩ v6).heap[q]? = some (.cells #[v0, v1, v2, v3, v4, v5, v6, x7] t (0, 0)) := by rw [heap_setCell_same _ q 6 _ t v6 h6]; rfl
  have h8 : ((((((((w.setCell ⟨q, 0, none⟩ v0).setCell ⟨q, 1, none⟩ v1).setCell ⟨q, 2, none⟩ v2).setCell ⟨q, 3, none⟩ v3).setCell ⟨q, 4, none⟩ v4).setCell ⟨q, 5, none⟩ v5).setCell ⟨q, 6, none⟩ v6).setCell ⟨q, 7, none⟩ v7).heap[q]? = some (.cells #[v0, v1, v2, v3, v4, v5, v6, v7] t (0, 0)) := by rw [heap_setCell_same _ q 7 _ t v7 h7]; rfl
  exact h8
theorem far_set8 {w : World} {q b : Nat} {v0 v1 v2 v3 v4 v5 v6 v7 : Value} (h : b ≠ q) :
    ((((((((w.setCell ⟨q, 0, none⟩ v0).setCell ⟨q, 1, none⟩ v1).setCell ⟨q, 2, none⟩ v2).setCell ⟨q, 3, none⟩ v3).setCell ⟨q, 4, none⟩ v4).setCell ⟨q, 5, none⟩ v5).setCell ⟨q, 6, none⟩ v6).setCell ⟨q, 7, none⟩ v7).heap[b]? = w.heap[b]? := by
  rw [Below.heap_setCell _ _ _ _ h, Below.heap_setCell _ _ _ _ h, Below.heap_setCell _ _ _ _ h, Below.heap_setCell _ _ _ _ h, Below.heap_setCell _ _ _ _ h, Below.heap_setCell _ _ _ _ h, Below.heap_setCell _ _ _ _ h, Below.heap_setCell _ _ _ _ h]

set_option maxRecDepth 100000 in
set_option maxHeartbeats 2000000 in
theorem placed_any (hh ch tr ms ci ti : ByteArray) (pa ta : Option Addr) (lp cp lt ct : Nat) (mg co : Bool) (w : World) (hP : IsStrs w pa lp cp) (hT : IsTrs w ta lt ct) (hlp : lp ≤ 1048576) (hlt : lt ≤ 1048576) :
    Calls Try.prog 25 #[.agg #[.string hh, .string ch, .slice pa lp cp, .string tr, .string ms, .slice ta lt ct, .string ci, .bool mg, .bool co, .string ti]] w fun e w' => PlacedPost hh ch tr ms ci ti mg co e ∧ Below w.heap.size w w' := by
  have HP := hid hP
  have HT := hid hT
  clear hP hT
  go_enter Try.func25, Try.ntmps25
  go_wp2_with fail
  have HA : Hid (((w.alloc (.cells #[.string hh, .string ch, .slice pa lp cp, .string tr, .string ms, .slice ta lt ct, .string ci, .bool mg, .bool co, .string ti] 55)).alloc (.cells #[.string ⟨#[]⟩, .string ⟨#[]⟩, .slice none 0 0, .string ⟨#[]⟩, .string ⟨#[]⟩, .slice none 0 0, .string ⟨#[]⟩, .string ⟨#[]⟩, .bool false, .bool false, .string ⟨#[]⟩] 62)).heap[w.heap.size]? = some (.cells #[.string hh, .string ch, .slice pa lp cp, .string tr, .string ms, .slice ta lt ct, .string ci, .bool mg, .bool co, .string ti] 55 (0, 0))) := box_below w _ _
  have HR : Hid (((w.alloc (.cells #[.string hh, .string ch, .slice pa lp cp, .string tr, .string ms, .slice ta lt ct, .string ci, .bool mg, .bool co, .string ti] 55)).alloc (.cells #[.string ⟨#[]⟩, .string ⟨#[]⟩, .slice none 0 0, .string ⟨#[]⟩, .string ⟨#[]⟩, .slice none 0 0, .string ⟨#[]⟩, .string ⟨#[]⟩, .bool false, .bool false, .string ⟨#[]⟩] 62)).heap[w.heap.size + 1]? = some (.cells #[.string ⟨#[]⟩, .string ⟨#[]⟩, .slice none 0 0, .string ⟨#[]⟩, .string ⟨#[]⟩, .slice none 0 0, .string ⟨#[]⟩, .string ⟨#[]⟩, .bool false, .bool false, .string ⟨#[]⟩] 62 (0, 0))) := box_above w _ _
  have HB : Hid (Below w.heap.size w ((w.alloc (.cells #[.string hh, .string ch, .slice pa lp cp, .string tr, .string ms, .slice ta lt ct, .string ci, .bool mg, .bool co, .string ti] 55)).alloc (.cells #[.string ⟨#[]⟩, .string ⟨#[]⟩, .slice none 0 0, .string ⟨#[]⟩, .string ⟨#[]⟩, .slice none 0 0, .string ⟨#[]⟩, .string ⟨#[]⟩, .bool false, .bool false, .string ⟨#[]⟩] 62))) := ((Below.refl _ _).alloc (Nat.le_refl _) _).alloc (by simp) _
  generalize (w.alloc (.cells #[.string hh, .string ch, .slice pa lp cp, .string tr, .string ms, .slice ta lt ct, .string ci, .bool mg, .bool co, .string ti] 55)).alloc (.cells #[.string ⟨#[]⟩, .string ⟨#[]⟩, .slice none 0 0, .string ⟨#[]⟩, .string ⟨#[]⟩, .slice none 0 0, .string ⟨#[]⟩, .string ⟨#[]⟩, .bool false, .bool false, .string ⟨#[]⟩] 62) = w1 at HA HR HB
  obtain ⟨k0, k1, k2, k3, k4, k5, k6, k7, k8, k9⟩ := ten_cells HA.out
  have hlt1 : w.heap.size < w1.heap.size := World.block_lt_of_cell? w1 ⟨w.heap.size, 0, none⟩ k0
  have hn1 : w.heap.size ≠ w1.heap.size := by omega
  have hn1' : w1.heap.size ≠ w.heap.size := by omega
  go_cut [3] from 4 to 14 (fun p wx => ∃ q a n c a' n' c', p = .pointer (some ⟨q, 0, none⟩) ∧ Hid (wx.heap[q]? = some (.cells #[.string ch, .slice a n c, .string tr, .string ms, .slice a' n' c', .string ⟨#[]⟩, .string ci, .bool mg] 60 (0, 0))) ∧ q ≠ w.heap.size + 1 ∧ Hid (wx.heap[w.heap.size]? = some (.cells #[.string hh, .string ch, .slice pa lp cp, .string tr, .string ms, .slice ta lt ct, .string ci, .bool mg, .bool co, .string ti] 55 (0, 0))) ∧ Hid (wx.heap[w.heap.size + 1]? = some (.cells #[.string ⟨#[]⟩, .string ⟨#[]⟩, .slice none 0 0, .string ⟨#[]⟩, .string ⟨#[]⟩, .slice none 0 0, .string ⟨#[]⟩, .string ⟨#[]⟩, .bool false, .bool false, .string ⟨#[]⟩] 62 (0, 0))) ∧ Hid (Below w.heap.size w wx))
  case first =>
    go_region_held3 (fun w' => w'.cell? ⟨w.heap.size, 1, none⟩ = some (.string ch) ∧ w'.cell? ⟨w.heap.size, 2, none⟩ = some (.slice pa lp cp) ∧ w'.cell? ⟨w.heap.size, 3, none⟩ = some (.string tr) ∧ w'.cell? ⟨w.heap.size, 4, none⟩ = some (.string ms) ∧ w'.cell? ⟨w.heap.size, 5, none⟩ = some (.slice ta lt ct) ∧ w'.cell? ⟨w.heap.size, 6, none⟩ = some (.string ci) ∧ w'.cell? ⟨w.heap.size, 7, none⟩ = some (.bool mg)) (go_keep)
      ((first | (go_at_call 36; refine (commit_any ch tr ms pa ta lp cp lt ct w1.drew (HP.out.below (HB.out.drew)) (HT.out.below (HB.out.drew)) hlp hlt).mono ?_; rintro e w5 ⟨⟨a, n, c, a', n', c', rfl⟩, hb5⟩; have HA5 := hid (block_later HA.out hb5); have HR5 := hid (block_later HR.out hb5); obtain ⟨e0, e1, e2, e3, e4, e5, e6, e7, e8, e9⟩ := ten_cells HA5.out; have hlt5 : w.heap.size < w5.heap.size := World.block_lt_of_cell? w5 ⟨w.heap.size, 0, none⟩ e0; have hn5 : w.heap.size ≠ w5.heap.size := Nat.ne_of_lt hlt5; have hn5' : w5.heap.size ≠ w.heap.size := Ne.symm hn5; have HB5 := hid ((HB.out.drew).trans (hb5.mono HB.out.size)); clear hb5) | (go_at_call 36; refine (commit_any ch tr ms pa ta lp cp lt ct (w1.alloc (.cells #[.string ⟨#[]⟩, .slice none 0 0, .string ⟨#[]⟩, .string ⟨#[]⟩, .slice none 0 0, .string ⟨#[]⟩, .string ⟨#[]⟩, .bool false] 60)).drew (HP.out.below ((HB.out.alloc (by omega) _).drew)) (HT.out.below ((HB.out.alloc (by omega) _).drew)) hlp hlt).mono ?_; rintro e w5 ⟨⟨a, n, c, a', n', c', rfl⟩, hb5⟩; have HA5 := hid (block_later (block_later' HA.out ((Below.refl _ _).alloc (Nat.le_refl _) _)) hb5); have HR5 := hid (block_later (block_later' HR.out ((Below.refl _ _).alloc (Nat.le_refl _) _)) hb5); have HQ5 := hid (block_later (heap_alloc_new w1 _) hb5); obtain ⟨e0, e1, e2, e3, e4, e5, e6, e7, e8, e9⟩ := ten_cells HA5.out; obtain ⟨r0, r1, r2, r3, r4, r5, r6, r7, f0, f1, f2, f3, f4, f5, f6, f7⟩ := eight_cells HQ5.out; have hlt5 : w.heap.size < w5.heap.size := World.block_lt_of_cell? w5 ⟨w.heap.size, 0, none⟩ e0; have hn5 : w.heap.size ≠ w5.heap.size := Nat.ne_of_lt hlt5; have hn5' : w5.heap.size ≠ w.heap.size := Ne.symm hn5; have HB5 := hid (((HB.out.alloc (by omega) _).drew).trans (hb5.mono (by have := HB.out.size; simp; omega))); clear hb5)))
    · go_wp2_with fail
      go_meet
      refine ⟨w5.heap.size, a, n, c, a', n', c', rfl, heap_alloc_new w5 _, ?_, block_later' HA5.out ((Below.refl _ _).alloc (Nat.le_refl _) _), block_later' HR5.out ((Below.refl _ _).alloc (Nat.le_refl _) _), HB5.out.alloc (Nat.le_of_lt hlt5) _⟩
      have := gt_of HR5.out
      omega
    · go_wp2_with fail
      go_meet
      have hq : w.heap.size + 1 < w1.heap.size := gt_of HR.out
      refine ⟨w1.heap.size, a, n, c, a', n', c', rfl, eight_set HQ5.out, by omega, ?_, ?_, ?_⟩
      · exact (far_set8 (by omega)).trans HA5.out
      · exact (far_set8 (by omega)).trans HR5.out
      · exact (((((((HB5.out.setCell (by simp; omega) _).setCell (by simp; omega) _).setCell (by simp; omega) _).setCell (by simp; omega) _).setCell (by simp; omega) _).setCell (by simp; omega) _).setCell (by simp; omega) _).setCell (by simp; omega) _
  case rest =>
    obtain ⟨q, a, n, c, a', n', c', rfl, HQ, hqn, HA2, HR2, HB2⟩ := hcut
    obtain ⟨d0, d1, d2, d3, d4, d5, d6, d7, d8, d9⟩ := ten_cells HA2.out
    obtain ⟨r0, r1, r2, r3, r4, r5, r6, r7, f0, f1, f2, f3, f4, f5, f6, f7⟩ := eight_cells HQ.out
    obtain ⟨z0, z1, z2, z3, z4, z5, z6, z7, z8, z9, z10, y0, y1, y2, y3, y4, y5, y6, y7, y8, y9, y10⟩ := eleven_cells HR2.out
    clear k0 k1 k2 k3 k4 k5 k6 k7 k8 k9 f0 f1 f2 f3 f4 f5 f6 f7
    go_wp2_with fail
    exact bodyPost_ret (v := .agg #[.string hh, .string ch, .slice a n c, .string tr, .string ms, .slice a' n' c', .string ⟨#[]⟩, .string ci, .bool mg, .bool co, .string ti]) (by simp [results, Try.results25, go_sem, z0, z1, z2, z3, z4, z5, z6, z7, z8, z9, z10]) rfl ⟨⟨a, n, c, a', n', c', rfl⟩, (((((((((((HB2.out.setCell (by simp) _).setCell (by simp) _).setCell (by simp) _).setCell (by simp) _).setCell (by simp) _).setCell (by simp) _).setCell (by simp) _).setCell (by simp) _).setCell (by simp) _).setCell (by simp) _).setCell (by simp) _)⟩
end Go.Proofs.Qxb6601837a.Se
