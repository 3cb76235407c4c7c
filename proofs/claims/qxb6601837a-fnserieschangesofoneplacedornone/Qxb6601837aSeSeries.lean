import Derived.Test.Qxb6601837aSeChanges
set_option linter.unusedVariables false
namespace Go.Proofs.Qxb6601837a.Se
open Go.RowKit

set_option maxRecDepth 100000 in
set_option maxHeartbeats 2000000 in
theorem series_none (ad : Option Addr) (cap : Nat) (w : World) :
    Calls Try.prog 24 #[.slice ad 0 cap] w fun e w' => e = .returned (.slice none 0 0) ∧ Below w.heap.size w w' := by
  go_enter Try.func24, Try.ntmps24
  go_wp2_with fail
  refine wp_loop_rounds 1 ?_
  rw [rounds_succ]
  go_wp2_with fail
  refine (changes_none w.heap.size 0 _ _ (by have h := box_below w (.cells #[.slice none 0 0] 28) (.cells #[.slice none 0 0] 23); simp only [World.cell?]; rw [h]; rfl)).mono ?_
  rintro e w' ⟨rfl, rfl⟩
  go_wp2
  go_ret
  exact ⟨rfl, ((Below.refl _ _).alloc (Nat.le_refl _) _).alloc (by simp) _⟩

set_option maxRecDepth 100000 in
set_option maxHeartbeats 2000000 in
theorem series_comp (g : Nat) (hh ch tr ms au ci ti : ByteArray) (a a' : Option Addr) (n c n' c' : Nat) (mg : Bool) (w : World)
    (h : w.heap[g]? = some (.cells #[.string hh, .string ch, .slice a n c, .string tr, .string ms, .slice a' n' c', .string au, .string ci, .bool mg, .bool true, .string ti] 62 (0, 0))) :
    Calls Try.prog 24 #[.slice (some ⟨g, 0, none⟩) 1 1] w fun e w' => e = .returned (.slice none 0 0) ∧ Below w.heap.size w w' := by
  obtain ⟨z0, z1, z2, z3, z4, z5, z6, z7, z8, z9, z10, _⟩ := eleven_cells h
  clear h
  go_enter Try.func24, Try.ntmps24
  go_wp2_with fail
  refine wp_loop_rounds 2 ?_
  rw [rounds_succ]
  go_wp2_with fail
  rw [rounds_succ]
  go_wp2_with fail
  have hb : Below w.heap.size w (w.alloc (.cells #[.string hh, .string ch, .slice a n c, .string tr, .string ms, .slice a' n' c', .string au, .string ci, .bool mg, .bool true, .string ti] 62)) := (Below.refl _ _).alloc (Nat.le_refl _) _
  have HB := hid hb
  clear hb
  have hsz : (w.alloc (.cells #[.string hh, .string ch, .slice a n c, .string tr, .string ms, .slice a' n' c', .string au, .string ci, .bool mg, .bool true, .string ti] 62)).heap.size = w.heap.size + 1 := by simp
  have HSZ := hid hsz
  clear hsz
  generalize w.alloc (.cells #[.string hh, .string ch, .slice a n c, .string tr, .string ms, .slice a' n' c', .string au, .string ci, .bool mg, .bool true, .string ti] 62) = w1 at HB HSZ
  refine (changes_none (w.heap.size + 1) 0 _ _ (by have h := box_below w1 (.cells #[.slice none 0 0] 28) (.cells #[.slice none 0 0] 23); rw [HSZ.out] at h; simp only [World.cell?]; rw [h]; rfl)).mono ?_
  rintro e w' ⟨rfl, rfl⟩
  go_wp2
  go_ret
  exact ⟨rfl, (HB.out.alloc (by have := HSZ.out; omega) _).alloc (by have := HSZ.out; simp; omega) _⟩

theorem Try.info36 : (Try.prog.info? 36).map (fun i => (i.zero, i.size, i.bytes)) = some (some (.agg #[.string ⟨#[]⟩, .slice none 0 0, .string ⟨#[]⟩, .string ⟨#[]⟩, .slice none 0 0, .string ⟨#[]⟩, .slice none 0 0, .string ⟨#[]⟩, .bool false, .string ⟨#[]⟩]), 10, 176) := by kernel_rfl

/-- nil where the change is none, else the one change -/
def SeriesPost (ci ch hh : ByteArray) (w : World) (e : Ending) : Prop :=
  ((ci = ⟨#[]⟩ ∨ ch = hh) ∧ e = .returned (.slice none 0 0)) ∨ (ci ≠ ⟨#[]⟩ ∧ ch ≠ hh ∧ NewOne ci ch hh w e)

theorem take_get {cur : Array Value} {k : Nat} {xs : List Value} (h : cur.toList.take k = xs) (i : Nat) (hi : i < k) : cur[i]? = xs[i]? := by
  rw [← h]; simp [hi]

theorem row_block {w : World} {base e size g n cap : Nat} {xs : List Value} (h : w.ownsRow base e size (.slice (some ⟨g, 0, none⟩) n cap) n xs) :
    ∃ cur, w.heap[g]? = some (.cells cur e (0, 0)) ∧ ∀ i, i < n * size → cur[i]? = xs[i]? := by
  rcases h.2 with ⟨h', _⟩ | ⟨g', cap', cur, h', _, hg, _, _, _, htake⟩
  · simp at h'
  · simp only [Value.slice.injEq, Option.some.injEq, Addr.mk.injEq, and_true, true_and] at h'
    obtain ⟨rfl, rfl⟩ := h'
    exact ⟨cur, hg, fun i hi => take_get htake i hi⟩

set_option maxRecDepth 100000 in
set_option maxHeartbeats 4000000 in
theorem series_one (g : Nat) (hh ch tr ms au ci ti : ByteArray) (a a' : Option Addr) (n c n' c' : Nat) (mg : Bool) (w : World)
    (h : w.heap[g]? = some (.cells #[.string hh, .string ch, .slice a n c, .string tr, .string ms, .slice a' n' c', .string au, .string ci, .bool mg, .bool false, .string ti] 62 (0, 0))) :
    Calls Try.prog 24 #[.slice (some ⟨g, 0, none⟩) 1 1] w fun e w' => SeriesPost ci ch hh w' e ∧ Below w.heap.size w w' := by
  obtain ⟨z0, z1, z2, z3, z4, z5, z6, z7, z8, z9, z10, _⟩ := eleven_cells h
  clear h
  obtain ⟨i36, hi36, hy0, hy1, hy2⟩ := info_parts Try.info36
  obtain ⟨i9, hi9, hx0, hx1, hx2⟩ := info_parts Try.info9
  have HI36 := hid hi36
  have HI9 := hid hi9
  clear hi36 hi9
  go_enter Try.func24, Try.ntmps24
  go_wp2_with fail
  refine wp_loop_rounds 2 ?_
  rw [rounds_succ]
  go_wp2_with fail
  refine (pick_any _ _ _ _ _ _ _ _ _ _ _ _ _).mono ?_
  rintro e w2 ⟨rfl, hb2⟩
  have m0 : w2.cell? ⟨w.heap.size, 0, none⟩ = some (.string hh) := (hb2.cell (by simp)).trans (cell_box w _ 62 0 _ rfl)
  have HB2 : Hid (Below w.heap.size w w2) := ((Below.refl _ _).alloc (Nat.le_refl _) _).trans (hb2.mono (by simp))
  have bw : w.heap.size < w2.heap.size := World.block_lt_of_cell? w2 ⟨w.heap.size, 0, none⟩ m0
  clear hb2 z0 z1 z2 z3 z4 z5 z6 z7 z8 z9 z10
  go_wp2_with (first | (at_builtin; refine wpList_append_own _ rfl (.tmp 16) (.tmp 20) 28 rfl w2.heap.size 36 i36 _ 10 176 Try.underlying28 HI36.out hy0 hy1 hy2 rfl (by decide) (.slice none 0 0) 0 [] rfl (World.ownsRow_nil _ _ _ _) ⟨w2.heap.size, 0, none⟩ 1 1 [.string ch, .slice a n c, .string tr, .string ms, .slice a' n' c', .string au, .slice none 0 0, .string ci, .bool false, .string ⟨#[]⟩] rfl rfl (World.news_of_block (heap_alloc_new w2 _)) (by simp [Value.oneCell']) (by unfold maxLen; omega) (by omega) (by simp) ?_; intro v w3 ho hg hx; clear hx; obtain ⟨g3, cap3, rfl, hlo3, hlt3⟩ := ho.form (by omega); have HBa : Hid (Below w2.heap.size w2 w3) := ((Below.refl _ _).alloc (Nat.le_refl _) _).grown hg (by simp) (fun k hk => by cases hk); have HO3 := hid ho; clear ho hg; have m3 : w3.cell? ⟨w.heap.size, 0, none⟩ = some (.string hh) := (HBa.out.cell (by exact bw)).trans m0; clear m0) | (at_builtin; refine wpList_append_own _ rfl (.tmp 22) (.tmp 25) 23 rfl w3.heap.size 9 i9 _ 1 16 Try.underlying23 HI9.out hx0 hx1 hx2 rfl (by decide) (.slice none 0 0) 0 [] rfl (World.ownsRow_nil _ _ _ _) ⟨w3.heap.size, 0, none⟩ 1 1 [.string hh] rfl rfl (World.news_of_block (heap_alloc_new w3 _)) (by simp [Value.oneCell']) (by unfold maxLen; omega) (by omega) (by simp) ?_; intro v w4 ho hg hx; clear hx; obtain ⟨g4, cap4, rfl, hlo4, hlt4⟩ := ho.form (by omega); have HBb : Hid (Below w3.heap.size w3 w4) := ((Below.refl _ _).alloc (Nat.le_refl _) _).grown hg (by simp) (fun k hk => by cases hk); have HO4 := hid ho; clear ho hg))
  rw [rounds_succ]
  go_wp2_with fail
  have hC : Below w4.heap.size w4 ((w4.alloc (.cells #[.slice (some ⟨g3, 0, none⟩) 1 cap3] 28)).alloc (.cells #[.slice (some ⟨g4, 0, none⟩) 1 cap4] 23)) := ((Below.refl _ _).alloc (Nat.le_refl _) _).alloc (by simp) _
  have hrow : OneRow ((w4.alloc (.cells #[.slice (some ⟨g3, 0, none⟩) 1 cap3] 28)).alloc (.cells #[.slice (some ⟨g4, 0, none⟩) 1 cap4] 23)) w4.heap.size g3 (w4.heap.size + 1) g4 cap3 cap4 ch tr ms au ci hh a a' n c n' c' := by
    obtain ⟨c3, hc3, hv3⟩ := row_block HO3.out
    obtain ⟨c4, hc4, hv4⟩ := row_block HO4.out
    exact ⟨box_below w4 _ _, ⟨c3, block_later' (block_later' hc3 HBb.out) hC, hv3 0 (by omega), hv3 1 (by omega), hv3 2 (by omega), hv3 3 (by omega), hv3 4 (by omega), hv3 5 (by omega), hv3 6 (by omega), hv3 7 (by omega), hv3 8 (by omega), hv3 9 (by omega)⟩, box_above w4 _ _, ⟨c4, block_later' hc4 hC, hv4 0 (by omega)⟩⟩
  have HB4 : Hid (Below w.heap.size w w4) := (HB2.out.trans (HBa.out.mono HB2.out.size)).trans (HBb.out.mono (Nat.le_trans HB2.out.size HBa.out.size))
  have HB5 : Hid (Below w.heap.size w ((w4.alloc (.cells #[.slice (some ⟨g3, 0, none⟩) 1 cap3] 28)).alloc (.cells #[.slice (some ⟨g4, 0, none⟩) 1 cap4] 23))) := HB4.out.trans (hC.mono HB4.out.size)
  by_cases hno : ci = ⟨#[]⟩ ∨ ch = hh
  · refine (changes_same _ _ _ _ _ _ _ _ _ _ _ _ _ _ _ _ _ _ _ hrow hno).mono ?_
    rintro e w6 ⟨rfl, hb6⟩
    have HB6 : Hid (Below w.heap.size w w6) := HB5.out.trans (hb6.mono HB5.out.size)
    clear hb6 hrow hC
    go_wp2_with fail
    go_ret
    exact ⟨Or.inl ⟨hno, rfl⟩, HB6.out⟩
  · have hn1 : ci ≠ ⟨#[]⟩ := fun e => hno (Or.inl e)
    have hn2 : ch ≠ hh := fun e => hno (Or.inr e)
    refine (changes_new _ _ _ _ _ _ _ _ _ _ _ _ _ _ _ _ _ _ _ hrow hn1 hn2).mono ?_
    rintro e w6 ⟨⟨q, cap, rfl, hq⟩, hb6⟩
    have HB6 : Hid (Below w.heap.size w w6) := HB5.out.trans (hb6.mono HB5.out.size)
    clear hb6 hrow hC
    have HQ := hid hq
    clear hq
    go_wp2_with fail
    go_ret
    exact ⟨Or.inr ⟨hn1, hn2, q, cap, rfl, HQ.out⟩, HB6.out⟩
end Go.Proofs.Qxb6601837a.Se
