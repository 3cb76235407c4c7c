import Derived.Test.Qxb6601528aFxRngR
set_option linter.unusedVariables false
namespace Go.Proofs.Qxb6601528a.Fx
open Go.RowKit
attribute [local go_sem ↓] Go.wp_at_zero Go.wp_at_succ

set_option maxHeartbeats 4000000 in
set_option maxRecDepth 100000 in
theorem rep_m (b off : Nat) (x : Int) (w : World) (sub : Option Addr) (mn mx tlo thi : Int) (tbig : Bool) (hx : 1 ≤ x) (hxm : x ≤ 65537)
    (hm : 0 ≤ mn) (hm1 : mn ≤ 9223372036854775807) (hx0 : -9223372036854775808 ≤ mx) (hx1 : mx ≤ 9223372036854775807) (hmx : 0 ≤ mx → mn ≤ mx) (hin : In ⟨tlo, thi, false, tbig, true⟩)
    (c0 : w.cell? ⟨b, off, none⟩ = some (.int .u8 6)) (c1 : w.cell? ⟨b, off + 1, none⟩ = some (.pointer sub)) (c3 : w.cell? ⟨b, off + 3, none⟩ = some (.int .i64 mn)) (c4 : w.cell? ⟨b, off + 4, none⟩ = some (.int .i64 mx))
    (ih : ∀ wr : World, Below w.heap.size w wr → Calls Try.prog 8 #[.pointer sub, .int .i64 (x - 1)] wr fun e w' => RngPost ⟨tlo, thi, false, tbig, true⟩ e ∧ Below wr.heap.size wr w')
    (h0 : ¬ mx = 0) (h1 : ¬ thi = 0) (h3 : ¬ mx < 0) :
    Calls Try.prog 8 #[.pointer (some ⟨b, off, none⟩), .int .i64 x] w fun e w' => RngPost (finS (repS mn mx ⟨tlo, thi, false, tbig, true⟩)) e ∧ Below w.heap.size w w' := by
  have hlt := World.block_lt_of_cell? w _ c0
  simp only at hlt
  have HRS : Hid (repS mn mx ⟨tlo, thi, false, tbig, true⟩ = ⟨satM mn tlo, (satM mx thi), false, tbig, true⟩) := by
    show _ = _
    unfold repS repHi repInf repDeg fixedS
    simp [h0, h1, h3]
  have HIR := hid (repS_in hm hmx hin)
  rw [HRS.out] at HIR
  have h0' : (mx == 0) = false := by simp [h0]
  have h1' : (thi == 0) = false := by simp [h1]
  have IH := hid ih
  obtain ⟨i1, i2, i3, i4, i5⟩ := hin
  simp only at i1 i2 i3 i4
  clear ih i5 hmx h0 h1
  go_enter Try.func8, Try.ntmps8
  go_wp2_with fail
  have HT := hid (two_start w _ rfl)
  refine (IH.out _ HT.out.2.2.1).mono ?_
  rintro e w1 ⟨rfl, hb1⟩
  have HT1 := hid (HT.out.later hb1)
  have hsz1 : w.heap.size + 1 < w1.heap.size := HT1.out.2.2.2
  have HT2 := hid (HT1.out.alloc (boxO ⟨tlo, thi, false, tbig, true⟩))
  have HX2 : Hid ((w1.alloc (boxO ⟨tlo, thi, false, tbig, true⟩)).heap[w1.heap.size]? = some (boxO ⟨tlo, thi, false, tbig, true⟩)) := heap_alloc_new w1 _
  have hmul := fun wx => satMul_any mn tlo wx hm hm1 i1 i2
  have HMUL := hid hmul
  clear hmul c1 hb1 HT IH HT1
  go_wp2_with fail
  have hTT : w.heap.size + 2 ≤ w1.heap.size := hsz1
  clear hsz1
  change Hid (Two w.heap.size zero w (w1.alloc (.cells #[Value.int IntKind.i64 tlo, Value.int IntKind.i64 thi, Value.bool false, Value.bool tbig, Value.bool true] 26))) at HT2
  change Hid ((w1.alloc (.cells #[Value.int IntKind.i64 tlo, Value.int IntKind.i64 thi, Value.bool false, Value.bool tbig, Value.bool true] 26)).heap[w1.heap.size]? = _) at HX2
  generalize (w1.alloc (.cells #[Value.int IntKind.i64 tlo, Value.int IntKind.i64 thi, Value.bool false, Value.bool tbig, Value.bool true] 26)) = w2 at *
  generalize w1.heap.size = TT at *
  have n1 : b ≠ w.heap.size + 1 := by omega
  have n2 : TT ≠ w.heap.size + 1 := by omega
  have d3 : w2.cell? ⟨b, off + 3, none⟩ = some (.int .i64 mn) := (HT2.out.2.2.1.cell (by exact hlt)).trans c3
  obtain ⟨s0, s1, s2, s3, s4, sf⟩ := box_cells HT2.out.2.1
  obtain ⟨t0, t1, t2, t3, t4, tf⟩ := box_cells HX2.out
  simp only [zero] at s0 s1 s2 s3 s4 t0 t1 t2 t3 t4
  have k3 : ∀ i v, (w2.setCell ⟨w.heap.size + 1, i, none⟩ v).cell? ⟨b, off + 3, none⟩ = some (.int .i64 mn) := fun i v => (kept _ _ _ _ _ _ n1).trans d3
  have kt : ∀ i v, (w2.setCell ⟨w.heap.size + 1, i, none⟩ v).cell? ⟨TT, 0, none⟩ = some (.int .i64 tlo) := fun i v => (kept _ _ _ _ _ _ n2).trans t0
  go_region_held3 (fun w' => w'.cell? ⟨b, off + 3, none⟩ = some (.int .i64 mn) ∧ w'.cell? ⟨TT, 0, none⟩ = some (.int .i64 tlo)) (go_keep) ((first | (go_at_call 21; refine (HMUL.out _).mono ?_; rintro e w' ⟨rfl, rfl⟩)))
  have HR3 : Hid (Rep w.heap.size ⟨satM mn tlo, 0, false, false, false⟩ ⟨tlo, thi, false, tbig, true⟩ TT w (w2.setCell ⟨w.heap.size + 1, 0, none⟩ (.int .i64 (satM mn tlo))).drew) :=
    ((show Rep w.heap.size zero ⟨tlo, thi, false, tbig, true⟩ TT w w2 from ⟨HT2.out, HX2.out, hTT⟩).set (s' := ⟨satM mn tlo, 0, false, false, false⟩) 0 _ rfl).drew
  generalize (w2.setCell ⟨w.heap.size + 1, 0, none⟩ (.int .i64 (satM mn tlo))).drew = w3 at *
  clear HT2 HX2 d3 s0 s1 s2 s3 s4 sf t0 t1 t2 t3 t4 tf k3 kt HMUL
  rename_i hheld
  clear hheld
  generalize satM mn tlo = slo at *
  have d3 : w3.cell? ⟨b, off + 3, none⟩ = some (.int .i64 mn) := (HR3.out.1.2.2.1.cell (by exact hlt)).trans c3
  have d4 : w3.cell? ⟨b, off + 4, none⟩ = some (.int .i64 mx) := (HR3.out.1.2.2.1.cell (by exact hlt)).trans c4
  obtain ⟨s0, s1, s2, s3, s4, sf⟩ := box_cells HR3.out.1.2.1
  obtain ⟨t0, t1, t2, t3, t4, tf⟩ := box_cells HR3.out.2.1
  simp only at s0 s1 s2 s3 s4 t0 t1 t2 t3 t4
  have hmul := fun wx => satMul_any mx thi wx (by omega) hx1 i3 i4
  have HMUL := hid hmul
  have k4 : ∀ i v, (w3.setCell ⟨w.heap.size + 1, i, none⟩ v).cell? ⟨b, off + 4, none⟩ = some (.int .i64 mx) := fun i v => (kept _ _ _ _ _ _ n1).trans d4
  have kt : ∀ i v, (w3.setCell ⟨w.heap.size + 1, i, none⟩ v).cell? ⟨TT, 1, none⟩ = some (.int .i64 thi) := fun i v => (kept _ _ _ _ _ _ n2).trans t1
  clear hmul
  go_wp2_with fail
  go_region_held3 (fun w' => w'.cell? ⟨b, off + 4, none⟩ = some (.int .i64 mx) ∧ w'.cell? ⟨TT, 1, none⟩ = some (.int .i64 thi)) (go_keep) ((first | (go_at_call 21; refine (HMUL.out _).mono ?_; rintro e w' ⟨rfl, rfl⟩)))
  generalize satM mx thi = shi at *
  have HR4 := hid (HR3.out.set (s' := ⟨slo, shi, false, false, false⟩) 1 (.int .i64 shi) rfl).drew
  generalize (w3.setCell ⟨w.heap.size + 1, 1, none⟩ (.int .i64 shi)).drew = w4 at *
  clear HR3 d3 d4 s0 s1 s2 s3 s4 sf t0 t1 t2 t3 t4 tf k4 kt HMUL
  rename_i hheld
  clear hheld
  have d3 : w4.cell? ⟨b, off + 3, none⟩ = some (.int .i64 mn) := (HR4.out.1.2.2.1.cell (by exact hlt)).trans c3
  have d4 : w4.cell? ⟨b, off + 4, none⟩ = some (.int .i64 mx) := (HR4.out.1.2.2.1.cell (by exact hlt)).trans c4
  obtain ⟨s0, s1, s2, s3, s4, sf⟩ := box_cells HR4.out.1.2.1
  obtain ⟨t0, t1, t2, t3, t4, tf⟩ := box_cells HR4.out.2.1
  simp only at s0 s1 s2 s3 s4 t0 t1 t2 t3 t4
  clear c0 c3 c4
  go_wp2_with fail
  go_region
  have HRE := hid (((HR4.out.set (s' := ⟨slo, shi, false, tbig, false⟩) 3 (.bool tbig) rfl).set (s' := ⟨slo, shi, false, tbig, true⟩) 4 (.bool true) rfl).drew)
  have HT := hid HRE.out.1
  have hsz : w.heap.size + 2 ≤ _ := HT.out.2.2.2
  clear HRE d3 d4 s0 s1 s2 s3 s4 sf t0 t1 t2 t3 t4 tf
  revert HT hsz
  generalize World.drew _ = wr
  intro HT hsz
  have HG := HRS
  clear HRS
  obtain ⟨r0, r1, r2, r3, r4, rf⟩ := box_cells HT.out.1
  obtain ⟨s0, s1, s2, s3, s4, sf⟩ := box_cells HT.out.2.1
  obtain ⟨i1, i2, i3, i4, i5⟩ := HIR.out
  have HB := hid HT.out.2.2.1
  clear i5 HT HIR
  have hsz1 : w.heap.size + 1 < wr.heap.size := hsz
  have hsz0 : w.heap.size < wr.heap.size := by omega
  simp only [zero] at r0 r1 r2 r3 r4
  simp only at s0 s1 s2 s3 s4 i1 i2 i3 i4
  by_cases h1 : 1073741824 < slo
  · have HFN : Hid (finS ⟨slo, shi, false, tbig, true⟩ = ⟨slo, shi, false, true, true⟩) := by show _ = _; rw [finS, if_pos (Or.inl h1)]
    go_wp2_with fail
    exact bodyPost_ret (v := .agg #[.int .i64 slo, .int .i64 shi, .bool false, .bool true, .bool true]) (by simp [results, Try.results8, go_sem, r0, r1, r2, r3, r4]) rfl ⟨by rw [HG.out, HFN.out]; rfl, ((((((HB.out.setCell (by show w.heap.size ≤ w.heap.size + 1; omega) _).setCell (Nat.le_refl _) _).setCell (Nat.le_refl _) _).setCell (Nat.le_refl _) _).setCell (Nat.le_refl _) _).setCell (Nat.le_refl _) _)⟩
  · by_cases h2 : 1073741824 < shi
    · have HFN : Hid (finS ⟨slo, shi, false, tbig, true⟩ = ⟨slo, shi, false, true, true⟩) := by show _ = _; rw [finS, if_pos (Or.inr ⟨rfl, h2⟩)]
      go_wp2_with fail
      exact bodyPost_ret (v := .agg #[.int .i64 slo, .int .i64 shi, .bool false, .bool true, .bool true]) (by simp [results, Try.results8, go_sem, r0, r1, r2, r3, r4]) rfl ⟨by rw [HG.out, HFN.out]; rfl, ((((((HB.out.setCell (by show w.heap.size ≤ w.heap.size + 1; omega) _).setCell (Nat.le_refl _) _).setCell (Nat.le_refl _) _).setCell (Nat.le_refl _) _).setCell (Nat.le_refl _) _).setCell (Nat.le_refl _) _)⟩
    · have HFN : Hid (finS ⟨slo, shi, false, tbig, true⟩ = ⟨slo, shi, false, tbig, true⟩) := by
        show _ = _
        rw [finS, if_neg (by rintro (h | ⟨_, h⟩) <;> simp only at h <;> omega)]
      go_wp2_with fail
      exact bodyPost_ret (v := .agg #[.int .i64 slo, .int .i64 shi, .bool false, .bool tbig, .bool true]) (by simp [results, Try.results8, go_sem, r0, r1, r2, r3, r4]) rfl ⟨by rw [HG.out, HFN.out]; rfl, (((((HB.out.setCell (Nat.le_refl _) _).setCell (Nat.le_refl _) _).setCell (Nat.le_refl _) _).setCell (Nat.le_refl _) _).setCell (Nat.le_refl _) _)⟩

set_option maxHeartbeats 4000000 in
set_option maxRecDepth 100000 in
theorem rep_n (b off : Nat) (x : Int) (w : World) (sub : Option Addr) (mn mx tlo thi : Int) (tbig : Bool) (hx : 1 ≤ x) (hxm : x ≤ 65537)
    (hm : 0 ≤ mn) (hm1 : mn ≤ 9223372036854775807) (hx0 : -9223372036854775808 ≤ mx) (hx1 : mx ≤ 9223372036854775807) (hmx : 0 ≤ mx → mn ≤ mx) (hin : In ⟨tlo, thi, false, tbig, false⟩)
    (c0 : w.cell? ⟨b, off, none⟩ = some (.int .u8 6)) (c1 : w.cell? ⟨b, off + 1, none⟩ = some (.pointer sub)) (c3 : w.cell? ⟨b, off + 3, none⟩ = some (.int .i64 mn)) (c4 : w.cell? ⟨b, off + 4, none⟩ = some (.int .i64 mx))
    (ih : ∀ wr : World, Below w.heap.size w wr → Calls Try.prog 8 #[.pointer sub, .int .i64 (x - 1)] wr fun e w' => RngPost ⟨tlo, thi, false, tbig, false⟩ e ∧ Below wr.heap.size wr w')
    (h0 : ¬ mx = 0) (h1 : ¬ thi = 0) (h3 : ¬ mx < 0) :
    Calls Try.prog 8 #[.pointer (some ⟨b, off, none⟩), .int .i64 x] w fun e w' => RngPost (finS (repS mn mx ⟨tlo, thi, false, tbig, false⟩)) e ∧ Below w.heap.size w w' := by
  have hlt := World.block_lt_of_cell? w _ c0
  simp only at hlt
  have HRS : Hid (repS mn mx ⟨tlo, thi, false, tbig, false⟩ = ⟨satM mn tlo, (satM mx thi), false, tbig, false⟩) := by
    show _ = _
    unfold repS repHi repInf repDeg fixedS
    simp [h0, h1, h3]
  have HIR := hid (repS_in hm hmx hin)
  rw [HRS.out] at HIR
  have h0' : (mx == 0) = false := by simp [h0]
  have h1' : (thi == 0) = false := by simp [h1]
  have IH := hid ih
  obtain ⟨i1, i2, i3, i4, i5⟩ := hin
  simp only at i1 i2 i3 i4
  clear ih i5 hmx h0 h1
  go_enter Try.func8, Try.ntmps8
  go_wp2_with fail
  have HT := hid (two_start w _ rfl)
  refine (IH.out _ HT.out.2.2.1).mono ?_
  rintro e w1 ⟨rfl, hb1⟩
  have HT1 := hid (HT.out.later hb1)
  have hsz1 : w.heap.size + 1 < w1.heap.size := HT1.out.2.2.2
  have HT2 := hid (HT1.out.alloc (boxO ⟨tlo, thi, false, tbig, false⟩))
  have HX2 : Hid ((w1.alloc (boxO ⟨tlo, thi, false, tbig, false⟩)).heap[w1.heap.size]? = some (boxO ⟨tlo, thi, false, tbig, false⟩)) := heap_alloc_new w1 _
  have hmul := fun wx => satMul_any mn tlo wx hm hm1 i1 i2
  have HMUL := hid hmul
  clear hmul c1 hb1 HT IH HT1
  go_wp2_with fail
  have hTT : w.heap.size + 2 ≤ w1.heap.size := hsz1
  clear hsz1
  change Hid (Two w.heap.size zero w (w1.alloc (.cells #[Value.int IntKind.i64 tlo, Value.int IntKind.i64 thi, Value.bool false, Value.bool tbig, Value.bool false] 26))) at HT2
  change Hid ((w1.alloc (.cells #[Value.int IntKind.i64 tlo, Value.int IntKind.i64 thi, Value.bool false, Value.bool tbig, Value.bool false] 26)).heap[w1.heap.size]? = _) at HX2
  generalize (w1.alloc (.cells #[Value.int IntKind.i64 tlo, Value.int IntKind.i64 thi, Value.bool false, Value.bool tbig, Value.bool false] 26)) = w2 at *
  generalize w1.heap.size = TT at *
  have n1 : b ≠ w.heap.size + 1 := by omega
  have n2 : TT ≠ w.heap.size + 1 := by omega
  have d3 : w2.cell? ⟨b, off + 3, none⟩ = some (.int .i64 mn) := (HT2.out.2.2.1.cell (by exact hlt)).trans c3
  obtain ⟨s0, s1, s2, s3, s4, sf⟩ := box_cells HT2.out.2.1
  obtain ⟨t0, t1, t2, t3, t4, tf⟩ := box_cells HX2.out
  simp only [zero] at s0 s1 s2 s3 s4 t0 t1 t2 t3 t4
  have k3 : ∀ i v, (w2.setCell ⟨w.heap.size + 1, i, none⟩ v).cell? ⟨b, off + 3, none⟩ = some (.int .i64 mn) := fun i v => (kept _ _ _ _ _ _ n1).trans d3
  have kt : ∀ i v, (w2.setCell ⟨w.heap.size + 1, i, none⟩ v).cell? ⟨TT, 0, none⟩ = some (.int .i64 tlo) := fun i v => (kept _ _ _ _ _ _ n2).trans t0
  go_region_held3 (fun w' => w'.cell? ⟨b, off + 3, none⟩ = some (.int .i64 mn) ∧ w'.cell? ⟨TT, 0, none⟩ = some (.int .i64 tlo)) (go_keep) ((first | (go_at_call 21; refine (HMUL.out _).mono ?_; rintro e w' ⟨rfl, rfl⟩)))
  have HR3 : Hid (Rep w.heap.size ⟨satM mn tlo, 0, false, false, false⟩ ⟨tlo, thi, false, tbig, false⟩ TT w (w2.setCell ⟨w.heap.size + 1, 0, none⟩ (.int .i64 (satM mn tlo))).drew) :=
    ((show Rep w.heap.size zero ⟨tlo, thi, false, tbig, false⟩ TT w w2 from ⟨HT2.out, HX2.out, hTT⟩).set (s' := ⟨satM mn tlo, 0, false, false, false⟩) 0 _ rfl).drew
  generalize (w2.setCell ⟨w.heap.size + 1, 0, none⟩ (.int .i64 (satM mn tlo))).drew = w3 at *
  clear HT2 HX2 d3 s0 s1 s2 s3 s4 sf t0 t1 t2 t3 t4 tf k3 kt HMUL
  rename_i hheld
  clear hheld
  generalize satM mn tlo = slo at *
  have d3 : w3.cell? ⟨b, off + 3, none⟩ = some (.int .i64 mn) := (HR3.out.1.2.2.1.cell (by exact hlt)).trans c3
  have d4 : w3.cell? ⟨b, off + 4, none⟩ = some (.int .i64 mx) := (HR3.out.1.2.2.1.cell (by exact hlt)).trans c4
  obtain ⟨s0, s1, s2, s3, s4, sf⟩ := box_cells HR3.out.1.2.1
  obtain ⟨t0, t1, t2, t3, t4, tf⟩ := box_cells HR3.out.2.1
  simp only at s0 s1 s2 s3 s4 t0 t1 t2 t3 t4
  have hmul := fun wx => satMul_any mx thi wx (by omega) hx1 i3 i4
  have HMUL := hid hmul
  have k4 : ∀ i v, (w3.setCell ⟨w.heap.size + 1, i, none⟩ v).cell? ⟨b, off + 4, none⟩ = some (.int .i64 mx) := fun i v => (kept _ _ _ _ _ _ n1).trans d4
  have kt : ∀ i v, (w3.setCell ⟨w.heap.size + 1, i, none⟩ v).cell? ⟨TT, 1, none⟩ = some (.int .i64 thi) := fun i v => (kept _ _ _ _ _ _ n2).trans t1
  clear hmul
  go_wp2_with fail
  go_region_held3 (fun w' => w'.cell? ⟨b, off + 4, none⟩ = some (.int .i64 mx) ∧ w'.cell? ⟨TT, 1, none⟩ = some (.int .i64 thi)) (go_keep) ((first | (go_at_call 21; refine (HMUL.out _).mono ?_; rintro e w' ⟨rfl, rfl⟩)))
  generalize satM mx thi = shi at *
  have HR4 := hid (HR3.out.set (s' := ⟨slo, shi, false, false, false⟩) 1 (.int .i64 shi) rfl).drew
  generalize (w3.setCell ⟨w.heap.size + 1, 1, none⟩ (.int .i64 shi)).drew = w4 at *
  clear HR3 d3 d4 s0 s1 s2 s3 s4 sf t0 t1 t2 t3 t4 tf k4 kt HMUL
  rename_i hheld
  clear hheld
  have d3 : w4.cell? ⟨b, off + 3, none⟩ = some (.int .i64 mn) := (HR4.out.1.2.2.1.cell (by exact hlt)).trans c3
  have d4 : w4.cell? ⟨b, off + 4, none⟩ = some (.int .i64 mx) := (HR4.out.1.2.2.1.cell (by exact hlt)).trans c4
  obtain ⟨s0, s1, s2, s3, s4, sf⟩ := box_cells HR4.out.1.2.1
  obtain ⟨t0, t1, t2, t3, t4, tf⟩ := box_cells HR4.out.2.1
  simp only at s0 s1 s2 s3 s4 t0 t1 t2 t3 t4
  clear c0 c3 c4
  go_wp2_with fail
  go_region
  have HRE := hid (((HR4.out.set (s' := ⟨slo, shi, false, tbig, false⟩) 3 (.bool tbig) rfl).set (s' := ⟨slo, shi, false, tbig, false⟩) 4 (.bool false) rfl).drew)
  have HT := hid HRE.out.1
  have hsz : w.heap.size + 2 ≤ _ := HT.out.2.2.2
  clear HRE d3 d4 s0 s1 s2 s3 s4 sf t0 t1 t2 t3 t4 tf
  revert HT hsz
  generalize World.drew _ = wr
  intro HT hsz
  have HG := HRS
  clear HRS
  obtain ⟨r0, r1, r2, r3, r4, rf⟩ := box_cells HT.out.1
  obtain ⟨s0, s1, s2, s3, s4, sf⟩ := box_cells HT.out.2.1
  obtain ⟨i1, i2, i3, i4, i5⟩ := HIR.out
  have HB := hid HT.out.2.2.1
  clear i5 HT HIR
  have hsz1 : w.heap.size + 1 < wr.heap.size := hsz
  have hsz0 : w.heap.size < wr.heap.size := by omega
  simp only [zero] at r0 r1 r2 r3 r4
  simp only at s0 s1 s2 s3 s4 i1 i2 i3 i4
  by_cases h1 : 1073741824 < slo
  · have HFN : Hid (finS ⟨slo, shi, false, tbig, false⟩ = ⟨slo, shi, false, true, false⟩) := by show _ = _; rw [finS, if_pos (Or.inl h1)]
    go_wp2_with fail
    exact bodyPost_ret (v := .agg #[.int .i64 slo, .int .i64 shi, .bool false, .bool true, .bool false]) (by simp [results, Try.results8, go_sem, r0, r1, r2, r3, r4]) rfl ⟨by rw [HG.out, HFN.out]; rfl, ((((((HB.out.setCell (by show w.heap.size ≤ w.heap.size + 1; omega) _).setCell (Nat.le_refl _) _).setCell (Nat.le_refl _) _).setCell (Nat.le_refl _) _).setCell (Nat.le_refl _) _).setCell (Nat.le_refl _) _)⟩
  · by_cases h2 : 1073741824 < shi
    · have HFN : Hid (finS ⟨slo, shi, false, tbig, false⟩ = ⟨slo, shi, false, true, false⟩) := by show _ = _; rw [finS, if_pos (Or.inr ⟨rfl, h2⟩)]
      go_wp2_with fail
      exact bodyPost_ret (v := .agg #[.int .i64 slo, .int .i64 shi, .bool false, .bool true, .bool false]) (by simp [results, Try.results8, go_sem, r0, r1, r2, r3, r4]) rfl ⟨by rw [HG.out, HFN.out]; rfl, ((((((HB.out.setCell (by show w.heap.size ≤ w.heap.size + 1; omega) _).setCell (Nat.le_refl _) _).setCell (Nat.le_refl _) _).setCell (Nat.le_refl _) _).setCell (Nat.le_refl _) _).setCell (Nat.le_refl _) _)⟩
    · have HFN : Hid (finS ⟨slo, shi, false, tbig, false⟩ = ⟨slo, shi, false, tbig, false⟩) := by
        show _ = _
        rw [finS, if_neg (by rintro (h | ⟨_, h⟩) <;> simp only at h <;> omega)]
      go_wp2_with fail
      exact bodyPost_ret (v := .agg #[.int .i64 slo, .int .i64 shi, .bool false, .bool tbig, .bool false]) (by simp [results, Try.results8, go_sem, r0, r1, r2, r3, r4]) rfl ⟨by rw [HG.out, HFN.out]; rfl, (((((HB.out.setCell (Nat.le_refl _) _).setCell (Nat.le_refl _) _).setCell (Nat.le_refl _) _).setCell (Nat.le_refl _) _).setCell (Nat.le_refl _) _)⟩
end Go.Proofs.Qxb6601528a.Fx
