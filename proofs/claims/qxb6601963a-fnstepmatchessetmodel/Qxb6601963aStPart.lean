import Derived.Test.Qxb6601963aStIns
import Derived.Deep.CutBlock
set_option linter.unusedVariables false
namespace Go.Proofs.Qxb6601963a.St
open Go.RowKit Go.Sort

theorem cell_set_some {w : World} {p q : Addr} {x v : Value} (h : w.cell? q = some v) : ∃ v', (w.setCell p x).cell? q = some v' := by
  by_cases e : p = q
  · subst e; exact ⟨x, World.cell?_setCell_same w p x h⟩
  · exact ⟨v, (World.cell?_setCell_other w p q x e).trans h⟩

theorem up_in (p : Int → Bool) (d : Array Int) (j i : Nat) (h : i ≤ j) (hp : p d[i]! = true) : scanUp p d j i = scanUp p d j (i + 1) := by
  rw [scanUp, if_pos (by simp [h, hp])]
theorem up_out (p : Int → Bool) (d : Array Int) (j i : Nat) (h : ¬ i ≤ j ∨ p d[i]! = false) : scanUp p d j i = i := by
  rw [scanUp, if_neg (by rcases h with h | h <;> simp [h])]
theorem down_in (p : Int → Bool) (d : Array Int) (i j : Nat) (h : i ≤ j) (h0 : 0 < j) (hp : p d[j]! = true) : scanDown p d i j = scanDown p d i (j - 1) := by
  cases j with
  | zero => omega
  | succ k => rw [scanDown, if_pos (by simp [h, hp]), Nat.add_sub_cancel]
theorem down_out (p : Int → Bool) (d : Array Int) (i j : Nat) (h : ¬ i ≤ j ∨ p d[j]! = false) : scanDown p d i j = j := by
  cases j with
  | zero => rfl
  | succ k => rw [scanDown, if_neg (by rcases h with h | h <;> simp [h])]

/-- the upward scan's and the downward scan's tests of partitionOrdered -/
def pU (d : Array Int) (a : Nat) : Int → Bool := fun x => ltInt x d[a]!
def pD (d : Array Int) (a : Nat) : Int → Bool := fun x => !ltInt x d[a]!

theorem scans_lt (p q : Int → Bool) (hq : ∀ x, q x = !p x) (d : Array Int) (i j i1 j1 : Nat) (h1 : i1 = scanUp p d j i) (h2 : j1 = scanDown q d i1 j) (h0 : 0 < i) (h : i1 ≤ j1) : i1 < j1 := by
  subst h1
  subst h2
  obtain ⟨u1, _, _, u4⟩ := scanUp_spec p d j _ i rfl
  obtain ⟨v1, _, _, v4⟩ := scanDown_spec q d (scanUp p d j i) j
  have f1 := u4 (by omega)
  have f2 := v4 h (by omega)
  rcases Nat.lt_or_ge (scanUp p d j i) (scanDown q d (scanUp p d j i) j) with h' | h'
  · exact h'
  · have e : scanDown q d (scanUp p d j i) j = scanUp p d j i := by omega
    rw [e, hq, f1] at f2
    cases f2
theorem part_a (d D : Array Int) (a b pivot i1 j1 : Nat) (hD : D = swp d a pivot) (h1 : i1 = scanUp (pU D a) D (b - 1) (a + 1)) (h2 : j1 = scanDown (pD D a) D i1 (b - 1)) (h : j1 < i1) :
    Sort.partition ltInt d a b pivot = (j1, true, swp D j1 a) := by
  subst hD
  subst h1
  subst h2
  unfold Sort.partition
  simp only []
  exact if_pos h
theorem part_b (d D : Array Int) (a b pivot i1 j1 : Nat) (hD : D = swp d a pivot) (h1 : i1 = scanUp (pU D a) D (b - 1) (a + 1)) (h2 : j1 = scanDown (pD D a) D i1 (b - 1)) (h : ¬ j1 < i1) :
    Sort.partition ltInt d a b pivot = ((partLoop ltInt a (i1 + 1) (j1 - 1) (swp D i1 j1)).1, false, swp (partLoop ltInt a (i1 + 1) (j1 - 1) (swp D i1 j1)).2 (partLoop ltInt a (i1 + 1) (j1 - 1) (swp D i1 j1)).1 a) := by
  subst hD
  subst h1
  subst h2
  unfold Sort.partition
  simp only []
  exact if_neg h
theorem loop_a (a i j : Nat) (d : Array Int) (i2 j2 : Nat) (h1 : i2 = scanUp (pU d a) d j i) (h2 : j2 = scanDown (pD d a) d i2 j) (h : j2 < i2) : partLoop ltInt a i j d = (j2, d) := by
  subst h1
  subst h2
  rw [partLoop_eq]
  exact if_pos h
theorem loop_b (a i j : Nat) (d : Array Int) (i2 j2 : Nat) (h1 : i2 = scanUp (pU d a) d j i) (h2 : j2 = scanDown (pD d a) d i2 j) (h : ¬ j2 < i2) : partLoop ltInt a i j d = partLoop ltInt a (i2 + 1) (j2 - 1) (swp d i2 j2) := by
  subst h1
  subst h2
  rw [partLoop_eq]
  exact if_neg h

set_option maxRecDepth 100000 in
set_option maxHeartbeats 8000000 in
theorem part_any (blk off cap a b pivot N : Nat) (d : Array Int) (w : World) (hD : Holds (Value.int .u64) w blk off d) (hN : d.size = N) (hap : a ≤ pivot) (hpb : pivot < b) (hb : b ≤ N) (hsz : N ≤ 1048576) :
    Calls Try.prog 42 #[.slice (some ⟨blk, off, none⟩) N cap, .int .i64 a, .int .i64 b, .int .i64 pivot] w fun e w' =>
      e = .returned (.tuple #[.int .i64 (Sort.partition ltInt d a b pivot).1, .bool (Sort.partition ltInt d a b pivot).2.1]) ∧ Done blk off N w w' (Sort.partition ltInt d a b pivot).2.2 := by
  have H0 : Hid (Done blk off N w w d) := by subst hN; exact Done.start hD
  clear hD hN
  have haI : (a : Int) ≤ 1048576 := by omega
  have hbI : (b : Int) ≤ 1048576 := by omega
  obtain ⟨G, hG, hcw, hfw⟩ := H0.out.cells
  have HG := hid hG
  clear hG
  obtain ⟨v', hy'⟩ := cell_set_some (w := w) (p := ⟨blk, off + a, none⟩) (x := .int .u64 (G pivot)) (q := ⟨blk, off + pivot, none⟩) (hcw pivot (by omega))
  go_enter Try.func42, Try.ntmps42
  go_upto_block 0 with fail
  go_region
  all_goals go_upto_block 0 with fail
  have HD : Hid (Done blk off N w (((w.setCell ⟨blk, off + a, none⟩ (.int .u64 (G pivot))).setCell ⟨blk, off + pivot, none⟩ (.int .u64 (G a))).drew) (swp d a pivot)) := by
    have h2 := (H0.out.drewN 1).swap a pivot (by omega) (by omega)
    rw [← HG.out, ← HG.out] at h2
    exact h2
  clear hcw hfw hy' H0
  generalize ((w.setCell ⟨blk, off + a, none⟩ (.int .u64 (G pivot))).setCell ⟨blk, off + pivot, none⟩ (.int .u64 (G a))).drew = W1 at HD
  clear HG
  obtain ⟨D, HDq⟩ : ∃ D, Hid (D = swp d a pivot) := ⟨_, rfl⟩
  rw [← HDq.out] at HD
  obtain ⟨j0, hj0⟩ : ∃ j0 : Nat, j0 = b - 1 := ⟨_, rfl⟩
  have hj0I : (b : Int) - 1 = j0 := by omega
  rw [hj0I]
  have hjb : j0 < b := by omega
  have haj : a ≤ j0 := by omega
  have HJ0 := hid hj0
  clear hj0 hj0I
  go_upto_block 0 with fail
  go_cut [10] from 30 to 45 (fun v wr => ∃ i1 : Nat, v = .int .i64 i1 ∧ (a + 1) ≤ i1 ∧ i1 ≤ j0 + 1 ∧ Hid (Done blk off N w wr D) ∧ Hid (i1 = scanUp (pU D a) D j0 ((a + 1))))
  case first =>
    go_wp2_with fail
    go_loopw [10] (fun v wr => ∃ x : Nat, v = .int .i64 x ∧ (a + 1) ≤ x ∧ x ≤ j0 + 1 ∧ Hid (Done blk off N w wr D) ∧ Hid (scanUp (pU D a) D j0 x = scanUp (pU D a) D j0 ((a + 1)))) (fun v _ => j0 + 1 - (intOf v).toNat)
    case atStart => exact ⟨(a + 1), by go_num, Nat.le_refl _, by omega, HD, rfl⟩
    case round =>
      obtain ⟨x, rfl, hx1, hx2, HX, HS⟩ := hrel
      obtain ⟨G, hG, hcw, hfw⟩ := HX.out.cells
      have HG := hid hG
      clear hG
      go_wp2_with fail
      by_cases hij : x ≤ j0
      · have hijI : (x : Int) ≤ j0 := by omega
        by_cases hl : G x < G a
        · have HL := hid hl
          go_big_quiet (first | (go_at_call 40; refine Calls.quiet_of_same (less_any _ _ _)))
          go_wp2_with fail
          go_roundw
          case rel => exact ⟨x + 1, by go_num, by omega, by omega, HX.out.drewN nq, by rw [Hid, ← HS.out, up_in _ _ _ _ hij (by rw [pU, ← HG.out, ← HG.out]; simp [ltInt, HL.out])]⟩
          case measure => simp [intOf]; omega
        · have HL := hid hl
          go_big_quiet (first | (go_at_call 40; refine Calls.quiet_of_same (less_any _ _ _)))
          go_wp2_with fail
          go_meet
          exact ⟨x, rfl, by omega, by omega, HX.out.drewN nq, by rw [Hid, ← HS.out, up_out _ _ _ _ (Or.inr (by rw [pU, ← HG.out, ← HG.out]; simp [ltInt, HL.out]))]⟩
      · have hijI : ¬ (x : Int) ≤ j0 := by omega
        go_big_quiet (first | (go_at_call 40; refine Calls.quiet_of_same (less_any _ _ _)))
        go_wp2_with fail
        go_meet
        exact ⟨x, rfl, by omega, by omega, HX.out.drewN nq, by rw [Hid, ← HS.out, up_out _ _ _ _ (Or.inl (by omega))]⟩
  case rest =>
    obtain ⟨i1, rfl, hi1, hi1j, HD1, HI1⟩ := hcut
    clear HD
    go_upto_block 2 with fail
    go_cut [11] from 46 to 62 (fun v wr => ∃ j1 : Nat, v = .int .i64 j1 ∧ i1 ≤ j1 + 1 ∧ j1 ≤ j0 ∧ Hid (Done blk off N w wr D) ∧ Hid (j1 = scanDown (pD D a) D i1 (j0)))
    case first =>
      go_wp2_with fail
      go_loopw [11] (fun v wr => ∃ x : Nat, v = .int .i64 x ∧ i1 ≤ x + 1 ∧ x ≤ j0 ∧ Hid (Done blk off N w wr D) ∧ Hid (scanDown (pD D a) D i1 x = scanDown (pD D a) D i1 (j0))) (fun v _ => (intOf v).toNat)
      case atStart => exact ⟨j0, by go_num, by omega, Nat.le_refl _, HD1, rfl⟩
      case round =>
        obtain ⟨x, rfl, hx1, hx2, HX, HS⟩ := hrel
        obtain ⟨G, hG, hcw, hfw⟩ := HX.out.cells
        have HG := hid hG
        clear hG
        go_wp2_with fail
        by_cases hij : i1 ≤ x
        · have hijI : (i1 : Int) ≤ x := by omega
          by_cases hl : G x < G a
          · have HL := hid hl
            go_big_quiet (first | (go_at_call 40; refine Calls.quiet_of_same (less_any _ _ _)))
            go_wp2_with fail
            go_meet
            exact ⟨x, rfl, by omega, by omega, HX.out.drewN nq, by rw [Hid, ← HS.out, down_out _ _ _ _ (Or.inr (by rw [pD, ← HG.out, ← HG.out]; simp [ltInt, HL.out]))]⟩
          · have HL := hid hl
            go_big_quiet (first | (go_at_call 40; refine Calls.quiet_of_same (less_any _ _ _)))
            go_wp2_with fail
            go_roundw
            case rel => exact ⟨x - 1, by go_num, by omega, by omega, HX.out.drewN nq, by rw [Hid, ← HS.out, down_in _ _ _ _ hij (by omega) (by rw [pD, ← HG.out, ← HG.out]; simp [ltInt, HL.out])]⟩
            case measure => simp [intOf]; omega
        · have hijI : ¬ (i1 : Int) ≤ x := by omega
          go_big_quiet (first | (go_at_call 40; refine Calls.quiet_of_same (less_any _ _ _)))
          go_wp2_with fail
          go_meet
          exact ⟨x, rfl, by omega, by omega, HX.out.drewN nq, by rw [Hid, ← HS.out, down_out _ _ _ _ (Or.inl (by omega))]⟩
    case rest =>
      obtain ⟨j1, rfl, hj1, hj1j, HD2, HJ1⟩ := hcut
      clear HD1
      by_cases hgt : j1 < i1
      · obtain ⟨G, hG, hcw, hfw⟩ := HD2.out.cells
        have HG := hid hG
        clear hG
        obtain ⟨v', hy'⟩ := cell_set_some (w := wc) (p := ⟨blk, off + j1, none⟩) (x := .int .u64 (G a)) (q := ⟨blk, off + a, none⟩) (hcw a (by omega))
        go_wp2_with fail
        go_region
        all_goals go_wp2_with fail
        have HD3 : Hid (Done blk off N w (((wc.setCell ⟨blk, off + j1, none⟩ (.int .u64 (G a))).setCell ⟨blk, off + a, none⟩ (.int .u64 (G j1))).drew) (swp D j1 a)) := by
          have h2 := (HD2.out.drewN 1).swap j1 a (by omega) (by omega)
          rw [← HG.out, ← HG.out] at h2
          exact h2
        clear hcw hfw hy' HD2
        go_ret2
        have e := part_a d D a b pivot i1 j1 HDq.out (by rw [← HJ0.out]; exact HI1.out) (by rw [← HJ0.out]; exact HJ1.out) hgt
        rw [e]
        exact ⟨rfl, HD3.out⟩
      · have hlt : i1 < j1 := scans_lt (pU D a) (pD D a) (fun _ => rfl) D _ _ i1 j1 HI1.out HJ1.out (by omega) (by omega)
        obtain ⟨G, hG, hcw, hfw⟩ := HD2.out.cells
        have HG := hid hG
        clear hG
        obtain ⟨v', hy'⟩ := cell_set_some (w := wc) (p := ⟨blk, off + i1, none⟩) (x := .int .u64 (G j1)) (q := ⟨blk, off + j1, none⟩) (hcw j1 (by omega))
        go_wp2_with fail
        go_region
        all_goals go_upto_block 4 with fail
        have HD3 : Hid (Done blk off N w (((wc.setCell ⟨blk, off + i1, none⟩ (.int .u64 (G j1))).setCell ⟨blk, off + j1, none⟩ (.int .u64 (G i1))).drew) (swp D i1 j1)) := by
          have h2 := (HD2.out.drewN 1).swap i1 j1 (by omega) (by omega)
          rw [← HG.out, ← HG.out] at h2
          exact h2
        clear hcw hfw hy' HD2
        generalize ((wc.setCell ⟨blk, off + i1, none⟩ (.int .u64 (G j1))).setCell ⟨blk, off + j1, none⟩ (.int .u64 (G i1))).drew = W3 at HD3
        clear HG
        have e := part_b d D a b pivot i1 j1 HDq.out (by rw [← HJ0.out]; exact HI1.out) (by rw [← HJ0.out]; exact HJ1.out) (by omega)
        have E := hid e
        clear e
        go_wp2_with fail
        go_loopw [10, 11] (fun vi vj wr => ∃ (i j : Nat) (dk : Array Int), vi = .int .i64 i ∧ vj = .int .i64 j ∧ a < i ∧ i ≤ j + 1 ∧ j < b ∧ Hid (Done blk off N w wr dk) ∧ Hid (partLoop ltInt a i j dk = partLoop ltInt a (i1 + 1) (j1 - 1) (swp D i1 j1))) (fun vi vj _ => (intOf vj).toNat + 1 - (intOf vi).toNat)
        case atStart => exact ⟨i1 + 1, j1 - 1, _, by go_num, by go_num, by omega, by omega, by omega, HD3, rfl⟩
        case round =>
          obtain ⟨i, j, dk, rfl, rfl, hai, hij1, hjb1, HX, HP⟩ := hrel
          clear HD3
          rename Hid (Done blk off N w _ dk) => HK
          clear hi1 hi1j hj1 hj1j hgt hlt HI1 HJ1
          go_upto_block 6 with fail
          go_cut [10] from 99 to 114 (fun v wr => ∃ i2 : Nat, v = .int .i64 i2 ∧ i ≤ i2 ∧ i2 ≤ j + 1 ∧ Hid (Done blk off N w wr dk) ∧ Hid (i2 = scanUp (pU dk a) dk j (i)))
          case first =>
            go_wp2_with fail
            go_loopw [10] (fun v wr => ∃ x : Nat, v = .int .i64 x ∧ i ≤ x ∧ x ≤ j + 1 ∧ Hid (Done blk off N w wr dk) ∧ Hid (scanUp (pU dk a) dk j x = scanUp (pU dk a) dk j (i))) (fun v _ => j + 1 - (intOf v).toNat)
            case atStart => exact ⟨i, by go_num, Nat.le_refl _, by omega, HK, rfl⟩
            case round =>
              obtain ⟨x, rfl, hx1, hx2, HX, HS⟩ := hrel
              obtain ⟨G, hG, hcw, hfw⟩ := HX.out.cells
              have HG := hid hG
              clear hG
              go_wp2_with fail
              by_cases hij : x ≤ j
              · have hijI : (x : Int) ≤ j := by omega
                by_cases hl : G x < G a
                · have HL := hid hl
                  go_big_quiet (first | (go_at_call 40; refine Calls.quiet_of_same (less_any _ _ _)))
                  go_wp2_with fail
                  go_roundw
                  case rel => exact ⟨x + 1, by go_num, by omega, by omega, HX.out.drewN nq, by rw [Hid, ← HS.out, up_in _ _ _ _ hij (by rw [pU, ← HG.out, ← HG.out]; simp [ltInt, HL.out])]⟩
                  case measure => simp [intOf]; omega
                · have HL := hid hl
                  go_big_quiet (first | (go_at_call 40; refine Calls.quiet_of_same (less_any _ _ _)))
                  go_wp2_with fail
                  go_meet
                  exact ⟨x, rfl, by omega, by omega, HX.out.drewN nq, by rw [Hid, ← HS.out, up_out _ _ _ _ (Or.inr (by rw [pU, ← HG.out, ← HG.out]; simp [ltInt, HL.out]))]⟩
              · have hijI : ¬ (x : Int) ≤ j := by omega
                go_big_quiet (first | (go_at_call 40; refine Calls.quiet_of_same (less_any _ _ _)))
                go_wp2_with fail
                go_meet
                exact ⟨x, rfl, by omega, by omega, HX.out.drewN nq, by rw [Hid, ← HS.out, up_out _ _ _ _ (Or.inl (by omega))]⟩
          case rest =>
            obtain ⟨i2, rfl, hi2, hi2j, HK1, HI2⟩ := hcut
            clear HK
            go_upto_block 8 with fail
            go_cut [11] from 115 to 131 (fun v wr => ∃ j2 : Nat, v = .int .i64 j2 ∧ i2 ≤ j2 + 1 ∧ j2 ≤ j ∧ Hid (Done blk off N w wr dk) ∧ Hid (j2 = scanDown (pD dk a) dk i2 (j)))
            case first =>
              go_wp2_with fail
              go_loopw [11] (fun v wr => ∃ x : Nat, v = .int .i64 x ∧ i2 ≤ x + 1 ∧ x ≤ j ∧ Hid (Done blk off N w wr dk) ∧ Hid (scanDown (pD dk a) dk i2 x = scanDown (pD dk a) dk i2 (j))) (fun v _ => (intOf v).toNat)
              case atStart => exact ⟨j, by go_num, by omega, Nat.le_refl _, HK1, rfl⟩
              case round =>
                obtain ⟨x, rfl, hx1, hx2, HX, HS⟩ := hrel
                obtain ⟨G, hG, hcw, hfw⟩ := HX.out.cells
                have HG := hid hG
                clear hG
                go_wp2_with fail
                by_cases hij : i2 ≤ x
                · have hijI : (i2 : Int) ≤ x := by omega
                  by_cases hl : G x < G a
                  · have HL := hid hl
                    go_big_quiet (first | (go_at_call 40; refine Calls.quiet_of_same (less_any _ _ _)))
                    go_wp2_with fail
                    go_meet
                    exact ⟨x, rfl, by omega, by omega, HX.out.drewN nq, by rw [Hid, ← HS.out, down_out _ _ _ _ (Or.inr (by rw [pD, ← HG.out, ← HG.out]; simp [ltInt, HL.out]))]⟩
                  · have HL := hid hl
                    go_big_quiet (first | (go_at_call 40; refine Calls.quiet_of_same (less_any _ _ _)))
                    go_wp2_with fail
                    go_roundw
                    case rel => exact ⟨x - 1, by go_num, by omega, by omega, HX.out.drewN nq, by rw [Hid, ← HS.out, down_in _ _ _ _ hij (by omega) (by rw [pD, ← HG.out, ← HG.out]; simp [ltInt, HL.out])]⟩
                    case measure => simp [intOf]; omega
                · have hijI : ¬ (i2 : Int) ≤ x := by omega
                  go_big_quiet (first | (go_at_call 40; refine Calls.quiet_of_same (less_any _ _ _)))
                  go_wp2_with fail
                  go_meet
                  exact ⟨x, rfl, by omega, by omega, HX.out.drewN nq, by rw [Hid, ← HS.out, down_out _ _ _ _ (Or.inl (by omega))]⟩
            case rest =>
              obtain ⟨j2, rfl, hj2, hj2j, HK2, HJ2⟩ := hcut
              clear HK1
              by_cases hgt : j2 < i2
              · obtain ⟨G, hG, hcw, hfw⟩ := HK2.out.cells
                have HG := hid hG
                clear hG
                obtain ⟨v', hy'⟩ := cell_set_some (w := wc) (p := ⟨blk, off + j2, none⟩) (x := .int .u64 (G a)) (q := ⟨blk, off + a, none⟩) (hcw a (by omega))
                go_wp2_with fail
                go_region
                all_goals go_wp2_with fail
                have HK3 : Hid (Done blk off N w (((wc.setCell ⟨blk, off + j2, none⟩ (.int .u64 (G a))).setCell ⟨blk, off + a, none⟩ (.int .u64 (G j2))).drew) (swp dk j2 a)) := by
                  have h2 := (HK2.out.drewN 1).swap j2 a (by omega) (by omega)
                  rw [← HG.out, ← HG.out] at h2
                  exact h2
                clear hcw hfw hy' HK2
                go_ret2
                rw [E.out, ← HP.out, loop_a a i j dk i2 j2 HI2.out HJ2.out hgt]
                exact ⟨rfl, HK3.out⟩
              · have hlt : i2 < j2 := scans_lt (pU dk a) (pD dk a) (fun _ => rfl) dk _ _ i2 j2 HI2.out HJ2.out (by omega) (by omega)
                obtain ⟨G, hG, hcw, hfw⟩ := HK2.out.cells
                have HG := hid hG
                clear hG
                obtain ⟨v', hy'⟩ := cell_set_some (w := wc) (p := ⟨blk, off + i2, none⟩) (x := .int .u64 (G j2)) (q := ⟨blk, off + j2, none⟩) (hcw j2 (by omega))
                go_wp2_with fail
                go_region
                all_goals go_wp2_with fail
                have HK3 : Hid (Done blk off N w (((wc.setCell ⟨blk, off + i2, none⟩ (.int .u64 (G j2))).setCell ⟨blk, off + j2, none⟩ (.int .u64 (G i2))).drew) (swp dk i2 j2)) := by
                  have h2 := (HK2.out.drewN 1).swap i2 j2 (by omega) (by omega)
                  rw [← HG.out, ← HG.out] at h2
                  exact h2
                clear hcw hfw hy' HK2
                go_roundw
                case rel => exact ⟨i2 + 1, j2 - 1, _, by go_num, by go_num, by omega, by omega, by omega, HK3, by rw [Hid, ← HP.out, loop_b a i j dk i2 j2 HI2.out HJ2.out (by omega)]⟩
                case measure => simp [intOf]; omega
end Go.Proofs.Qxb6601963a.St
