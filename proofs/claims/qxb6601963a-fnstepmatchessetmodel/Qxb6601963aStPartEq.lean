import Derived.Test.Qxb6601963aStPart
set_option linter.unusedVariables false
namespace Go.Proofs.Qxb6601963a.St
open Go.RowKit Go.Sort

/-- the upward scan's and the downward scan's tests of partitionEqualOrdered -/
def qU (d : Array Int) (a : Nat) : Int → Bool := fun x => !ltInt d[a]! x
def qD (d : Array Int) (a : Nat) : Int → Bool := fun x => ltInt d[a]! x

theorem eq_a (a i j : Nat) (d : Array Int) (i2 j2 : Nat) (h1 : i2 = scanUp (qU d a) d j i) (h2 : j2 = scanDown (qD d a) d i2 j) (h : j2 < i2) : partEqLoop ltInt a i j d = (i2, d) := by
  subst h1
  subst h2
  rw [partEqLoop_eq]
  exact if_pos h
theorem eq_b (a i j : Nat) (d : Array Int) (i2 j2 : Nat) (h1 : i2 = scanUp (qU d a) d j i) (h2 : j2 = scanDown (qD d a) d i2 j) (h : ¬ j2 < i2) : partEqLoop ltInt a i j d = partEqLoop ltInt a (i2 + 1) (j2 - 1) (swp d i2 j2) := by
  subst h1
  subst h2
  rw [partEqLoop_eq]
  exact if_neg h
theorem qD_eq (d : Array Int) (a : Nat) (x : Int) : qD d a x = !qU d a x := by simp [qD, qU]

set_option maxRecDepth 100000 in
set_option maxHeartbeats 8000000 in
theorem partEq_any (blk off cap a b pivot N : Nat) (d : Array Int) (w : World) (hD : Holds (Value.int .u64) w blk off d) (hN : d.size = N) (hap : a ≤ pivot) (hpb : pivot < b) (hb : b ≤ N) (hsz : N ≤ 1048576) :
    Calls Try.prog 41 #[.slice (some ⟨blk, off, none⟩) N cap, .int .i64 a, .int .i64 b, .int .i64 pivot] w fun e w' =>
      e = .returned (.int .i64 (Sort.partitionEqual ltInt d a b pivot).1) ∧ Done blk off N w w' (Sort.partitionEqual ltInt d a b pivot).2 := by
  have H0 : Hid (Done blk off N w w d) := by subst hN; exact Done.start hD
  clear hD hN
  have haI : (a : Int) ≤ 1048576 := by omega
  have hbI : (b : Int) ≤ 1048576 := by omega
  obtain ⟨G, hG, hcw, hfw⟩ := H0.out.cells
  have HG := hid hG
  clear hG
  obtain ⟨v', hy'⟩ := cell_set_some (w := w) (p := ⟨blk, off + a, none⟩) (x := .int .u64 (G pivot)) (q := ⟨blk, off + pivot, none⟩) (hcw pivot (by omega))
  go_enter Try.func41, Try.ntmps41
  go_upto_block 0 with fail
  go_region
  all_goals go_upto_block 0 with fail
  have HD : Hid (Done blk off N w (((w.setCell ⟨blk, off + a, none⟩ (.int .u64 (G pivot))).setCell ⟨blk, off + pivot, none⟩ (.int .u64 (G a))).drew) (swp d a pivot)) := by
    have h2 := (H0.out.drewN 1).swap a pivot (by omega) (by omega)
    rw [← HG.out, ← HG.out] at h2
    exact h2
  clear hcw hfw hy' H0
  generalize ((w.setCell ⟨blk, off + a, none⟩ (.int .u64 (G pivot))).setCell ⟨blk, off + pivot, none⟩ (.int .u64 (G a))).drew = W1 at HD
  clear HG
  go_wp2_with fail
  go_loopw [9, 10] (fun vi vj wr => ∃ (i j : Nat) (dk : Array Int), vi = .int .i64 i ∧ vj = .int .i64 j ∧ a < i ∧ i ≤ j + 1 ∧ j < b ∧ Hid (Done blk off N w wr dk) ∧ Hid (partEqLoop ltInt a i j dk = Sort.partitionEqual ltInt d a b pivot)) (fun vi vj _ => (intOf vj).toNat + 1 - (intOf vi).toNat)
  case atStart => exact ⟨a + 1, b - 1, _, by go_num, by go_num, by omega, by omega, by omega, HD, rfl⟩
  case round =>
    obtain ⟨i, j, dk, rfl, rfl, hai, hij1, hjb1, HK, HP⟩ := hrel
    clear HD
    go_upto_block 2 with fail
    go_cut [9] from 29 to 45 (fun v wr => ∃ i2 : Nat, v = .int .i64 i2 ∧ i ≤ i2 ∧ i2 ≤ j + 1 ∧ Hid (Done blk off N w wr dk) ∧ Hid (i2 = scanUp (qU dk a) dk j (i)))
    case first =>
      go_wp2_with fail
      go_loopw [9] (fun v wr => ∃ x : Nat, v = .int .i64 x ∧ i ≤ x ∧ x ≤ j + 1 ∧ Hid (Done blk off N w wr dk) ∧ Hid (scanUp (qU dk a) dk j x = scanUp (qU dk a) dk j (i))) (fun v _ => j + 1 - (intOf v).toNat)
      case atStart => exact ⟨i, by go_num, Nat.le_refl _, by omega, HK, rfl⟩
      case round =>
        obtain ⟨x, rfl, hx1, hx2, HX, HS⟩ := hrel
        obtain ⟨G, hG, hcw, hfw⟩ := HX.out.cells
        have HG := hid hG
        clear hG
        go_wp2_with fail
        by_cases hij : x ≤ j
        · have hijI : (x : Int) ≤ j := by omega
          by_cases hl : G a < G x
          · have HL := hid hl
            go_big_quiet (first | (go_at_call 40; refine Calls.quiet_of_same (less_any _ _ _)))
            go_wp2_with fail
            go_meet
            exact ⟨x, rfl, by omega, by omega, HX.out.drewN nq, by rw [Hid, ← HS.out, up_out _ _ _ _ (Or.inr (by rw [qU, ← HG.out, ← HG.out]; simp [ltInt, HL.out]))]⟩
          · have HL := hid hl
            go_big_quiet (first | (go_at_call 40; refine Calls.quiet_of_same (less_any _ _ _)))
            go_wp2_with fail
            go_roundw
            case rel => exact ⟨x + 1, by go_num, by omega, by omega, HX.out.drewN nq, by rw [Hid, ← HS.out, up_in _ _ _ _ hij (by rw [qU, ← HG.out, ← HG.out]; simp [ltInt, HL.out])]⟩
            case measure => simp [intOf]; omega
        · have hijI : ¬ (x : Int) ≤ j := by omega
          go_big_quiet (first | (go_at_call 40; refine Calls.quiet_of_same (less_any _ _ _)))
          go_wp2_with fail
          go_meet
          exact ⟨x, rfl, by omega, by omega, HX.out.drewN nq, by rw [Hid, ← HS.out, up_out _ _ _ _ (Or.inl (by omega))]⟩
    case rest =>
      obtain ⟨i2, rfl, hi2, hi2j, HK1, HI2⟩ := hcut
      clear HK
      go_upto_block 4 with fail
      go_cut [10] from 46 to 61 (fun v wr => ∃ j2 : Nat, v = .int .i64 j2 ∧ i2 ≤ j2 + 1 ∧ j2 ≤ j ∧ Hid (Done blk off N w wr dk) ∧ Hid (j2 = scanDown (qD dk a) dk i2 (j)))
      case first =>
        go_wp2_with fail
        go_loopw [10] (fun v wr => ∃ x : Nat, v = .int .i64 x ∧ i2 ≤ x + 1 ∧ x ≤ j ∧ Hid (Done blk off N w wr dk) ∧ Hid (scanDown (qD dk a) dk i2 x = scanDown (qD dk a) dk i2 (j))) (fun v _ => (intOf v).toNat)
        case atStart => exact ⟨j, by go_num, by omega, Nat.le_refl _, HK1, rfl⟩
        case round =>
          obtain ⟨x, rfl, hx1, hx2, HX, HS⟩ := hrel
          obtain ⟨G, hG, hcw, hfw⟩ := HX.out.cells
          have HG := hid hG
          clear hG
          go_wp2_with fail
          by_cases hij : i2 ≤ x
          · have hijI : (i2 : Int) ≤ x := by omega
            by_cases hl : G a < G x
            · have HL := hid hl
              go_big_quiet (first | (go_at_call 40; refine Calls.quiet_of_same (less_any _ _ _)))
              go_wp2_with fail
              go_roundw
              case rel => exact ⟨x - 1, by go_num, by omega, by omega, HX.out.drewN nq, by rw [Hid, ← HS.out, down_in _ _ _ _ hij (by omega) (by rw [qD, ← HG.out, ← HG.out]; simp [ltInt, HL.out])]⟩
              case measure => simp [intOf]; omega
            · have HL := hid hl
              go_big_quiet (first | (go_at_call 40; refine Calls.quiet_of_same (less_any _ _ _)))
              go_wp2_with fail
              go_meet
              exact ⟨x, rfl, by omega, by omega, HX.out.drewN nq, by rw [Hid, ← HS.out, down_out _ _ _ _ (Or.inr (by rw [qD, ← HG.out, ← HG.out]; simp [ltInt, HL.out]))]⟩
          · have hijI : ¬ (i2 : Int) ≤ x := by omega
            go_big_quiet (first | (go_at_call 40; refine Calls.quiet_of_same (less_any _ _ _)))
            go_wp2_with fail
            go_meet
            exact ⟨x, rfl, by omega, by omega, HX.out.drewN nq, by rw [Hid, ← HS.out, down_out _ _ _ _ (Or.inl (by omega))]⟩
      case rest =>
        obtain ⟨j2, rfl, hj2, hj2j, HK2, HJ2⟩ := hcut
        clear HK1
        by_cases hgt : j2 < i2
        · go_wp2_with fail
          go_ret
          rw [← HP.out, eq_a a i j dk i2 j2 HI2.out HJ2.out hgt]
          exact ⟨rfl, HK2.out⟩
        · have hlt : i2 < j2 := scans_lt (qU dk a) (qD dk a) (qD_eq dk a) dk _ _ i2 j2 HI2.out HJ2.out (by omega) (by omega)
          obtain ⟨G, hG, hcw, hfw⟩ := HK2.out.cells
          have HG := hid hG
          clear hG
          obtain ⟨v', hy'⟩ := cell_set_some (w := wc) (p := ⟨blk, off + i2, none⟩) (x := .int .u64 (G j2)) (q := ⟨blk, off + j2, none⟩) (hcw j2 (by omega))
          go_wp2_with fail
          go_region
          all_goals go_wp2_with fail
          have HK3 : Hid (Done blk off N w (((wc.setCell ⟨blk, off + i2, none⟩ (.int .u64 (G j2))).setCell ⟨blk, off + j2, none⟩ (.int .u64 (G i2))).drew) (swp dk i2 j2)) := by
            have h2 := (HK2.out.drewN 1).swap i2 j2 (by omega) (by omega)
            rw [← HG.out, ← HG.out] at h2
            exact h2
          clear hcw hfw hy' HK2
          go_roundw
          case rel => exact ⟨i2 + 1, j2 - 1, _, by go_num, by go_num, by omega, by omega, by omega, HK3, by rw [Hid, ← HP.out, eq_b a i j dk i2 j2 HI2.out HJ2.out (by omega)]⟩
          case measure => simp [intOf]; omega
end Go.Proofs.Qxb6601963a.St
