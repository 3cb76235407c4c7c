import Derived.Test.Qxb6601528aFxRngA
namespace Go.Proofs.Qxb6601528a.Fx
open Go.RowKit

set_option maxHeartbeats 16000000 in
set_option maxRecDepth 100000 in
theorem rng_alt11 (b off : Nat) (x : Int) (w : World) (sa : Option Addr) (len cap : Nat) (el : Nat → Option Addr) (r : Nat → Sp) (hx : 1 ≤ x) (hxm : x ≤ 65537) (lc : len ≤ cap) (cm : cap ≤ maxLen)
    (c0 : w.cell? ⟨b, off, none⟩ = some (.int .u8 11)) (c2 : w.cell? ⟨b, off + 2, none⟩ = some (.slice sa len cap))
    (hel : len = 0 ∨ ∃ b' off', sa = some ⟨b', off', none⟩ ∧ ∀ i, i < len → w.cell? ⟨b', off' + i, none⟩ = some (.pointer (el i)))
    (hin : ∀ i, i < len → In (r i))
    (ih : ∀ i, i < len → ∀ wr : World, Below w.heap.size w wr → Calls Try.prog 8 #[.pointer (el i), .int .i64 (x - 1)] wr fun e w' => RngPost (r i) e ∧ Below wr.heap.size wr w') :
    Calls Try.prog 8 #[.pointer (some ⟨b, off, none⟩), .int .i64 x] w fun e w' => RngPost (finS (foldA r len)) e ∧ Below w.heap.size w w' := by
  have hlt := World.block_lt_of_cell? w _ c0
  simp only at hlt
  unfold maxLen at cm
  have HEL := hid hel
  have HIN := hid hin
  have IH := hid ih
  clear hel hin ih
  go_enter Try.func8, Try.ntmps8
  go_wp2_with fail
  go_loopw [8] (fun i wr => ∃ (k : Nat), k ≤ len ∧ i = .int .i64 k ∧ Hid (Two w.heap.size (foldA r k) w wr)) (fun i _ => len - (intOf i).toNat)
  case atStart => exact ⟨0, Nat.zero_le _, rfl, two_start w _ rfl⟩
  case round =>
    obtain ⟨k, hk, rfl, HT⟩ := hrel
    have c2' : wr.cell? ⟨b, off + 2, none⟩ = some (.slice sa len cap) := (HT.out.2.2.1.cell (by exact hlt)).trans c2
    have hsz : w.heap.size + 2 ≤ wr.heap.size := HT.out.2.2.2
    by_cases hlk : k < len
    · have hlk' : (k : Int) < len := by omega
      rcases HEL.out with h0 | ⟨b', off', rfl, hcs⟩
      · omega
      · have hck : wr.cell? ⟨b', off' + k, none⟩ = some (.pointer (el k)) := (HT.out.2.2.1.cell (World.block_lt_of_cell? w ⟨b', off' + k, none⟩ (hcs k hlk))).trans (hcs k hlk)
        clear hcs
        go_wp2_with fail
        refine (IH.out k hlk wr HT.out.2.2.1).mono ?_
        rintro e w1 ⟨rfl, hb1⟩
        have HT1 := hid (HT.out.later hb1)
        have hsz1 : w.heap.size + 1 < w1.heap.size := HT1.out.2.2.2
        obtain ⟨s0, s1, s2, s3, s4, sf⟩ := box_cells HT1.out.2.1
        obtain ⟨i1, i2, i3, i4, i5⟩ := foldA_in r k (fun i hi => HIN.out i (by omega))
        obtain ⟨j1, j2, j3, j4, j5⟩ := HIN.out k hlk
        clear c2 c2' hck hb1 i5 j5 HT HEL HIN IH
        have HF : Hid (foldA r (k + 1) = altS k (foldA r k) (r k)) := rfl
        by_cases hk0 : k = 0
        · subst hk0
          have hk0' : (((0 : Nat) : Int) == 0) = true := by decide
          generalize hrk : r 0 = t at *
          clear hrk
          obtain ⟨tlo, thi, tinf, tbig, tdeg⟩ := t
          simp only [foldA, zero] at s0 s1 s2 s3 s4 i1 i2 i3 i4 j1 j2 j3 j4 HT1
          go_wp2_with fail
          go_roundw
          case rel => exact ⟨0 + 1, by omega, by go_num, by rw [HF.out]; exact HT1.out.five _ _ _ _ _ _ _ rfl rfl rfl rfl rfl⟩
          case measure => simp [intOf]; omega
        · have hk0' : ((k : Int) == 0) = false := by rw [beq_eq_false_iff_ne]; omega
          generalize foldA r k = s at *
          generalize hrk : r k = t at *
          clear hrk
          obtain ⟨slo, shi, sinf, sbig, sdeg⟩ := s
          obtain ⟨tlo, thi, tinf, tbig, tdeg⟩ := t
          simp only at s0 s1 s2 s3 s4 i1 i2 i3 i4 j1 j2 j3 j4
          by_cases hlo : tlo < slo
          · by_cases hhi : shi < thi
            · have HA : Hid (altS k ⟨slo, shi, sinf, sbig, sdeg⟩ ⟨tlo, thi, tinf, tbig, tdeg⟩ = ⟨tlo, thi, sinf || tinf, sbig || tbig, sdeg || tdeg⟩) := by
                show _ = _
                simp [altS, hlo, hhi]
              cases sinf <;> cases sbig <;> cases sdeg
              all_goals
                go_wp2_with fail
                go_roundw
                case rel => exact ⟨k + 1, by omega, by go_num, by rw [HF.out, HA.out]; exact HT1.out.five _ _ _ _ _ _ _ rfl rfl rfl rfl rfl⟩
                case measure => simp [intOf]; omega
            · have HA : Hid (altS k ⟨slo, shi, sinf, sbig, sdeg⟩ ⟨tlo, thi, tinf, tbig, tdeg⟩ = ⟨tlo, shi, sinf || tinf, sbig || tbig, sdeg || tdeg⟩) := by
                show _ = _
                simp [altS, hlo, hhi, hk0]
              cases sinf <;> cases sbig <;> cases sdeg
              all_goals
                go_wp2_with fail
                go_roundw
                case rel => exact ⟨k + 1, by omega, by go_num, by rw [HF.out, HA.out]; exact (HT1.out.set (s' := ⟨tlo, shi, _, _, _⟩) 0 _ rfl).three _ _ _ _ _ rfl rfl rfl rfl rfl⟩
                case measure => simp [intOf]; omega
          · by_cases hhi : shi < thi
            · have HA : Hid (altS k ⟨slo, shi, sinf, sbig, sdeg⟩ ⟨tlo, thi, tinf, tbig, tdeg⟩ = ⟨slo, thi, sinf || tinf, sbig || tbig, sdeg || tdeg⟩) := by
                show _ = _
                simp [altS, hlo, hhi, hk0]
              cases sinf <;> cases sbig <;> cases sdeg
              all_goals
                go_wp2_with fail
                go_roundw
                case rel => exact ⟨k + 1, by omega, by go_num, by rw [HF.out, HA.out]; exact (HT1.out.set (s' := ⟨slo, thi, _, _, _⟩) 1 _ rfl).three _ _ _ _ _ rfl rfl rfl rfl rfl⟩
                case measure => simp [intOf]; omega
            · have HA : Hid (altS k ⟨slo, shi, sinf, sbig, sdeg⟩ ⟨tlo, thi, tinf, tbig, tdeg⟩ = ⟨slo, shi, sinf || tinf, sbig || tbig, sdeg || tdeg⟩) := by
                show _ = _
                simp [altS, hlo, hhi, hk0]
              cases sinf <;> cases sbig <;> cases sdeg
              all_goals
                go_wp2_with fail
                go_roundw
                case rel => exact ⟨k + 1, by omega, by go_num, by rw [HF.out, HA.out]; exact HT1.out.three _ _ _ _ _ rfl rfl rfl rfl rfl⟩
                case measure => simp [intOf]; omega
    · obtain rfl : k = len := by omega
      obtain ⟨r0, r1, r2, r3, r4, rf⟩ := box_cells HT.out.1
      obtain ⟨s0, s1, s2, s3, s4, sf⟩ := box_cells HT.out.2.1
      obtain ⟨i1, i2, i3, i4, i5⟩ := foldA_in r k (fun i hi => HIN.out i (by omega))
      have HB := hid HT.out.2.2.1
      clear i5 HT
      have hsz1 : w.heap.size + 1 < wr.heap.size := hsz
      have hsz0 : w.heap.size < wr.heap.size := by omega
      simp only [zero] at r0 r1 r2 r3 r4
      generalize hsg : foldA r k = s at *
      have HG := hid hsg
      clear hsg
      obtain ⟨slo, shi, sinf, sbig, sdeg⟩ := s
      simp only at s0 s1 s2 s3 s4 i1 i2 i3 i4
      by_cases h1 : 1073741824 < slo
      · have HFN : Hid (finS ⟨slo, shi, sinf, sbig, sdeg⟩ = ⟨slo, shi, sinf, true, sdeg⟩) := by show _ = _; rw [finS, if_pos (Or.inl h1)]
        go_wp2_with fail
        exact bodyPost_ret (v := .agg #[.int .i64 slo, .int .i64 shi, .bool sinf, .bool true, .bool sdeg]) (by simp [results, Try.results8, go_sem, r0, r1, r2, r3, r4]) rfl ⟨by rw [HG.out, HFN.out]; rfl, ((((((HB.out.setCell (by show w.heap.size ≤ w.heap.size + 1; omega) _).setCell (Nat.le_refl _) _).setCell (Nat.le_refl _) _).setCell (Nat.le_refl _) _).setCell (Nat.le_refl _) _).setCell (Nat.le_refl _) _)⟩
      · cases sinf
        · by_cases h2 : 1073741824 < shi
          · have HFN : Hid (finS ⟨slo, shi, false, sbig, sdeg⟩ = ⟨slo, shi, false, true, sdeg⟩) := by show _ = _; rw [finS, if_pos (Or.inr ⟨rfl, h2⟩)]
            go_wp2_with fail
            exact bodyPost_ret (v := .agg #[.int .i64 slo, .int .i64 shi, .bool false, .bool true, .bool sdeg]) (by simp [results, Try.results8, go_sem, r0, r1, r2, r3, r4]) rfl ⟨by rw [HG.out, HFN.out]; rfl, ((((((HB.out.setCell (by show w.heap.size ≤ w.heap.size + 1; omega) _).setCell (Nat.le_refl _) _).setCell (Nat.le_refl _) _).setCell (Nat.le_refl _) _).setCell (Nat.le_refl _) _).setCell (Nat.le_refl _) _)⟩
          · have HFN : Hid (finS ⟨slo, shi, false, sbig, sdeg⟩ = ⟨slo, shi, false, sbig, sdeg⟩) := by
              show _ = _
              rw [finS, if_neg (by rintro (h | ⟨_, h⟩) <;> simp only at h <;> omega)]
            go_wp2_with fail
            exact bodyPost_ret (v := .agg #[.int .i64 slo, .int .i64 shi, .bool false, .bool sbig, .bool sdeg]) (by simp [results, Try.results8, go_sem, r0, r1, r2, r3, r4]) rfl ⟨by rw [HG.out, HFN.out]; rfl, (((((HB.out.setCell (Nat.le_refl _) _).setCell (Nat.le_refl _) _).setCell (Nat.le_refl _) _).setCell (Nat.le_refl _) _).setCell (Nat.le_refl _) _)⟩
        · have HFN : Hid (finS ⟨slo, shi, true, sbig, sdeg⟩ = ⟨slo, shi, true, sbig, sdeg⟩) := by
            show _ = _
            rw [finS, if_neg (by rintro (h | ⟨h, _⟩) <;> simp at h <;> omega)]
          go_wp2_with fail
          exact bodyPost_ret (v := .agg #[.int .i64 slo, .int .i64 shi, .bool true, .bool sbig, .bool sdeg]) (by simp [results, Try.results8, go_sem, r0, r1, r2, r3, r4]) rfl ⟨by rw [HG.out, HFN.out]; rfl, (((((HB.out.setCell (Nat.le_refl _) _).setCell (Nat.le_refl _) _).setCell (Nat.le_refl _) _).setCell (Nat.le_refl _) _).setCell (Nat.le_refl _) _)⟩
end Go.Proofs.Qxb6601528a.Fx
