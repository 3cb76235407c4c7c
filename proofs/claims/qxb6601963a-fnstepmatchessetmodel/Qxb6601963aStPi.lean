import Derived.Test.Qxb6601963aStPart
set_option linter.unusedVariables false
namespace Go.Proofs.Qxb6601963a.St
open Go.RowKit Go.Sort

theorem ss_in (d : Array Int) (b i : Nat) (h : i < b) (hl : ¬ d[i]! < d[i - 1]!) : scanSorted ltInt d b i = scanSorted ltInt d b (i + 1) := by
  rw [scanSorted, if_pos (by simp [h, ltI_neg hl])]
theorem ss_out (d : Array Int) (b i : Nat) (h : ¬ i < b ∨ d[i]! < d[i - 1]!) : scanSorted ltInt d b i = i := by
  rw [scanSorted, if_neg (by rcases h with h | h <;> simp [h, ltInt])]
theorem sdn_in (j : Nat) (d : Array Int) (h : 1 ≤ j) (hl : d[j]! < d[j - 1]!) : shiftDown ltInt j d = shiftDown ltInt (j - 1) (swp d j (j - 1)) := by
  cases j with
  | zero => omega
  | succ k => rw [shiftDown]; simp only [Nat.add_sub_cancel] at hl ⊢; simp [ltI_pos hl]
theorem sdn_out (j : Nat) (d : Array Int) (h : ¬ 1 ≤ j ∨ ¬ d[j]! < d[j - 1]!) : shiftDown ltInt j d = d := by
  cases j with
  | zero => rw [shiftDown]
  | succ k =>
    rw [shiftDown]
    simp only [Nat.add_sub_cancel] at h
    rcases h with h | h
    · omega
    · simp [ltI_neg h]
theorem sup_in (b j : Nat) (d : Array Int) (h : j < b) (hl : d[j]! < d[j - 1]!) : shiftUp ltInt b j d = shiftUp ltInt b (j + 1) (swp d j (j - 1)) := by
  rw [shiftUp, if_pos h]; simp [ltI_pos hl]
theorem sup_out (b j : Nat) (d : Array Int) (h : ¬ j < b ∨ ¬ d[j]! < d[j - 1]!) : shiftUp ltInt b j d = d := by
  rw [shiftUp]
  rcases h with h | h
  · rw [if_neg h]
  · simp [ltI_neg h]
theorem pi_end (a b s i : Nat) (d : Array Int) (i1 : Nat) (h1 : i1 = scanSorted ltInt d b i) (h : i1 = b) : partialIns ltInt a b (s + 1) i d = (d, true) := by
  subst h1
  rw [partialIns]
  exact if_pos h
theorem pi_short (a b s i : Nat) (d : Array Int) (i1 : Nat) (h1 : i1 = scanSorted ltInt d b i) (h : ¬ i1 = b) (h2 : b - a < 50) : partialIns ltInt a b (s + 1) i d = (d, false) := by
  subst h1
  rw [partialIns]
  exact (if_neg h).trans (if_pos h2)
theorem pi_go (a b s i : Nat) (d : Array Int) (i1 : Nat) (d2 d3 : Array Int) (h1 : i1 = scanSorted ltInt d b i) (h : ¬ i1 = b) (h2 : ¬ b - a < 50)
    (e2 : d2 = if i1 - a ≥ 2 then shiftDown ltInt (i1 - 1) (swp d i1 (i1 - 1)) else swp d i1 (i1 - 1)) (e3 : d3 = if b - i1 ≥ 2 then shiftUp ltInt b (i1 + 1) d2 else d2) :
    partialIns ltInt a b (s + 1) i d = partialIns ltInt a b s i1 d3 := by
  subst h1
  subst e2
  subst e3
  rw [partialIns]
  exact (if_neg h).trans (if_neg h2)

set_option maxRecDepth 100000 in
set_option maxHeartbeats 8000000 in
theorem pi_any (blk off cap a b N : Nat) (d : Array Int) (w : World) (hD : Holds (Value.int .u64) w blk off d) (hN : d.size = N) (hab : a < b) (hb : b ≤ N) (hsz : N ≤ 1048576) :
    Calls Try.prog 39 #[.slice (some ⟨blk, off, none⟩) N cap, .int .i64 a, .int .i64 b] w fun e w' =>
      e = .returned (.bool (Sort.partialInsertionSort ltInt d a b).2) ∧ Done blk off N w w' (Sort.partialInsertionSort ltInt d a b).1 := by
  have H0 : Hid (Done blk off N w w d) := by subst hN; exact Done.start hD
  clear hD hN
  have haI : (a : Int) ≤ 1048576 := by omega
  have hbI : (b : Int) ≤ 1048576 := by omega
  go_enter Try.func39, Try.ntmps39
  go_wp2_with fail
  go_loopw [7, 8] (fun vi vj wr => ∃ (s i : Nat) (dk : Array Int), vi = .int .i64 i ∧ vj = .int .i64 (5 - (s : Int)) ∧ s ≤ 5 ∧ a < i ∧ i ≤ b ∧ Hid (Done blk off N w wr dk) ∧ Hid (partialIns ltInt a b s i dk = Sort.partialInsertionSort ltInt d a b)) (fun _ vj _ => (5 - intOf vj).toNat)
  case atStart => exact ⟨5, a + 1, d, by go_num, rfl, by omega, by omega, by omega, H0, rfl⟩
  case round =>
    obtain ⟨s, i, dk, rfl, rfl, hs, hai, hib, HK, HP⟩ := hrel
    clear H0
    cases s with
    | zero =>
      rw [show (5 : Int) - ((0 : Nat) : Int) = 5 by omega]
      go_wp2_with fail
      go_ret
      rw [← HP.out]
      exact ⟨rfl, HK.out⟩
    | succ s =>
      have hjI : (5 : Int) - ((s + 1 : Nat) : Int) < 5 := by omega
      have hjI0 : 0 ≤ (5 : Int) - ((s + 1 : Nat) : Int) := by omega
      have hjI1 : (5 : Int) - ((s + 1 : Nat) : Int) + 1 = 5 - (s : Int) := by omega
      have HJ1 := hid hjI1
      clear hjI1
      generalize (5 : Int) - ((s + 1 : Nat) : Int) = jj at hjI hjI0 HJ1
      go_upto_block 2 with fail
      go_cut [7] from 17 to 34 (fun v wr => ∃ i1 : Nat, v = .int .i64 i1 ∧ i ≤ i1 ∧ i1 ≤ b ∧ Hid (Done blk off N w wr dk) ∧ Hid (i1 = scanSorted ltInt dk b i))
      case first =>
        go_wp2_with fail
        go_loopw [7] (fun v wr => ∃ x : Nat, v = .int .i64 x ∧ i ≤ x ∧ x ≤ b ∧ Hid (Done blk off N w wr dk) ∧ Hid (scanSorted ltInt dk b x = scanSorted ltInt dk b i)) (fun v _ => b - (intOf v).toNat)
        case atStart => exact ⟨i, rfl, Nat.le_refl _, hib, HK, rfl⟩
        case round =>
          obtain ⟨x, rfl, hx1, hx2, HX, HS⟩ := hrel
          obtain ⟨G, hG, hcw, hfw⟩ := HX.out.cells
          have HG := hid hG
          clear hG
          go_wp2_with fail
          by_cases hxb : x < b
          · have hxI : (x : Int) < b := by omega
            by_cases hl : G x < G (x - 1)
            · have HL := hid hl
              go_big_quiet (first | (go_at_call 40; refine Calls.quiet_of_same (less_any _ _ _)))
              go_wp2_with fail
              go_meet
              exact ⟨x, rfl, by omega, by omega, HX.out.drewN nq, by rw [Hid, ← HS.out, ss_out _ _ _ (Or.inr (by rw [← HG.out, ← HG.out]; first | exact HL.out | exact Int.not_lt.2 HL.out))]⟩
            · have HL := hid hl
              go_big_quiet (first | (go_at_call 40; refine Calls.quiet_of_same (less_any _ _ _)))
              go_wp2_with fail
              go_roundw
              case rel => exact ⟨x + 1, by go_num, by omega, by omega, HX.out.drewN nq, by rw [Hid, ← HS.out, ss_in _ _ _ hxb (by rw [← HG.out, ← HG.out]; first | exact HL.out | exact Int.not_lt.2 HL.out)]⟩
              case measure => simp [intOf]; omega
          · have hxI : ¬ (x : Int) < b := by omega
            go_big_quiet (first | (go_at_call 40; refine Calls.quiet_of_same (less_any _ _ _)))
            go_wp2_with fail
            go_meet
            exact ⟨x, rfl, by omega, by omega, HX.out.drewN nq, by rw [Hid, ← HS.out, ss_out _ _ _ (Or.inl hxb)]⟩
      case rest =>
        obtain ⟨i1, rfl, hi1, hi1b, HK1, HI1⟩ := hcut
        clear HK
        by_cases heb : i1 = b
        · have hebI : (i1 : Int) = b := by omega
          have HE := hid heb
          clear heb
          go_wp2_with fail
          go_ret
          rw [← HP.out, pi_end a b s i dk i1 HI1.out HE.out]
          exact ⟨rfl, HK1.out⟩
        · have hebI : ¬ (i1 : Int) = b := by omega
          have hltb : i1 < b := by omega
          by_cases h50 : b - a < 50
          · have h50I : (b : Int) - a < 50 := by omega
            go_wp2_with fail
            go_ret
            rw [← HP.out, pi_short a b s i dk i1 HI1.out heb h50]
            exact ⟨rfl, HK1.out⟩
          · have h50I : ¬ (b : Int) - a < 50 := by omega
            obtain ⟨G, hG, hcw, hfw⟩ := HK1.out.cells
            have HG := hid hG
            clear hG
            obtain ⟨v', hy'⟩ := cell_set_some (w := wc) (p := ⟨blk, off + i1, none⟩) (x := .int .u64 (G (i1 - 1))) (q := ⟨blk, off + (i1 - 1), none⟩) (hcw (i1 - 1) (by omega))
            go_wp2_with fail
            go_region
            all_goals go_upto_if 61 with fail
            have HK2 : Hid (Done blk off N w (((wc.setCell ⟨blk, off + i1, none⟩ (.int .u64 (G (i1 - 1)))).setCell ⟨blk, off + (i1 - 1), none⟩ (.int .u64 (G i1))).drew) (swp dk i1 (i1 - 1))) := by
              have h2 := (HK1.out.drewN 1).swap i1 (i1 - 1) (by omega) (by omega)
              rw [← HG.out, ← HG.out] at h2
              exact h2
            clear hcw hfw hy' HK1
            generalize ((wc.setCell ⟨blk, off + i1, none⟩ (.int .u64 (G (i1 - 1)))).setCell ⟨blk, off + (i1 - 1), none⟩ (.int .u64 (G i1))).drew = W3 at HK2
            clear HG
            obtain ⟨d1, HD1⟩ : ∃ d1, Hid (d1 = swp dk i1 (i1 - 1)) := ⟨_, rfl⟩
            rw [← HD1.out] at HK2
            go_cut [9] from 61 to 94 (fun v wr => Hid (Done blk off N w wr (if i1 - a ≥ 2 then shiftDown ltInt (i1 - 1) d1 else d1)))
            case first =>
              by_cases h2 : i1 - a ≥ 2
              · have h2I : (2 : Int) ≤ (i1 : Int) - a := by omega
                go_wp2_with fail
                go_loopw [9] (fun v wr => ∃ (x : Nat) (dx : Array Int), v = .int .i64 x ∧ x ≤ i1 ∧ Hid (Done blk off N w wr dx) ∧ Hid (shiftDown ltInt x dx = shiftDown ltInt (i1 - 1) d1)) (fun v _ => (intOf v).toNat)
                case atStart => exact ⟨i1 - 1, d1, by go_num, by omega, HK2, rfl⟩
                case round =>
                  obtain ⟨x, dx, rfl, hx, HX, HS⟩ := hrel
                  obtain ⟨G, hG, hcw, hfw⟩ := HX.out.cells
                  have HG := hid hG
                  clear hG
                  by_cases hx1 : 1 ≤ x
                  · have hx1I : (1 : Int) ≤ x := by omega
                    go_wp2_with fail
                    by_cases hl : G x < G (x - 1)
                    · have HL := hid hl
                      go_big_quiet (first | (go_at_call 40; refine Calls.quiet_of_same (less_any _ _ _)))
                      go_wp2_with fail
                      go_region
                      all_goals go_wp2_with fail
                      go_roundw
                      case rel =>
                        refine ⟨x - 1, swp dx x (x - 1), by go_num, by omega, ?_, ?_⟩
                        · have h2 := (HX.out.drewN (nq + 1)).swap x (x - 1) (by omega) (by omega)
                          rw [← HG.out, ← HG.out] at h2
                          exact h2
                        · rw [Hid, ← HS.out, sdn_in x dx hx1 (by rw [← HG.out, ← HG.out]; first | exact HL.out | exact Int.not_lt.2 HL.out)]
                      case measure => simp [intOf]; omega
                    · have HL := hid hl
                      go_big_quiet (first | (go_at_call 40; refine Calls.quiet_of_same (less_any _ _ _)))
                      go_wp2_with fail
                      go_meet
                      rw [if_pos h2, ← HS.out, sdn_out x dx (Or.inr (by rw [← HG.out, ← HG.out]; first | exact HL.out | exact Int.not_lt.2 HL.out))]
                      exact HX.out.drewN nq
                  · have hx1I : ¬ (1 : Int) ≤ x := by omega
                    go_wp2_with fail
                    go_meet
                    rw [if_pos h2, ← HS.out, sdn_out x dx (Or.inl hx1)]
                    exact HX.out
              · have h2I : ¬ (2 : Int) ≤ (i1 : Int) - a := by omega
                go_wp2_with fail
                go_meet
                rw [if_neg h2]
                exact HK2
            case rest =>
              have HK3 : Hid (Done blk off N w wc (if i1 - a ≥ 2 then shiftDown ltInt (i1 - 1) d1 else d1)) := hcut
              clear hcut HK2
              obtain ⟨d2, HD2⟩ : ∃ d2, Hid (d2 = if i1 - a ≥ 2 then shiftDown ltInt (i1 - 1) d1 else d1) := ⟨_, rfl⟩
              rw [← HD2.out] at HK3
              rw [HD1.out] at HD2
              have done : ∀ (W : World) (d3 : Array Int), Done blk off N w W d3 → (d3 = if b - i1 ≥ 2 then shiftUp ltInt b (i1 + 1) d2 else d2) →
                  ∃ (s i : Nat) (dk : Array Int), Value.int .i64 i1 = .int .i64 i ∧ Value.int .i64 (jj + 1) = .int .i64 (5 - (s : Int)) ∧ s ≤ 5 ∧ a < i ∧ i ≤ b ∧ Hid (Done blk off N w W dk) ∧ Hid (partialIns ltInt a b s i dk = Sort.partialInsertionSort ltInt d a b) := fun W d3 h e =>
                ⟨s, i1, d3, rfl, by rw [HJ1.out], by omega, by omega, by omega, h, by rw [Hid, ← HP.out, pi_go a b s i dk i1 d2 d3 HI1.out heb h50 HD2.out e]⟩
              have DONE := hid done
              clear done
              by_cases h2 : b - i1 ≥ 2
              · have h2I : (2 : Int) ≤ (b : Int) - i1 := by omega
                rw [if_pos h2] at DONE
                go_wp2_with fail
                go_loopw [10] (fun v wr => ∃ (x : Nat) (dx : Array Int), v = .int .i64 x ∧ i1 < x ∧ x ≤ b ∧ Hid (Done blk off N w wr dx) ∧ Hid (shiftUp ltInt b x dx = shiftUp ltInt b (i1 + 1) d2)) (fun v _ => b - (intOf v).toNat)
                case atStart => exact ⟨i1 + 1, d2, by go_num, by omega, by omega, HK3, rfl⟩
                case round =>
                  obtain ⟨x, dx, rfl, hx, hxb, HX, HS⟩ := hrel
                  obtain ⟨G, hG, hcw, hfw⟩ := HX.out.cells
                  have HG := hid hG
                  clear hG
                  by_cases hx1 : x < b
                  · have hx1I : (x : Int) < b := by omega
                    go_wp2_with fail
                    by_cases hl : G x < G (x - 1)
                    · have HL := hid hl
                      go_big_quiet (first | (go_at_call 40; refine Calls.quiet_of_same (less_any _ _ _)))
                      go_wp2_with fail
                      go_region
                      all_goals go_wp2_with fail
                      go_roundw
                      case rel =>
                        refine ⟨x + 1, swp dx x (x - 1), by go_num, by omega, by omega, ?_, ?_⟩
                        · have h2 := (HX.out.drewN (nq + 1)).swap x (x - 1) (by omega) (by omega)
                          rw [← HG.out, ← HG.out] at h2
                          exact h2
                        · rw [Hid, ← HS.out, sup_in b x dx hx1 (by rw [← HG.out, ← HG.out]; first | exact HL.out | exact Int.not_lt.2 HL.out)]
                      case measure => simp [intOf]; omega
                    · have HL := hid hl
                      go_big_quiet (first | (go_at_call 40; refine Calls.quiet_of_same (less_any _ _ _)))
                      go_wp2_with fail
                      go_roundw
                      case rel => exact DONE.out _ dx (HX.out.drewN nq) (by rw [← HS.out, sup_out b x dx (Or.inr (by rw [← HG.out, ← HG.out]; first | exact HL.out | exact Int.not_lt.2 HL.out))])
                      case measure => simp [intOf]; omega
                  · have hx1I : ¬ (x : Int) < b := by omega
                    go_wp2_with fail
                    go_roundw
                    case rel => exact DONE.out _ dx HX.out (by rw [← HS.out, sup_out b x dx (Or.inl hx1)])
                    case measure => simp [intOf]; omega
              · have h2I : ¬ (2 : Int) ≤ (b : Int) - i1 := by omega
                rw [if_neg h2] at DONE
                go_wp2_with fail
                go_roundw
                case rel => exact DONE.out _ d2 HK3.out rfl
                case measure => simp [intOf]; omega
end Go.Proofs.Qxb6601963a.St
