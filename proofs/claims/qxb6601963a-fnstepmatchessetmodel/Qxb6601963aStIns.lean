import Derived.Test.Qxb6601963aStBase
set_option linter.unusedVariables false
namespace Go.Proofs.Qxb6601963a.St
open Go.RowKit Go.Sort

theorem ltI_pos {x y : Int} (h : x < y) : ltInt x y = true := by simp [ltInt, h]
theorem ltI_neg {x y : Int} (h : ¬ x < y) : ltInt x y = false := by simp [ltInt, h]

theorem ins_in (a j : Nat) (d : Array Int) (hj : a < j) (h : d[j]! < d[j - 1]!) : insInner ltInt a j d = insInner ltInt a (j - 1) (swp d j (j - 1)) := by
  cases j with
  | zero => omega
  | succ k => rw [insInner]; simp only [Nat.add_sub_cancel] at h ⊢; simp [hj, ltI_pos h]
theorem ins_out (a j : Nat) (d : Array Int) (h : j ≤ a ∨ ¬ d[j]! < d[j - 1]!) : insInner ltInt a j d = d := by
  cases j with
  | zero => rw [insInner]
  | succ k =>
    rw [insInner]
    simp only [Nat.add_sub_cancel] at h
    rcases h with h | h
    · simp [show ¬ a < k + 1 by omega]
    · simp [ltI_neg h]
theorem insO_in (a b i : Nat) (d : Array Int) (h : i < b) : insOuter ltInt a b i d = insOuter ltInt a b (i + 1) (insInner ltInt a i d) := by rw [insOuter, if_pos h]
theorem insO_out (a b i : Nat) (d : Array Int) (h : ¬ i < b) : insOuter ltInt a b i d = d := by rw [insOuter, if_neg h]

set_option maxRecDepth 100000 in
set_option maxHeartbeats 2000000 in
theorem ins_any (blk off cap a b N : Nat) (d : Array Int) (w : World) (hH : Holds (Value.int .u64) w blk off d) (hN : d.size = N) (hab : a ≤ b) (hb : b ≤ N) (hsz : N ≤ 1048576) :
    Calls Try.prog 34 #[.slice (some ⟨blk, off, none⟩) N cap, .int .i64 a, .int .i64 b] w fun e w' =>
      e = .returned (.tuple #[]) ∧ Done blk off N w w' (Sort.insertionSort ltInt d a b) := by
  have H0 : Hid (Done blk off N w w d) := by subst hN; exact Done.start hH
  clear hH hN
  go_enter Try.func34, Try.ntmps34
  go_wp2_with fail
  go_loopw [6] (fun vi wr => ∃ (i : Nat) (dk : Array Int), vi = .int .i64 i ∧ a < i ∧ i ≤ b + 1 ∧ Hid (Done blk off N w wr dk) ∧ Hid (insOuter ltInt a b i dk = insOuter ltInt a b (a + 1) d)) (fun vi _ => b + 1 - (intOf vi).toNat)
  case atStart => exact ⟨a + 1, d, by go_num, by omega, by omega, H0, rfl⟩
  case round =>
    obtain ⟨i, dk, rfl, hai, hib, HD, HO⟩ := hrel
    clear H0
    by_cases hlt : i < b
    · go_wp2_with fail
      go_loopw [7] (fun vj wr2 => ∃ (j : Nat) (dj : Array Int), vj = .int .i64 j ∧ a ≤ j ∧ j ≤ i ∧ Hid (Done blk off N w wr2 dj) ∧ Hid (insInner ltInt a j dj = insInner ltInt a i dk)) (fun vj _ => (intOf vj).toNat)
      case atStart => exact ⟨i, dk, rfl, by omega, Nat.le_refl _, HD, rfl⟩
      case round =>
        obtain ⟨j, dj, rfl, haj, hji, HD2, HI⟩ := hrel
        clear HD
        obtain ⟨G, hG, hcw, hfw⟩ := HD2.out.cells
        have HG := hid hG
        clear hG
        go_wp2_with fail
        by_cases hja : a < j
        · by_cases hl : G j < G (j - 1)
          · go_quiet (first | (go_at_call 40; refine Calls.quiet_of_same (less_any _ _ _)))
            go_wp2_with fail
            go_region
            all_goals go_wp2
            go_roundw
            case rel =>
              refine ⟨j - 1, swp dj j (j - 1), by congr 1; omega, by omega, by omega, ?_, ?_⟩
              · have h := HD2.out.drewN (nq + 1)
                have h2 := h.swap j (j - 1) (by omega) (by omega)
                rw [← HG.out, ← HG.out] at h2
                exact h2
              · rw [Hid, ← HI.out, ins_in a j dj hja (by rw [← HG.out, ← HG.out]; exact hl)]
            case measure => simp [intOf]; omega
          · go_quiet (first | (go_at_call 40; refine Calls.quiet_of_same (less_any _ _ _)))
            go_wp2_with fail
            go_roundw
            case rel => exact ⟨i + 1, dj, by go_num, by omega, by omega, HD2.out.drewN nq, by rw [Hid, ← HO.out, insO_in _ _ _ _ hlt, ← HI.out, ins_out a j dj (Or.inr (by rw [← HG.out, ← HG.out]; exact hl))]⟩
            case measure => simp [intOf]; omega
        · go_quiet (first | (go_at_call 40; refine Calls.quiet_of_same (less_any _ _ _)))
          go_wp2_with fail
          go_roundw
          case rel => exact ⟨i + 1, dj, by go_num, by omega, by omega, HD2.out.drewN nq, by rw [Hid, ← HO.out, insO_in _ _ _ _ hlt, ← HI.out, ins_out a j dj (Or.inl (by omega))]⟩
          case measure => simp [intOf]; omega
    · go_wp2_with fail
      go_end0
      refine ⟨rfl, ?_⟩
      unfold Sort.insertionSort
      rw [← HO.out, insO_out _ _ _ _ hlt]
      exact HD.out
end Go.Proofs.Qxb6601963a.St
