import Derived.Test.Qxb6601963aStIns
set_option linter.unusedVariables false
namespace Go.Proofs.Qxb6601963a.St
open Go.RowKit Go.Sort

theorem rev_in (i j : Nat) (d : Array Int) (h : i < j) : reverseLoop i j d = reverseLoop (i + 1) (j - 1) (swp d i j) := by rw [reverseLoop, if_pos h]
theorem rev_out (i j : Nat) (d : Array Int) (h : ¬ i < j) : reverseLoop i j d = d := by rw [reverseLoop, if_neg h]

set_option maxRecDepth 100000 in
set_option maxHeartbeats 2000000 in
theorem rev_any (blk off cap a b N : Nat) (d : Array Int) (w : World) (hD : Holds (Value.int .u64) w blk off d) (hN : d.size = N) (hab : a < b) (hb : b ≤ N) (hsz : N ≤ 1048576) :
    Calls Try.prog 38 #[.slice (some ⟨blk, off, none⟩) N cap, .int .i64 a, .int .i64 b] w fun e w' =>
      e = .returned (.tuple #[]) ∧ Done blk off N w w' (Sort.reverseRange d a b) := by
  have H0 : Hid (Done blk off N w w d) := by subst hN; exact Done.start hD
  clear hD hN
  go_enter Try.func38, Try.ntmps38
  go_wp2_with fail
  go_loopw [6, 7] (fun vi vj wr => ∃ (i j : Nat) (dk : Array Int), vi = .int .i64 i ∧ vj = .int .i64 j ∧ j < N ∧ i ≤ N ∧ Hid (Done blk off N w wr dk) ∧ Hid (reverseLoop i j dk = reverseLoop a (b - 1) d)) (fun vi vj _ => (intOf vj).toNat - (intOf vi).toNat)
  case atStart => exact ⟨a, b - 1, d, rfl, by go_num, by omega, by omega, H0, rfl⟩
  case round =>
    obtain ⟨i, j, dk, rfl, rfl, hj, hi, HD, HO⟩ := hrel
    clear H0
    obtain ⟨G, hG, hcw, hfw⟩ := HD.out.cells
    have HG := hid hG
    clear hG
    by_cases hlt : i < j
    · go_wp2_with fail
      go_region
      all_goals go_wp2
      go_roundw
      case rel =>
        refine ⟨i + 1, j - 1, swp dk i j, by go_num, by go_num, by omega, by omega, ?_, ?_⟩
        · have h2 := (HD.out.drewN 1).swap i j (by omega) (by omega)
          rw [← HG.out, ← HG.out] at h2
          exact h2
        · rw [Hid, ← HO.out, rev_in i j dk hlt]
      case measure => simp [intOf]; omega
    · go_wp2_with fail
      go_end0
      refine ⟨rfl, ?_⟩
      unfold Sort.reverseRange
      rw [← HO.out, rev_out _ _ _ hlt]
      exact HD.out

theorem sd_end (hi first r : Nat) (d : Array Int) (h : hi ≤ 2 * r + 1) : siftDown ltInt hi first r d = d := by rw [siftDown]; simp [h]
theorem sd_stop1 (hi first r : Nat) (d : Array Int) (h : ¬ hi ≤ 2 * r + 1) (h1 : ¬ 2 * r + 2 < hi ∨ ¬ d[first + (2 * r + 1)]! < d[first + (2 * r + 2)]!) (h2 : ¬ d[first + r]! < d[first + (2 * r + 1)]!) :
    siftDown ltInt hi first r d = d := by
  rw [siftDown]
  have e : (decide (2 * r + 1 + 1 < hi) && ltInt d[first + (2 * r + 1)]! d[first + (2 * r + 1) + 1]!) = false := by
    rcases h1 with h1 | h1
    · simp; intro h'; omega
    · simp; intro _; exact ltI_neg h1
  simp [h, e, ltI_neg h2]
theorem sd_go1 (hi first r : Nat) (d : Array Int) (h : ¬ hi ≤ 2 * r + 1) (h1 : ¬ 2 * r + 2 < hi ∨ ¬ d[first + (2 * r + 1)]! < d[first + (2 * r + 2)]!) (h2 : d[first + r]! < d[first + (2 * r + 1)]!) :
    siftDown ltInt hi first r d = siftDown ltInt hi first (2 * r + 1) (swp d (first + r) (first + (2 * r + 1))) := by
  rw [siftDown]
  have e : (decide (2 * r + 1 + 1 < hi) && ltInt d[first + (2 * r + 1)]! d[first + (2 * r + 1) + 1]!) = false := by
    rcases h1 with h1 | h1
    · simp; intro h'; omega
    · simp; intro _; exact ltI_neg h1
  simp [h, e, ltI_pos h2]
theorem sd_stop2 (hi first r : Nat) (d : Array Int) (h1 : 2 * r + 2 < hi) (h2 : d[first + (2 * r + 1)]! < d[first + (2 * r + 2)]!) (h3 : ¬ d[first + r]! < d[first + (2 * r + 2)]!) :
    siftDown ltInt hi first r d = d := by
  rw [siftDown]
  have e : (decide (2 * r + 1 + 1 < hi) && ltInt d[first + (2 * r + 1)]! d[first + (2 * r + 1) + 1]!) = true := by
    simp; exact ⟨h1, ltI_pos h2⟩
  simp [show ¬ hi ≤ 2 * r + 1 by omega, e, ltI_neg h3]
theorem sd_go2 (hi first r : Nat) (d : Array Int) (h1 : 2 * r + 2 < hi) (h2 : d[first + (2 * r + 1)]! < d[first + (2 * r + 2)]!) (h3 : d[first + r]! < d[first + (2 * r + 2)]!) :
    siftDown ltInt hi first r d = siftDown ltInt hi first (2 * r + 2) (swp d (first + r) (first + (2 * r + 2))) := by
  rw [siftDown]
  have e : (decide (2 * r + 1 + 1 < hi) && ltInt d[first + (2 * r + 1)]! d[first + (2 * r + 1) + 1]!) = true := by
    simp; exact ⟨h1, ltI_pos h2⟩
  rw [dif_neg (by omega), if_pos e, if_neg (by simp [ltI_pos h3]), dif_pos h1]

set_option maxRecDepth 100000 in
set_option maxHeartbeats 4000000 in
theorem sift_any (blk off cap lo hi first N : Nat) (d : Array Int) (w : World) (hD : Holds (Value.int .u64) w blk off d) (hN : d.size = N) (hb : first + hi ≤ N) (hlo : lo ≤ N) (hsz : N ≤ 1048576) :
    Calls Try.prog 45 #[.slice (some ⟨blk, off, none⟩) N cap, .int .i64 lo, .int .i64 hi, .int .i64 first] w fun e w' =>
      e = .returned (.tuple #[]) ∧ Done blk off N w w' (Sort.siftDown ltInt hi first lo d) := by
  have H0 : Hid (Done blk off N w w d) := by subst hN; exact Done.start hD
  clear hD hN
  go_enter Try.func45, Try.ntmps45
  go_wp2_with fail
  go_loopw [8] (fun vr wr => ∃ (r : Nat) (dk : Array Int), vr = .int .i64 r ∧ r ≤ N ∧ Hid (Done blk off N w wr dk) ∧ Hid (siftDown ltInt hi first r dk = siftDown ltInt hi first lo d)) (fun vr _ => N - (intOf vr).toNat)
  case atStart => exact ⟨lo, d, rfl, hlo, H0, rfl⟩
  case round =>
    obtain ⟨r, dk, rfl, hr, HD, HO⟩ := hrel
    clear H0
    obtain ⟨G, hG, hcw, hfw⟩ := HD.out.cells
    have HG := hid hG
    clear hG
    by_cases he : hi ≤ 2 * r + 1
    · go_wp2_with fail
      go_end0
      refine ⟨rfl, ?_⟩
      rw [← HO.out, sd_end _ _ _ _ he]
      exact HD.out
    · go_wp2_with fail
      have hrI : (r : Int) ≤ 1048576 := by omega
      have hiI : (hi : Int) ≤ 1048576 := by omega
      have hfI : (first : Int) ≤ 1048576 := by omega
      by_cases h1 : 2 * r + 2 < hi
      · have h1' : 2 * (r : Int) + 1 + 1 < hi := by omega
        by_cases h2 : G (first + 2 * r + 1) < G (first + 2 * r + 2)
        · go_big_quiet (first | (go_at_call 40; refine Calls.quiet_of_same (less_any _ _ _)))
          have HD1 : Hid (Done blk off N w (wr.drewN nq) dk) := HD.out.drewN nq
          have hc1 : ∀ t, t < N → (wr.drewN nq).cell? ⟨blk, off + t, none⟩ = some (.int .u64 (G t)) := hcw
          have hf1 : ∀ t, t < N → (wr.drewN nq).frozen? ⟨blk, off + t, none⟩ = false := hfw
          clear hcw hfw HD
          generalize wr.drewN nq = w1 at HD1 hc1 hf1
          go_wp2_with fail
          by_cases h3 : G (first + r) < G (first + 2 * r + 2)
          · go_big_quiet (first | (go_at_call 40; refine Calls.quiet_of_same (less_any _ _ _)))
            go_wp2_with fail
            go_region
            all_goals go_wp2
            go_roundw
            case rel =>
              refine ⟨(2 * r + 2), swp dk (first + r) (first + (2 * r + 2)), by go_num, by omega, ?_, ?_⟩
              · have h2 := (HD1.out.drewN (nq + 1)).swap (first + r) (first + (2 * r + 2)) (by omega) (by omega)
                rw [← HG.out, ← HG.out] at h2
                exact h2
              · rw [Hid, ← HO.out, sd_go2 hi first r dk h1 (by rw [← HG.out, ← HG.out]; first | exact h2 | exact Int.not_lt.2 h2) (by rw [← HG.out, ← HG.out]; first | exact h3 | exact Int.not_lt.2 h3)]
            case measure => simp [intOf]; omega
          · go_big_quiet (first | (go_at_call 40; refine Calls.quiet_of_same (less_any _ _ _)))
            go_wp2_with fail
            refine bodyPost_ret (results_none rfl _ _ _) rfl ?_
            refine ⟨rfl, ?_⟩
            rw [← HO.out, sd_stop2 hi first r dk h1 (by rw [← HG.out, ← HG.out]; first | exact h2 | exact Int.not_lt.2 h2) (by rw [← HG.out, ← HG.out]; first | exact h3 | exact Int.not_lt.2 h3)]
            exact HD1.out.drewN _
        · go_big_quiet (first | (go_at_call 40; refine Calls.quiet_of_same (less_any _ _ _)))
          have HD1 : Hid (Done blk off N w (wr.drewN nq) dk) := HD.out.drewN nq
          have hc1 : ∀ t, t < N → (wr.drewN nq).cell? ⟨blk, off + t, none⟩ = some (.int .u64 (G t)) := hcw
          have hf1 : ∀ t, t < N → (wr.drewN nq).frozen? ⟨blk, off + t, none⟩ = false := hfw
          clear hcw hfw HD
          generalize wr.drewN nq = w1 at HD1 hc1 hf1
          go_wp2_with fail
          by_cases h3 : G (first + r) < G (first + 2 * r + 1)
          · go_big_quiet (first | (go_at_call 40; refine Calls.quiet_of_same (less_any _ _ _)))
            go_wp2_with fail
            go_region
            all_goals go_wp2
            go_roundw
            case rel =>
              refine ⟨(2 * r + 1), swp dk (first + r) (first + (2 * r + 1)), by go_num, by omega, ?_, ?_⟩
              · have h2 := (HD1.out.drewN (nq + 1)).swap (first + r) (first + (2 * r + 1)) (by omega) (by omega)
                rw [← HG.out, ← HG.out] at h2
                exact h2
              · rw [Hid, ← HO.out, sd_go1 hi first r dk he (Or.inr (by rw [← HG.out, ← HG.out]; first | exact h2 | exact Int.not_lt.2 h2)) (by rw [← HG.out, ← HG.out]; first | exact h3 | exact Int.not_lt.2 h3)]
            case measure => simp [intOf]; omega
          · go_big_quiet (first | (go_at_call 40; refine Calls.quiet_of_same (less_any _ _ _)))
            go_wp2_with fail
            refine bodyPost_ret (results_none rfl _ _ _) rfl ?_
            refine ⟨rfl, ?_⟩
            rw [← HO.out, sd_stop1 hi first r dk he (Or.inr (by rw [← HG.out, ← HG.out]; first | exact h2 | exact Int.not_lt.2 h2)) (by rw [← HG.out, ← HG.out]; first | exact h3 | exact Int.not_lt.2 h3)]
            exact HD1.out.drewN _
      · have h1' : ¬ 2 * (r : Int) + 1 + 1 < hi := by omega
        go_big_quiet (first | (go_at_call 40; refine Calls.quiet_of_same (less_any _ _ _)))
        have HD1 : Hid (Done blk off N w (wr.drewN nq) dk) := HD.out.drewN nq
        have hc1 : ∀ t, t < N → (wr.drewN nq).cell? ⟨blk, off + t, none⟩ = some (.int .u64 (G t)) := hcw
        have hf1 : ∀ t, t < N → (wr.drewN nq).frozen? ⟨blk, off + t, none⟩ = false := hfw
        clear hcw hfw HD
        generalize wr.drewN nq = w1 at HD1 hc1 hf1
        go_wp2_with fail
        by_cases h3 : G (first + r) < G (first + 2 * r + 1)
        · go_big_quiet (first | (go_at_call 40; refine Calls.quiet_of_same (less_any _ _ _)))
          go_wp2_with fail
          go_region
          all_goals go_wp2
          go_roundw
          case rel =>
            refine ⟨(2 * r + 1), swp dk (first + r) (first + (2 * r + 1)), by go_num, by omega, ?_, ?_⟩
            · have h2 := (HD1.out.drewN (nq + 1)).swap (first + r) (first + (2 * r + 1)) (by omega) (by omega)
              rw [← HG.out, ← HG.out] at h2
              exact h2
            · rw [Hid, ← HO.out, sd_go1 hi first r dk he (Or.inl h1) (by rw [← HG.out, ← HG.out]; first | exact h3 | exact Int.not_lt.2 h3)]
          case measure => simp [intOf]; omega
        · go_big_quiet (first | (go_at_call 40; refine Calls.quiet_of_same (less_any _ _ _)))
          go_wp2_with fail
          refine bodyPost_ret (results_none rfl _ _ _) rfl ?_
          refine ⟨rfl, ?_⟩
          rw [← HO.out, sd_stop1 hi first r dk he (Or.inl h1) (by rw [← HG.out, ← HG.out]; first | exact h3 | exact Int.not_lt.2 h3)]
          exact HD1.out.drewN _

theorem hb_in (hi first k : Nat) (d : Array Int) : heapBuild ltInt hi first (k + 1) d = heapBuild ltInt hi first k (siftDown ltInt hi first k d) := by rw [heapBuild]
theorem hb_out (hi first : Nat) (d : Array Int) : heapBuild ltInt hi first 0 d = d := by rw [heapBuild]
theorem hp_in (first k : Nat) (d : Array Int) : heapPop ltInt first (k + 1) d = heapPop ltInt first k (siftDown ltInt k first 0 (swp d first (first + k))) := by rw [heapPop]
theorem hp_out (first : Nat) (d : Array Int) : heapPop ltInt first 0 d = d := by rw [heapPop]

set_option maxRecDepth 100000 in
set_option maxHeartbeats 4000000 in
theorem heap_any (blk off cap a b N : Nat) (d : Array Int) (w : World) (hD : Holds (Value.int .u64) w blk off d) (hN : d.size = N) (hab : a < b) (hb : b ≤ N) (hsz : N ≤ 1048576) :
    Calls Try.prog 35 #[.slice (some ⟨blk, off, none⟩) N cap, .int .i64 a, .int .i64 b] w fun e w' =>
      e = .returned (.tuple #[]) ∧ Done blk off N w w' (Sort.heapSort ltInt d a b) := by
  have H0 : Hid (Done blk off N w w d) := by subst hN; exact Done.start hD
  clear hD hN
  obtain ⟨n, hn⟩ : ∃ n : Nat, n = b - a := ⟨_, rfl⟩
  have hnI : ((b : Int) - a) = n := by omega
  have hn0 : 0 < n := by omega
  have hnN : a + n ≤ N := by omega
  unfold Sort.heapSort
  rw [← hn]
  clear hn
  have hq : ((n : Int) - 1).tdiv 2 = (((n - 1) / 2 : Nat) : Int) := by
    rw [show (n : Int) - 1 = ((n - 1 : Nat) : Int) by omega]
    rfl
  go_enter Try.func35, Try.ntmps35
  go_wp2_with fail
  go_loopw [9] (fun v wr => ∃ (k : Nat) (dk : Array Int), v = .int .i64 ((k : Int) - 1) ∧ k ≤ n ∧ Hid (Done blk off N w wr dk) ∧ Hid (heapBuild ltInt n a k dk = heapBuild ltInt n a ((n - 1) / 2 + 1) d)) (fun v _ => (intOf v + 1).toNat)
  case atStart => exact ⟨(n - 1) / 2 + 1, d, by congr 1; omega, by omega, H0, rfl⟩
  case round =>
    obtain ⟨k, dk, rfl, hk, HD, HO⟩ := hrel
    clear H0 hq hnI
    cases k with
    | succ m =>
      rw [show ((m + 1 : Nat) : Int) - 1 = m by omega]
      go_wp2_with fail
      refine (sift_any blk off cap m n a N dk wr HD.out.row HD.out.size hnN (by omega) hsz).mono ?_
      rintro e w2 ⟨rfl, hd2⟩
      have HD2 := hid (HD.out.after hd2)
      clear hd2
      go_wp2_with fail
      go_roundw
      case rel => exact ⟨m, _, rfl, by omega, HD2, by rw [Hid, ← HO.out, hb_in]⟩
      case measure => simp [intOf]
    | zero =>
      rw [hb_out] at HO
      rw [show ((0 : Nat) : Int) - 1 = -1 by omega]
      go_wp2_with fail
      go_loopw [10] (fun v wr2 => ∃ (k : Nat) (d2 : Array Int), v = .int .i64 ((k : Int) - 1) ∧ k ≤ n ∧ Hid (Done blk off N w wr2 d2) ∧ Hid (heapPop ltInt a k d2 = heapPop ltInt a n dk)) (fun v _ => (intOf v + 1).toNat)
      case atStart => exact ⟨n, dk, rfl, by omega, HD, rfl⟩
      case round =>
        obtain ⟨k, d2, rfl, hk2, HD2, HP⟩ := hrel
        clear HD
        cases k with
        | succ m =>
          rw [show ((m + 1 : Nat) : Int) - 1 = m by omega]
          obtain ⟨G, hG, hcw, hfw⟩ := HD2.out.cells
          have HG := hid hG
          clear hG
          obtain ⟨v', hy'⟩ := cell?_setCell_some (w := wr) (p := ⟨blk, off + a, none⟩) (x := .int .u64 (G (a + m))) (q := ⟨blk, off + (a + m), none⟩) (hcw (a + m) (by omega))
          go_wp2_with fail
          go_region
          all_goals go_wp2_with fail
          have HD3 : Hid (Done blk off N w (((wr.setCell ⟨blk, off + a, none⟩ (.int .u64 (G (a + m)))).setCell ⟨blk, off + (a + m), none⟩ (.int .u64 (G a))).drew) (swp d2 a (a + m))) := by
            have h2 := (HD2.out.drewN 1).swap a (a + m) (by omega) (by omega)
            rw [← HG.out, ← HG.out] at h2
            exact h2
          refine (sift_any blk off cap 0 m a N (swp d2 a (a + m)) _ HD3.out.row HD3.out.size (by omega) (by omega) hsz).mono ?_
          rintro e w2 ⟨rfl, hd2⟩
          have HD4 := hid (HD3.out.after hd2)
          clear hd2 hcw hfw hy' HD3 HD2
          go_wp2_with fail
          go_roundw
          case rel => exact ⟨m, _, rfl, by omega, HD4, by rw [Hid, ← HP.out, hp_in]⟩
          case measure => simp [intOf]
        | zero =>
          rw [show ((0 : Nat) : Int) - 1 = -1 by omega]
          go_wp2_with fail
          go_end0
          refine ⟨rfl, ?_⟩
          rw [← HO.out, ← HP.out, hp_out]
          exact HD2.out
end Go.Proofs.Qxb6601963a.St
