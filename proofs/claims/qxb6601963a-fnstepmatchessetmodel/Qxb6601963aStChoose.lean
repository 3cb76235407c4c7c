import Derived.Test.Qxb6601963aStPivot
set_option linter.unusedVariables false
namespace Go.Proofs.Qxb6601963a.St
open Go.RowKit Go.Sort

theorem Holds.lt {w : World} {blk off N : Nat} {d : Array Int} (h : Holds (Value.int .u64) w blk off d) (hN : d.size = N) (h0 : 0 < N) : blk < w.heap.size :=
  World.block_lt_of_cell? w ⟨blk, off + 0, none⟩ (h 0 (by omega)).1
theorem piv_start {w : World} {blk off N : Nat} {d : Array Int} (h : Holds (Value.int .u64) w blk off d) (hN : d.size = N) (h0 : 0 < N) :
    Piv blk off N w.heap.size (w.alloc (.cells #[.int .i64 0] 3)) (w.alloc (.cells #[.int .i64 0] 3)) d 0 ∧ w.heap.size ≠ blk := by
  have hlt := Holds.lt h hN h0
  have hb : Below w.heap.size w (w.alloc (.cells #[.int .i64 0] 3)) := (Below.refl _ _).alloc (Nat.le_refl _) _
  have hn := heap_alloc_new w (.cells #[.int .i64 0] 3)
  refine ⟨⟨hN, fun j hj => ⟨(hb.cell (by exact hlt)).trans (h j hj).1, (World.frozen?_of_block (hb.block blk hlt)).trans (h j hj).2⟩, ?_, ?_, World.grownBy.refl _ _⟩, by omega⟩
  · simp only [World.cell?]; rw [hn]; rfl
  · simp only [World.frozen?]; rw [hn]; rfl
theorem piv_end {w w' : World} {blk off N s : Nat} {d : Array Int} (h : Piv blk off N w.heap.size (w.alloc (.cells #[.int .i64 0] 3)) w' d s) : Done blk off N w w' d :=
  ⟨h.size, h.row, h.only.os, h.only.tape, h.only.output, by have := h.only.size; simp at this; omega, fun k hk _ => (h.only.block k (by simp; omega) (by simp; omega)).trans (by exact Below.block ((Below.refl w.heap.size w).alloc (Nat.le_refl _) _) k hk)⟩

theorem mem3 {x a b c N : Nat} (h : x = a ∨ x = b ∨ x = c) (ha : a < N) (hb : b < N) (hc : c < N) : x < N := by
  rcases h with h | h | h <;> omega

set_option maxRecDepth 100000 in
set_option maxHeartbeats 4000000 in
theorem choose_any (blk off cap a b N : Nat) (d : Array Int) (w : World) (hD : Holds (Value.int .u64) w blk off d) (hN : d.size = N) (hab : a + 12 < b) (hb : b ≤ N) (hsz : N ≤ 1048576) :
    Calls Try.prog 37 #[.slice (some ⟨blk, off, none⟩) N cap, .int .i64 a, .int .i64 b] w fun e w' =>
      e = .returned (.tuple #[.int .i64 (Sort.choosePivot ltInt d a b).1, .int .i64 (hintCode (Sort.choosePivot ltInt d a b).2)]) ∧ Done blk off N w w' d := by
  obtain ⟨h0, hne⟩ := piv_start hD hN (by omega)
  have H0 := hid h0
  clear h0 hD hN
  obtain ⟨n, hn⟩ : ∃ n : Nat, n = b - a := ⟨_, rfl⟩
  have hnI : ((b : Int) - a) = n := by omega
  obtain ⟨v, hv⟩ : ∃ v : Nat, v = n / 4 := ⟨_, rfl⟩
  have hvI : (n : Int).tdiv 4 = v := by rw [hv]; rfl
  have hvI' : (n : Int) / 4 = v := by omega
  have b1 : a + v + 1 < N := by omega
  have b2 : a + v * 2 + 1 < N := by omega
  have b3 : a + v * 3 + 1 < N := by omega
  have bv : 0 < v := by omega
  have hn8 : 8 ≤ n := by omega
  rw [choosePivot_eq]
  by_cases h50 : 50 ≤ n
  · have n1 := medianAdjacent_mem ltInt d (a + v) 0
    have s1 := medianAdjacent_count ltInt d (a + v) 0
    have c1 := fun w1 h1 => adj_any blk off cap N w.heap.size (a + v) 0 d w1 h1 hne (by omega) b1 (by omega) hsz
    obtain ⟨m1, hm1⟩ : ∃ m1, m1 = medianAdjacent ltInt d (a + v) 0 := ⟨_, rfl⟩
    rw [← hm1] at n1 s1 c1
    have n2 := medianAdjacent_mem ltInt d (a + v * 2) m1.2
    have s2 := medianAdjacent_count ltInt d (a + v * 2) m1.2
    have c2 := fun w1 h1 => adj_any blk off cap N w.heap.size (a + v * 2) m1.2 d w1 h1 hne (by omega) b2 (by omega) hsz
    obtain ⟨m2, hm2⟩ : ∃ m2, m2 = medianAdjacent ltInt d (a + v * 2) m1.2 := ⟨_, rfl⟩
    rw [← hm2] at n2 s2 c2
    have n3 := medianAdjacent_mem ltInt d (a + v * 3) m2.2
    have s3 := medianAdjacent_count ltInt d (a + v * 3) m2.2
    have c3 := fun w1 h1 => adj_any blk off cap N w.heap.size (a + v * 3) m2.2 d w1 h1 hne (by omega) b3 (by omega) hsz
    obtain ⟨m3, hm3⟩ : ∃ m3, m3 = medianAdjacent ltInt d (a + v * 3) m2.2 := ⟨_, rfl⟩
    rw [← hm3] at n3 s3 c3
    have e4 : rawPivot ltInt d a b = median ltInt d m1.1 m2.1 m3.1 m3.2 := by
      rw [hm3, hm2, hm1]
      unfold rawPivot
      rw [if_pos (by omega), if_pos (by omega), ← hn, ← hv, Nat.mul_one]
    rw [e4]
    have c4 := fun w1 h1 => median_any blk off cap N w.heap.size m1.1 m2.1 m3.1 m3.2 d w1 h1 hne (mem3 n1 (by omega) (by omega) (by omega)) (mem3 n2 (by omega) (by omega) (by omega)) (mem3 n3 (by omega) (by omega) (by omega)) (by omega) hsz
    have hms := median_count ltInt d m1.1 m2.1 m3.1 m3.2
    obtain ⟨M, hM⟩ : ∃ M, M = median ltInt d m1.1 m2.1 m3.1 m3.2 := ⟨_, rfl⟩
    rw [← hM] at c4 hms ⊢
    have C1 := hid c1
    have C2 := hid c2
    have C3 := hid c3
    have C4 := hid c4
    have h50I : (50 : Int) ≤ n := by omega
    have h8I : (8 : Int) ≤ n := by omega
    have hM2 : (M.2 : Int) ≤ 100 := by omega
    clear c1 c2 c3 c4 hM hm1 hm2 hm3 n1 n2 n3 e4 hn hv hvI'
    go_enter Try.func37, Try.ntmps37
    go_wp2_with fail
    rw [show (a : Int) + v = ((a + v : Nat) : Int) by omega]
    refine (C1.out _ H0.out).mono ?_
    rintro e w1 ⟨rfl, h1⟩
    have H1 := hid (H0.out.after h1)
    clear h1
    go_wp2_with fail
    rw [show (a : Int) + v * 2 = ((a + v * 2 : Nat) : Int) by omega]
    refine (C2.out _ H1.out.again).mono ?_
    rintro e w2 ⟨rfl, h2⟩
    have H2 := hid (H1.out.after h2)
    clear h2
    go_wp2_with fail
    rw [show (a : Int) + v * 3 = ((a + v * 3 : Nat) : Int) by omega]
    refine (C3.out _ H2.out.again).mono ?_
    rintro e w3 ⟨rfl, h3⟩
    have H3 := hid (H2.out.after h3)
    clear h3
    go_wp2_with fail
    refine (C4.out _ H3.out.again).mono ?_
    rintro e w4 ⟨rfl, h4⟩
    have H4 := hid (H3.out.after h4)
    clear h4
    have hc4 := H4.out.cnt
    by_cases hM0 : M.2 = 0
    · have hM0I : (M.2 : Int) = 0 := by omega
      have eh : hintCode (hintOf M.2) = 1 := by rw [hM0]; rfl
      have EH := hid eh
      clear eh hM0
      go_wp2_with fail
      go_ret2
      rw [EH.out]
      exact ⟨rfl, piv_end H4.out⟩
    · have hM0I : ¬ (M.2 : Int) = 0 := by omega
      by_cases hM12 : M.2 = 12
      · have hM12I : (M.2 : Int) = 12 := by omega
        have eh : hintCode (hintOf M.2) = 2 := by rw [hM12]; rfl
        have EH := hid eh
        clear eh hM12
        go_wp2_with fail
        go_ret2
        rw [EH.out]
        exact ⟨rfl, piv_end H4.out⟩
      · have hM12I : ¬ (M.2 : Int) = 12 := by omega
        have eh : hintCode (hintOf M.2) = 0 := by unfold hintOf; rw [if_neg hM0, if_neg hM12]; rfl
        have EH := hid eh
        clear eh
        go_wp2_with fail
        go_ret2
        rw [EH.out]
        exact ⟨rfl, piv_end H4.out⟩
  · have c4 := fun w1 h1 => median_any blk off cap N w.heap.size (a + v) (a + v * 2) (a + v * 3) 0 d w1 h1 hne (by omega) (by omega) (by omega) (by omega) hsz
    have e4 : rawPivot ltInt d a b = median ltInt d (a + v) (a + v * 2) (a + v * 3) 0 := by
      unfold rawPivot
      rw [if_pos (by omega), if_neg (by omega), ← hn, ← hv, Nat.mul_one]
    rw [e4]
    have hms := median_count ltInt d (a + v) (a + v * 2) (a + v * 3) 0
    obtain ⟨M, hM⟩ : ∃ M, M = median ltInt d (a + v) (a + v * 2) (a + v * 3) 0 := ⟨_, rfl⟩
    rw [← hM] at c4 hms ⊢
    have C4 := hid c4
    have h50I : ¬ (50 : Int) ≤ n := by omega
    have h8I : (8 : Int) ≤ n := by omega
    have hM2 : (M.2 : Int) ≤ 100 := by omega
    clear c4 hM e4 hn hv hvI'
    go_enter Try.func37, Try.ntmps37
    go_wp2_with fail
    rw [show (a : Int) + v = ((a + v : Nat) : Int) by omega, show (a : Int) + v * 2 = ((a + v * 2 : Nat) : Int) by omega, show (a : Int) + v * 3 = ((a + v * 3 : Nat) : Int) by omega]
    refine (C4.out _ H0.out).mono ?_
    rintro e w4 ⟨rfl, h4⟩
    have H4 := hid h4
    clear h4
    have hc4 := H4.out.cnt
    by_cases hM0 : M.2 = 0
    · have hM0I : (M.2 : Int) = 0 := by omega
      have eh : hintCode (hintOf M.2) = 1 := by rw [hM0]; rfl
      have EH := hid eh
      clear eh hM0
      go_wp2_with fail
      go_ret2
      rw [EH.out]
      exact ⟨rfl, piv_end H4.out⟩
    · have hM0I : ¬ (M.2 : Int) = 0 := by omega
      by_cases hM12 : M.2 = 12
      · have hM12I : (M.2 : Int) = 12 := by omega
        have eh : hintCode (hintOf M.2) = 2 := by rw [hM12]; rfl
        have EH := hid eh
        clear eh hM12
        go_wp2_with fail
        go_ret2
        rw [EH.out]
        exact ⟨rfl, piv_end H4.out⟩
      · have hM12I : ¬ (M.2 : Int) = 12 := by omega
        have eh : hintCode (hintOf M.2) = 0 := by unfold hintOf; rw [if_neg hM0, if_neg hM12]; rfl
        have EH := hid eh
        clear eh
        go_wp2_with fail
        go_ret2
        rw [EH.out]
        exact ⟨rfl, piv_end H4.out⟩
end Go.Proofs.Qxb6601963a.St
