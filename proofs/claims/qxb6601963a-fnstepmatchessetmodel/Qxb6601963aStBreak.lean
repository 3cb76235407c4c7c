import Derived.Test.Qxb6601963aStBits
import Derived.Test.Qxb6601963aStChoose
import Derived.Test.Qxb6601963aStPart
set_option linter.unusedVariables false
namespace Go.Proofs.Qxb6601963a.St
open Go.RowKit Go.Sort

/-- the row, and the word of the random numbers in a block q of its own -/
structure Brk (blk off N q : Nat) (w w' : World) (d : Array Int) (X : Nat) : Prop where
  done : Done blk off N w w' d
  cnt : w'.cell? ⟨q, 0, none⟩ = some (.int .u64 X)
  thaw : w'.frozen? ⟨q, 0, none⟩ = false
  far : w.heap.size ≤ q
  ne : q ≠ blk

theorem Brk.drewN {blk off N q : Nat} {w w' : World} {d : Array Int} {X : Nat} (h : Brk blk off N q w w' d X) (n : Nat) : Brk blk off N q w (w'.drewN n) d X := ⟨h.done.drewN n, h.cnt, h.thaw, h.far, h.ne⟩
theorem Brk.turn {blk off N q : Nat} {w w' : World} {d : Array Int} {X : Nat} (h : Brk blk off N q w w' d X) (Y : Nat) : Brk blk off N q w (w'.setCell ⟨q, 0, none⟩ (.int .u64 Y)) d Y :=
  ⟨⟨h.done.size, fun j hj => ⟨(World.cell?_setCell_other w' _ _ _ (fun e => h.ne (by simpa using congrArg Addr.block e))).trans (h.done.row j hj).1, (World.frozen?_setCell _ _ _ _).trans (h.done.row j hj).2⟩,
      ⟨h.done.only.os, h.done.only.tape, h.done.only.output, by simpa using h.done.only.size, fun k hk hne => (Below.heap_setCell _ _ _ _ (fun e => by have := h.far; simp at e; omega)).trans (h.done.only.block k hk hne)⟩⟩,
    World.cell?_setCell_same _ _ _ h.cnt, (World.frozen?_setCell _ _ _ _).trans h.thaw, h.far, h.ne⟩
theorem Brk.swap {blk off N q : Nat} {w w' : World} {d : Array Int} {X : Nat} (h : Brk blk off N q w w' d X) (i j : Nat) (hi : i < N) (hj : j < N) :
    Brk blk off N q w ((w'.setCell ⟨blk, off + i, none⟩ (.int .u64 d[j]!)).setCell ⟨blk, off + j, none⟩ (.int .u64 d[i]!)) (swp d i j) X :=
  ⟨h.done.swap i j hi hj, (World.cell?_setCell_other _ _ _ _ (fun e => h.ne (by simpa using (congrArg Addr.block e).symm))).trans ((World.cell?_setCell_other _ _ _ _ (fun e => h.ne (by simpa using (congrArg Addr.block e).symm))).trans h.cnt),
    (World.frozen?_setCell _ _ _ _).trans ((World.frozen?_setCell _ _ _ _).trans h.thaw), h.far, h.ne⟩
theorem brk_start {w : World} {blk off N n : Nat} {d : Array Int} (h : Holds (Value.int .u64) w blk off d) (hN : d.size = N) (h0 : 0 < N) :
    Brk blk off N w.heap.size w (w.alloc (.cells #[.int .u64 n] 82)) d n := by
  have hlt := Holds.lt h hN h0
  have hb : Below w.heap.size w (w.alloc (.cells #[.int .u64 n] 82)) := (Below.refl _ _).alloc (Nat.le_refl _) _
  have hn := heap_alloc_new w (.cells #[.int .u64 n] 82)
  refine ⟨⟨hN, fun j hj => ⟨(hb.cell (by exact hlt)).trans (h j hj).1, (World.frozen?_of_block (hb.block blk hlt)).trans (h j hj).2⟩, World.grownBy_alloc _ _ _⟩, ?_, ?_, Nat.le_refl _, by omega⟩
  · simp only [World.cell?]; rw [hn]; rfl
  · simp only [World.frozen?]; rw [hn]; rfl

/-- j steps are left -/
def brkFrom (a n m i0 : Nat) : Nat → UInt64 × Array Int → UInt64 × Array Int
  | 0, st => st
  | j + 1, st => brkFrom a n m i0 j (breakStep a n m st (i0 + (2 - j)))

theorem brk_eq (d : Array Int) (a b n : Nat) (hn : n = b - a) (h8 : 8 ≤ n) : breakPatterns d a b = (brkFrom a n (1 <<< bitsLen n) (a + n / 4 * 2 - 1) 3 (UInt64.ofNat n, d)).2 := by
  subst hn
  unfold breakPatterns
  simp only []
  rw [if_pos h8]
  rfl

theorem step_eq (a n m i0 j : Nat) (X : UInt64) (d : Array Int) (Y O : Nat) (hY : Y = xorNextN X.toNat) (hO : O = Y &&& (m - 1)) :
    brkFrom a n m i0 (j + 1) (X, d) = brkFrom a n m i0 j (xorNext X, swp d (i0 + (2 - j)) (a + if O ≥ n then O - n else O)) := by
  rw [brkFrom]
  subst hO
  subst hY
  rw [← xorNext_toNat]
  rfl

set_option maxRecDepth 100000 in
set_option maxHeartbeats 4000000 in
theorem break_any (blk off cap a b N : Nat) (d : Array Int) (w : World) (hD : Holds (Value.int .u64) w blk off d) (hN : d.size = N) (hab : a + 12 < b) (hb : b ≤ N) (hsz : N ≤ 1048576) :
    Calls Try.prog 36 #[.slice (some ⟨blk, off, none⟩) N cap, .int .i64 a, .int .i64 b] w fun e w' =>
      e = .returned (.tuple #[]) ∧ Done blk off N w w' (Sort.breakPatterns d a b) := by
  obtain ⟨n, hn⟩ : ∃ n : Nat, n = b - a := ⟨_, rfl⟩
  have h0 := brk_start (n := n) hD hN (by omega)
  have H0 := hid h0
  clear h0 hD hN
  have hnI : ((b : Int) - a) = n := by omega
  obtain ⟨v, hv⟩ : ∃ v : Nat, v = n / 4 := ⟨_, rfl⟩
  have hvI : (n : Int).tdiv 4 = v := by rw [hv]; rfl
  have hn8 : 8 ≤ n := by omega
  have h8I : (8 : Int) ≤ n := by omega
  rw [brk_eq d a b n hn hn8, ← hv]
  have bv : 0 < v := by omega
  have bvn : 4 * v ≤ n := by omega
  have han : a + n ≤ N := by omega
  have hM := two_pow_bitsLen_le (n := n) (by omega)
  rw [← Nat.one_shiftLeft] at hM
  have hM0 : 0 < 1 <<< bitsLen n := by rw [Nat.one_shiftLeft]; exact Nat.pow_pos (by decide)
  have hp := fun w => pow2_any n w (by omega)
  obtain ⟨M, hMq⟩ : ∃ M, M = 1 <<< bitsLen n := ⟨_, rfl⟩
  rw [← hMq] at hM hM0 hp ⊢
  have HP := hid hp
  clear hp hMq hn hv
  go_enter Try.func36, Try.ntmps36
  go_wp2_with fail
  refine (HP.out _).mono ?_
  rintro e w' ⟨rfl, rfl⟩
  go_wp2_with fail
  go_loopw [9] (fun vx wr => ∃ (j x : Nat) (X : UInt64) (dk : Array Int), vx = .int .i64 x ∧ j ≤ 3 ∧ Hid (x + j = a + v * 2 + 2) ∧ Hid (Brk blk off N w.heap.size w wr dk X.toNat) ∧ Hid (brkFrom a n M (a + v * 2 - 1) j (X, dk) = brkFrom a n M (a + v * 2 - 1) 3 (UInt64.ofNat n, d))) (fun vx _ => a + v * 2 + 3 - (intOf vx).toNat)
  case atStart => exact ⟨3, a + v * 2 - 1, UInt64.ofNat n, d, by go_num, by omega, by rw [Hid]; omega, by rw [show (UInt64.ofNat n).toNat = n by simp; omega]; exact H0, rfl⟩
  case round =>
    obtain ⟨j, x, X, dk, rfl, hj, HXJ, HB, HE⟩ := hrel
    clear H0
    cases j with
    | zero =>
      have hxI : ¬ (x : Int) ≤ (a : Int) + v * 2 + 1 := by have := HXJ.out; omega
      go_wp2_with fail
      go_end0
      refine ⟨rfl, ?_⟩
      rw [← HE.out]
      exact HB.out.done
    | succ s =>
      have hxI : (x : Int) ≤ (a : Int) + v * 2 + 1 := by have := HXJ.out; omega
      have hx1 : x ≤ a + v * 2 + 1 := by have := HXJ.out; omega
      have hx2 : 0 < x := by have := HXJ.out; omega
      go_wp2_with fail
      refine (next_any w.heap.size X.toNat X.toNat_lt wr HB.out.cnt HB.out.thaw).mono ?_
      rintro e W1 ⟨rfl, hw2⟩
      have HB1 : Hid (Brk blk off N w.heap.size w W1 dk (xorNextN X.toNat)) := by rw [hw2]; exact (HB.out.turn _).drewN 3
      have hY := xorNextN_lt X.toNat X.toNat_lt
      clear hw2 HB
      obtain ⟨Y, HYq⟩ : ∃ Y, Hid (Y = xorNextN X.toNat) := ⟨_, rfl⟩
      rw [← HYq.out] at HB1 hY ⊢
      obtain ⟨O, HOq⟩ : ∃ O, Hid (O = Y &&& (M - 1)) := ⟨_, rfl⟩
      have hOM : O ≤ M - 1 := by rw [HOq.out]; exact Nat.and_le_right
      have eand : bits .and .u64 (Y : Int) ((M : Int) - 1) = (O : Int) := by
        rw [show (M : Int) - 1 = ((M - 1 : Nat) : Int) by omega, bits_and_u64_nat _ _ hY (by omega), HOq.out]
      have hOI : (O : Int) ≤ 2097152 := by omega
      obtain ⟨G, hG, hcw, hfw⟩ := HB1.out.done.cells
      have HG := hid hG
      clear hG
      by_cases hOn : n ≤ O
      · have hOnI : (n : Int) ≤ O := by omega
        obtain ⟨o, ho⟩ : ∃ o : Nat, o = O - n := ⟨_, rfl⟩
        have hoI : (O : Int) - n = o := by omega
        have hon : o < n := by omega
        have HOO := hid ho
        clear ho
        have hoN : a + o < N := by omega
        obtain ⟨v', hy'⟩ := cell_set_some (w := W1) (p := ⟨blk, off + x, none⟩) (x := .int .u64 (G (a + o))) (q := ⟨blk, off + (a + o), none⟩) (hcw (a + o) (by omega))
        go_wp2_with fail
        go_region
        all_goals go_wp2_with fail
        go_roundw
        case rel =>
          refine ⟨s, x + 1, xorNext X, swp dk x (a + o), by go_num, by omega, by rw [Hid]; have := HXJ.out; omega, ?_, ?_⟩
          · have h2 := (HB1.out.drewN 1).swap x (a + o) (by omega) hoN
            rw [← HG.out, ← HG.out] at h2
            rw [Hid, xorNext_toNat, ← HYq.out]
            exact h2
          · rw [Hid, ← HE.out, step_eq a n M (a + v * 2 - 1) s X dk Y O HYq.out HOq.out, if_pos hOn, ← HOO.out]
            rw [show a + v * 2 - 1 + (2 - s) = x by have := HXJ.out; omega]
        case measure => simp [intOf]; omega
      · have hOnI : ¬ (n : Int) ≤ O := by omega
        have hon : O < n := by omega
        have hoN : a + O < N := by omega
        obtain ⟨v', hy'⟩ := cell_set_some (w := W1) (p := ⟨blk, off + x, none⟩) (x := .int .u64 (G (a + O))) (q := ⟨blk, off + (a + O), none⟩) (hcw (a + O) (by omega))
        go_wp2_with fail
        go_region
        all_goals go_wp2_with fail
        go_roundw
        case rel =>
          refine ⟨s, x + 1, xorNext X, swp dk x (a + O), by go_num, by omega, by rw [Hid]; have := HXJ.out; omega, ?_, ?_⟩
          · have h2 := (HB1.out.drewN 1).swap x (a + O) (by omega) hoN
            rw [← HG.out, ← HG.out] at h2
            rw [Hid, xorNext_toNat, ← HYq.out]
            exact h2
          · rw [Hid, ← HE.out, step_eq a n M (a + v * 2 - 1) s X dk Y O HYq.out HOq.out, if_neg hOn]
            rw [show a + v * 2 - 1 + (2 - s) = x by have := HXJ.out; omega]
        case measure => simp [intOf]; omega
end Go.Proofs.Qxb6601963a.St
