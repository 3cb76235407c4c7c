import Derived.Test.Qxb6601963aStIns
import Derived.Sort.LotD4
set_option linter.unusedVariables false
namespace Go.Proofs.Qxb6601963a.St
open Go.RowKit Go.Sort

/-- the row is as it was, the count of swaps lies in block q -/
structure Piv (blk off N q : Nat) (w w' : World) (d : Array Int) (s : Nat) : Prop where
  size : d.size = N
  row : Holds (Value.int .u64) w' blk off d
  cnt : w'.cell? ⟨q, 0, none⟩ = some (.int .i64 s)
  thaw : w'.frozen? ⟨q, 0, none⟩ = false
  only : w.grownBy w' (some q)

theorem Piv.drewN {blk off N q : Nat} {w w' : World} {d : Array Int} {s : Nat} (h : Piv blk off N q w w' d s) (n : Nat) : Piv blk off N q w (w'.drewN n) d s := ⟨h.size, h.row, h.cnt, h.thaw, only_drewN h.only n⟩
theorem Piv.after {blk off N q : Nat} {w w' w'' : World} {d : Array Int} {s s' : Nat} (h : Piv blk off N q w w' d s) (h' : Piv blk off N q w' w'' d s') : Piv blk off N q w w'' d s' := ⟨h'.size, h'.row, h'.cnt, h'.thaw, h.only.trans h'.only⟩
theorem Piv.again {blk off N q : Nat} {w w' : World} {d : Array Int} {s : Nat} (h : Piv blk off N q w w' d s) : Piv blk off N q w' w' d s := ⟨h.size, h.row, h.cnt, h.thaw, World.grownBy.refl _ _⟩
theorem Piv.count {blk off N q : Nat} {w w' : World} {d : Array Int} {s : Nat} (h : Piv blk off N q w w' d s) (hq : q ≠ blk) (t : Nat) : Piv blk off N q w (w'.setCell ⟨q, 0, none⟩ (.int .i64 t)) d t :=
  ⟨h.size, fun j hj => ⟨(World.cell?_setCell_other w' _ _ _ (fun e => hq (by simpa using congrArg Addr.block e))).trans (h.row j hj).1, (World.frozen?_setCell _ _ _ _).trans (h.row j hj).2⟩,
    World.cell?_setCell_same _ _ _ h.cnt, (World.frozen?_setCell _ _ _ _).trans h.thaw, only_set h.only _ _⟩
theorem Piv.cells {blk off N q : Nat} {w w' : World} {d : Array Int} {s : Nat} (h : Piv blk off N q w w' d s) :
    ∃ G : Nat → Int, (∀ t, G t = d[t]!) ∧ (∀ t, t < N → w'.cell? ⟨blk, off + t, none⟩ = some (.int .u64 (G t))) := by
  obtain ⟨rfl, hr, _, _, _⟩ := h
  exact ⟨fun t => d[t]!, fun _ => rfl, fun t ht => (hr t ht).1⟩

theorem o2_yes (d : Array Int) (a b s : Nat) (h : d[b]! < d[a]!) : order2 ltInt d a b s = (b, a, s + 1) := by unfold order2; rw [if_pos (ltI_pos h)]
theorem o2_no (d : Array Int) (a b s : Nat) (h : ¬ d[b]! < d[a]!) : order2 ltInt d a b s = (a, b, s) := by unfold order2; rw [if_neg (by simp [ltI_neg h])]

set_option maxRecDepth 100000 in
set_option maxHeartbeats 2000000 in
theorem order2_any (blk off cap N q a b s : Nat) (d : Array Int) (w : World) (h : Piv blk off N q w w d s) (hq : q ≠ blk) (ha : a < N) (hb : b < N) (hs : s ≤ 1000) (hsz : N ≤ 1048576) :
    Calls Try.prog 51 #[.slice (some ⟨blk, off, none⟩) N cap, .int .i64 a, .int .i64 b, .pointer (some ⟨q, 0, none⟩)] w fun e w' =>
      e = .returned (.tuple #[.int .i64 (order2 ltInt d a b s).1, .int .i64 (order2 ltInt d a b s).2.1]) ∧ Piv blk off N q w w' d (order2 ltInt d a b s).2.2 := by
  obtain ⟨G, hG, hcw⟩ := h.cells
  have HG := hid hG
  have hc := h.cnt
  have hf := h.thaw
  have HH := hid h
  clear hG h
  go_enter Try.func51, Try.ntmps51
  go_wp2_with fail
  by_cases hl : G b < G a
  · have HL := hid hl
    go_big_quiet (first | (go_at_call 40; refine Calls.quiet_of_same (less_any _ _ _)))
    go_wp2_with fail
    go_ret2
    rw [o2_yes d a b s (by rw [← HG.out, ← HG.out]; exact HL.out)]
    exact ⟨rfl, (HH.out.drewN nq).count hq (s + 1)⟩
  · have HL := hid hl
    go_big_quiet (first | (go_at_call 40; refine Calls.quiet_of_same (less_any _ _ _)))
    go_wp2_with fail
    go_ret2
    rw [o2_no d a b s (by rw [← HG.out, ← HG.out]; first | exact HL.out | exact Int.not_lt.2 HL.out)]
    exact ⟨rfl, HH.out.drewN nq⟩

theorem o2_lt (d : Array Int) (a b s N : Nat) (ha : a < N) (hb : b < N) : (order2 ltInt d a b s).1 < N ∧ (order2 ltInt d a b s).2.1 < N := by
  rcases order2_mem ltInt d a b s with ⟨e1, e2⟩ | ⟨e1, e2⟩ <;> rw [e1, e2] <;> exact ⟨by assumption, by assumption⟩

set_option maxRecDepth 100000 in
set_option maxHeartbeats 2000000 in
theorem median_any (blk off cap N q a b c s : Nat) (d : Array Int) (w : World) (h : Piv blk off N q w w d s) (hq : q ≠ blk) (ha : a < N) (hb : b < N) (hc : c < N) (hs : s ≤ 900) (hsz : N ≤ 1048576) :
    Calls Try.prog 49 #[.slice (some ⟨blk, off, none⟩) N cap, .int .i64 a, .int .i64 b, .int .i64 c, .pointer (some ⟨q, 0, none⟩)] w fun e w' =>
      e = .returned (.int .i64 (median ltInt d a b c s).1) ∧ Piv blk off N q w w' d (median ltInt d a b c s).2 := by
  have HH := hid h
  clear h
  obtain ⟨l1, l2⟩ := o2_lt d a b s N ha hb
  have l3 := order2_count ltInt d a b s
  have c1 := fun w h => order2_any blk off cap N q a b s d w h hq ha hb (by omega) hsz
  obtain ⟨r1, hr1⟩ : ∃ r1, r1 = order2 ltInt d a b s := ⟨_, rfl⟩
  rw [← hr1] at l1 l2 l3 c1
  obtain ⟨l4, l5⟩ := o2_lt d r1.2.1 c r1.2.2 N l2 hc
  have l6 := order2_count ltInt d r1.2.1 c r1.2.2
  have c2 := fun w h => order2_any blk off cap N q r1.2.1 c r1.2.2 d w h hq l2 hc (by omega) hsz
  obtain ⟨r2, hr2⟩ : ∃ r2, r2 = order2 ltInt d r1.2.1 c r1.2.2 := ⟨_, rfl⟩
  rw [← hr2] at l4 l5 l6 c2
  have c3 := fun w h => order2_any blk off cap N q r1.1 r2.1 r2.2.2 d w h hq l1 l4 (by omega) hsz
  obtain ⟨r3, hr3⟩ : ∃ r3, r3 = order2 ltInt d r1.1 r2.1 r2.2.2 := ⟨_, rfl⟩
  rw [← hr3] at c3
  have hm : median ltInt d a b c s = (r3.2.1, r3.2.2) := by rw [hr3, hr2, hr1]; rfl
  rw [hm]
  clear hm hr1 hr2 hr3 l1 l2 l3 l4 l5 l6
  have C1 := hid c1
  have C2 := hid c2
  have C3 := hid c3
  clear c1 c2 c3
  go_enter Try.func49, Try.ntmps49
  go_wp2_with fail
  refine (C1.out w HH.out).mono ?_
  rintro e w1 ⟨rfl, h1⟩
  have HH1 := hid h1
  clear h1
  go_wp2_with fail
  refine (C2.out w1 HH1.out.again).mono ?_
  rintro e w2 ⟨rfl, h2⟩
  have HH2 := hid (HH1.out.after h2)
  clear h2
  go_wp2_with fail
  refine (C3.out w2 HH2.out.again).mono ?_
  rintro e w3 ⟨rfl, h3⟩
  have HH3 := hid (HH2.out.after h3)
  clear h3
  go_wp2_with fail
  go_ret
  exact ⟨rfl, HH3.out⟩

set_option maxRecDepth 100000 in
set_option maxHeartbeats 2000000 in
theorem adj_any (blk off cap N q a s : Nat) (d : Array Int) (w : World) (h : Piv blk off N q w w d s) (hq : q ≠ blk) (ha0 : 0 < a) (ha : a + 1 < N) (hs : s ≤ 900) (hsz : N ≤ 1048576) :
    Calls Try.prog 48 #[.slice (some ⟨blk, off, none⟩) N cap, .int .i64 a, .pointer (some ⟨q, 0, none⟩)] w fun e w' =>
      e = .returned (.int .i64 (medianAdjacent ltInt d a s).1) ∧ Piv blk off N q w w' d (medianAdjacent ltInt d a s).2 := by
  have HH := hid h
  clear h
  go_enter Try.func48, Try.ntmps48
  go_wp2_with fail
  rw [show (a : Int) - 1 = ((a - 1 : Nat) : Int) by omega, show (a : Int) + 1 = ((a + 1 : Nat) : Int) by omega]
  refine (median_any blk off cap N q (a - 1) a (a + 1) s d w HH.out hq (by omega) (by omega) (by omega) hs hsz).mono ?_
  rintro e w1 ⟨rfl, h1⟩
  have HH1 := hid h1
  clear h1
  go_wp2_with fail
  go_ret
  exact ⟨rfl, HH1.out⟩
end Go.Proofs.Qxb6601963a.St
