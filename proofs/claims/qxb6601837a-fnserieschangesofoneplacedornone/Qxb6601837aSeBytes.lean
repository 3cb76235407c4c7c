import Derived.Test.Qxb6601837aSeBase
import Derived.Deep.CutRange
set_option linter.unusedVariables false
namespace Go.Proofs.Qxb6601837a.Se
open Go.RowKit

def BytesPost (lp lt : Nat) (e : Ending) : Prop := ∃ b : Bool, e = .returned (.bool b) ∧ (b = true → lp ≤ 1048576 ∧ lt ≤ 1048576)

set_option maxRecDepth 100000 in
set_option maxHeartbeats 6400000 in
theorem bytes_any (hh ch tr ms ci ti : ByteArray) (pa ta : Option Addr) (lp cp lt ct : Nat) (mg co : Bool) (w : World)
    (z1 : hh.size ≤ maxLen) (z2 : ch.size ≤ maxLen) (z3 : tr.size ≤ maxLen) (z4 : ms.size ≤ maxLen) (z5 : ci.size ≤ maxLen) (z6 : ti.size ≤ maxLen)
    (hP : IsStrs w pa lp cp) (hT : IsTrs w ta lt ct) :
    Calls Try.prog 22 #[.agg #[.string hh, .string ch, .slice pa lp cp, .string tr, .string ms, .slice ta lt ct, .string ci, .bool mg, .bool co, .string ti]] w fun e w' => BytesPost lp lt e ∧ Below w.heap.size w w' := by
  unfold maxLen at z1 z2 z3 z4 z5 z6
  have y1 : lp ≤ maxLen := Nat.le_trans hP.1 hP.2.1
  have y2 : lt ≤ maxLen := Nat.le_trans hT.1 hT.2.1
  unfold maxLen at y1 y2
  have HB := hid ((Below.refl w.heap.size w).alloc (Nat.le_refl _) (.cells #[.string hh, .string ch, .slice pa lp cp, .string tr, .string ms, .slice ta lt ct, .string ci, .bool mg, .bool co, .string ti] 55))
  have HP := hid (hP.below HB.out)
  have HT := hid (hT.below HB.out)
  have c0 := cell_box w #[.string hh, .string ch, .slice pa lp cp, .string tr, .string ms, .slice ta lt ct, .string ci, .bool mg, .bool co, .string ti] 55 0 (.string hh) rfl
  have c1 := cell_box w #[.string hh, .string ch, .slice pa lp cp, .string tr, .string ms, .slice ta lt ct, .string ci, .bool mg, .bool co, .string ti] 55 1 (.string ch) rfl
  have c2 := cell_box w #[.string hh, .string ch, .slice pa lp cp, .string tr, .string ms, .slice ta lt ct, .string ci, .bool mg, .bool co, .string ti] 55 2 (.slice pa lp cp) rfl
  have c3 := cell_box w #[.string hh, .string ch, .slice pa lp cp, .string tr, .string ms, .slice ta lt ct, .string ci, .bool mg, .bool co, .string ti] 55 3 (.string tr) rfl
  have c4 := cell_box w #[.string hh, .string ch, .slice pa lp cp, .string tr, .string ms, .slice ta lt ct, .string ci, .bool mg, .bool co, .string ti] 55 4 (.string ms) rfl
  have c5 := cell_box w #[.string hh, .string ch, .slice pa lp cp, .string tr, .string ms, .slice ta lt ct, .string ci, .bool mg, .bool co, .string ti] 55 5 (.slice ta lt ct) rfl
  have c6 := cell_box w #[.string hh, .string ch, .slice pa lp cp, .string tr, .string ms, .slice ta lt ct, .string ci, .bool mg, .bool co, .string ti] 55 6 (.string ci) rfl
  have c9 := cell_box w #[.string hh, .string ch, .slice pa lp cp, .string tr, .string ms, .slice ta lt ct, .string ci, .bool mg, .bool co, .string ti] 55 9 (.string ti) rfl
  clear hP hT
  go_enter Try.func22, Try.ntmps22
  go_upto_region 2 with fail
  generalize w.alloc (.cells #[.string hh, .string ch, .slice pa lp cp, .string tr, .string ms, .slice ta lt ct, .string ci, .bool mg, .bool co, .string ti] 55) = w1 at HB HP HT c0 c1 c2 c3 c4 c5 c6 c9
  by_cases g1 : hh.size ≤ 1048576
  case neg =>
    have g1' : (1048576 : Int) < hh.size := by omega
    go_wp2
    go_ret
    exact ⟨⟨false, rfl, fun h => by cases h⟩, HB.out⟩
  have g1' : ¬ (1048576 : Int) < hh.size := by omega
  by_cases g2 : ch.size ≤ 1048576
  case neg =>
    have g2' : (1048576 : Int) < ch.size := by omega
    go_wp2
    go_ret
    exact ⟨⟨false, rfl, fun h => by cases h⟩, HB.out⟩
  have g2' : ¬ (1048576 : Int) < ch.size := by omega
  by_cases g3 : hh.size + ch.size ≤ 1048576
  case neg =>
    have g3' : (1048576 : Int) < (hh.size : Int) + ch.size := by omega
    go_wp2
    go_ret
    exact ⟨⟨false, rfl, fun h => by cases h⟩, HB.out⟩
  have g3' : ¬ (1048576 : Int) < (hh.size : Int) + ch.size := by omega
  by_cases g4 : lp ≤ 1048576
  case neg =>
    have g4' : (1048576 : Int) < lp := by omega
    go_wp2
    go_ret
    exact ⟨⟨false, rfl, fun h => by cases h⟩, HB.out⟩
  have g4' : ¬ (1048576 : Int) < lp := by omega
  by_cases g5 : hh.size + ch.size + lp ≤ 1048576
  case neg =>
    have g5' : (1048576 : Int) < (hh.size : Int) + ch.size + lp := by omega
    go_wp2
    go_ret
    exact ⟨⟨false, rfl, fun h => by cases h⟩, HB.out⟩
  have g5' : ¬ (1048576 : Int) < (hh.size : Int) + ch.size + lp := by omega
  go_wp2_with fail
  go_loopw [3, 4] (fun s i wr => ∃ (x : Int) (k : Nat), s = .int .i64 x ∧ i = .int .i64 k ∧ 0 ≤ x ∧ x ≤ 1048576 ∧ k ≤ lp ∧ wr = w1) (fun _ i _ => lp - (intOf i).toNat)
  case atStart => exact ⟨_, 0, rfl, rfl, by omega, by omega, Nat.zero_le _, rfl⟩
  case round =>
    obtain ⟨x, k, rfl, rfl, hx0, hx1, hk, rfl⟩ := hrel
    by_cases hlk : k < lp
    · have hlk' : (k : Int) < lp := by omega
      rcases HP.out.2.2 with h0 | ⟨b, off, rfl, hbl, hcs⟩
      · omega
      obtain ⟨s, hs, hcl⟩ := hcs k hlk
      unfold maxLen at hs
      clear hcs
      by_cases j1 : s.size ≤ 1048576
      case neg =>
        have j1' : (1048576 : Int) < s.size := by omega
        go_wp2
        go_ret
        exact ⟨⟨false, rfl, fun h => by cases h⟩, HB.out⟩
      have j1' : ¬ (1048576 : Int) < s.size := by omega
      by_cases j2 : x + s.size ≤ 1048576
      case neg =>
        have j2' : (1048576 : Int) < x + s.size := by omega
        go_wp2
        go_ret
        exact ⟨⟨false, rfl, fun h => by cases h⟩, HB.out⟩
      have j2' : ¬ (1048576 : Int) < x + s.size := by omega
      go_wp2_with fail
      go_roundw
      case rel => exact ⟨_, k + 1, rfl, by go_num, by omega, by omega, by omega, by first | rfl | trivial⟩
      case measure => simp [intOf]; omega
    · obtain rfl : k = lp := by omega
      by_cases j1 : tr.size ≤ 1048576
      case neg =>
        have j1' : (1048576 : Int) < tr.size := by omega
        go_wp2
        go_ret
        exact ⟨⟨false, rfl, fun h => by cases h⟩, HB.out⟩
      have j1' : ¬ (1048576 : Int) < tr.size := by omega
      by_cases j2 : x + tr.size ≤ 1048576
      case neg =>
        have j2' : (1048576 : Int) < x + tr.size := by omega
        go_wp2
        go_ret
        exact ⟨⟨false, rfl, fun h => by cases h⟩, HB.out⟩
      have j2' : ¬ (1048576 : Int) < x + tr.size := by omega
      by_cases j3 : ms.size ≤ 1048576
      case neg =>
        have j3' : (1048576 : Int) < ms.size := by omega
        go_wp2
        go_ret
        exact ⟨⟨false, rfl, fun h => by cases h⟩, HB.out⟩
      have j3' : ¬ (1048576 : Int) < ms.size := by omega
      by_cases j4 : x + tr.size + ms.size ≤ 1048576
      case neg =>
        have j4' : (1048576 : Int) < x + tr.size + ms.size := by omega
        go_wp2
        go_ret
        exact ⟨⟨false, rfl, fun h => by cases h⟩, HB.out⟩
      have j4' : ¬ (1048576 : Int) < x + tr.size + ms.size := by omega
      by_cases j5 : lt ≤ 1048576
      case neg =>
        have j5' : (1048576 : Int) < lt := by omega
        go_wp2
        go_ret
        exact ⟨⟨false, rfl, fun h => by cases h⟩, HB.out⟩
      have j5' : ¬ (1048576 : Int) < lt := by omega
      by_cases j6 : x + tr.size + ms.size + lt ≤ 1048576
      case neg =>
        have j6' : (1048576 : Int) < x + tr.size + ms.size + lt := by omega
        go_wp2
        go_ret
        exact ⟨⟨false, rfl, fun h => by cases h⟩, HB.out⟩
      have j6' : ¬ (1048576 : Int) < x + tr.size + ms.size + lt := by omega
      go_wp2_with fail
      go_loopw [3, 5] (fun s i wr2 => ∃ (y : Int) (q : Nat), s = .int .i64 y ∧ i = .int .i64 q ∧ 0 ≤ y ∧ y ≤ 1048576 ∧ q ≤ lt ∧ wr2 = wr) (fun _ i _ => lt - (intOf i).toNat)
      case atStart => exact ⟨_, 0, rfl, rfl, by omega, by omega, Nat.zero_le _, rfl⟩
      case round =>
        obtain ⟨y, q, rfl, rfl, hy0, hy1, hq, rfl⟩ := hrel
        by_cases hlq : q < lt
        · have hlq' : (q : Int) < lt := by omega
          rcases HT.out.2.2 with h0 | ⟨b, off, rfl, hbl, hcs⟩
          · omega
          obtain ⟨s, s', hs, hs', hcl, hcl'⟩ := hcs q hlq
          unfold maxLen at hs hs'
          clear hcs
          by_cases i1 : s.size ≤ 1048576
          case neg =>
            have i1' : (1048576 : Int) < s.size := by omega
            go_wp2
            go_ret
            exact ⟨⟨false, rfl, fun h => by cases h⟩, HB.out⟩
          have i1' : ¬ (1048576 : Int) < s.size := by omega
          by_cases i2 : y + s.size ≤ 1048576
          case neg =>
            have i2' : (1048576 : Int) < y + s.size := by omega
            go_wp2
            go_ret
            exact ⟨⟨false, rfl, fun h => by cases h⟩, HB.out⟩
          have i2' : ¬ (1048576 : Int) < y + s.size := by omega
          by_cases i3 : s'.size ≤ 1048576
          case neg =>
            have i3' : (1048576 : Int) < s'.size := by omega
            go_wp2
            go_ret
            exact ⟨⟨false, rfl, fun h => by cases h⟩, HB.out⟩
          have i3' : ¬ (1048576 : Int) < s'.size := by omega
          by_cases i4 : y + s.size + s'.size ≤ 1048576
          case neg =>
            have i4' : (1048576 : Int) < y + s.size + s'.size := by omega
            go_wp2
            go_ret
            exact ⟨⟨false, rfl, fun h => by cases h⟩, HB.out⟩
          have i4' : ¬ (1048576 : Int) < y + s.size + s'.size := by omega
          go_wp2_with fail
          go_roundw
          case rel => exact ⟨_, q + 1, rfl, by go_num, by omega, by omega, by omega, by first | rfl | trivial⟩
          case measure => simp [intOf]; omega
        · obtain rfl : q = lt := by omega
          by_cases i1 : ci.size ≤ 1048576
          case neg =>
            have i1' : (1048576 : Int) < ci.size := by omega
            go_wp2
            go_ret
            exact ⟨⟨false, rfl, fun h => by cases h⟩, HB.out⟩
          have i1' : ¬ (1048576 : Int) < ci.size := by omega
          by_cases i2 : y + ci.size ≤ 1048576
          case neg =>
            have i2' : (1048576 : Int) < y + ci.size := by omega
            go_wp2
            go_ret
            exact ⟨⟨false, rfl, fun h => by cases h⟩, HB.out⟩
          have i2' : ¬ (1048576 : Int) < y + ci.size := by omega
          by_cases i3 : ti.size ≤ 1048576
          case neg =>
            have i3' : (1048576 : Int) < ti.size := by omega
            go_wp2
            go_ret
            exact ⟨⟨false, rfl, fun h => by cases h⟩, HB.out⟩
          have i3' : ¬ (1048576 : Int) < ti.size := by omega
          by_cases i4 : y + ci.size + ti.size ≤ 1048576
          case neg =>
            have i4' : (1048576 : Int) < y + ci.size + ti.size := by omega
            go_wp2
            go_ret
            exact ⟨⟨false, rfl, fun h => by cases h⟩, HB.out⟩
          have i4' : ¬ (1048576 : Int) < y + ci.size + ti.size := by omega
          go_wp2
          go_ret
          exact ⟨⟨true, rfl, fun _ => ⟨by omega, by omega⟩⟩, HB.out⟩
end Go.Proofs.Qxb6601837a.Se
