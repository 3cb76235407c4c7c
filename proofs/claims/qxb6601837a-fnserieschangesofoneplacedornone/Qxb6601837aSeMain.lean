import Derived.Test.Qxb6601837aSeBytes
import Derived.Test.Qxb6601837aSeSeries
set_option linter.unusedVariables false
namespace Go.Proofs.Qxb6601837a.Se
open Go.RowKit

set_option maxRecDepth 100000 in
set_option maxHeartbeats 4000000 in
theorem main_any (hh ch tr ms ci ti : ByteArray) (pa ta : Option Addr) (lp cp lt ct : Nat) (mg co : Bool) (w : World)
    (z1 : hh.size ≤ maxLen) (z2 : ch.size ≤ maxLen) (z3 : tr.size ≤ maxLen) (z4 : ms.size ≤ maxLen) (z5 : ci.size ≤ maxLen) (z6 : ti.size ≤ maxLen)
    (hP : IsStrs w pa lp cp) (hT : IsTrs w ta lt ct) :
    Calls Try.prog 6 #[.agg #[.string hh, .string ch, .slice pa lp cp, .string tr, .string ms, .slice ta lt ct, .string ci, .bool mg, .bool co, .string ti]] w fun e w' => e = .returned (.bool true) ∧ Below w.heap.size w w' := by
  have HP := hid hP
  have HT := hid hT
  have Z1 := hid z1
  have Z2 := hid z2
  have Z3 := hid z3
  have Z4 := hid z4
  have Z5 := hid z5
  have Z6 := hid z6
  clear hP hT z1 z2 z3 z4 z5 z6
  go_enter Try.func6, Try.ntmps6
  go_wp2_with fail
  have HA : Hid ((w.alloc (.cells #[.string hh, .string ch, .slice pa lp cp, .string tr, .string ms, .slice ta lt ct, .string ci, .bool mg, .bool co, .string ti] 55)).heap[w.heap.size]? = some (.cells #[.string hh, .string ch, .slice pa lp cp, .string tr, .string ms, .slice ta lt ct, .string ci, .bool mg, .bool co, .string ti] 55 (0, 0))) := heap_alloc_new w _
  have HB : Hid (Below w.heap.size w (w.alloc (.cells #[.string hh, .string ch, .slice pa lp cp, .string tr, .string ms, .slice ta lt ct, .string ci, .bool mg, .bool co, .string ti] 55))) := (Below.refl _ _).alloc (Nat.le_refl _) _
  generalize w.alloc (.cells #[.string hh, .string ch, .slice pa lp cp, .string tr, .string ms, .slice ta lt ct, .string ci, .bool mg, .bool co, .string ti] 55) = w1 at HA HB
  refine (bytes_any hh ch tr ms ci ti pa ta lp cp lt ct mg co w1 Z1.out Z2.out Z3.out Z4.out Z5.out Z6.out (HP.out.below HB.out) (HT.out.below HB.out)).mono ?_
  rintro e w2 ⟨⟨b, rfl, hb⟩, hb2⟩
  have HA2 := hid (block_later' HA.out hb2)
  have HB2 : Hid (Below w.heap.size w w2) := HB.out.trans (hb2.mono HB.out.size)
  clear hb2 HA HB
  cases b with
  | false =>
    go_wp2_with fail
    go_ret
    exact ⟨rfl, HB2.out⟩
  | true =>
    obtain ⟨hlp, hlt⟩ := hb rfl
    clear hb
    obtain ⟨k0, k1, k2, k3, k4, k5, k6, k7, k8, k9⟩ := ten_cells HA2.out
    go_wp2_with fail
    refine (placed_bytes_any 0 hh ch tr ms ci ti pa ta lp cp lt ct mg co w2 (by omega) Z1.out Z2.out Z3.out Z4.out Z5.out Z6.out (HP.out.below HB2.out) (HT.out.below HB2.out)).mono ?_
    rintro e w3 ⟨⟨r, rfl, hr0, hr1⟩, hb3⟩
    have HA3 := hid (block_later' HA2.out hb3)
    have HB3 : Hid (Below w.heap.size w w3) := HB2.out.trans (hb3.mono HB2.out.size)
    clear hb3 HA2 HB2 k0 k1 k2 k3 k4 k5 k6 k7 k8 k9
    by_cases hr : r ≤ 1048576
    case neg =>
      have hr' : 1048576 < r := by omega
      go_wp2_with fail
      go_ret
      exact ⟨rfl, HB3.out⟩
    have hr' : ¬ 1048576 < r := by omega
    obtain ⟨k0, k1, k2, k3, k4, k5, k6, k7, k8, k9⟩ := ten_cells HA3.out
    go_wp2_with fail
    refine (placed_any hh ch tr ms ci ti pa ta lp cp lt ct mg co w3 (HP.out.below HB3.out) (HT.out.below HB3.out) hlp hlt).mono ?_
    rintro e w4 ⟨⟨a, n, c, a', n', c', rfl⟩, hb4⟩
    have HA4 := hid (block_later' HA3.out hb4)
    have HB4 : Hid (Below w.heap.size w w4) := HB3.out.trans (hb4.mono HB3.out.size)
    clear hb4 HA3 HB3 k0 k1 k2 k3 k4 k5 k6 k7 k8 k9
    go_wp2_with fail
    have hblk := heap_alloc_new w4 (.cells #[.string hh, .string ch, .slice a n c, .string tr, .string ms, .slice a' n' c', .string ⟨#[]⟩, .string ci, .bool mg, .bool co, .string ti] 62)
    have hbel : Below w4.heap.size w4 (w4.alloc (.cells #[.string hh, .string ch, .slice a n c, .string tr, .string ms, .slice a' n' c', .string ⟨#[]⟩, .string ci, .bool mg, .bool co, .string ti] 62)) := (Below.refl _ _).alloc (Nat.le_refl _) _
    cases co with
    | true =>
      refine (series_comp _ _ _ _ _ _ _ _ _ _ _ _ _ _ _ _ hblk).mono ?_
      rintro e w5 ⟨rfl, hb5⟩
      have HA5 := hid (block_later' (block_later' HA4.out hbel) hb5)
      have HB5 : Hid (Below w.heap.size w w5) := (HB4.out.trans (hbel.mono HB4.out.size)).trans (hb5.mono (Nat.le_trans HB4.out.size hbel.size))
      clear hb5 HA4 HB4 hblk hbel
      obtain ⟨k0, k1, k2, k3, k4, k5, k6, k7, k8, k9⟩ := ten_cells HA5.out
      go_wp2_with fail
      refine (series_none _ _ _).mono ?_
      rintro e w7 ⟨rfl, hb7⟩
      have HB7 : Hid (Below w.heap.size w w7) := HB5.out.trans (hb7.mono HB5.out.size)
      clear hb7
      go_wp2_with fail
      refine (series_none _ _ _).mono ?_
      rintro e w8 ⟨rfl, hb8⟩
      have HB8 : Hid (Below w.heap.size w w8) := (HB7.out.alloc HB7.out.size _).trans (hb8.mono (by have := HB7.out.size; simp; omega))
      clear hb8
      go_wp2_with fail
      go_ret
      exact ⟨rfl, HB8.out⟩
    | false =>
      refine (series_one _ _ _ _ _ _ _ _ _ _ _ _ _ _ _ _ hblk).mono ?_
      rintro e w5 ⟨hpost, hb5⟩
      have HA5 := hid (block_later' (block_later' HA4.out hbel) hb5)
      have HB5 : Hid (Below w.heap.size w w5) := (HB4.out.trans (hbel.mono HB4.out.size)).trans (hb5.mono (Nat.le_trans HB4.out.size hbel.size))
      clear hb5 HA4 HB4 hblk hbel
      obtain ⟨k0, k1, k2, k3, k4, k5, k6, k7, k8, k9⟩ := ten_cells HA5.out
      rcases hpost with ⟨hno, rfl⟩ | ⟨hn1, hn2, q, cap, rfl, q0, q1, q2⟩
      · by_cases hci : ci = ⟨#[]⟩
        · subst hci
          go_wp2_with fail
          refine (series_none _ _ _).mono ?_
          rintro e w7 ⟨rfl, hb7⟩
          have HB7 : Hid (Below w.heap.size w w7) := HB5.out.trans (hb7.mono HB5.out.size)
          clear hb7
          go_wp2_with fail
          refine (series_none _ _ _).mono ?_
          rintro e w8 ⟨rfl, hb8⟩
          have HB8 : Hid (Below w.heap.size w w8) := (HB7.out.alloc HB7.out.size _).trans (hb8.mono (by have := HB7.out.size; simp; omega))
          clear hb8
          go_wp2_with fail
          go_ret
          exact ⟨rfl, HB8.out⟩
        · obtain rfl : ch = hh := hno.resolve_left hci
          have hb0 : ci.toList ≠ [] := list_ne hci
          have hb : (ci.toList == []) = false := by rw [beq_eq_false_iff_ne]; exact hb0
          go_wp2_with fail
          refine (series_none _ _ _).mono ?_
          rintro e w7 ⟨rfl, hb7⟩
          have HB7 : Hid (Below w.heap.size w w7) := HB5.out.trans (hb7.mono HB5.out.size)
          clear hb7
          go_wp2_with fail
          refine (series_none _ _ _).mono ?_
          rintro e w8 ⟨rfl, hb8⟩
          have HB8 : Hid (Below w.heap.size w w8) := (HB7.out.alloc HB7.out.size _).trans (hb8.mono (by have := HB7.out.size; simp; omega))
          clear hb8
          go_wp2_with fail
          go_ret
          exact ⟨rfl, HB8.out⟩
      · have hb0 : ci.toList ≠ [] := list_ne hn1
        have hb1 : ch.toList ≠ hh.toList := fun e => hn2 (list_inj e)
        have hb : (ci.toList == []) = false := by rw [beq_eq_false_iff_ne]; exact hb0
        have hb' : (ch.toList == hh.toList) = false := by rw [beq_eq_false_iff_ne]; exact hb1
        go_wp2_with fail
        have bq : q < w5.heap.size := World.block_lt_of_cell? w5 ⟨q, 0, none⟩ q0
        have hb6 : Below w5.heap.size w5 (w5.alloc (.cells #[.string ci, .string ch, .string hh] 48)) := (Below.refl _ _).alloc (Nat.le_refl _) _
        have p0 := (hb6.cell (p := ⟨q, 0, none⟩) bq).trans q0
        have p1 := (hb6.cell (p := ⟨q, 1, none⟩) bq).trans q1
        have p2 := (hb6.cell (p := ⟨q, 2, none⟩) bq).trans q2
        have m0 := cell_box w5 #[.string ci, .string ch, .string hh] 48 0 _ rfl
        have m1 := cell_box w5 #[.string ci, .string ch, .string hh] 48 1 _ rfl
        have m2 := cell_box w5 #[.string ci, .string ch, .string hh] 48 2 _ rfl
        have HB6 : Hid (Below w.heap.size w (w5.alloc (.cells #[.string ci, .string ch, .string hh] 48))) := HB5.out.trans (hb6.mono HB5.out.size)
        clear hb6 q0 q1 q2 k0 k1 k2 k3 k4 k5 k6 k7 k8 k9 HA5 HB5
        generalize w5.alloc (.cells #[.string ci, .string ch, .string hh] 48) = w6 at p0 p1 p2 m0 m1 m2 HB6
        go_quiet (fail)
        have HB6' : Hid (Below w.heap.size w (w6.drewN nq)) := below_drewN HB6.out nq
        clear HB6
        generalize w6.drewN nq = w7 at HB6'
        go_wp2_with fail
        refine (series_none _ _ _).mono ?_
        rintro e w7 ⟨rfl, hb7⟩
        have HB7 : Hid (Below w.heap.size w w7) := HB6'.out.trans (hb7.mono HB6'.out.size)
        clear hb7
        go_wp2_with fail
        refine (series_none _ _ _).mono ?_
        rintro e w8 ⟨rfl, hb8⟩
        have HB8 : Hid (Below w.heap.size w w8) := (HB7.out.alloc HB7.out.size _).trans (hb8.mono (by have := HB7.out.size; simp; omega))
        clear hb8
        go_wp2_with fail
        go_ret
        exact ⟨rfl, HB8.out⟩
end Go.Proofs.Qxb6601837a.Se
