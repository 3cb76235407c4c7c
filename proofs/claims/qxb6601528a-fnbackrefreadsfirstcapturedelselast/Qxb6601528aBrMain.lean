import Derived.Test.Qxb6601528aBrEnds
import Derived.Deep.CutBlock
set_option linter.unusedVariables false
namespace Go.Proofs.Qxb6601528a.Br
open Go.RowKit
attribute [local go_sem ↓] Go.wp_at_zero Go.wp_at_succ

theorem pre_later {w w' : World} {ad : Option Addr} {len cap : Nat} (h : IsPre w ad len cap) (hb : Below w.heap.size w w') : IsPre w' ad len cap :=
  ⟨h.1, h.2.1, by
    rcases h.2.2 with h0 | ⟨b, off, e, hc⟩
    · exact Or.inl h0
    · exact Or.inr ⟨b, off, e, fun i hi => (hc i hi).later (fun p _ hp => (hb.cell (World.block_lt_of_cell? w p hp)).trans hp)⟩⟩

theorem start_mem {w w1 w2 w3 w4 : World} {gG g k l0 : Nat} {nr : Int} {fold : Bool} {gc nc : Array Value} {z : Nat → Int}
    (hb1 : Below w.heap.size w w1) (hgG : w.heap.size ≤ gG) (hgc : w1.heap[gG]? = some (.cells gc 3 (0, 0))) (hz : ∀ i, i < k → gc[i]? = some (.int .i64 (z i)))
    (hb2 : Below w1.heap.size w1 w2) (hg : w1.heap.size ≤ g) (hr : Row53 w2 g (l0 * 9)) (hw3 : w3 = w2.alloc (.cells #[.slice (some ⟨g, 0, none⟩) l0 l0, .int .i64 nr] 61))
    (hw4 : w4 = w3.alloc (.cells nc 70)) (h6 : nc[6]? = some (.slice (some ⟨gG, 0, none⟩) k k)) (h14 : nc[14]? = some (.bool fold)) (hl : l0 ≤ 4096) :
    ∃ xs, Prg w4 w2.heap.size g l0 l0 w.heap.size nr xs ∧ Nod w4 w3.heap.size gG k fold nc gc z ∧ Below w.heap.size w w4 := by
  subst hw4
  have hb3 : Below w2.heap.size w2 w3 := by rw [hw3]; exact (Below.refl _ _).alloc (Nat.le_refl _) _
  have hb4 : Below w3.heap.size w3 (w3.alloc (.cells nc 70)) := (Below.refl _ _).alloc (Nat.le_refl _) _
  obtain ⟨cur, hc, hs⟩ := hr
  have hg3 : gG < w1.heap.size := gt_of hgc
  refine ⟨cur.toList, ⟨?_, ⟨by simp [hs], Or.inr ⟨g, l0, cur, rfl, by have := hb1.size; omega, ?_, Nat.le_refl _, by unfold maxLen; omega, hs, ?_⟩⟩, ?_⟩, ⟨?_, h6, h14, ?_, hz⟩, ?_⟩
  · show (w3.alloc _).heap[w2.heap.size]? = _
    rw [hb4.block _ (by rw [hw3]; simp), hw3]
    exact heap_alloc_new w2 _
  · rw [hb4.block _ (by have := gt_of hc; have := hb3.size; omega), hb3.block _ (gt_of hc)]
    exact hc
  · rw [List.take_of_length_le (by simp [hs])]
  · exact Nat.le_trans hb1.size (Nat.le_trans hb2.size (Nat.le_trans hb3.size hb4.size))
  · exact heap_alloc_new w3 _
  · rw [hb4.block _ (by have := hb2.size; have := hb3.size; omega), hb3.block _ (by have := hb2.size; omega), hb2.block _ hg3]
    exact hgc
  · exact ((hb1.trans (hb2.mono hb1.size)).trans (hb3.mono (Nat.le_trans hb1.size hb2.size))).trans (hb4.mono (Nat.le_trans hb1.size (Nat.le_trans hb2.size hb3.size)))

theorem ins_cells {w : World} {gC g n cap B : Nat} {nr : Int} {xs : List Value} (h : Prg w gC g n cap B nr xs) {p : Nat} {op x y : Int} {fold : Bool} (hI : Ins xs p op fold x y) (hp : p < n) :
    w.cell? ⟨g, p * 9, none⟩ = some (.int .u8 op) ∧ w.cell? ⟨g, p * 9 + 1, none⟩ = some (.int .u8 0) ∧ w.cell? ⟨g, p * 9 + 2, none⟩ = some (.int .u8 0) ∧ w.cell? ⟨g, p * 9 + 3, none⟩ = some (.bool fold) ∧ w.cell? ⟨g, p * 9 + 4, none⟩ = some (.bool false) ∧ w.cell? ⟨g, p * 9 + 5, none⟩ = some (.int .u8 0) ∧ w.cell? ⟨g, p * 9 + 6, none⟩ = some (.int .i64 x) ∧ w.cell? ⟨g, p * 9 + 7, none⟩ = some (.int .i64 y) ∧ w.cell? ⟨g, p * 9 + 8, none⟩ = some (.pointer none) :=
  ⟨(h.own.cellAt (p * 9) (by omega)).trans (hI 0 (by omega)), (h.own.cellAt (p * 9 + 1) (by omega)).trans (hI 1 (by omega)), (h.own.cellAt (p * 9 + 2) (by omega)).trans (hI 2 (by omega)), (h.own.cellAt (p * 9 + 3) (by omega)).trans (hI 3 (by omega)), (h.own.cellAt (p * 9 + 4) (by omega)).trans (hI 4 (by omega)), (h.own.cellAt (p * 9 + 5) (by omega)).trans (hI 5 (by omega)), (h.own.cellAt (p * 9 + 6) (by omega)).trans (hI 6 (by omega)), (h.own.cellAt (p * 9 + 7) (by omega)).trans (hI 7 (by omega)), (h.own.cellAt (p * 9 + 8) (by omega)).trans (hI 8 (by omega))⟩

/-- where the law's interpreter stands -/
def St (l0 k m E : Nat) (fold : Bool) (want : Int) (p : Nat) (r x : Int) (y : Bool) : Prop :=
  (∃ i, i ≤ m ∧ p = l0 + 3 * i ∧ r = 0) ∨ (m < k - 1 ∧ p = l0 + 3 * m + 1 ∧ r = 0) ∨ (m < k - 1 ∧ p = l0 + 3 * m + 2 ∧ r = 1 ∧ x = want ∧ y = fold) ∨ (p = E ∧ r = 1 ∧ x = want ∧ y = fold)
theorem St.at_end {l0 k m E : Nat} {fold : Bool} {want : Int} {r x : Int} {y : Bool} (h : St l0 k m E fold want E r x y) (hm : m < k) (hE : l0 + 3 * k - 2 = E) : r = 1 ∧ x = want ∧ y = fold := by
  rcases h with ⟨i, h1, h2, _⟩ | ⟨h1, h2, _⟩ | ⟨h1, h2, _⟩ | ⟨_, h⟩
  · omega
  · omega
  · omega
  · exact h

set_option maxRecDepth 100000 in
set_option maxHeartbeats 6400000 in
theorem main_any (a0 a2 a4 : Option Addr) (l0 c0 k c2 l4 c4 : Nat) (nr : Int) (fold : Bool) (zg zc : Nat → Int) (w : World)
    (hA : IsPre w a0 l0 c0) (hG : IsInts w a2 k c2 zg) (hC : IsInts w a4 l4 c4 zc) :
    Calls Try.prog 5 #[.slice a0 l0 c0, .int .i64 nr, .slice a2 k c2, .bool fold, .slice a4 l4 c4] w fun e w' => e = .returned (.bool true) ∧ Below w.heap.size w w' := by
  have hl0 : l0 ≤ maxLen := Nat.le_trans hA.1 hA.2.1
  have hl2 : k ≤ maxLen := Nat.le_trans hG.1 hG.2.1
  have hl4 : l4 ≤ maxLen := Nat.le_trans hC.1 hC.2.1
  have HM0 := hid hl0
  have HM2 := hid hl2
  have HM4 := hid hl4
  unfold maxLen at hl0 hl2 hl4
  have HA := hid hA
  have HG := hid hG
  have HC := hid hC
  clear hA hG hC
  go_enter Try.func5, Try.ntmps5
  go_wp2_with fail
  refine (bytes_any a0 a2 a4 l0 c0 k c2 l4 c4 nr fold w HM0.out HM2.out HM4.out).mono ?_
  rintro e w' ⟨⟨r, rfl⟩, rfl⟩
  cases r
  · go_wp2
    go_ret
    exact ⟨rfl, Below.refl _ _⟩
  by_cases g0 : l0 ≤ 4096
  case neg =>
    have g0' : (4096 : Int) < l0 := by omega
    go_wp2
    go_ret
    exact ⟨rfl, Below.refl _ _⟩
  have g0' : ¬ (4096 : Int) < l0 := by omega
  by_cases g2 : k ≤ 32768
  case neg =>
    have g2' : (32768 : Int) < k := by omega
    go_wp2
    go_ret
    exact ⟨rfl, Below.refl _ _⟩
  have g2' : ¬ (32768 : Int) < k := by omega
  by_cases g4 : l4 ≤ 4096
  case neg =>
    have g4' : (4096 : Int) < l4 := by omega
    go_wp2
    go_ret
    exact ⟨rfl, Below.refl _ _⟩
  have g4' : ¬ (4096 : Int) < l4 := by omega
  by_cases gk : k = 0
  case pos =>
    subst gk
    go_wp2
    go_ret
    exact ⟨rfl, Below.refl _ _⟩
  have gk' : (1 : Int) ≤ k := by omega
  obtain ⟨E, hE⟩ : ∃ E : Nat, l0 + 3 * k - 2 = E := ⟨_, rfl⟩
  have hEi : (l0 : Int) + 3 * k - 2 = (E : Int) := by omega
  have HE := hid hE
  clear hE
  by_cases gE : E ≤ 65536
  case neg =>
    have gE' : (65536 : Int) < (E : Int) := by omega
    go_wp2
    go_ret
    exact ⟨rfl, Below.refl _ _⟩
  have gE' : ¬ (65536 : Int) < (E : Int) := by omega
  obtain ⟨b, off, rfl, hcell⟩ : ∃ b off, a2 = some ⟨b, off, none⟩ ∧ ∀ i, i < k → w'.cell? ⟨b, off + i, none⟩ = some (.int .i64 (zg i)) := by
    rcases HG.out.2.2.2 with h | h
    · omega
    · exact h
  have HCE := hid hcell
  clear hcell
  go_wp2_with fail
  refine (clone_any ⟨b, off, none⟩ k c2 zg w' HG.out g2).mono ?_
  rintro e w1 ⟨⟨gG, rfl, hgG, gc, hgc, hzc⟩, hb1⟩
  have HB1 := hid hb1
  have HGC := hid hgc
  have HZC := hid hzc
  have HA1 := hid (pre_later HA.out hb1)
  clear hb1 hgc hzc
  go_wp2_with fail
  refine (build_any a0 l0 c0 w1 HA1.out g0).mono ?_
  rintro e w2 ⟨⟨g, rfl, hg, hrow⟩, hb2⟩
  have HB2 := hid hb2
  have HR2 := hid hrow
  clear hb2 hrow
  go_wp2_with fail
  refine (newc_any (some ⟨g, 0, none⟩) l0 l0 nr w2).mono ?_
  rintro e w3 ⟨rfl, hw3⟩
  have HW3 := hid hw3
  clear hw3
  go_wp2_with fail
  refine (ref_any (some ⟨gG, 0, none⟩) k k fold w3).mono ?_
  rintro e w4 ⟨rfl, nc, hw4, hn6, hn14⟩
  obtain ⟨xs, HP4, HN4, HB4⟩ := start_mem HB1.out hgG HGC.out HZC.out HB2.out hg HR2.out HW3.out hw4 hn6 hn14 g0
  have HP4 := hid HP4
  have HN4 := hid HN4
  have HB4 := hid HB4
  clear hw4 hn6 hn14
  go_wp2_with fail
  refine (zback_any w2.heap.size w3.heap.size gG g l0 l0 w'.heap.size k nr xs fold nc gc zg w4 HP4.out HN4.out (by omega) (by rw [HE.out]; exact gE) (Nat.le_trans HB1.out.size HB2.out.size)).mono ?_
  rintro e w5 ⟨rfl, g5, cap5, ys, hP5, hCo5, hI5, hb5⟩
  rw [HE.out] at hP5 hCo5
  have HP5 := hid hP5
  have HCo5 := hid hCo5
  have HI5 := hid hI5
  have HB5 := hid (HB4.out.trans hb5)
  clear hP5 hCo5 hI5 hb5
  go_wp2_with fail
  refine (prog_any w2.heap.size _ nr w5 HP5.out.cmp).mono ?_
  rintro e w6 ⟨rfl, rfl⟩
  have hlast : w6.cell? ⟨b, off + (k - 1), none⟩ = some (.int .i64 (zg (k - 1))) := (HB5.out.cell (World.block_lt_of_cell? _ ⟨b, off + (k - 1), none⟩ (HCE.out (k - 1) (by omega)))).trans (HCE.out (k - 1) (by omega))
  have HLE : Hid (Below w'.heap.size w' w6) := HB5
  go_upto_block 0 with fail
  clear hlast
  go_cut [17, 18] from 88 to 102 (fun v17 v18 wx => wx = w6 ∧ ∃ m, v17 = .int .i64 (zg m) ∧ Hid (m < k ∧ (∀ j, j < m → hasB zc l4 (zg j) = false) ∧ (hasB zc l4 (zg m) = true ∨ m = k - 1)))
  case first =>
    go_wp2_with fail
    go_loopw [17, 18] (fun v i wr => v = .int .i64 (zg (k - 1)) ∧ ∃ j : Nat, j ≤ k ∧ i = .int .i64 j ∧ wr = w6 ∧ Hid (∀ x, x < j → hasB zc l4 (zg x) = false)) (fun _ i _ => k - (intOf i).toNat)
    case atStart => exact ⟨rfl, 0, Nat.zero_le _, rfl, rfl, fun x hx => by omega⟩
    case round =>
      obtain ⟨rfl, j, hj, rfl, rfl, HJ⟩ := hrel
      by_cases hjk : j < k
      · have hjk' : (j : Int) < k := by omega
        have hcj : wr.cell? ⟨b, off + j, none⟩ = some (.int .i64 (zg j)) := (HB5.out.cell (World.block_lt_of_cell? _ ⟨b, off + j, none⟩ (HCE.out j hjk))).trans (HCE.out j hjk)
        have HC6 := hid (HC.out.below HB5.out)
        go_wp2_with fail
        refine (has_any a4 l4 c4 zc (zg j) wr HC6.out).mono ?_
        rintro e w7 ⟨rfl, rfl⟩
        cases hq : hasB zc l4 (zg j)
        · have HQ := hid hq
          clear hq
          go_wp2_with fail
          go_roundw
          case rel =>
            refine ⟨rfl, j + 1, by omega, by go_num, by first | rfl | trivial, fun x hx => ?_⟩
            by_cases e : x = j
            · subst e; exact HQ.out
            · exact HJ.out x (by omega)
          case measure => simp [intOf]; omega
        · have HQ := hid hq
          clear hq
          go_wp2_with fail
          go_meet
          exact ⟨rfl, j, rfl, hjk, HJ.out, Or.inl HQ.out⟩
      · obtain rfl : j = k := by omega
        go_wp2_with fail
        go_meet
        exact ⟨rfl, j - 1, rfl, by omega, fun x hx => HJ.out x (by omega), Or.inr rfl⟩
  case rest =>
    obtain ⟨rfl, m, rfl, HM⟩ := hcut
    obtain ⟨hmk, hmn, hmc⟩ := HM.out
    have HMN := hid hmn
    have HMC := hid hmc
    clear hmn hmc
    go_wp2_with fail
    go_loopw [19, 20, 21, 22, 23] (fun pc rf got gf st wr => ∃ (p s : Nat) (r x : Int) (y : Bool), s + l0 ≤ p ∧ p ≤ E ∧ pc = .int .i64 p ∧ st = .int .i64 s ∧ rf = .int .i64 r ∧ got = .int .i64 x ∧ gf = .bool y ∧ Hid (Below wc.heap.size wc wr) ∧ Hid (St l0 k m E fold (zg m) p r x y)) (fun pc _ _ _ _ _ => E - (intOf pc).toNat)
    case atStart => exact ⟨l0, 0, 0, 0, false, by omega, by have := HE.out; omega, rfl, rfl, rfl, rfl, rfl, Below.refl _ _, Or.inl ⟨0, by omega, by omega, rfl⟩⟩
    case round =>
      obtain ⟨p, s, r, x, y, hsp, hpE', rfl, rfl, rfl, rfl, rfl, HBr, HST⟩ := hrel
      have HP6 := hid (HP5.out.later HBr.out)
      have hsE : (s : Int) ≤ E := by omega
      have hlp : ¬ (p : Int) < l0 := by omega
      have hpe : ¬ (E : Int) < p := by omega
      by_cases hpE : p < E
      · have hpEi : (p : Int) < E := by omega
        have hne : ((p : Int) != (E : Int)) = true := by simp; omega
        have hlen : ((E : Int) ≤ 65536) := by omega
        rcases HST.out with ⟨i, him, hp, rfl⟩ | ⟨hm, hp, rfl⟩ | ⟨hm, hp, rfl, rfl, rfl⟩ | ⟨hp, _⟩
        · have hEE := hid HE.out
          by_cases hi : i < k - 1
          · obtain ⟨q, hq⟩ : ∃ q : Nat, l0 + 3 * i + 3 = q := ⟨_, rfl⟩
            have hins := (HCo5.out i hi).1
            rw [hq, ← hp] at hins
            have HQE := hid hq
            clear hq
            by_cases him' : i < m
            · have HQ := hid (HMN.out i him')
              have HPE := hid hp
              obtain ⟨k0, k1, k2, k3, k4, k5, k6, k7, k8⟩ := ins_cells HP6.out hins hpE
              clear hp
              clear hins
              go_wp2_with fail
              refine (fields_any _ _ _ _ _ _ _ _ _ _).mono ?_
              rintro e w7 ⟨rfl, hb7⟩
              have HB7 := hid (HBr.out.trans (hb7.mono HBr.out.size))
              clear hb7 k0 k1 k2 k3 k4 k5 k6 k7 k8
              go_wp2_with fail
              refine (has_any a4 l4 c4 zc (zg i) w7 (HC.out.below (HB5.out.trans (HB7.out.mono HB5.out.size)))).mono ?_
              rintro e w8 ⟨rfl, rfl⟩
              rw [HQ.out]
              go_wp2_with fail
              go_roundw
              case rel =>
                have hp := HPE.out
                have hEE := HE.out
                have hq := HQE.out
                exact ⟨q, s + 1, 0, x, y, by omega, by omega, rfl, by go_num, rfl, rfl, rfl, HB7, Or.inl ⟨i + 1, by omega, by omega, rfl⟩⟩
              case measure => simp [intOf]; have := HPE.out; have := HQE.out; have := HE.out; omega
            · obtain rfl : i = m := by omega
              have HQ : Hid (hasB zc l4 (zg i) = true) := by
                rcases HMC.out with h | h
                · exact h
                · omega
              have HPE := hid hp
              obtain ⟨k0, k1, k2, k3, k4, k5, k6, k7, k8⟩ := ins_cells HP6.out hins hpE
              clear hp
              clear hins
              go_wp2_with fail
              refine (fields_any _ _ _ _ _ _ _ _ _ _).mono ?_
              rintro e w7 ⟨rfl, hb7⟩
              have HB7 := hid (HBr.out.trans (hb7.mono HBr.out.size))
              clear hb7 k0 k1 k2 k3 k4 k5 k6 k7 k8
              go_wp2_with fail
              refine (has_any a4 l4 c4 zc (zg i) w7 (HC.out.below (HB5.out.trans (HB7.out.mono HB5.out.size)))).mono ?_
              rintro e w8 ⟨rfl, rfl⟩
              rw [HQ.out]
              go_wp2_with fail
              go_roundw
              case rel =>
                have hp := HPE.out
                have hEE := HE.out
                exact ⟨p + 1, s + 1, 0, x, y, by omega, by omega, by go_num, by go_num, rfl, rfl, rfl, HB7, Or.inr (Or.inl ⟨by omega, by omega, rfl⟩)⟩
              case measure => simp [intOf]; omega
          · obtain rfl : i = k - 1 := by have := HE.out; omega
            obtain rfl : k - 1 = m := by omega
            have hins := HI5.out
            rw [← hp] at hins
            have HPE := hid hp
            obtain ⟨k0, k1, k2, k3, k4, k5, k6, k7, k8⟩ := ins_cells HP6.out hins hpE
            clear hp
            clear hins
            go_wp2_with fail
            refine (fields_any _ _ _ _ _ _ _ _ _ _).mono ?_
            rintro e w7 ⟨rfl, hb7⟩
            have HB7 := hid (HBr.out.trans (hb7.mono HBr.out.size))
            clear hb7 k0 k1 k2 k3 k4 k5 k6 k7 k8
            go_wp2_with fail
            go_roundw
            case rel =>
              have hp := HPE.out
              have hEE := HE.out
              exact ⟨p + 1, s + 1, 1, zg (k - 1), fold, by omega, by omega, by go_num, by go_num, rfl, rfl, rfl, HB7, Or.inr (Or.inr (Or.inr ⟨by omega, rfl, rfl, rfl⟩))⟩
            case measure => simp [intOf]; omega
        · have hins := (HCo5.out m hm).2.1
          rw [← hp] at hins
          have HPE := hid hp
          obtain ⟨k0, k1, k2, k3, k4, k5, k6, k7, k8⟩ := ins_cells HP6.out hins hpE
          clear hp
          clear hins
          go_wp2_with fail
          refine (fields_any _ _ _ _ _ _ _ _ _ _).mono ?_
          rintro e w7 ⟨rfl, hb7⟩
          have HB7 := hid (HBr.out.trans (hb7.mono HBr.out.size))
          clear hb7 k0 k1 k2 k3 k4 k5 k6 k7 k8
          go_wp2_with fail
          go_roundw
          case rel =>
            have hp := HPE.out
            have hEE := HE.out
            exact ⟨p + 1, s + 1, 1, zg m, fold, by omega, by omega, by go_num, by go_num, rfl, rfl, rfl, HB7, Or.inr (Or.inr (Or.inl ⟨by omega, by omega, rfl, rfl, rfl⟩))⟩
          case measure => simp [intOf]; omega
        · have hins := (HCo5.out m hm).2.2
          rw [← hp] at hins
          have HPE := hid hp
          obtain ⟨k0, k1, k2, k3, k4, k5, k6, k7, k8⟩ := ins_cells HP6.out hins hpE
          clear hp
          clear hins
          go_wp2_with fail
          refine (fields_any _ _ _ _ _ _ _ _ _ _).mono ?_
          rintro e w7 ⟨rfl, hb7⟩
          have HB7 := hid (HBr.out.trans (hb7.mono HBr.out.size))
          clear hb7 k0 k1 k2 k3 k4 k5 k6 k7 k8
          go_wp2_with fail
          go_roundw
          case rel =>
            have hp := HPE.out
            have hEE := HE.out
            exact ⟨E, s + 1, 1, zg m, y, by omega, by omega, rfl, by go_num, rfl, rfl, rfl, HB7, Or.inr (Or.inr (Or.inr ⟨rfl, rfl, rfl, rfl⟩))⟩
          case measure => simp [intOf]; omega
        · omega
      · obtain rfl : p = E := by omega
        obtain ⟨rfl, rfl, rfl⟩ := HST.out.at_end hmk HE.out
        go_wp2_with fail
        go_ret
        exact ⟨rfl, HB5.out.trans (HBr.out.mono HB5.out.size)⟩
end Go.Proofs.Qxb6601528a.Br
