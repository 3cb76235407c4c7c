import Derived.Test.Qxb6601837aRows
import Derived.WalkKit
import Derived.WalkSpells
import Derived.WalkLawsBesides
import Derived.ProofKit
import Derived.Deep.QuietTactic
import Derived.BigQuiet
import Derived.Lib.LazyBuf
import Derived.BigRegion
import Derived.Deep.RegionHeld3
set_option linter.unusedVariables false
namespace Go.Proofs.Qxb6601837a.Se
open Go.RowKit

theorem hid {p : Prop} (h : p) : Hid p := h

def IsStrs (w : World) (ad : Option Addr) (len cap : Nat) : Prop :=
  len ≤ cap ∧ cap ≤ maxLen ∧ (len = 0 ∨ ∃ b off, ad = some ⟨b, off, none⟩ ∧ b < w.heap.size ∧ ∀ i, i < len → ∃ s : ByteArray, s.size ≤ maxLen ∧ w.cell? ⟨b, off + i, none⟩ = some (.string s))
def IsTrs (w : World) (ad : Option Addr) (len cap : Nat) : Prop :=
  len ≤ cap ∧ cap ≤ maxLen ∧ (len = 0 ∨ ∃ b off, ad = some ⟨b, off, none⟩ ∧ b < w.heap.size ∧ ∀ i, i < len → ∃ s t : ByteArray, s.size ≤ maxLen ∧ t.size ≤ maxLen ∧ w.cell? ⟨b, off + i * 2, none⟩ = some (.string s) ∧ w.cell? ⟨b, off + i * 2 + 1, none⟩ = some (.string t))
theorem IsStrs.below {w w' : World} {ad : Option Addr} {len cap : Nat} (h : IsStrs w ad len cap) (hb : Below w.heap.size w w') : IsStrs w' ad len cap :=
  ⟨h.1, h.2.1, by
    rcases h.2.2 with h0 | ⟨b, off, e, hl, hc⟩
    · exact Or.inl h0
    · exact Or.inr ⟨b, off, e, Nat.lt_of_lt_of_le hl hb.size, fun i hi => by
        obtain ⟨s, h1, h2⟩ := hc i hi
        exact ⟨s, h1, (hb.cell (by exact hl)).trans h2⟩⟩⟩
theorem IsTrs.below {w w' : World} {ad : Option Addr} {len cap : Nat} (h : IsTrs w ad len cap) (hb : Below w.heap.size w w') : IsTrs w' ad len cap :=
  ⟨h.1, h.2.1, by
    rcases h.2.2 with h0 | ⟨b, off, e, hl, hc⟩
    · exact Or.inl h0
    · exact Or.inr ⟨b, off, e, Nat.lt_of_lt_of_le hl hb.size, fun i hi => by
        obtain ⟨s, t, h1, h2, h3, h4⟩ := hc i hi
        exact ⟨s, t, h1, h2, (hb.cell (by exact hl)).trans h3, (hb.cell (by exact hl)).trans h4⟩⟩⟩

/-- the call answers an int from 0 on, no greater than 2^21 -/
def RetSum (e : Ending) : Prop := ∃ r : Int, e = .returned (.int .i64 r) ∧ 0 ≤ r ∧ r ≤ 2097152

def addZ (t n : Int) : Int := if 1048576 < t ∨ 1048576 < n then 1048577 else t + n
theorem addZ_lo {t n : Int} (h0 : 0 ≤ t) (h1 : 0 ≤ n) : 0 ≤ addZ t n := by
  unfold addZ
  split <;> omega
theorem addZ_hi {t n : Int} : addZ t n ≤ 2097152 := by
  unfold addZ
  split <;> omega
set_option maxHeartbeats 1000000 in
theorem add_any (t n : Int) (w : World) (h0 : 0 ≤ t) (h1 : 0 ≤ n) :
    Calls Try.prog 31 #[.int .i64 t, .int .i64 n] w fun e w' => e = .returned (.int .i64 (addZ t n)) ∧ w' = w := by
  by_cases g1 : 1048576 < t
  · have e : addZ t n = 1048577 := if_pos (Or.inl g1)
    rw [e]
    go_enter Try.func31, Try.ntmps31
    go_wp2
    go_ret
    exact ⟨rfl, rfl⟩
  · by_cases g2 : 1048576 < n
    · have e : addZ t n = 1048577 := if_pos (Or.inr g2)
      rw [e]
      go_enter Try.func31, Try.ntmps31
      go_wp2
      go_ret
      exact ⟨rfl, rfl⟩
    · have e : addZ t n = t + n := if_neg (by omega)
      rw [e]
      go_enter Try.func31, Try.ntmps31
      go_wp2
      go_ret
      exact ⟨rfl, rfl⟩

set_option maxHeartbeats 400000 in
theorem strs_any (t : Int) (ad : Option Addr) (len cap : Nat) (w : World) (h0 : 0 ≤ t) (h2 : t ≤ 2097152) (h : IsStrs w ad len cap) :
    Calls Try.prog 11 #[.int .i64 t, .slice ad len cap] w fun e w' => RetSum e ∧ ∃ m, w' = w.drewN m := by
  obtain ⟨hlc, hcm, hc⟩ := h
  unfold maxLen at hcm
  have HC := hid hc
  clear hc
  by_cases gl : len ≤ 1048576
  case neg =>
    have gl' : (1048576 : Int) < len := by omega
    go_enter Try.func11, Try.ntmps11
    go_wp2
    go_ret
    exact ⟨⟨_, rfl, by omega, by omega⟩, 0, rfl⟩
  have gl' : ¬ (1048576 : Int) < len := by omega
  go_enter Try.func11, Try.ntmps11
  go_wp2_with fail
  refine (add_any t 24 w h0 (by omega)).mono ?_
  rintro e w' ⟨rfl, rfl⟩
  have hr0 : 0 ≤ addZ t 24 := addZ_lo h0 (by omega)
  have hr1 : addZ t 24 ≤ 2097152 := addZ_hi
  generalize addZ t 24 = r at hr0 hr1
  go_wp2_with fail
  go_loopw [0, 5] (fun s i wr => ∃ (x : Int) (k m : Nat), s = .int .i64 x ∧ i = .int .i64 k ∧ 0 ≤ x ∧ x ≤ 2097152 ∧ k ≤ len ∧ wr = w'.drewN m) (fun _ i _ => len - (intOf i).toNat)
  case atStart => exact ⟨r, 0, 0, rfl, rfl, hr0, hr1, Nat.zero_le _, rfl⟩
  case round =>
    obtain ⟨x, k, m, rfl, rfl, hx0, hx1, hk, rfl⟩ := hrel
    by_cases hlt : k < len
    · have hlt' : (k : Int) < len := by omega
      rcases HC.out with h0 | ⟨b, off, rfl, hbl, hcs⟩
      · omega
      obtain ⟨s, hs, hcl⟩ := hcs k hlt
      unfold maxLen at hs
      clear hcs
      go_wp2_with fail
      have hy0 : 0 ≤ addZ x 16 := addZ_lo hx0 (by omega)
      have hy1 : 0 ≤ addZ (addZ x 16) s.size := addZ_lo hy0 (by omega)
      have hy2 : addZ (addZ x 16) s.size ≤ 2097152 := addZ_hi
      have HY0 := hid hy0
      have hcl' : (w'.drewN m).cell? ⟨b, off + k, none⟩ = some (.string s) := hcl
      go_region_held3 (fun w2 => w2.cell? ⟨b, off + k, none⟩ = some (.string s) ∧ ∃ n, w2 = w'.drewN n) (first | exact ⟨by assumption, by assumption⟩ | exact ⟨hcl, m + 1, rfl⟩ | assumption | exact ⟨m + 1, rfl⟩ | go_keep)
        ((first | (go_at_call 31; refine (add_any _ _ _ (by first | exact hx0 | exact HY0.out) (by omega)).mono ?_; rintro e w2 ⟨rfl, rfl⟩)))
      generalize addZ (addZ x 16) s.size = y at hy1 hy2
      by_cases gy : 1048576 < y
      · go_wp2
        go_ret
        exact ⟨⟨_, rfl, hy1, hy2⟩, m + 1, rfl⟩
      · go_wp2
        go_roundw
        case rel => exact ⟨y, k + 1, m + 1, rfl, by go_num, hy1, hy2, by omega, rfl⟩
        case measure => simp [intOf]; omega
    · obtain rfl : k = len := by omega
      go_wp2
      go_ret
      exact ⟨⟨_, rfl, hx0, hx1⟩, m, rfl⟩

theorem cell_box (w : World) (cs : Array Value) (ty : TypeId) (i : Nat) (v : Value) (h : cs[i]? = some v) : (w.alloc (.cells cs ty)).cell? ⟨w.heap.size, i, none⟩ = some v := by
  have e := heap_alloc_new w (.cells cs ty)
  simp only [World.cell?]
  rw [e]
  simp [h]
theorem below_drewN {B : Nat} {w w' : World} (h : Below B w w') (m : Nat) : Below B w (w'.drewN m) := ⟨h.os, h.tape, h.output, h.size, h.block⟩

set_option maxHeartbeats 2000000 in
theorem comb_any (t : Int) (h tr ms : ByteArray) (pa ta : Option Addr) (lp cp lt ct : Nat) (w : World) (h0 : 0 ≤ t) (h1 : h.size ≤ maxLen) (h2 : tr.size ≤ maxLen) (h3 : ms.size ≤ maxLen)
    (hP : IsStrs w pa lp cp) (hT : IsTrs w ta lt ct) :
    Calls Try.prog 34 #[.int .i64 t, .agg #[.string h, .slice pa lp cp, .string tr, .string ms, .slice ta lt ct]] w fun e w' => RetSum e ∧ Below w.heap.size w w' := by
  unfold maxLen at h1 h2 h3
  have hlt : lt ≤ maxLen := Nat.le_trans hT.1 hT.2.1
  unfold maxLen at hlt
  have HP := hid hP
  have HT := hid hT
  clear hP hT
  go_enter Try.func34, Try.ntmps34
  go_wp2_with fail
  refine (add_any t 80 _ h0 (by omega)).mono ?_
  rintro e w' ⟨rfl, rfl⟩
  have q1 : 0 ≤ addZ t 80 := addZ_lo h0 (by omega)
  generalize addZ t 80 = t1 at q1
  go_wp2_with fail
  refine (add_any t1 h.size _ q1 (by omega)).mono ?_
  rintro e w' ⟨rfl, rfl⟩
  have q2 : 0 ≤ addZ t1 h.size := addZ_lo q1 (by omega)
  generalize addZ t1 h.size = t2 at q2
  go_wp2_with fail
  refine (add_any t2 tr.size _ q2 (by omega)).mono ?_
  rintro e w' ⟨rfl, rfl⟩
  have q3 : 0 ≤ addZ t2 tr.size := addZ_lo q2 (by omega)
  generalize addZ t2 tr.size = t3 at q3
  go_wp2_with fail
  refine (add_any t3 ms.size _ q3 (by omega)).mono ?_
  rintro e w' ⟨rfl, rfl⟩
  have q4 : 0 ≤ addZ t3 ms.size := addZ_lo q3 (by omega)
  have q4' : addZ t3 ms.size ≤ 2097152 := addZ_hi
  generalize addZ t3 ms.size = t4 at q4 q4'
  have HB1 := hid ((Below.refl w.heap.size w).alloc (Nat.le_refl _) (.cells #[.string h, .slice pa lp cp, .string tr, .string ms, .slice ta lt ct] 51))
  go_wp2_with fail
  refine (strs_any t4 pa lp cp _ q4 q4' (HP.out.below HB1.out)).mono ?_
  rintro e w2 ⟨⟨r, rfl, hr0, hr1⟩, m, hw2⟩
  have c4 : w2.cell? ⟨w.heap.size, 4, none⟩ = some (.slice ta lt ct) := by
    rw [hw2]
    exact cell_box w #[.string h, .slice pa lp cp, .string tr, .string ms, .slice ta lt ct] 51 4 _ rfl
  have HB2 : Hid (Below w.heap.size w w2) := by rw [hw2]; exact below_drewN HB1.out m
  have HT2 := hid (HT.out.below HB2.out)
  clear hw2
  by_cases gl : lt ≤ 1048576
  case neg =>
    have gl' : (1048576 : Int) < lt := by omega
    go_wp2
    go_ret
    exact ⟨⟨_, rfl, by omega, by omega⟩, HB2.out⟩
  have gl' : ¬ (1048576 : Int) < lt := by omega
  go_wp2_with fail
  go_loopw [0, 5] (fun s i wr => ∃ (x : Int) (k : Nat), s = .int .i64 x ∧ i = .int .i64 k ∧ 0 ≤ x ∧ x ≤ 2097152 ∧ k ≤ lt ∧ wr = w2) (fun _ i _ => lt - (intOf i).toNat)
  case atStart => exact ⟨r, 0, rfl, rfl, hr0, hr1, Nat.zero_le _, rfl⟩
  case round =>
    obtain ⟨x, k, rfl, rfl, hx0, hx1, hk, rfl⟩ := hrel
    by_cases hlk : k < lt
    · have hlk' : (k : Int) < lt := by omega
      rcases HT2.out.2.2 with h0 | ⟨b, off, rfl, hbl, hcs⟩
      · omega
      obtain ⟨s, s', hs, hs', hcl, hcl'⟩ := hcs k hlk
      unfold maxLen at hs hs'
      clear hcs
      go_wp2_with fail
      refine (add_any x 32 _ hx0 (by omega)).mono ?_
      rintro e w3 ⟨rfl, rfl⟩
      have p1 : 0 ≤ addZ x 32 := addZ_lo hx0 (by omega)
      generalize addZ x 32 = x1 at p1
      go_wp2_with fail
      refine (add_any x1 s.size _ p1 (by omega)).mono ?_
      rintro e w3 ⟨rfl, rfl⟩
      have p2 : 0 ≤ addZ x1 s.size := addZ_lo p1 (by omega)
      generalize addZ x1 s.size = x2 at p2
      go_wp2_with fail
      refine (add_any x2 s'.size _ p2 (by omega)).mono ?_
      rintro e w3 ⟨rfl, rfl⟩
      have p3 : 0 ≤ addZ x2 s'.size := addZ_lo p2 (by omega)
      have p3' : addZ x2 s'.size ≤ 2097152 := addZ_hi
      generalize addZ x2 s'.size = y at p3 p3'
      by_cases gy : 1048576 < y
      · go_wp2
        go_ret
        exact ⟨⟨_, rfl, p3, p3'⟩, HB2.out⟩
      · go_wp2
        go_roundw
        case rel => exact ⟨y, k + 1, rfl, by go_num, p3, p3', by omega, by first | rfl | trivial⟩
        case measure => simp [intOf]; omega
    · obtain rfl : k = lt := by omega
      go_wp2
      go_ret
      exact ⟨⟨_, rfl, hx0, hx1⟩, HB2.out⟩

set_option maxHeartbeats 2000000 in
theorem placed_bytes_any (t : Int) (hh ch tr ms ci ti : ByteArray) (pa ta : Option Addr) (lp cp lt ct : Nat) (mg co : Bool) (w : World) (h0 : 0 ≤ t)
    (z1 : hh.size ≤ maxLen) (z2 : ch.size ≤ maxLen) (z3 : tr.size ≤ maxLen) (z4 : ms.size ≤ maxLen) (z5 : ci.size ≤ maxLen) (z6 : ti.size ≤ maxLen)
    (hP : IsStrs w pa lp cp) (hT : IsTrs w ta lt ct) :
    Calls Try.prog 23 #[.int .i64 t, .agg #[.string hh, .string ch, .slice pa lp cp, .string tr, .string ms, .slice ta lt ct, .string ci, .bool mg, .bool co, .string ti]] w fun e w' => RetSum e ∧ Below w.heap.size w w' := by
  have Z2 := hid z2
  have Z3 := hid z3
  have Z4 := hid z4
  unfold maxLen at z1 z5 z6
  have HP := hid hP
  have HT := hid hT
  clear hP hT
  go_enter Try.func23, Try.ntmps23
  go_wp2_with fail
  refine (add_any t 48 _ h0 (by omega)).mono ?_
  rintro e w' ⟨rfl, rfl⟩
  have q1 : 0 ≤ addZ t 48 := addZ_lo h0 (by omega)
  generalize addZ t 48 = t1 at q1
  go_wp2_with fail
  refine (add_any t1 hh.size _ q1 (by omega)).mono ?_
  rintro e w' ⟨rfl, rfl⟩
  have q2 : 0 ≤ addZ t1 hh.size := addZ_lo q1 (by omega)
  generalize addZ t1 hh.size = t2 at q2
  go_wp2_with fail
  refine (add_any t2 ti.size _ q2 (by omega)).mono ?_
  rintro e w' ⟨rfl, rfl⟩
  have q3 : 0 ≤ addZ t2 ti.size := addZ_lo q2 (by omega)
  generalize addZ t2 ti.size = t3 at q3
  go_wp2_with fail
  refine (add_any t3 ci.size _ q3 (by omega)).mono ?_
  rintro e w' ⟨rfl, rfl⟩
  have q4 : 0 ≤ addZ t3 ci.size := addZ_lo q3 (by omega)
  generalize addZ t3 ci.size = t4 at q4
  have HB1 := hid ((Below.refl w.heap.size w).alloc (Nat.le_refl _) (.cells #[.string hh, .string ch, .slice pa lp cp, .string tr, .string ms, .slice ta lt ct, .string ci, .bool mg, .bool co, .string ti] 55))
  go_wp2_with fail
  refine (comb_any t4 ch tr ms pa ta lp cp lt ct _ q4 Z2.out Z3.out Z4.out (HP.out.below HB1.out) (HT.out.below HB1.out)).mono ?_
  rintro e w2 ⟨⟨r, rfl, hr0, hr1⟩, hb2⟩
  have HB2 := hid (HB1.out.trans (hb2.mono HB1.out.size))
  clear hb2
  go_wp2
  go_ret
  exact ⟨⟨_, rfl, hr0, hr1⟩, HB2.out⟩
end Go.Proofs.Qxb6601837a.Se
