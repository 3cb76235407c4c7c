import Derived.Test.Qxb6601528aBrCode
set_option linter.unusedVariables false
namespace Go.Proofs.Qxb6601528a.Br
open Go.RowKit
attribute [local go_sem ↓] Go.wp_at_zero Go.wp_at_succ

def Zc (cur : Array Value) (k : Nat) (z : Nat → Int) : Prop := ∀ i, i < k → cur[i]? = some (.int .i64 (z i))

/-- the node of the back-reference: its groups' row and its fold -/
def Nod (w : World) (gN gG k : Nat) (fold : Bool) (nc gc : Array Value) (z : Nat → Int) : Prop :=
  w.heap[gN]? = some (.cells nc 70 (0, 0)) ∧ nc[6]? = some (.slice (some ⟨gG, 0, none⟩) k k) ∧ nc[14]? = some (.bool fold) ∧ w.heap[gG]? = some (.cells gc 3 (0, 0)) ∧ Zc gc k z
theorem Nod.cells {w : World} {gN gG k : Nat} {fold : Bool} {nc gc : Array Value} {z : Nat → Int} (h : Nod w gN gG k fold nc gc z) :
    w.cell? ⟨gN, 6, none⟩ = some (.slice (some ⟨gG, 0, none⟩) k k) ∧ w.cell? ⟨gN, 14, none⟩ = some (.bool fold) ∧ ∀ i, i < k → w.cell? ⟨gG, i, none⟩ = some (.int .i64 (z i)) := by
  obtain ⟨h1, h2, h3, h4, h5⟩ := h
  refine ⟨by simp [World.cell?, h1, h2], by simp [World.cell?, h1, h3], fun i hi => by simp [World.cell?, h4, h5 i hi]⟩
theorem Nod.keep {w w' : World} {gC g n cap B : Nat} {nr : Int} {xs : List Value} (hc : Chg w w' gC g) (h : Prg w gC g n cap B nr xs) {gN gG k : Nat} {fold : Bool} {nc gc : Array Value} {z : Nat → Int} (hN : Nod w gN gG k fold nc gc z) : Nod w' gN gG k fold nc gc z :=
  ⟨hc.keep h hN.1 (by decide) (by decide), hN.2.1, hN.2.2.1, hc.keep h hN.2.2.2.1 (by decide) (by decide), hN.2.2.2.2⟩

def jl (n : Nat) : Nat → List Value
  | 0 => []
  | j + 1 => jl n j ++ [.int .i64 ((n + 3 * j + 2 : Nat) : Int)]

theorem Nod.grown {w w' : World} {J : Nat} {v : Value} {m : Nat} {ys : List Value} (hy : w.ownsRow J 3 1 v m ys) (hg : w.grownBy w' v.ownBlock) {gN gG k : Nat} {fold : Bool} {nc gc : Array Value} {z : Nat → Int} (hN : Nod w gN gG k fold nc gc z) (h1 : gN < J) (h2 : gG < J) : Nod w' gN gG k fold nc gc z :=
  ⟨grown_block hy hg hN.1 h1, hN.2.1, hN.2.2.1, grown_block hy hg hN.2.2.2.1 h2, hN.2.2.2.2⟩
theorem Nod.later {w w' : World} {gN gG k : Nat} {fold : Bool} {nc gc : Array Value} {z : Nat → Int} (hN : Nod w gN gG k fold nc gc z) (hb : Below w.heap.size w w') : Nod w' gN gG k fold nc gc z :=
  ⟨by rw [hb.block gN (gt_of hN.1)]; exact hN.1, hN.2.1, hN.2.2.1, by rw [hb.block gG (gt_of hN.2.2.2.1)]; exact hN.2.2.2.1, hN.2.2.2.2⟩
theorem Nod.set {w : World} {gC g n cap B i : Nat} {nr : Int} {xs : List Value} {u : Value} (h : Prg w gC g n cap B nr xs) {gN gG k : Nat} {fold : Bool} {nc gc : Array Value} {z : Nat → Int} (hN : Nod w gN gG k fold nc gc z) : Nod (w.setCell ⟨g, i, none⟩ u) gN gG k fold nc gc z :=
  ⟨by rw [Below.heap_setCell _ _ _ _ (h.far hN.1 (by decide) (by decide)).2]; exact hN.1, hN.2.1, hN.2.2.1, by rw [Below.heap_setCell _ _ _ _ (h.far hN.2.2.2.1 (by decide) (by decide)).2]; exact hN.2.2.2.1, hN.2.2.2.2⟩

theorem jl_get (n : Nat) : ∀ (m i : Nat), i < m → (jl n m)[i]? = some (.int .i64 ((n + 3 * i + 2 : Nat) : Int))
  | 0, i, h => by omega
  | m + 1, i, h => by
    have hl : ∀ m, (jl n m).length = m := fun m => by
      induction m with
      | zero => rfl
      | succ m ih => simp [jl, ih]
    by_cases e : i = m
    · subst e
      show (jl n i ++ _)[i]? = _
      rw [List.getElem?_append_right (by rw [hl]; omega), hl]
      simp
    · show (jl n m ++ _)[i]? = _
      rw [List.getElem?_append_left (by rw [hl]; omega)]
      exact jl_get n m i (by omega)
theorem jl_shape {w : World} {J : Nat} {v : Value} {m : Nat} {ys : List Value} (h : w.ownsRow J 3 1 v m ys) : ∃ qa cq, v = .slice qa m cq ∧ (qa = none → m = 0) := by
  obtain ⟨_, h2⟩ := h
  rcases h2 with ⟨rfl, rfl⟩ | ⟨g', cap', cur', e1, e2, e3, e4⟩
  · exact ⟨none, 0, rfl, fun _ => rfl⟩
  · exact ⟨_, cap', e1, fun h => by cases h⟩
theorem jl_cell {w : World} {J m n r s cq : Nat} {qa : Option Addr} (h : w.ownsRow J 3 1 (.slice qa m cq) m (jl n m)) (hr : r < m) (hs : s = n + 3 * r + 2) : ∃ qb, qa = some ⟨qb, 0, none⟩ ∧ w.cell? ⟨qb, r, none⟩ = some (.int .i64 (s : Int)) := by
  have h' := h
  obtain ⟨h1, h2⟩ := h'
  rcases h2 with ⟨_, rfl⟩ | ⟨g', cap', cur', e1, e2, e3, e4⟩
  · omega
  · simp at e1
    obtain ⟨rfl, rfl⟩ := e1
    refine ⟨g', rfl, ?_⟩
    rw [h.cellAt r (by omega), jl_get n m r hr, hs]

def BackPost (w w' : World) (gC n k B : Nat) (nr : Int) (z : Nat → Int) (fold : Bool) (e : Ending) : Prop :=
  e = .returned (.tuple #[]) ∧ ∃ g cap xs, Prg w' gC g (n + 3 * k - 2) cap B nr xs ∧ Code xs n z fold (fun _ => ((n + 3 * k - 2 : Nat) : Int)) (k - 1) ∧ Ins xs (n + 3 * (k - 1)) 8 fold (z (k - 1)) 0 ∧ Below B w w'

set_option maxRecDepth 100000 in
set_option maxHeartbeats 6400000 in
theorem back_any (gC gN gG g n cap B k : Nat) (nr : Int) (xs : List Value) (fold : Bool) (nc gc : Array Value) (z : Nat → Int) (w : World)
    (hP : Prg w gC g n cap B nr xs) (hN : Nod w gN gG k fold nc gc z) (hk : 0 < k) (hend : n + 3 * k - 2 ≤ 65536) (hBC : B ≤ gC) :
    Calls Try.prog 25 #[.pointer (some ⟨gC, 0, none⟩), .pointer (some ⟨gN, 0, none⟩)] w fun e w' => BackPost w w' gC n k B nr z fold e := by
  obtain ⟨i3, hi, hz0, hz1, hz2⟩ := info_parts Try.info3
  have HI := hid hi
  clear hi
  obtain ⟨n6, n14, nz⟩ := hN.cells
  have HNZ := hid nz
  have HP := hid hP
  have HN := hid hN
  have hgN : gN < w.heap.size := gt_of hN.1
  have hgG : gG < w.heap.size := gt_of hN.2.2.2.1
  have hBw := hP.bnd
  clear nz hP hN
  go_enter Try.func25, Try.ntmps25
  go_wp2_with fail
  go_loopw [5, 24] (fun jv i wr => ∃ (j gr cr t : Nat) (ys : List Value), j ≤ k - 1 ∧ i = .int .i64 j ∧ Hid (t = n + 3 * j) ∧ Hid (Prg wr gC gr t cr B nr ys) ∧ Hid (Nod wr gN gG k fold nc gc z) ∧ Hid (Code ys n z fold (fun _ => 0) j) ∧ Hid (Below B w wr) ∧ Hid (wr.ownsRow w.heap.size 3 1 jv j (jl n j)) ∧ w.heap.size ≤ wr.heap.size) (fun _ i _ => k - 1 - (intOf i).toNat)
  case atStart => exact ⟨0, g, cap, n, xs, by omega, rfl, rfl, HP, HN, fun i hi => by omega, Below.refl _ _, World.ownsRow_nil _ _ _ _, Nat.le_refl _⟩
  case round =>
    obtain ⟨j, gr, cr, t, ys, hj, rfl, HT, HPr, HNr, HCo, HB, HJ, hsz⟩ := hrel
    by_cases hjk : j < k - 1
    · have hjk' : (j : Int) < ((k - 1 : Nat) : Int) := by omega
      have hzj := HNr.out.cells.2.2 j (by omega)
      have htb : t + 3 ≤ 65535 := by have := HT.out; omega
      go_wp2_with fail
      refine (emit_any gC gr t cr B nr ys 16 false (z j) wr HPr.out (by omega)).mono ?_
      rintro e w1 ⟨rfl, g1, cp1, hP1, hg1, hc1⟩
      have HP1 := hid hP1
      have HN1 := hid (HNr.out.keep hc1 HPr.out)
      have HB1 := hid (HB.out.trans (hc1.below HPr.out hBC))
      have HJ1 := hid (hc1.owns HPr.out HJ.out)
      have hsz1 : w.heap.size ≤ w1.heap.size := Nat.le_trans hsz hc1.size
      have n14' := HN1.out.cells.2.1
      clear hP1 hg1 hc1 hzj
      go_wp2_with fail
      refine (emit_any gC g1 (t + 1) cp1 B nr _ 8 fold (z j) w1 HP1.out (by omega)).mono ?_
      rintro e w2 ⟨rfl, g2, cp2, hP2, hg2, hc2⟩
      have HP2 := hid hP2
      have HN2 := hid (HN1.out.keep hc2 HP1.out)
      have HB2 := hid (HB1.out.trans (hc2.below HP1.out hBC))
      have HJ2 := hid (hc2.owns HP1.out HJ1.out)
      have hsz2 : w.heap.size ≤ w2.heap.size := Nat.le_trans hsz1 hc2.size
      clear hP2 hg2 hc2 n14'
      go_wp2_with fail
      refine (emit_any gC g2 (t + 2) cp2 B nr _ 5 false 0 w2 HP2.out (by omega)).mono ?_
      rintro e w3 ⟨rfl, g3, cp3, hP3, hg3, hc3⟩
      have HP3 := hid hP3
      have HN3 := hid (HN2.out.keep hc3 HP2.out)
      have HB3 := hid (HB2.out.trans (hc3.below HP2.out hBC))
      have HJ3 := hid (hc3.owns HP2.out HJ2.out)
      have hsz3 : w.heap.size ≤ w3.heap.size := Nat.le_trans hsz2 hc3.size
      clear hP3 hg3 hc3
      go_wp2_with (at_builtin; refine wpList_append_own _ rfl (.tmp 40) (.tmp 44) 34 rfl w.heap.size 3 i3 (.int .i64 0) 1 8 Try.underlying34 HI.out hz0 hz1 hz2 rfl (by decide) _ _ _ rfl (HJ3.out.alloc _) ⟨w3.heap.size, 0, none⟩ 1 1 [.int .i64 ((t : Int) + 2)] rfl rfl (cell_one_new _ _ _) (by simp [Value.oneCell']) (by unfold maxLen; omega) (by omega) (by simp; omega) ?_; intro jv w4 ho4 hg4 _; have HO4 := hid ho4; have HG4 := hid hg4; clear ho4 hg4)
      have HP4 := hid ((HP3.out.alloc (.cells #[.int .i64 ((t : Int) + 2)] 3)).grown (HJ3.out.alloc _) HG4.out)
      have HN4 := hid (Nod.grown (HJ3.out.alloc _) HG4.out (HN3.out.later ((Below.refl _ _).alloc (Nat.le_refl _) _)) hgN hgG)
      have HB4 : Hid (Below B w w4) := (HB3.out.alloc (by omega) _).grown HG4.out (by simp; omega) (fun q hq => by have := (HJ3.out.lt q hq).1; omega)
      have hsz4 : w.heap.size ≤ w4.heap.size := by have := HG4.out.size; simp at this; omega
      obtain ⟨q0, q1⟩ := HP4.out.cmp.cell
      have hxl : (((ys ++ instL 16 false (z j) 0) ++ instL 8 fold (z j) 0) ++ instL 5 false 0 0).length = (t + 2 + 1) * 9 := HP4.out.own.1
      obtain ⟨u, hu⟩ : ∃ u, (((ys ++ instL 16 false (z j) 0) ++ instL 8 fold (z j) 0) ++ instL 5 false 0 0)[t * 9 + 7]? = some u := ⟨_, List.getElem?_eq_getElem (by omega)⟩
      have y0 : w4.cell? ⟨g3, t * 9 + 7, none⟩ = some u := (HP4.out.own.cellAt (t * 9 + 7) (by omega)).trans hu
      have y1 : w4.frozen? ⟨g3, t * 9 + 7, none⟩ = false := HP4.out.own.frozenAt _
      have hti : (t : Int) < ((t + 2 + 1 : Nat) : Int) := by omega
      have hti0 : (0 : Int) ≤ (t : Int) := by omega
      clear hxl hu
      go_region
      go_wp2_with fail
      go_roundw
      case rel =>
        have hyl : ys.length = t * 9 := HPr.out.own.1
        have hcode : Code ((((ys ++ instL 16 false (z j) 0) ++ instL 8 fold (z j) 0) ++ instL 5 false 0 0).set (t * 9 + 7) (.int .i64 ((t : Int) + 2 + 1))) n z fold (fun _ => 0) (j + 1) := by
          have e := HT.out
          have h := Code.round HCo.out (by rw [hyl, e])
          rw [← e] at h
          rw [show ((t + 3 : Nat) : Int) = (t : Int) + 2 + 1 by omega] at h
          exact h
        have hjl : (w4.setCell ⟨g3, t * 9 + 7, none⟩ (Value.int IntKind.i64 ((t : Int) + 2 + 1))).drew.ownsRow w.heap.size 3 1 jv (j + 1) (jl n (j + 1)) := by
          have h := (owns_far (i := t * 9 + 7) (u := Value.int IntKind.i64 ((t : Int) + 2 + 1)) HP4.out HO4.out).drew
          have e := HT.out
          have e2 : jl n (j + 1) = jl n j ++ [Value.int IntKind.i64 ((t : Int) + 2)] := by
            show jl n j ++ [Value.int IntKind.i64 ((n + 3 * j + 2 : Nat) : Int)] = _
            rw [show ((n + 3 * j + 2 : Nat) : Int) = (t : Int) + 2 by omega]
          rw [e2]
          exact h
        exact ⟨j + 1, g3, cp3, t + 3, _, by omega, by go_num, (show t + 3 = n + 3 * (j + 1) by have := HT.out; omega), (HP4.out.set (t * 9 + 7) _).drewN 1, (Nod.set HP4.out HN4.out).later ⟨rfl, rfl, rfl, Nat.le_refl _, fun _ _ => rfl⟩, hcode, (HB4.out.setCell (by exact (HP4.out.own.lt g3 rfl).1) _).drew, hjl, by simp [World.setCell]; exact hsz4⟩
      case measure => simp [intOf]; omega
    · obtain rfl : j = k - 1 := by omega
      obtain ⟨m6, m14, mz⟩ := HNr.out.cells
      have mzl := mz (k - 1) (by omega)
      clear mz
      have htb : t + 1 ≤ 65536 := by have := HT.out; omega
      go_wp2_with fail
      have hk0 : (1 : Int) ≤ (k : Int) := by omega
      have hk1 : (k : Int) - 1 < k := by omega
      have hk2 : ((k : Int) - 1).toNat = k - 1 := by omega
      clear n6 n14
      go_region_held3 (fun w' => w'.cell? ⟨gN, 6, none⟩ = some (.slice (some ⟨gG, 0, none⟩) k k) ∧ w'.cell? ⟨gN, 14, none⟩ = some (.bool fold) ∧ w'.cell? ⟨gG, k - 1, none⟩ = some (.int .i64 (z (k - 1)))) (go_keep)
        ((first | (go_at_call 26; refine (emit_any gC gr t cr B nr ys 8 fold (z (k - 1)) _ (HPr.out.drewN 1) (by omega)).mono ?_; rintro e w5 ⟨rfl, g5, cp5, hP5, hg5, hc5⟩; have HP5 := hid hP5; have HN5 := hid ((HNr.out.later (show Below wr.heap.size wr (wr.drewN 1) from ⟨rfl, rfl, rfl, Nat.le_refl _, fun _ _ => rfl⟩)).keep hc5 (HPr.out.drewN 1)); have HB5 := hid ((HB.out.drew).trans (hc5.below (HPr.out.drewN 1) hBC)); have HJ5 := hid (hc5.owns (HPr.out.drewN 1) HJ.out.drew); have hsz5 : w.heap.size ≤ w5.heap.size := Nat.le_trans hsz hc5.size; have s6 := HN5.out.cells.1; have s14 := HN5.out.cells.2.1; have sz := HN5.out.cells.2.2 (k - 1) (by omega); clear hP5 hg5 hc5)))
      obtain ⟨qa, cq, rfl, hq⟩ := jl_shape HJ5.out
      have HQ := hid hq
      clear hq s6 s14 sz m6 m14 mzl
      go_wp2_with fail
      go_loopw [75] (fun i wr2 => ∃ (r : Nat) (zs : List Value), r ≤ k - 1 ∧ i = .int .i64 r ∧ Hid (Prg wr2 gC g5 (t + 1) cp5 B nr zs) ∧ Hid (Code zs n z fold (fun i => if i < r then ((t + 1 : Nat) : Int) else 0) (k - 1)) ∧ Hid (Ins zs t 8 fold (z (k - 1)) 0) ∧ Hid (Below B w wr2) ∧ Hid (wr2.ownsRow w.heap.size 3 1 (.slice qa (k - 1) cq) (k - 1) (jl n (k - 1)))) (fun i _ => k - 1 - (intOf i).toNat)
      case atStart =>
        have hyl : ys.length = t * 9 := HPr.out.own.1
        refine ⟨0, _, by omega, rfl, HP5, ?_, Ins.new hyl, HB5, HJ5⟩
        have e := HT.out
        have h := HCo.out.last (by rw [hyl, e]) (instL 8 fold (z (k - 1)) 0)
        intro i hi
        have h2 := h i hi
        simpa using h2
      case round =>
        obtain ⟨r, zs, hr, rfl, HP6, HCo6, HI6, HB6, HJ6⟩ := hrel
        by_cases hrk : r < k - 1
        · have hrk' : (r : Int) < ((k - 1 : Nat) : Int) := by omega
          obtain ⟨s, hs⟩ : ∃ s, s = n + 3 * r + 2 := ⟨_, rfl⟩
          obtain ⟨qb, rfl, hqc⟩ := jl_cell HJ6.out hrk hs
          have HS := hid hs
          obtain ⟨q0, q1⟩ := HP6.out.cmp.cell
          have hxl : zs.length = (t + 1) * 9 := HP6.out.own.1
          have hst : s < t := by have := HT.out; omega
          obtain ⟨u, hu⟩ : ∃ u, zs[s * 9 + 6]? = some u := ⟨_, List.getElem?_eq_getElem (by omega)⟩
          have y0 : _ = some u := (HP6.out.own.cellAt (s * 9 + 6) (by omega)).trans hu
          have y1 := HP6.out.own.frozenAt (s * 9 + 6)
          have hti : (s : Int) < ((t + 1 : Nat) : Int) := by omega
          have hti0 : (0 : Int) ≤ (s : Int) := by omega
          clear hxl hu hs
          go_wp2_with fail
          go_region
          go_wp2_with fail
          go_roundw
          case rel =>
            have hcode : Code (zs.set (s * 9 + 6) (.int .i64 ((t : Int) + 1))) n z fold (fun i => if i < r + 1 then ((t + 1 : Nat) : Int) else 0) (k - 1) := by
              have e := HS.out
              have hyl : zs.length = (t + 1) * 9 := HP6.out.own.1
              have h := Code.patch HCo6.out hrk (by have := HT.out; omega)
              rw [← e] at h
              exact h
            exact ⟨r + 1, _, by omega, by go_num, (HP6.out.set (s * 9 + 6) _).drewN 1, hcode, HI6.out.setO (by omega) (by omega), (HB6.out.setCell (by exact (HP6.out.own.lt g5 rfl).1) _).drew, (owns_far HP6.out HJ6.out).drew⟩
          case measure => simp [intOf]; omega
        · obtain rfl : r = k - 1 := by omega
          go_wp2_with fail
          go_end0
          have e := HT.out
          have e2 : n + 3 * k - 2 = t + 1 := by omega
          refine ⟨by first | rfl | simp, g5, cp5, zs, ?_, ?_, ?_, HB6.out⟩
          · rw [e2]; exact HP6.out
          · rw [e2]
            intro i hi
            have h := HCo6.out i hi
            simpa [if_pos hi] using h
          · rw [← e]; exact HI6.out
end Go.Proofs.Qxb6601528a.Br
