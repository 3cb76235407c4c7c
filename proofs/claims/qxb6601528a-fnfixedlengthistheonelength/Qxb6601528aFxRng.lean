import Derived.Test.Qxb6601528aFxSat
namespace Go.Proofs.Qxb6601528a.Fx
open Go.RowKit

def RngPost (s : Sp) (e : Ending) : Prop := e = .returned (.agg #[.int .i64 s.lo, .int .i64 s.hi, .bool s.inf, .bool s.big, .bool s.degen])
def boxO (s : Sp) : Obj := .cells #[.int .i64 s.lo, .int .i64 s.hi, .bool s.inf, .bool s.big, .bool s.degen] 26 (0, 0)

/-- the two boxes of a call of rng: its result's and its own 's' -/
def Two (B : Nat) (s : Sp) (w wr : World) : Prop := wr.heap[B]? = some (boxO zero) ∧ wr.heap[B + 1]? = some (boxO s) ∧ Below B w wr ∧ B + 2 ≤ wr.heap.size

theorem box_cells {w : World} {g : Nat} {s : Sp} (h : w.heap[g]? = some (boxO s)) :
    w.cell? ⟨g, 0, none⟩ = some (.int .i64 s.lo) ∧ w.cell? ⟨g, 1, none⟩ = some (.int .i64 s.hi) ∧ w.cell? ⟨g, 2, none⟩ = some (.bool s.inf) ∧ w.cell? ⟨g, 3, none⟩ = some (.bool s.big) ∧ w.cell? ⟨g, 4, none⟩ = some (.bool s.degen) ∧
    (∀ o, w.frozen? ⟨g, o, none⟩ = false) := by
  refine ⟨?_, ?_, ?_, ?_, ?_, fun o => ?_⟩
  all_goals simp [World.cell?, World.frozen?, h, boxO]

theorem box_later {w w1 : World} (hb : Below w.heap.size w w1) {g : Nat} {o : Obj} (h : w.heap[g]? = some o) : w1.heap[g]? = some o := by
  have hlt : g < w.heap.size := by
    rcases Nat.lt_or_ge g w.heap.size with h' | h'
    · exact h'
    · simp [Array.getElem?_eq_none h'] at h
  rw [hb.block g hlt]; exact h

theorem two_start (w : World) (c : Array Value) (h : c = #[.int .i64 0, .int .i64 0, .bool false, .bool false, .bool false]) : Two w.heap.size zero w ((w.alloc (.cells c 26)).alloc (.cells c 26)) := by
  subst h
  refine ⟨?_, ?_, (((Below.refl _ _).alloc (Nat.le_refl _) _).alloc (by simp) _), by simp⟩
  · show ((w.heap.push _).push _)[_]? = _
    rw [Array.getElem?_push, if_neg (by simp), Array.getElem?_push, if_pos rfl]; rfl
  · show ((w.heap.push _).push _)[_]? = _
    rw [Array.getElem?_push, if_pos (by simp)]; rfl

theorem Two.drewN {B : Nat} {s : Sp} {w wr : World} (h : Two B s w wr) (n : Nat) : Two B s w (wr.drewN n) := ⟨h.1, h.2.1, h.2.2.1.trans ⟨rfl, rfl, rfl, Nat.le_refl _, fun _ _ => rfl⟩, h.2.2.2⟩
theorem Two.later {B : Nat} {s : Sp} {w wr w1 : World} (h : Two B s w wr) (hb : Below wr.heap.size wr w1) : Two B s w w1 :=
  ⟨box_later hb h.1, box_later hb h.2.1, h.2.2.1.trans (hb.mono (by have := h.2.2.2; omega)), Nat.le_trans h.2.2.2 hb.size⟩
theorem Two.alloc {B : Nat} {s : Sp} {w wr : World} (h : Two B s w wr) (o : Obj) : Two B s w (wr.alloc o) := h.later ((Below.refl _ _).alloc (Nat.le_refl _) _)
theorem Two.set {B : Nat} {s s' : Sp} {w wr : World} (h : Two B s w wr) (i : Nat) (v : Value) (hs : (#[.int .i64 s.lo, .int .i64 s.hi, .bool s.inf, .bool s.big, .bool s.degen] : Array Value).setIfInBounds i v = #[.int .i64 s'.lo, .int .i64 s'.hi, .bool s'.inf, .bool s'.big, .bool s'.degen]) :
    Two B s' w (wr.setCell ⟨B + 1, i, none⟩ v) := by
  refine ⟨?_, ?_, h.2.2.1.setCell (by show B ≤ B + 1; omega) _, by simpa [World.setCell] using h.2.2.2⟩
  · rw [Below.heap_setCell _ _ _ _ (by show B ≠ B + 1; omega)]; exact h.1
  · rw [heap_setCell_same wr (B + 1) i _ 26 v h.2.1, hs]; rfl

theorem Two.five {B : Nat} {s : Sp} {w w1 : World} (h : Two B s w w1) (s' : Sp) (v0 v1 v2 v3 v4 : Value) (o : Obj) (e0 : v0 = .int .i64 s'.lo) (e1 : v1 = .int .i64 s'.hi) (e2 : v2 = .bool s'.inf) (e3 : v3 = .bool s'.big) (e4 : v4 = .bool s'.degen) :
    Two B s' w ((((((w1.setCell ⟨B + 1, 0, none⟩ v0).setCell ⟨B + 1, 1, none⟩ v1).setCell ⟨B + 1, 2, none⟩ v2).setCell ⟨B + 1, 3, none⟩ v3).setCell ⟨B + 1, 4, none⟩ v4).alloc o) := by
  subst e0 e1 e2 e3 e4
  exact (((((h.set (s' := ⟨s'.lo, s.hi, s.inf, s.big, s.degen⟩) 0 _ rfl).set (s' := ⟨s'.lo, s'.hi, s.inf, s.big, s.degen⟩) 1 _ rfl).set (s' := ⟨s'.lo, s'.hi, s'.inf, s.big, s.degen⟩) 2 _ rfl).set (s' := ⟨s'.lo, s'.hi, s'.inf, s'.big, s.degen⟩) 3 _ rfl).set (s' := s') 4 _ rfl).alloc o

theorem rng_leaf {G : Addr → Nd Addr} {f : Nat} {a : Addr} {n : Nd Addr} (hn : G a = n) (s : Sp)
    (h : (if n.kind = 1 ∨ n.kind = 2 then one
    else if n.kind = 0 ∨ n.kind = 9 ∨ n.kind = 8 then zero
    else if n.kind = 3 then finS (foldK (fun i => rngF G f (n.el i)) n.len)
    else if n.kind = 4 ∨ n.kind = 11 then finS (foldA (fun i => rngF G f (n.el i)) n.len)
    else if n.kind = 5 ∨ n.kind = 7 then rngF G f n.sub
    else if n.kind = 6 then finS (repS n.mn n.mx (rngF G f n.sub))
    else open_) = s) : rngF G (f + 1) (some a) = s := by
  simp only [rngF]
  rw [hn]
  exact h

set_option maxHeartbeats 4000000 in
set_option maxRecDepth 100000 in
theorem rng_one (b off : Nat) (x : Int) (w : World) (kind : Int) (hx : 1 ≤ x) (c0 : w.cell? ⟨b, off, none⟩ = some (.int .u8 kind)) (hk : kind = 1 ∨ kind = 2) :
    Calls Try.prog 8 #[.pointer (some ⟨b, off, none⟩), .int .i64 x] w fun e w' => RngPost one e ∧ Below w.heap.size w w' := by
  have hlt := World.block_lt_of_cell? w _ c0
  simp only at hlt
  rcases hk with rfl | rfl
  · go_enter Try.func8, Try.ntmps8
    go_wp2_with fail
    exact bodyPost_ret (v := .agg #[.int .i64 1, .int .i64 1, .bool false, .bool false, .bool false]) (by simp [results, Try.results8, go_sem]) rfl ⟨rfl, ((Below.refl _ _).alloc (Nat.le_refl _) _).alloc (by simp) _⟩
  · go_enter Try.func8, Try.ntmps8
    go_wp2_with fail
    exact bodyPost_ret (v := .agg #[.int .i64 1, .int .i64 1, .bool false, .bool false, .bool false]) (by simp [results, Try.results8, go_sem]) rfl ⟨rfl, ((Below.refl _ _).alloc (Nat.le_refl _) _).alloc (by simp) _⟩

set_option maxHeartbeats 4000000 in
set_option maxRecDepth 100000 in
theorem rng_zero (b off : Nat) (x : Int) (w : World) (kind : Int) (hx : 1 ≤ x) (c0 : w.cell? ⟨b, off, none⟩ = some (.int .u8 kind)) (hk : kind = 0 ∨ kind = 9 ∨ kind = 8) :
    Calls Try.prog 8 #[.pointer (some ⟨b, off, none⟩), .int .i64 x] w fun e w' => RngPost zero e ∧ Below w.heap.size w w' := by
  have hlt := World.block_lt_of_cell? w _ c0
  simp only at hlt
  rcases hk with rfl | rfl | rfl
  all_goals
    go_enter Try.func8, Try.ntmps8
    go_wp2_with fail
    exact bodyPost_ret (v := .agg #[.int .i64 0, .int .i64 0, .bool false, .bool false, .bool false]) (by simp [results, Try.results8, go_sem]) rfl ⟨rfl, ((Below.refl _ _).alloc (Nat.le_refl _) _).alloc (by simp) _⟩

set_option maxHeartbeats 4000000 in
set_option maxRecDepth 100000 in
theorem rng_open (b off : Nat) (x : Int) (w : World) (kind : Int) (hx : 1 ≤ x) (c0 : w.cell? ⟨b, off, none⟩ = some (.int .u8 kind)) (hk : 11 < kind ∨ kind = 10) :
    Calls Try.prog 8 #[.pointer (some ⟨b, off, none⟩), .int .i64 x] w fun e w' => RngPost open_ e ∧ Below w.heap.size w w' := by
  have hlt := World.block_lt_of_cell? w _ c0
  simp only at hlt
  rcases hk with hk | rfl
  all_goals
    go_enter Try.func8, Try.ntmps8
    go_wp2_with fail
    exact bodyPost_ret (v := .agg #[.int .i64 0, .int .i64 0, .bool true, .bool false, .bool false]) (by simp [results, Try.results8, go_sem]) rfl ⟨rfl, ((Below.refl _ _).alloc (Nat.le_refl _) _).alloc (by simp) _⟩

set_option maxHeartbeats 4000000 in
set_option maxRecDepth 100000 in
theorem rng_seq (b off : Nat) (x : Int) (w : World) (sa : Option Addr) (len cap : Nat) (el : Nat → Option Addr) (r : Nat → Sp) (hx : 1 ≤ x) (hxm : x ≤ 65537) (lc : len ≤ cap) (cm : cap ≤ maxLen)
    (c0 : w.cell? ⟨b, off, none⟩ = some (.int .u8 3)) (c2 : w.cell? ⟨b, off + 2, none⟩ = some (.slice sa len cap))
    (hel : len = 0 ∨ ∃ b' off', sa = some ⟨b', off', none⟩ ∧ ∀ i, i < len → w.cell? ⟨b', off' + i, none⟩ = some (.pointer (el i)))
    (hin : ∀ i, i < len → In (r i))
    (ih : ∀ i, i < len → ∀ wr : World, Below w.heap.size w wr → Calls Try.prog 8 #[.pointer (el i), .int .i64 (x - 1)] wr fun e w' => RngPost (r i) e ∧ Below wr.heap.size wr w') :
    Calls Try.prog 8 #[.pointer (some ⟨b, off, none⟩), .int .i64 x] w fun e w' => RngPost (finS (foldK r len)) e ∧ Below w.heap.size w w' := by
  have hlt := World.block_lt_of_cell? w _ c0
  simp only at hlt
  unfold maxLen at cm
  have HEL := hid hel
  have HIN := hid hin
  have IH := hid ih
  clear hel hin ih
  go_enter Try.func8, Try.ntmps8
  go_wp2_with fail
  go_loopw [6] (fun i wr => ∃ (k : Nat), k ≤ len ∧ i = .int .i64 k ∧ Hid (Two w.heap.size (foldK r k) w wr)) (fun i _ => len - (intOf i).toNat)
  case atStart => exact ⟨0, Nat.zero_le _, rfl, two_start w _ rfl⟩
  case round =>
    obtain ⟨k, hk, rfl, HT⟩ := hrel
    have c2' : wr.cell? ⟨b, off + 2, none⟩ = some (.slice sa len cap) := (HT.out.2.2.1.cell (by exact hlt)).trans c2
    have hsz : w.heap.size + 2 ≤ wr.heap.size := HT.out.2.2.2
    by_cases hlk : k < len
    · have hlk' : (k : Int) < len := by omega
      rcases HEL.out with h0 | ⟨b', off', rfl, hcs⟩
      · omega
      · have hck : wr.cell? ⟨b', off' + k, none⟩ = some (.pointer (el k)) := (HT.out.2.2.1.cell (World.block_lt_of_cell? w ⟨b', off' + k, none⟩ (hcs k hlk))).trans (hcs k hlk)
        clear hcs
        go_wp2_with fail
        refine (IH.out k hlk wr HT.out.2.2.1).mono ?_
        rintro e w1 ⟨rfl, hb1⟩
        have HT1 := hid (HT.out.later hb1)
        have hsz1 : w.heap.size + 1 < w1.heap.size := HT1.out.2.2.2
        obtain ⟨s0, s1, s2, s3, s4, sf⟩ := box_cells HT1.out.2.1
        obtain ⟨i1, i2, i3, i4, i5⟩ := foldK_in r k (fun i hi => HIN.out i (by omega))
        obtain ⟨j1, j2, j3, j4, j5⟩ := HIN.out k hlk
        clear c2 c2' hck hb1 i5 j5 HT
        have HF : Hid (foldK r (k + 1) = addS (foldK r k) (r k)) := rfl
        generalize foldK r k = s at *
        generalize hrk : r k = t at *
        clear hrk
        obtain ⟨slo, shi, sinf, sbig, sdeg⟩ := s
        obtain ⟨tlo, thi, tinf, tbig, tdeg⟩ := t
        simp only at s0 s1 s2 s3 s4 i1 i2 i3 i4 j1 j2 j3 j4
        cases sinf <;> cases sbig <;> cases sdeg
        all_goals
          go_wp2_with (go_at_call 20; refine (satAdd_any _ _ _ (by omega) (by omega) (by omega) (by omega)).mono ?_; rintro e w' ⟨rfl, rfl⟩)
          go_roundw
          case rel => exact ⟨k + 1, by omega, by go_num, by rw [HF.out]; exact HT1.out.five _ _ _ _ _ _ _ rfl rfl rfl rfl rfl⟩
          case measure => simp [intOf]; omega
    · obtain rfl : k = len := by omega
      obtain ⟨r0, r1, r2, r3, r4, rf⟩ := box_cells HT.out.1
      obtain ⟨s0, s1, s2, s3, s4, sf⟩ := box_cells HT.out.2.1
      obtain ⟨i1, i2, i3, i4, i5⟩ := foldK_in r k (fun i hi => HIN.out i (by omega))
      have HB := hid HT.out.2.2.1
      clear i5 HT
      have hsz1 : w.heap.size + 1 < wr.heap.size := hsz
      have hsz0 : w.heap.size < wr.heap.size := by omega
      simp only [zero] at r0 r1 r2 r3 r4
      generalize hsg : foldK r k = s at *
      have HG := hid hsg
      clear hsg
      obtain ⟨slo, shi, sinf, sbig, sdeg⟩ := s
      simp only at s0 s1 s2 s3 s4 i1 i2 i3 i4
      by_cases h1 : 1073741824 < slo
      · have HFN : Hid (finS ⟨slo, shi, sinf, sbig, sdeg⟩ = ⟨slo, shi, sinf, true, sdeg⟩) := by show _ = _; rw [finS, if_pos (Or.inl h1)]
        go_wp2_with fail
        exact bodyPost_ret (v := .agg #[.int .i64 slo, .int .i64 shi, .bool sinf, .bool true, .bool sdeg]) (by simp [results, Try.results8, go_sem, r0, r1, r2, r3, r4]) rfl ⟨by rw [HG.out, HFN.out]; rfl, ((((((HB.out.setCell (by show w.heap.size ≤ w.heap.size + 1; omega) _).setCell (Nat.le_refl _) _).setCell (Nat.le_refl _) _).setCell (Nat.le_refl _) _).setCell (Nat.le_refl _) _).setCell (Nat.le_refl _) _)⟩
      · cases sinf
        · by_cases h2 : 1073741824 < shi
          · have HFN : Hid (finS ⟨slo, shi, false, sbig, sdeg⟩ = ⟨slo, shi, false, true, sdeg⟩) := by show _ = _; rw [finS, if_pos (Or.inr ⟨rfl, h2⟩)]
            go_wp2_with fail
            exact bodyPost_ret (v := .agg #[.int .i64 slo, .int .i64 shi, .bool false, .bool true, .bool sdeg]) (by simp [results, Try.results8, go_sem, r0, r1, r2, r3, r4]) rfl ⟨by rw [HG.out, HFN.out]; rfl, ((((((HB.out.setCell (by show w.heap.size ≤ w.heap.size + 1; omega) _).setCell (Nat.le_refl _) _).setCell (Nat.le_refl _) _).setCell (Nat.le_refl _) _).setCell (Nat.le_refl _) _).setCell (Nat.le_refl _) _)⟩
          · have HFN : Hid (finS ⟨slo, shi, false, sbig, sdeg⟩ = ⟨slo, shi, false, sbig, sdeg⟩) := by
              show _ = _
              rw [finS, if_neg (by rintro (h | ⟨_, h⟩) <;> simp only at h <;> omega)]
            go_wp2_with fail
            exact bodyPost_ret (v := .agg #[.int .i64 slo, .int .i64 shi, .bool false, .bool sbig, .bool sdeg]) (by simp [results, Try.results8, go_sem, r0, r1, r2, r3, r4]) rfl ⟨by rw [HG.out, HFN.out]; rfl, (((((HB.out.setCell (Nat.le_refl _) _).setCell (Nat.le_refl _) _).setCell (Nat.le_refl _) _).setCell (Nat.le_refl _) _).setCell (Nat.le_refl _) _)⟩
        · have HFN : Hid (finS ⟨slo, shi, true, sbig, sdeg⟩ = ⟨slo, shi, true, sbig, sdeg⟩) := by
            show _ = _
            rw [finS, if_neg (by rintro (h | ⟨h, _⟩) <;> simp at h <;> omega)]
          go_wp2_with fail
          exact bodyPost_ret (v := .agg #[.int .i64 slo, .int .i64 shi, .bool true, .bool sbig, .bool sdeg]) (by simp [results, Try.results8, go_sem, r0, r1, r2, r3, r4]) rfl ⟨by rw [HG.out, HFN.out]; rfl, (((((HB.out.setCell (Nat.le_refl _) _).setCell (Nat.le_refl _) _).setCell (Nat.le_refl _) _).setCell (Nat.le_refl _) _).setCell (Nat.le_refl _) _)⟩
end Go.Proofs.Qxb6601528a.Fx
