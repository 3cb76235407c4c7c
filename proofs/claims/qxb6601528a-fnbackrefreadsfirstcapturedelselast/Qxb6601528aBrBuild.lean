import Derived.Test.Qxb6601528aBrBase
set_option linter.unusedVariables false
namespace Go.Proofs.Qxb6601528a.Br
open Go.RowKit

/-- one instruction of the input, as its nine cells read -/
def PreAt (w : World) (b o : Nat) : Prop :=
  ∃ (a0 a1 a2 a5 a6 a7 : Int) (a3 a4 : Bool) (a8 : Option Addr),
    w.cell? ⟨b, o, none⟩ = some (.int .u8 a0) ∧ w.cell? ⟨b, o + 1, none⟩ = some (.int .u8 a1) ∧ w.cell? ⟨b, o + 2, none⟩ = some (.int .u8 a2) ∧ w.cell? ⟨b, o + 3, none⟩ = some (.bool a3) ∧
    w.cell? ⟨b, o + 4, none⟩ = some (.bool a4) ∧ w.cell? ⟨b, o + 5, none⟩ = some (.int .u8 a5) ∧ w.cell? ⟨b, o + 6, none⟩ = some (.int .i64 a6) ∧ w.cell? ⟨b, o + 7, none⟩ = some (.int .i64 a7) ∧
    w.cell? ⟨b, o + 8, none⟩ = some (.pointer a8) ∧
    (a8 = none ∨ ∃ (b' o' : Nat) (s0 s1 s2 s3 : Int), a8 = some ⟨b', o', none⟩ ∧ w.cell? ⟨b', o', none⟩ = some (.int .u64 s0) ∧ w.cell? ⟨b', o' + 1, none⟩ = some (.int .u64 s1) ∧ w.cell? ⟨b', o' + 2, none⟩ = some (.int .u64 s2) ∧ w.cell? ⟨b', o' + 3, none⟩ = some (.int .u64 s3))
theorem PreAt.later {w w' : World} {b o : Nat} (h : PreAt w b o) (hw : ∀ p v, w.cell? p = some v → w'.cell? p = some v) : PreAt w' b o := by
  obtain ⟨a0, a1, a2, a5, a6, a7, a3, a4, a8, h0, h1, h2, h3, h4, h5, h6, h7, h8, h9⟩ := h
  refine ⟨a0, a1, a2, a5, a6, a7, a3, a4, a8, hw _ _ h0, hw _ _ h1, hw _ _ h2, hw _ _ h3, hw _ _ h4, hw _ _ h5, hw _ _ h6, hw _ _ h7, hw _ _ h8, ?_⟩
  rcases h9 with h9 | ⟨b', o', s0, s1, s2, s3, e, g0, g1, g2, g3⟩
  · exact Or.inl h9
  · exact Or.inr ⟨b', o', s0, s1, s2, s3, e, hw _ _ g0, hw _ _ g1, hw _ _ g2, hw _ _ g3⟩

def IsPre (w : World) (ad : Option Addr) (len cap : Nat) : Prop :=
  len ≤ cap ∧ cap ≤ maxLen ∧ (len = 0 ∨ ∃ b off, ad = some ⟨b, off, none⟩ ∧ ∀ i, i < len → PreAt w b (off + i * 9))

def Row53 (w : World) (g N : Nat) : Prop := ∃ cur, w.heap[g]? = some (.cells cur 53 (0, 0)) ∧ cur.size = N
theorem Row53.cell {w : World} {g N : Nat} (h : Row53 w g N) (i : Nat) (hi : i < N) : ∃ u, w.cell? ⟨g, i, none⟩ = some u := by
  obtain ⟨cur, h1, h2⟩ := h
  refine ⟨cur[i]'(by omega), ?_⟩
  simp [World.cell?, h1, h2, hi]
theorem Row53.frozen {w : World} {g N : Nat} (h : Row53 w g N) (i : Nat) : w.frozen? ⟨g, i, none⟩ = false := by
  obtain ⟨cur, h1, h2⟩ := h
  simp [World.frozen?, h1]
theorem Row53.set {w : World} {g N : Nat} (h : Row53 w g N) (i : Nat) (v : Value) : Row53 (w.setCell ⟨g, i, none⟩ v) g N := by
  obtain ⟨cur, h1, h2⟩ := h
  exact ⟨_, heap_setCell_same w g i cur 53 v h1, by simp [h2]⟩
theorem Row53.later {w w' : World} {g N : Nat} (h : Row53 w g N) (hb : Below w.heap.size w w') : Row53 w' g N := by
  obtain ⟨cur, h1, h2⟩ := h
  refine ⟨cur, ?_, h2⟩
  have hlt : g < w.heap.size := by
    rcases Nat.lt_or_ge g w.heap.size with h' | h'
    · exact h'
    · simp [Array.getElem?_eq_none h'] at h1
  rw [hb.block g hlt]; exact h1
theorem Row53.lt {w : World} {g N : Nat} (h : Row53 w g N) : g < w.heap.size := by
  obtain ⟨cur, h1, h2⟩ := h
  rcases Nat.lt_or_ge g w.heap.size with h' | h'
  · exact h'
  · simp [Array.getElem?_eq_none h'] at h1

set_option maxHeartbeats 1000000 in
theorem make_any (a0 a1 a2 a5 a6 a7 : Int) (a3 a4 : Bool) (a8 : Option Addr) (w : World) :
    Calls Try.prog 24 #[.int .u8 a0, .int .u8 a1, .int .u8 a2, .bool a3, .bool a4, .int .u8 a5, .int .i64 a6, .int .i64 a7, .pointer a8] w fun e w' =>
      e = .returned (.agg #[.int .u8 a0, .int .u8 a1, .int .u8 a2, .bool a3, .bool a4, .int .u8 a5, .int .i64 a6, .int .i64 a7, .pointer a8]) ∧ Below w.heap.size w w' := by
  go_enter Try.func24, Try.ntmps24
  go_wp2
  exact bodyPost_ret (v := .agg #[.int .u8 a0, .int .u8 a1, .int .u8 a2, .bool a3, .bool a4, .int .u8 a5, .int .i64 a6, .int .i64 a7, .pointer a8]) (by simp [results, Try.results24, go_sem]) rfl ⟨rfl, (Below.refl _ _).alloc (Nat.le_refl _) _⟩

def BuildPost (len : Nat) (w w' : World) (e : Ending) : Prop := ∃ g, e = .returned (.slice (some ⟨g, 0, none⟩) len len) ∧ w.heap.size ≤ g ∧ Row53 w' g (len * 9)

set_option maxHeartbeats 4000000 in
theorem build_any (ad : Option Addr) (len cap : Nat) (w : World) (h : IsPre w ad len cap) (hl : len ≤ 4096) :
    Calls Try.prog 14 #[.slice ad len cap] w fun e w' => BuildPost len w w' e ∧ Below w.heap.size w w' := by
  obtain ⟨hlc, hcm, h⟩ := h
  unfold maxLen at hcm
  obtain ⟨i53, hi, hz0, hz1, hz2⟩ := info_parts Try.info53
  have HI := hid hi
  have HH := hid h
  clear hi h
  go_enter Try.func14, Try.ntmps14
  go_wp2_with (at_make; refine wpList_make_full _ rfl (.tmp 9) (.tmp 9) 39 rfl w.heap.size 53 i53 _ 9 Try.underlying39 HI.out hz0 hz1 .i64 .i64 _ _ len rfl rfl rfl rfl (by rw [hz2]; omega) (by unfold maxLen; omega) (Nat.le_refl _) ?_; intro w1 ho1 hg1; have HO1 := hid ho1; have HG1 := hid hg1; clear ho1 hg1)
  have HB0 : Hid (Below w.heap.size w w1) := (Below.refl _ _).grown HG1.out (Nat.le_refl _) (fun k hk => by cases hk)
  have HR0 : Hid (Row53 w1 w.heap.size (len * 9)) := by
    obtain ⟨hx, h2⟩ := HO1.out
    rcases h2 with ⟨e, _⟩ | ⟨g', cap', cur, e1, _, e3, _, _, e6, e7⟩
    · simp at e
    · simp at e1
      obtain ⟨rfl, rfl⟩ := e1
      exact ⟨cur, e3, e6⟩
  clear HG1 HI hz0 hz1 hz2 HO1
  go_loopw [4] (fun i wr => ∃ (k : Nat), k ≤ len ∧ i = .int .i64 k ∧ Hid (Row53 wr w.heap.size (len * 9)) ∧ Hid (Below w.heap.size w wr)) (fun i _ => len - (intOf i).toNat)
  case atStart => exact ⟨0, Nat.zero_le _, rfl, HR0, HB0⟩
  case round =>
    obtain ⟨k, hk, rfl, HR, HB⟩ := hrel
    clear HR0 HB0
    by_cases hlt : k < len
    · rcases HH.out with h0 | ⟨b, off, rfl, hc⟩
      · omega
      · have hp := (hc k hlt).later (fun p _ hp => (HB.out.cell (World.block_lt_of_cell? w p hp)).trans hp)
        clear hc
        obtain ⟨a0, a1, a2, a5, a6, a7, a3, a4, a8, e0, e1, e2, e3, e4, e5, e6, e7, e8, e9⟩ := hp
        have hlt' : (k : Int) < len := by omega
        have hgl := HR.out.lt
        rcases e9 with rfl | ⟨b', o', s0, s1, s2, s3, rfl, g0, g1, g2, g3⟩
        · go_wp2_with fail
          refine (make_any _ _ _ _ _ _ _ _ _ _).mono ?_
          rintro e w2 ⟨rfl, hb2⟩
          have HB1 : Hid (Below wr.heap.size wr w2) := ((Below.refl _ _).alloc (Nat.le_refl _) _).trans (hb2.mono (by simp))
          have HR2 := hid (HR.out.later HB1.out)
          have HB2 := hid (HB.out.trans (HB1.out.mono HB.out.size))
          clear hb2 e0 e1 e2 e3 e4 e5 e6 e7 e8
          obtain ⟨x0, y0⟩ := HR2.out.cell (k * 9) (by omega)
          have z0 : w2.frozen? ⟨w.heap.size, k * 9, none⟩ = false := HR2.out.frozen _
          obtain ⟨x1, y1⟩ := HR2.out.cell (k * 9 + 1) (by omega)
          have z1 : w2.frozen? ⟨w.heap.size, k * 9 + 1, none⟩ = false := HR2.out.frozen _
          obtain ⟨x2, y2⟩ := HR2.out.cell (k * 9 + 2) (by omega)
          have z2 : w2.frozen? ⟨w.heap.size, k * 9 + 2, none⟩ = false := HR2.out.frozen _
          obtain ⟨x3, y3⟩ := HR2.out.cell (k * 9 + 3) (by omega)
          have z3 : w2.frozen? ⟨w.heap.size, k * 9 + 3, none⟩ = false := HR2.out.frozen _
          obtain ⟨x4, y4⟩ := HR2.out.cell (k * 9 + 4) (by omega)
          have z4 : w2.frozen? ⟨w.heap.size, k * 9 + 4, none⟩ = false := HR2.out.frozen _
          obtain ⟨x5, y5⟩ := HR2.out.cell (k * 9 + 5) (by omega)
          have z5 : w2.frozen? ⟨w.heap.size, k * 9 + 5, none⟩ = false := HR2.out.frozen _
          obtain ⟨x6, y6⟩ := HR2.out.cell (k * 9 + 6) (by omega)
          have z6 : w2.frozen? ⟨w.heap.size, k * 9 + 6, none⟩ = false := HR2.out.frozen _
          obtain ⟨x7, y7⟩ := HR2.out.cell (k * 9 + 7) (by omega)
          have z7 : w2.frozen? ⟨w.heap.size, k * 9 + 7, none⟩ = false := HR2.out.frozen _
          obtain ⟨x8, y8⟩ := HR2.out.cell (k * 9 + 8) (by omega)
          have z8 : w2.frozen? ⟨w.heap.size, k * 9 + 8, none⟩ = false := HR2.out.frozen _
          go_wp2_with fail
          go_roundw
          case rel => exact ⟨k + 1, by omega, by go_num, (((((((((HR2.out.set _ _).set _ _).set _ _).set _ _).set _ _).set _ _).set _ _).set _ _).set _ _), (((((((((HB2.out.setCell (Nat.le_refl _) _).setCell (Nat.le_refl _) _).setCell (Nat.le_refl _) _).setCell (Nat.le_refl _) _).setCell (Nat.le_refl _) _).setCell (Nat.le_refl _) _).setCell (Nat.le_refl _) _).setCell (Nat.le_refl _) _).setCell (Nat.le_refl _) _)⟩
          case measure => simp [intOf]; omega
        · have hbl' : b' < wr.heap.size := World.block_lt_of_cell? wr ⟨b', o', none⟩ g0
          go_wp2_with fail
          refine (make_any _ _ _ _ _ _ _ _ _ _).mono ?_
          rintro e w2 ⟨rfl, hb2⟩
          have HB1 : Hid (Below wr.heap.size wr w2) := (((Below.refl _ _).alloc (Nat.le_refl _) _).alloc (by simp) _).trans (hb2.mono (by simp; omega))
          have HR2 := hid (HR.out.later HB1.out)
          have HB2 := hid (HB.out.trans (HB1.out.mono HB.out.size))
          clear hb2 g0 g1 g2 g3 e0 e1 e2 e3 e4 e5 e6 e7 e8
          obtain ⟨x0, y0⟩ := HR2.out.cell (k * 9) (by omega)
          have z0 : w2.frozen? ⟨w.heap.size, k * 9, none⟩ = false := HR2.out.frozen _
          obtain ⟨x1, y1⟩ := HR2.out.cell (k * 9 + 1) (by omega)
          have z1 : w2.frozen? ⟨w.heap.size, k * 9 + 1, none⟩ = false := HR2.out.frozen _
          obtain ⟨x2, y2⟩ := HR2.out.cell (k * 9 + 2) (by omega)
          have z2 : w2.frozen? ⟨w.heap.size, k * 9 + 2, none⟩ = false := HR2.out.frozen _
          obtain ⟨x3, y3⟩ := HR2.out.cell (k * 9 + 3) (by omega)
          have z3 : w2.frozen? ⟨w.heap.size, k * 9 + 3, none⟩ = false := HR2.out.frozen _
          obtain ⟨x4, y4⟩ := HR2.out.cell (k * 9 + 4) (by omega)
          have z4 : w2.frozen? ⟨w.heap.size, k * 9 + 4, none⟩ = false := HR2.out.frozen _
          obtain ⟨x5, y5⟩ := HR2.out.cell (k * 9 + 5) (by omega)
          have z5 : w2.frozen? ⟨w.heap.size, k * 9 + 5, none⟩ = false := HR2.out.frozen _
          obtain ⟨x6, y6⟩ := HR2.out.cell (k * 9 + 6) (by omega)
          have z6 : w2.frozen? ⟨w.heap.size, k * 9 + 6, none⟩ = false := HR2.out.frozen _
          obtain ⟨x7, y7⟩ := HR2.out.cell (k * 9 + 7) (by omega)
          have z7 : w2.frozen? ⟨w.heap.size, k * 9 + 7, none⟩ = false := HR2.out.frozen _
          obtain ⟨x8, y8⟩ := HR2.out.cell (k * 9 + 8) (by omega)
          have z8 : w2.frozen? ⟨w.heap.size, k * 9 + 8, none⟩ = false := HR2.out.frozen _
          go_wp2_with fail
          go_roundw
          case rel => exact ⟨k + 1, by omega, by go_num, (((((((((HR2.out.set _ _).set _ _).set _ _).set _ _).set _ _).set _ _).set _ _).set _ _).set _ _), (((((((((HB2.out.setCell (Nat.le_refl _) _).setCell (Nat.le_refl _) _).setCell (Nat.le_refl _) _).setCell (Nat.le_refl _) _).setCell (Nat.le_refl _) _).setCell (Nat.le_refl _) _).setCell (Nat.le_refl _) _).setCell (Nat.le_refl _) _).setCell (Nat.le_refl _) _)⟩
          case measure => simp [intOf]; omega
    · obtain rfl : k = len := by omega
      go_wp2
      go_ret
      exact ⟨⟨w.heap.size, rfl, Nat.le_refl _, HR.out⟩, HB.out⟩
end Go.Proofs.Qxb6601528a.Br
