import Derived.Test.Qxb6601528aFxSat
import Derived.Deep.DrawnRows
namespace Go.Proofs.Qxb6601528a.Fx
open Go.RowKit
attribute [local go_sem ↓] Go.wp_at_zero Go.wp_at_succ

def nodeO (k : Int) (sub sa : Option Addr) (l c : Nat) (mn mx asr : Int) : Obj :=
  .cells #[Value.int IntKind.u8 k, Value.int IntKind.u8 0, Value.pointer none, Value.pointer sub, Value.slice sa l c,
        Value.int IntKind.i64 0, Value.slice none 0 0, Value.string { data := #[] }, Value.int IntKind.i64 mn,
        Value.int IntKind.i64 mx, Value.int IntKind.u8 0, Value.bool false, Value.bool false, Value.int IntKind.u8 asr,
        Value.bool false, Value.pointer none, Value.int IntKind.i64 0] 70

def NewPost (w w' : World) (k : Int) (sub sa : Option Addr) (l c : Nat) (mn mx asr : Int) (e : Ending) : Prop :=
  ∃ g, e = .returned (.pointer (some ⟨g, 0, none⟩)) ∧ g = w.heap.size ∧ w'.heap[g]? = some (nodeO k sub sa l c mn mx asr)

theorem new_any (k : Int) (sub sa : Option Addr) (l c : Nat) (mn mx asr : Int) (w : World) :
    Calls Try.prog 23 #[.int .u8 k, .pointer sub, .slice sa l c, .int .i64 mn, .int .i64 mx, .int .u8 asr] w fun e w' => NewPost w w' k sub sa l c mn mx asr e ∧ Below w.heap.size w w' := by
  go_enter Try.func23, Try.ntmps23
  go_wp2
  go_ret
  exact ⟨⟨_, rfl, rfl, heap_alloc_new w _⟩, (Below.refl _ _).alloc (Nat.le_refl _) _⟩

/-- q is a copy of node p, down to level f, in blocks from B on -/
def Cp (w : World) (G : Addr → Nd Addr) (B : Nat) : Nat → Option Addr → Option Addr → Prop
  | 0, _, _ => True
  | _ + 1, none, _ => True
  | f + 1, some a, q => ∃ (g : Nat) (sub' sa' : Option Addr), q = some ⟨g, 0, none⟩ ∧ B ≤ g ∧
      w.cell? ⟨g, 0, none⟩ = some (.int .u8 (G a).kind) ∧ w.cell? ⟨g, 3, none⟩ = some (.pointer sub') ∧ w.cell? ⟨g, 4, none⟩ = some (.slice sa' (G a).len (G a).len) ∧
      w.cell? ⟨g, 8, none⟩ = some (.int .i64 (G a).mn) ∧ w.cell? ⟨g, 9, none⟩ = some (.int .i64 (G a).mx) ∧ Cp w G B f (G a).sub sub' ∧
      ((G a).len = 0 ∨ ∃ (h : Nat) (el' : Nat → Option Addr), sa' = some ⟨h, 0, none⟩ ∧ B ≤ h ∧ ∀ i, i < (G a).len → w.cell? ⟨h, i, none⟩ = some (.pointer (el' i)) ∧ Cp w G B f ((G a).el i) (el' i))

theorem Cp.later {w w' : World} {G : Addr → Nd Addr} {B : Nat} (hw : ∀ k, B ≤ k → k < w.heap.size → w'.heap[k]? = w.heap[k]?) : ∀ (f : Nat) (p q : Option Addr), Cp w G B f p q → Cp w' G B f p q
  | 0, _, _, _ => trivial
  | _ + 1, none, _, _ => trivial
  | f + 1, some a, q, h => by
    have hc : ∀ (g o : Nat) (v : Value), B ≤ g → w.cell? ⟨g, o, none⟩ = some v → w'.cell? ⟨g, o, none⟩ = some v := by
      intro g o v hg hv
      rw [World.cell?_of_block (w := w) (hw g hg (World.block_lt_of_cell? w ⟨g, o, none⟩ hv))]
      exact hv
    obtain ⟨g, sub', sa', e, hg, c0, c3, c4, c8, c9, hs, hel⟩ := h
    refine ⟨g, sub', sa', e, hg, hc _ _ _ hg c0, hc _ _ _ hg c3, hc _ _ _ hg c4, hc _ _ _ hg c8, hc _ _ _ hg c9, Cp.later hw f _ _ hs, ?_⟩
    rcases hel with h0 | ⟨h, el', e', hh, hi⟩
    · exact Or.inl h0
    · exact Or.inr ⟨h, el', e', hh, fun i hlt => ⟨hc _ _ _ hh (hi i hlt).1, Cp.later hw f _ _ (hi i hlt).2⟩⟩
theorem Cp.base {w : World} {G : Addr → Nd Addr} {B B' : Nat} (hB : B' ≤ B) : ∀ (f : Nat) (p q : Option Addr), Cp w G B f p q → Cp w G B' f p q
  | 0, _, _, _ => trivial
  | _ + 1, none, _, _ => trivial
  | f + 1, some a, q, h => by
    obtain ⟨g, sub', sa', e, hg, c0, c3, c4, c8, c9, hs, hel⟩ := h
    refine ⟨g, sub', sa', e, Nat.le_trans hB hg, c0, c3, c4, c8, c9, Cp.base hB f _ _ hs, ?_⟩
    rcases hel with h0 | ⟨h, el', e', hh, hi⟩
    · exact Or.inl h0
    · exact Or.inr ⟨h, el', e', Nat.le_trans hB hh, fun i hlt => ⟨(hi i hlt).1, Cp.base hB f _ _ (hi i hlt).2⟩⟩

theorem owns_below {wr w1 : World} {base e n cap : Nat} {g : Nat} {xs : List Value} (h : wr.ownsRow base e 1 (.slice (some ⟨g, 0, none⟩) n cap) n xs) (hb : Below wr.heap.size wr w1) : w1.ownsRow base e 1 (.slice (some ⟨g, 0, none⟩) n cap) n xs := by
  have hlt := (h.lt g rfl).2
  obtain ⟨h1, h2⟩ := h
  refine ⟨h1, ?_⟩
  rcases h2 with h2 | ⟨g', cap', cur, e1, e2, e3, e4⟩
  · exact Or.inl h2
  · right
    refine ⟨g', cap', cur, e1, e2, ?_, e4⟩
    have : g' < wr.heap.size := by
      simp at e1
      omega
    rw [hb.block g' this]
    exact e3

theorem Closed.drew {W : World} {G : Addr → Nd Addr} {S : Option Addr → Prop} (h : Closed W G S) : Closed W.drew G S := h.later (fun _ _ hp => hp)

theorem Try.info30 : (Try.prog.info? 30).map (fun i => (i.zero, i.size, i.bytes)) = some (some (.pointer none), 1, 8) := by kernel_rfl

def CopyPost (G : Addr → Nd Addr) (f : Nat) (p : Option Addr) (B : Nat) (w' : World) (e : Ending) : Prop := ∃ q, e = .returned (.pointer q) ∧ Cp w' G B f p q

/-- the two last calls: the copy of 'sub', then the maker -/
theorem copy_end {G : Addr → Nd Addr} {f : Nat} {a : Addr} {n : Nd Addr} (hn : G a = n) {wr w1 w2 : World} {B g : Nat} {q sa' : Option Addr} (hB : B ≤ wr.heap.size)
    (h1 : Below wr.heap.size wr w1) (hq : Cp w1 G wr.heap.size f n.sub q) (h2 : Below w1.heap.size w1 w2) (hg : g = w1.heap.size) (ho : w2.heap[g]? = some (nodeO n.kind q sa' n.len n.len n.mn n.mx n.asr))
    (hel : n.len = 0 ∨ ∃ (h : Nat) (el' : Nat → Option Addr), sa' = some ⟨h, 0, none⟩ ∧ B ≤ h ∧ ∀ i, i < n.len → wr.cell? ⟨h, i, none⟩ = some (.pointer (el' i)) ∧ Cp wr G B f (n.el i) (el' i)) :
    Cp w2 G B (f + 1) (some a) (some ⟨g, 0, none⟩) := by
  have h12 : Below wr.heap.size wr w2 := h1.trans (h2.mono h1.size)
  refine ⟨g, q, sa', rfl, by have := h1.size; omega, ?_, ?_, ?_, ?_, ?_, ?_, ?_⟩
  · rw [hn]; simp [World.cell?, ho, nodeO]
  · simp [World.cell?, ho, nodeO]
  · rw [hn]; simp [World.cell?, ho, nodeO]
  · rw [hn]; simp [World.cell?, ho, nodeO]
  · rw [hn]; simp [World.cell?, ho, nodeO]
  · rw [hn]
    exact Cp.base hB f _ _ (Cp.later (fun k _ hk => h2.block k hk) f _ _ hq)
  · rw [hn]
    rcases hel with h0 | ⟨h, el', e', hh, hi⟩
    · exact Or.inl h0
    · refine Or.inr ⟨h, el', e', hh, fun i hlt => ⟨?_, Cp.later (fun k _ hk => h12.block k hk) f _ _ (hi i hlt).2⟩⟩
      exact (h12.cell (World.block_lt_of_cell? wr ⟨h, i, none⟩ (hi i hlt).1)).trans (hi i hlt).1

set_option maxHeartbeats 4000000 in
set_option maxRecDepth 100000 in
theorem copy_any (G : Addr → Nd Addr) (S : Option Addr → Prop) (hfew : ∀ p, S p → Few G p) (f : Nat) : ∀ (p : Option Addr) (x : Int) (w : World), Closed w G S → S p → x = f → f ≤ 65537 →
    Calls Try.prog 10 #[.pointer p, .int .i64 x] w fun e w' => CopyPost G f p w.heap.size w' e ∧ Below w.heap.size w w' := by
  induction f with
  | zero =>
    intro p x w _ _ hx0 _
    have hx : x ≤ 0 := by omega
    clear hx0
    cases p with
    | none =>
      go_enter Try.func10, Try.ntmps10
      go_wp2_with fail
      go_ret
      exact ⟨⟨none, rfl, trivial⟩, Below.refl _ _⟩
    | some a =>
      go_enter Try.func10, Try.ntmps10
      go_wp2_with fail
      go_ret
      exact ⟨⟨none, rfl, trivial⟩, Below.refl _ _⟩
  | succ f ih =>
    intro p x w hC hS hxe hf
    have hx : 1 ≤ x := by omega
    have hxm : x ≤ 65537 := by omega
    have HXE := hid hxe
    clear hxe
    cases p with
    | none =>
      go_enter Try.func10, Try.ntmps10
      go_wp2_with fail
      go_ret
      exact ⟨⟨none, rfl, trivial⟩, Below.refl _ _⟩
    | some a =>
      obtain ⟨b, off, rfl, hN⟩ := hC.at_ a hS
      have hsub := hC.sub _ hS
      have hels := hC.els _ hS
      have hlen := (hfew _ hS).len
      generalize hn : G ⟨b, off, none⟩ = n at hN hsub hels hlen
      obtain ⟨kind, sub, sa, len, cap, el, mn, mx, asr⟩ := n
      obtain ⟨c0, c1, c2, c3, c4, c5, k0, k1, m0, m1, x0, x1, lc, cm, nl, hel⟩ := hN
      simp only at c0 c1 c2 c3 c4 c5 k0 k1 m0 m1 x0 x1 lc cm nl hel hsub hels hlen
      unfold maxLen at cm
      have hlt : b < w.heap.size := World.block_lt_of_cell? w ⟨b, off, none⟩ c0
      have HN := hid hn
      have HEL := hid hel
      have HNL := hid nl
      have HC := hid hC
      have HSUB := hid hsub
      have HELS := hid hels
      have IH := hid ih
      have HF := hid hfew
      clear hn hel nl hC hsub hels ih hfew k0 k1 m0 m1 x0 x1
      have hwr : IntKind.i64.wrap (x - 1) = x - 1 := IntWalk.i64_in _ ⟨by omega, by omega⟩
      have hnl := fun w => run_neq_slice_nil_any (P := Try.prog) w 54 22 sa len cap 0 0 Try.underlying54
      cases sa with
      | none =>
        obtain rfl : len = 0 := HNL.out rfl
        simp only [Option.isNone, Bool.not_true] at hnl
        go_enter Try.func10, Try.ntmps10
        go_wp2_with fail
        go_region_held3 (fun w' => w'.cell? ⟨b, off, none⟩ = some (.int .u8 kind) ∧ w'.cell? ⟨b, off + 1, none⟩ = some (.pointer sub) ∧ w'.cell? ⟨b, off + 3, none⟩ = some (.int .i64 mn) ∧ w'.cell? ⟨b, off + 4, none⟩ = some (.int .i64 mx) ∧ w'.cell? ⟨b, off + 5, none⟩ = some (.int .u8 asr)) (go_keep)
          ((first | (go_at_call 10; refine (IH.out sub (x - 1) _ (by first | exact HC.out | exact HC.out.drew | exact HC.out.drewN _) HSUB.out (by have := HXE.out; omega) (by omega)).mono ?_; rintro e w1 ⟨⟨q, rfl, hcp⟩, hb1⟩; have e0 : w1.cell? ⟨b, off, none⟩ = some (.int .u8 kind) := (hb1.cell (by exact hlt)).trans c0; have e1 : w1.cell? ⟨b, off + 1, none⟩ = some (.pointer sub) := (hb1.cell (by exact hlt)).trans c1; have e3 : w1.cell? ⟨b, off + 3, none⟩ = some (.int .i64 mn) := (hb1.cell (by exact hlt)).trans c3; have e4 : w1.cell? ⟨b, off + 4, none⟩ = some (.int .i64 mx) := (hb1.cell (by exact hlt)).trans c4; have e5 : w1.cell? ⟨b, off + 5, none⟩ = some (.int .u8 asr) := (hb1.cell (by exact hlt)).trans c5; have HCP := hid hcp; have HB1 := hid hb1; clear hcp hb1) | (go_at_call 23; refine (new_any _ _ _ _ _ _ _ _ _).mono ?_; rintro e w2 ⟨⟨g, rfl, hg, ho⟩, hb2⟩; have hlt1 : b < w1.heap.size := Nat.lt_of_lt_of_le hlt HB1.out.size; have f0 : w2.cell? ⟨b, off, none⟩ = some (.int .u8 kind) := (hb2.cell (by exact hlt1)).trans e0; have f1 : w2.cell? ⟨b, off + 1, none⟩ = some (.pointer sub) := (hb2.cell (by exact hlt1)).trans e1; have f3 : w2.cell? ⟨b, off + 3, none⟩ = some (.int .i64 mn) := (hb2.cell (by exact hlt1)).trans e3; have f4 : w2.cell? ⟨b, off + 4, none⟩ = some (.int .i64 mx) := (hb2.cell (by exact hlt1)).trans e4; have f5 : w2.cell? ⟨b, off + 5, none⟩ = some (.int .u8 asr) := (hb2.cell (by exact hlt1)).trans e5; have HG := hid hg; have HO := hid ho; have HB2 := hid hb2; clear hg ho hb2)))
        go_wp2_with fail
        go_ret
        exact ⟨⟨_, rfl, copy_end HN.out (wr := w.drew) (Nat.le_refl _) HB1.out HCP.out HB2.out HG.out HO.out (Or.inl rfl)⟩, (((Below.refl _ _).drew).trans HB1.out).trans (HB2.out.mono HB1.out.size)⟩
      | some ad =>
        simp only [Option.isNone, Bool.not_false] at hnl
        obtain ⟨i30, hi, hz0, hz1, hz2⟩ := info_parts Try.info30
        have HI := hid hi
        clear hi HNL
        go_enter Try.func10, Try.ntmps10
        go_wp2_with (at_make; refine wpList_make_full _ rfl (.tmp 22) (.tmp 22) 58 rfl w.heap.size 30 i30 (.pointer none) 1 Try.underlying58 HI.out hz0 hz1 .i64 .i64 _ _ len rfl rfl rfl rfl (by rw [hz2]; omega) (by unfold maxLen; omega) (Nat.le_refl _) ?_; intro w1 ho1 hg1; have HO1 := hid ho1; have HG1 := hid hg1; clear ho1 hg1)
        have HB0 : Hid (Below w.heap.size w w1) := (Below.refl _ _).grown HG1.out (Nat.le_refl _) (fun k hk => by cases hk)
        clear hnl HG1 HI hz0 hz1 hz2
        go_loopw [6] (fun i wr => ∃ (k : Nat) (xs : List Value) (q : Nat → Option Addr), k ≤ len ∧ i = .int .i64 k ∧ Hid (wr.ownsRow w.heap.size 30 1 (.slice (some ⟨w.heap.size, 0, none⟩) len len) len xs) ∧ Hid (Below w.heap.size w wr) ∧
            Hid (∀ j, j < k → xs[j]? = some (.pointer (q j)) ∧ Cp wr G (w.heap.size + 1) f (el j) (q j))) (fun i _ => len - (intOf i).toNat)
        case atStart => exact ⟨0, _, fun _ => none, Nat.zero_le _, rfl, HO1, HB0, fun j hj => by omega⟩
        case round =>
          obtain ⟨k, xs, q, hk, rfl, HO, HB, HQ⟩ := hrel
          clear HO1 HB0
          have hgl : w.heap.size < wr.heap.size := (HO.out.lt _ rfl).2
          have d2 : wr.cell? ⟨b, off + 2, none⟩ = some (.slice (some ad) len cap) := (HB.out.cell (by exact hlt)).trans c2
          by_cases hlk : k < len
          · rcases HEL.out with h0 | ⟨b', off', e', hcs⟩
            · omega
            · obtain rfl : ad = ⟨b', off', none⟩ := by simpa using e'
              have hck : wr.cell? ⟨b', off' + k, none⟩ = some (.pointer (el k)) := (HB.out.cell (World.block_lt_of_cell? w ⟨b', off' + k, none⟩ (hcs k hlk))).trans (hcs k hlk)
              clear hcs c0 c1 c2 c3 c4 c5
              have hlk' : (k : Int) < len := by omega
              go_wp2_with fail
              refine (IH.out (el k) (x - 1) wr (HC.out.below HB.out) (HELS.out k hlk) (by have := HXE.out; omega) (by omega)).mono ?_
              rintro e w2 ⟨⟨q', rfl, hcp⟩, hb2⟩
              have HO2 := hid (owns_below HO.out hb2)
              have hxl : xs.length = len * 1 := HO.out.1
              obtain ⟨u, hu⟩ : ∃ u, xs[k]? = some u := ⟨_, List.getElem?_eq_getElem (by omega)⟩
              have hcy : w2.cell? ⟨w.heap.size, k, none⟩ = some u := (HO2.out.cellAt k (by omega)).trans hu
              have hfy : w2.frozen? ⟨w.heap.size, k, none⟩ = false := HO2.out.frozenAt k
              have HCP := hid hcp
              have HB2 := hid hb2
              clear hcp hb2 hu d2 hck
              have HXL := hid hxl
              clear hxl
              go_wp2_with fail
              go_roundw
              case rel =>
                refine ⟨k + 1, xs.set k (.pointer q'), fun j => if j = k then q' else q j, by omega, by go_num, (HO2.out.stored _ _).1, (HB.out.trans (HB2.out.mono HB.out.size)).setCell (Nat.le_refl _) _, ?_⟩
                have hset : ∀ m, w.heap.size + 1 ≤ m → (w2.setCell ⟨w.heap.size, k, none⟩ (.pointer q')).heap[m]? = w2.heap[m]? := fun m hm => Below.heap_setCell _ _ _ _ (by show m ≠ w.heap.size; omega)
                intro j hj
                by_cases e : j = k
                · subst e
                  refine ⟨?_, ?_⟩
                  · have hl := HXL.out
                    rw [List.getElem?_set_self (by omega)]
                    simp
                  · simp only [if_true]
                    exact Cp.later (fun m hm _ => hset m hm) f _ _ (Cp.base (by omega) f _ _ HCP.out)
                · obtain ⟨p1, p2⟩ := HQ.out j (by omega)
                  refine ⟨?_, ?_⟩
                  · rw [List.getElem?_set_ne (by omega)]
                    simp only [if_neg e]
                    exact p1
                  · simp only [if_neg e]
                    refine Cp.later (fun m hm hm2 => ?_) f _ _ p2
                    rw [hset m hm]
                    exact HB2.out.block m hm2
              case measure => simp [intOf]; omega
          · obtain rfl : k = len := by omega
            have d0 : wr.cell? ⟨b, off, none⟩ = some (.int .u8 kind) := (HB.out.cell (by exact hlt)).trans c0
            have d1 : wr.cell? ⟨b, off + 1, none⟩ = some (.pointer sub) := (HB.out.cell (by exact hlt)).trans c1
            have d3 : wr.cell? ⟨b, off + 3, none⟩ = some (.int .i64 mn) := (HB.out.cell (by exact hlt)).trans c3
            have d4 : wr.cell? ⟨b, off + 4, none⟩ = some (.int .i64 mx) := (HB.out.cell (by exact hlt)).trans c4
            have d5 : wr.cell? ⟨b, off + 5, none⟩ = some (.int .u8 asr) := (HB.out.cell (by exact hlt)).trans c5
            have HCR := hid (HC.out.below HB.out)
            have hltr : b < wr.heap.size := by omega
            clear c0 c1 c2 c3 c4 c5
            go_wp2_with fail
            go_region_held3 (fun w' => w'.cell? ⟨b, off, none⟩ = some (.int .u8 kind) ∧ w'.cell? ⟨b, off + 1, none⟩ = some (.pointer sub) ∧ w'.cell? ⟨b, off + 3, none⟩ = some (.int .i64 mn) ∧ w'.cell? ⟨b, off + 4, none⟩ = some (.int .i64 mx) ∧ w'.cell? ⟨b, off + 5, none⟩ = some (.int .u8 asr)) (go_keep)
              ((first | (go_at_call 10; refine (IH.out sub (x - 1) _ (by first | exact HCR.out | exact HCR.out.drew | exact HCR.out.drewN _) HSUB.out (by have := HXE.out; omega) (by omega)).mono ?_; rintro e w1 ⟨⟨qs, rfl, hcp⟩, hb1⟩; have e0 : w1.cell? ⟨b, off, none⟩ = some (.int .u8 kind) := (hb1.cell (by exact hltr)).trans d0; have e1 : w1.cell? ⟨b, off + 1, none⟩ = some (.pointer sub) := (hb1.cell (by exact hltr)).trans d1; have e3 : w1.cell? ⟨b, off + 3, none⟩ = some (.int .i64 mn) := (hb1.cell (by exact hltr)).trans d3; have e4 : w1.cell? ⟨b, off + 4, none⟩ = some (.int .i64 mx) := (hb1.cell (by exact hltr)).trans d4; have e5 : w1.cell? ⟨b, off + 5, none⟩ = some (.int .u8 asr) := (hb1.cell (by exact hltr)).trans d5; have HCP := hid hcp; have HB1 := hid hb1; clear hcp hb1) | (go_at_call 23; refine (new_any _ _ _ _ _ _ _ _ _).mono ?_; rintro e w2 ⟨⟨g, rfl, hg, ho⟩, hb2⟩; have hlt1 : b < w1.heap.size := Nat.lt_of_lt_of_le hltr HB1.out.size; have f0 : w2.cell? ⟨b, off, none⟩ = some (.int .u8 kind) := (hb2.cell (by exact hlt1)).trans e0; have f1 : w2.cell? ⟨b, off + 1, none⟩ = some (.pointer sub) := (hb2.cell (by exact hlt1)).trans e1; have f3 : w2.cell? ⟨b, off + 3, none⟩ = some (.int .i64 mn) := (hb2.cell (by exact hlt1)).trans e3; have f4 : w2.cell? ⟨b, off + 4, none⟩ = some (.int .i64 mx) := (hb2.cell (by exact hlt1)).trans e4; have f5 : w2.cell? ⟨b, off + 5, none⟩ = some (.int .u8 asr) := (hb2.cell (by exact hlt1)).trans e5; have HG := hid hg; have HO2 := hid ho; have HB2 := hid hb2; clear hg ho hb2)))
            go_wp2_with fail
            go_ret
            refine ⟨⟨_, rfl, copy_end HN.out (wr := wr.drew) (Nat.le_of_lt hgl) HB1.out HCP.out HB2.out HG.out HO2.out (Or.inr ⟨w.heap.size, q, rfl, Nat.le_refl _, fun i hi => ?_⟩)⟩, ((HB.out.drew).trans (HB1.out.mono (Nat.le_of_lt hgl))).trans (HB2.out.mono (Nat.le_trans (Nat.le_of_lt hgl) HB1.out.size))⟩
            obtain ⟨p1, p2⟩ := HQ.out i hi
            exact ⟨(HO.out.cellAt i (by have : i < k := hi; omega)).trans p1, Cp.later (w := wr) (w' := wr.drew) (fun _ _ _ => rfl) f _ _ (Cp.base (Nat.le_succ _) f _ _ p2)⟩
end Go.Proofs.Qxb6601528a.Fx
