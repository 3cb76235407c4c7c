import Derived.Test.Qxb6601528aRows
import Derived.WalkKit
import Derived.WalkSpells
import Derived.WalkLawsBesides
import Derived.ProofKit
import Derived.Deep.QuietTactic
import Derived.BigQuiet
import Derived.Lib.LazyBuf
set_option linter.unusedVariables false
namespace Go.Proofs.Qxb6601528a.Br
open Go.RowKit

theorem hid {p : Prop} (h : p) : Hid p := h

/-- what the walks are told of a slice of ints that came in -/
def IsInts (w : World) (ad : Option Addr) (len cap : Nat) (z : Nat → Int) : Prop :=
  len ≤ cap ∧ cap ≤ maxLen ∧ (ad = none → len = 0) ∧
  (len = 0 ∨ ∃ b off, ad = some ⟨b, off, none⟩ ∧ ∀ i, i < len → w.cell? ⟨b, off + i, none⟩ = some (.int .i64 (z i)))

theorem IsInts.later {w w' : World} {ad : Option Addr} {len cap : Nat} {z : Nat → Int} (h : IsInts w ad len cap z) (hw : ∀ p v, w.cell? p = some v → w'.cell? p = some v) : IsInts w' ad len cap z :=
  ⟨h.1, h.2.1, h.2.2.1, by
    rcases h.2.2.2 with h0 | ⟨b, off, e, hc⟩
    · exact Or.inl h0
    · exact Or.inr ⟨b, off, e, fun i hi => hw _ _ (hc i hi)⟩⟩
theorem IsInts.below {w w' : World} {ad : Option Addr} {len cap : Nat} {z : Nat → Int} (h : IsInts w ad len cap z) (hb : Below w.heap.size w w') : IsInts w' ad len cap z :=
  h.later (fun p _ hp => (hb.cell (World.block_lt_of_cell? w p hp)).trans hp)

/-- is g among the first n? -/
def hasB (z : Nat → Int) : Nat → Int → Bool
  | 0, _ => false
  | n + 1, g => hasB z n g || z n == g
theorem hasB_yes (z : Nat → Int) (g : Int) : ∀ (n k : Nat), k < n → z k = g → hasB z n g = true
  | 0, _, h, _ => by omega
  | n + 1, k, h, e => by
    simp only [hasB]
    by_cases hk : k = n
    · subst hk; simp [e]
    · rw [hasB_yes z g n k (by omega) e]; rfl
theorem hasB_no (z : Nat → Int) (g : Int) : ∀ n : Nat, (∀ j, j < n → z j ≠ g) → hasB z n g = false
  | 0, _ => rfl
  | n + 1, h => by
    simp only [hasB]
    rw [hasB_no z g n (fun j hj => h j (by omega))]
    simpa using h n (by omega)

set_option maxHeartbeats 400000 in
theorem has_any (ad : Option Addr) (len cap : Nat) (z : Nat → Int) (g : Int) (w : World) (h : IsInts w ad len cap z) :
    Calls Try.prog 18 #[.slice ad len cap, .int .i64 g] w fun e w' => e = .returned (.bool (hasB z len g)) ∧ w' = w := by
  obtain ⟨hlc, hcm, _, h⟩ := h
  unfold maxLen at hcm
  rcases h with rfl | ⟨b, off, rfl, hc⟩
  · go_enter Try.func18, Try.ntmps18
    go_wp2
    refine wp_loop_rounds 1 ?_
    rw [rounds_succ]
    go_wp2
    go_ret
    exact ⟨rfl, rfl⟩
  · have HC := hid hc
    clear hc
    go_enter Try.func18, Try.ntmps18
    go_wp2
    go_loop [5] (fun i => ∃ k : Nat, k ≤ len ∧ i = .int .i64 k ∧ Hid (∀ j, j < k → z j ≠ g)) (fun i => len - (intOf i).toNat)
    case atStart => exact ⟨0, Nat.zero_le _, rfl, fun j hj => by omega⟩
    case round =>
      obtain ⟨k, hk, rfl, HJ⟩ := hrel
      by_cases hlt : k < len
      · have hck := HC.out k hlt
        have hlt' : (k : Int) < len := by omega
        by_cases he : z k = g
        · have hb : (z k == g) = true := by simp [he]
          have HF := hid (hasB_yes z g len k hlt he)
          clear he
          go_wp2
          go_ret
          exact ⟨by rw [HF.out]; rfl, rfl⟩
        · have hb : (z k == g) = false := by simp [he]
          have HJ' : Hid (∀ j, j < k + 1 → z j ≠ g) := fun j hj => by
            by_cases e : j = k
            · subst e; exact he
            · exact HJ.out j (by omega)
          clear he
          go_wp2
          go_round
          case rel => exact ⟨k + 1, by omega, by go_num, HJ'⟩
          case measure => simp [intOf]; omega
      · have HF := hid (hasB_no z g len (fun j hj => HJ.out j (by omega)))
        go_wp2
        go_ret
        exact ⟨by rw [HF.out]; rfl, rfl⟩

def RetBool (e : Ending) : Prop := ∃ r : Bool, e = .returned (.bool r)

set_option maxHeartbeats 1000000 in
theorem bytes_any (a0 a2 a4 : Option Addr) (l0 c0 l2 c2 l4 c4 : Nat) (n : Int) (b : Bool) (w : World) (h0 : l0 ≤ maxLen) (h2 : l2 ≤ maxLen) (h4 : l4 ≤ maxLen) :
    Calls Try.prog 11 #[.slice a0 l0 c0, .int .i64 n, .slice a2 l2 c2, .bool b, .slice a4 l4 c4] w fun e w' => RetBool e ∧ w' = w := by
  unfold maxLen at h0 h2 h4
  go_enter Try.func11, Try.ntmps11
  go_wp2
  all_goals (go_ret; exact ⟨⟨_, rfl⟩, rfl⟩)

theorem Try.info3 : (Try.prog.info? 3).map (fun i => (i.zero, i.size, i.bytes)) = some (some (.int .i64 0), 1, 8) := by kernel_rfl
theorem Try.info53 : (Try.prog.info? 53).map (fun i => (i.zero, i.size, i.bytes)) = some (some (.agg #[.int .u8 0, .int .u8 0, .int .u8 0, .bool false, .bool false, .int .u8 0, .int .i64 0, .int .i64 0, .pointer none]), 9, 32) := by kernel_rfl

/-- a clone: the call's own row of the same ints -/
def ClonePost (len : Nat) (z : Nat → Int) (w w' : World) (e : Ending) : Prop :=
  ∃ g, e = .returned (.slice (some ⟨g, 0, none⟩) len len) ∧ w.heap.size ≤ g ∧ ∃ cur, w'.heap[g]? = some (.cells cur 3 (0, 0)) ∧ ∀ i, i < len → cur[i]? = some (.int .i64 (z i))

set_option maxHeartbeats 1000000 in
theorem clone_any (ad : Addr) (len cap : Nat) (z : Nat → Int) (w : World) (h : IsInts w (some ad) len cap z) (hl : len ≤ 32768) :
    Calls Try.prog 12 #[.slice (some ad) len cap] w fun e w' => ClonePost len z w w' e ∧ Below w.heap.size w w' := by
  obtain ⟨hlc, hcm, _, h⟩ := h
  unfold maxLen at hcm
  have hnl := fun w => Lib.run_eql_slice_nil (P := Try.prog) w 34 3 (some ad) len cap 0 0 Try.underlying34
  obtain ⟨i3, hi, hz0, hz1, hz2⟩ := info_parts Try.info3
  have HI := hid hi
  have HH := hid h
  clear hi h
  simp only [Option.isNone] at hnl
  go_enter Try.func12, Try.ntmps12
  go_wp2_with (at_make; refine wpList_make_full _ rfl (.tmp 8) (.tmp 8) 34 rfl w.heap.size 3 i3 (.int .i64 0) 1 Try.underlying34 HI.out hz0 hz1 .i64 .i64 _ _ len rfl rfl rfl rfl (by rw [hz2]; omega) (by unfold maxLen; omega) (Nat.le_refl _) ?_; intro w1 ho1 hg1; have HO1 := hid ho1; have HG1 := hid hg1; clear ho1 hg1)
  have HB0 : Hid (Below w.heap.size w w1) := (Below.refl _ _).grown HG1.out (Nat.le_refl _) (fun k hk => by cases hk)
  clear hnl HG1 HI hz0 hz1 hz2
  go_loopw [4] (fun i wr => ∃ (k : Nat) (xs : List Value), k ≤ len ∧ i = .int .i64 k ∧ Hid (wr.ownsRow w.heap.size 3 1 (.slice (some ⟨w.heap.size, 0, none⟩) len len) len xs) ∧ Hid (Below w.heap.size w wr) ∧ Hid (∀ j, j < k → xs[j]? = some (.int .i64 (z j)))) (fun i _ => len - (intOf i).toNat)
  case atStart => exact ⟨0, _, Nat.zero_le _, rfl, HO1, HB0, fun j hj => by omega⟩
  case round =>
    obtain ⟨k, xs, hk, rfl, HO, HB, HJ⟩ := hrel
    clear HO1 HB0
    by_cases hlt : k < len
    · rcases HH.out with rfl | ⟨b, off, e, hc⟩
      · omega
      · obtain rfl : ad = ⟨b, off, none⟩ := by simpa using e
        have hbl : b < w.heap.size := World.block_lt_of_cell? w ⟨b, off + k, none⟩ (hc k hlt)
        have hcl : wr.cell? ⟨b, off + k, none⟩ = some (.int .i64 (z k)) := (HB.out.cell (by exact hbl)).trans (hc k hlt)
        have hlt' : (k : Int) < len := by omega
        have hxl : xs.length = len * 1 := HO.out.1
        obtain ⟨u, hu⟩ : ∃ u, xs[k]? = some u := ⟨_, List.getElem?_eq_getElem (by omega)⟩
        have hcy : wr.cell? ⟨w.heap.size, k, none⟩ = some u := (HO.out.cellAt k (by omega)).trans hu
        have hfy : wr.frozen? ⟨w.heap.size, k, none⟩ = false := HO.out.frozenAt k
        have HXL := hid hxl
        clear hxl hu hc
        go_wp2
        go_roundw
        case rel =>
          refine ⟨k + 1, xs.set k (.int .i64 (z k)), by omega, by go_num, (HO.out.stored _ _).1, HB.out.setCell (Nat.le_refl _) _, fun j hj => ?_⟩
          by_cases e : j = k
          · subst e; rw [List.getElem?_set_self (by have := HXL.out; omega)]
          · rw [List.getElem?_set_ne (by omega)]; exact HJ.out j (by omega)
        case measure => simp [intOf]; omega
    · obtain rfl : k = len := by omega
      go_wp2
      go_ret
      refine ⟨⟨w.heap.size, rfl, Nat.le_refl _, ?_⟩, HB.out⟩
      obtain ⟨hx, h2⟩ := HO.out
      rcases h2 with ⟨e, _⟩ | ⟨g', cap', cur, e1, _, e3, _, _, e6, e7⟩
      · simp at e
      · simp at e1
        obtain ⟨rfl, rfl⟩ := e1
        refine ⟨cur, e3, fun i hi => ?_⟩
        have := HJ.out i hi
        rw [← e7, List.getElem?_take_of_lt (by omega)] at this
        simpa using this
end Go.Proofs.Qxb6601528a.Br
