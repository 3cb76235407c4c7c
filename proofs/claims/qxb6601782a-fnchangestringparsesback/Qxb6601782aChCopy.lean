import Derived.Test.Qxb6601782aChWalks
import Derived.Lib.LazyBuf
namespace Go.Proofs.Qxb6601782a.ChW
open Go.RowKit

theorem Try.info9 : (Try.prog.info? 9).map (fun i => (i.zero, i.size, i.bytes)) = some (some (.string ByteArray.empty), 1, 16) := by kernel_rfl

def RetBool (e : Ending) : Prop := ∃ r : Bool, e = .returned (.bool r)
def RetSlice (e : Ending) : Prop := ∃ a l c, e = .returned (.slice a l c)

set_option maxHeartbeats 1000000 in
theorem bytes_any (m t b r s l : ByteArray) (want id : Int) (ad : Option Addr) (len cap : Nat) (ss : Nat → ByteArray) (w : World) (h : IsStrs w ad len cap ss)
    (hm : m.size ≤ maxLen) (ht : t.size ≤ maxLen) (hb : b.size ≤ maxLen) (hr : r.size ≤ maxLen) (hs : s.size ≤ maxLen) (hl : l.size ≤ maxLen) :
    Calls Try.prog 5 #[.string m, .string t, .string b, .int .i64 want, .int .u64 id, .string r, .string s, .string l, .slice ad len cap] w fun e w' => RetBool e ∧ w' = w := by
  obtain ⟨hlc, hcm, _, h⟩ := h
  unfold maxLen at hcm hm ht hb hr hs hl
  rcases h with rfl | ⟨b, off, rfl, hc, hm⟩
  · go_enter Try.func5, Try.ntmps5
    go_wp2
    all_goals first | (go_ret; exact ⟨⟨_, rfl⟩, rfl⟩) | skip
    refine wp_loop_rounds 1 ?_
    rw [rounds_succ]
    go_wp2
    go_ret
    exact ⟨⟨_, rfl⟩, rfl⟩
  · have HC := hid hc
    have HM := hid hm
    clear hc hm
    go_enter Try.func5, Try.ntmps5
    go_wp2
    all_goals first | (go_ret; exact ⟨⟨_, rfl⟩, rfl⟩) | skip
    go_loop [19, 20] (fun s i => ∃ (k : Nat) (x : Int), k ≤ len ∧ i = .int .i64 k ∧ s = .int .i64 x ∧ 0 ≤ x ∧ x ≤ 1048576) (fun _ i => len - (intOf i).toNat)
    case atStart => exact ⟨0, _, Nat.zero_le _, rfl, rfl, by omega, by omega⟩
    case round =>
      obtain ⟨k, x, hk, rfl, rfl, hx0, hx1⟩ := hrel
      by_cases hlt : k < len
      · have hmk := HM.out k hlt
        unfold maxLen at hmk
        have hlt' : (k : Int) < len := by omega
        have hcl := HC.out k hlt
        go_wp2
        · go_ret
          exact ⟨⟨_, rfl⟩, rfl⟩
        · go_ret
          exact ⟨⟨_, rfl⟩, rfl⟩
        · go_round
          case rel => exact ⟨k + 1, _, by omega, by go_num, rfl, by omega, by omega⟩
          case measure => simp [intOf]; omega
      · go_wp2
        go_ret
        exact ⟨⟨_, rfl⟩, rfl⟩

set_option maxHeartbeats 1000000 in
theorem copy_any (ad : Option Addr) (len cap : Nat) (ss : Nat → ByteArray) (w : World) (h : IsStrs w ad len cap ss) (hl : len ≤ 4096) :
    Calls Try.prog 8 #[.slice ad len cap] w fun e w' => RetSlice e ∧ Below w.heap.size w w' := by
  obtain ⟨hlc, hcm, hnil, h⟩ := h
  unfold maxLen at hcm
  have hnl := fun w => Lib.run_eql_slice_nil (P := Try.prog) w 23 9 ad len cap 0 0 Try.underlying23
  obtain ⟨i9, hi, hz0, hz1, hz2⟩ := info_parts Try.info9
  have HI := hid hi
  clear hi
  cases ad with
  | none =>
    simp only [Option.isNone] at hnl
    clear hnil h
    go_enter Try.func8, Try.ntmps8
    go_wp2
    go_ret
    exact ⟨⟨_, _, _, rfl⟩, Below.refl _ _⟩
  | some ad =>
    simp only [Option.isNone] at hnl
    clear hnil
    go_enter Try.func8, Try.ntmps8
    go_wp2_with (at_make; refine wpList_make_full _ rfl (.tmp 8) (.tmp 8) 23 rfl w.heap.size 9 i9 (.string ByteArray.empty) 1 Try.underlying23 HI.out hz0 hz1 .i64 .i64 _ _ len rfl rfl rfl rfl (by rw [hz2]; omega) (by unfold maxLen; omega) (Nat.le_refl _) ?_; intro w1 ho1 hg1; have HO1 := hid ho1; have HG1 := hid hg1; clear ho1 hg1)
    have hb1 : Hid (Below w.heap.size w w1) := (Below.refl _ _).grown HG1.out (Nat.le_refl _) (fun k hk => by cases hk)
    clear hnl
    go_loopw [4] (fun i wr => ∃ (k : Nat) (xs : List Value), k ≤ len ∧ i = .int .i64 k ∧ Hid (wr.ownsRow w.heap.size 9 1 (.slice (some ⟨w.heap.size, 0, none⟩) len len) len xs) ∧ Hid (Below w.heap.size w wr)) (fun i _ => len - (intOf i).toNat)
    case atStart => exact ⟨0, _, Nat.zero_le _, rfl, HO1, hb1⟩
    case round =>
      obtain ⟨k, xs, hk, rfl, HO, HB⟩ := hrel
      clear HO1 HG1 hb1
      by_cases hlt : k < len
      · rcases h with rfl | ⟨b, off, e, hc, hm⟩
        · omega
        · obtain rfl : ad = ⟨b, off, none⟩ := by simpa using e
          have hbl : b < w.heap.size := World.block_lt_of_cell? w ⟨b, off + k, none⟩ (hc k hlt)
          have hcl : wr.cell? ⟨b, off + k, none⟩ = some (.string (ss k)) := (HB.out.cell (by exact hbl)).trans (hc k hlt)
          clear hc hm
          have hlt' : (k : Int) < len := by omega
          have hxl : xs.length = len * 1 := HO.out.1
          obtain ⟨u, hu⟩ : ∃ u, xs[k]? = some u := ⟨_, List.getElem?_eq_getElem (by omega)⟩
          have hcy : wr.cell? ⟨w.heap.size, k, none⟩ = some u := (HO.out.cellAt k (by omega)).trans hu
          have hfy : wr.frozen? ⟨w.heap.size, k, none⟩ = false := HO.out.frozenAt k
          clear hxl hu
          go_wp2
          go_roundw
          case rel => exact ⟨k + 1, _, by omega, by go_num, (HO.out.stored _ _).1, HB.out.setCell (Nat.le_refl _) _⟩
          case measure => simp [intOf]; omega
      · clear h
        go_wp2
        go_ret
        exact ⟨⟨_, _, _, rfl⟩, HB.out⟩

set_option maxHeartbeats 1000000 in
theorem new_any (m t b r s l : ByteArray) (want id : Int) (ad : Option Addr) (len cap : Nat) (w : World) :
    Calls Try.prog 9 #[.string m, .string t, .string b, .int .i64 want, .int .u64 id, .string r, .string s, .string l, .slice ad len cap] w fun e w' =>
      e = .returned (.agg #[.string m, .string t, .string b, .int .i64 want, .int .u64 id, .string r, .string s, .string l, .slice ad len cap]) ∧ Below w.heap.size w w' := by
  go_enter Try.func9, Try.ntmps9
  go_wp2
  exact bodyPost_ret (v := .agg #[.string m, .string t, .string b, .int .i64 want, .int .u64 id, .string r, .string s, .string l, .slice ad len cap]) (by simp [results, Try.results9, go_sem]) rfl ⟨rfl, (Below.refl _ _).alloc (Nat.le_refl _) _⟩

theorem empty_iff (b : ByteArray) : b.toList.isEmpty = decide (b.size = 0) := by
  rw [ByteArray.toList_eq]
  show _ = decide (b.data.size = 0)
  rw [← Array.length_toList]
  cases b.data.toList <;> simp

def sp : ByteArray := ⟨#[32]⟩
set_option maxHeartbeats 1000000 in
theorem string_any (m t b r s l : ByteArray) (want id : Int) (ad : Option Addr) (len cap : Nat) (w : World) (hm : m.size ≤ 65536) (ht : t.size ≤ 65536) (hb : b.size ≤ 65536) :
    Calls Try.prog 10 #[.agg #[.string m, .string t, .string b, .int .i64 want, .int .u64 id, .string r, .string s, .string l, .slice ad len cap]] w fun e w' =>
      e = .returned (.string (if b.size = 0 then m ++ sp ++ t else m ++ sp ++ t ++ sp ++ b)) ∧ Below w.heap.size w w' := by
  have h1 : sp.size = 1 := rfl
  by_cases hb0 : b.size = 0
  · have hbe : b.toList.isEmpty = true := by rw [empty_iff]; simp [hb0]
    rw [if_pos hb0]
    go_enter Try.func10, Try.ntmps10
    go_wp2
    go_ret
    exact ⟨rfl, (Below.refl _ _).alloc (Nat.le_refl _) _⟩
  · have hbe : b.toList.isEmpty = false := by rw [empty_iff]; simp [hb0]
    rw [if_neg hb0]
    go_enter Try.func10, Try.ntmps10
    go_wp2
    go_ret
    exact ⟨rfl, (Below.refl _ _).alloc (Nat.le_refl _) _⟩
end Go.Proofs.Qxb6601782a.ChW
