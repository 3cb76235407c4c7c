import Derived.Test.Qxb6601963aStWords
set_option linter.unusedVariables false
namespace Go.Proofs.Qxb6601963a.St
open Go.RowKit

/-- a state's cells -/
def stV (kn : Bool) (v : ByteArray) (g : Int) (ex : Bool) (sl : Value) : Value := .agg #[.bool kn, .string v, .int .u64 g, .bool ex, sl]

theorem five_cells {w : World} {b : Nat} {x0 x1 x2 x3 x4 : Value} {t : TypeId} (h : w.heap[b]? = some (.cells #[x0, x1, x2, x3, x4] t (0, 0))) :
    w.cell? ⟨b, 0, none⟩ = some x0 ∧ w.cell? ⟨b, 1, none⟩ = some x1 ∧ w.cell? ⟨b, 2, none⟩ = some x2 ∧ w.cell? ⟨b, 3, none⟩ = some x3 ∧ w.cell? ⟨b, 4, none⟩ = some x4 ∧
    w.frozen? ⟨b, 0, none⟩ = false ∧ w.frozen? ⟨b, 1, none⟩ = false ∧ w.frozen? ⟨b, 2, none⟩ = false ∧ w.frozen? ⟨b, 3, none⟩ = false ∧ w.frozen? ⟨b, 4, none⟩ = false := by
  simp [World.cell?, World.frozen?, h]

set_option maxHeartbeats 1000000 in
theorem admits_any (kn ex : Bool) (v : ByteArray) (gen g : Int) (ad : Option Addr) (len cap : Nat) (z : Nat → Int) (w : World) (h : IsW w ad len cap z) :
    Calls Try.prog 24 #[.agg #[.bool kn, .string v, .int .u64 gen, .bool ex, .slice ad len cap], .int .u64 g] w fun e w' => e = .returned (.bool (admB kn ex gen z len g)) ∧ Below w.heap.size w w' := by
  have HB : Hid (Below w.heap.size w (w.alloc (.cells #[.bool kn, .string v, .int .u64 gen, .bool ex, .slice ad len cap] 56))) := (Below.refl _ _).alloc (Nat.le_refl _) _
  have HH := hid (h.below HB.out)
  clear h
  cases kn with
  | false =>
    go_enter Try.func24, Try.ntmps24
    go_wp2_with fail
    go_ret
    exact ⟨rfl, HB.out⟩
  | true =>
    cases ex with
    | true =>
      go_enter Try.func24, Try.ntmps24
      go_wp2_with fail
      go_ret
      exact ⟨rfl, HB.out⟩
    | false =>
      by_cases hg : gen ≤ g
      · go_enter Try.func24, Try.ntmps24
        go_wp2_with fail
        refine (contains_any ad len cap z g _ HH.out).mono ?_
        rintro e w1 ⟨rfl, rfl⟩
        go_wp2_with fail
        go_ret
        exact ⟨by simp [admB, hg], HB.out⟩
      · go_enter Try.func24, Try.ntmps24
        go_wp2_with fail
        go_ret
        exact ⟨by simp [admB]; omega, HB.out⟩

set_option maxHeartbeats 1000000 in
theorem below_any (kn ex : Bool) (v : ByteArray) (gen g : Int) (sl : Value) (w : World) (hs : ∃ a n c, sl = .slice a n c) :
    Calls Try.prog 26 #[.agg #[.bool kn, .string v, .int .u64 gen, .bool ex, sl], .int .u64 g] w fun e w' => e = .returned (.bool (!kn || decide (gen < g))) ∧ Below w.heap.size w w' := by
  obtain ⟨a, n, c, rfl⟩ := hs
  have HB : Hid (Below w.heap.size w (w.alloc (.cells #[.bool kn, .string v, .int .u64 gen, .bool ex, .slice a n c] 56))) := (Below.refl _ _).alloc (Nat.le_refl _) _
  cases kn with
  | false =>
    go_enter Try.func26, Try.ntmps26
    go_wp2_with fail
    go_ret
    exact ⟨rfl, HB.out⟩
  | true =>
    go_enter Try.func26, Try.ntmps26
    go_wp2_with fail
    go_ret
    exact ⟨rfl, HB.out⟩

set_option maxHeartbeats 1000000 in
theorem bounded_any (v : ByteArray) (least : Int) (w : World) :
    Calls Try.prog 25 #[.string v, .int .u64 least] w fun e w' => e = .returned (.agg #[.bool true, .string v, .int .u64 least, .bool false, .slice none 0 0]) ∧ Below w.heap.size w w' := by
  go_enter Try.func25, Try.ntmps25
  go_wp2_with fail
  exact bodyPost_ret (v := .agg #[.bool true, .string v, .int .u64 least, .bool false, .slice none 0 0]) (by simp [results, Try.results25, go_sem]) rfl ⟨rfl, (Below.refl _ _).alloc (Nat.le_refl _) _⟩

set_option maxHeartbeats 1000000 in
theorem sameW_any (ad : Option Addr) (len cap : Nat) (z : Nat → Int) (w : World) (h : IsW w ad len cap z) :
    Calls Try.prog 20 #[.slice ad len cap, .slice ad len cap] w fun e w' => e = .returned (.bool true) ∧ ∃ m, w' = w.drewN m := by
  have hlen : len ≤ maxLen := Nat.le_trans h.le h.capM
  unfold maxLen at hlen
  have HH := hid h
  clear h
  go_enter Try.func20, Try.ntmps20
  go_wp2_with fail
  go_loopw [5] (fun v wr => ∃ k m : Nat, v = .int .i64 k ∧ k ≤ len ∧ wr = w.drewN m) (fun v _ => len - (intOf v).toNat)
  case atStart => exact ⟨0, 0, rfl, Nat.zero_le _, rfl⟩
  case round =>
    obtain ⟨k, m, rfl, hk, rfl⟩ := hrel
    by_cases hlt : k < len
    · have hltI : (k : Int) < len := by omega
      rcases HH.out.at_ with h0 | ⟨b, off, rfl, hbl, hcs⟩
      · omega
      have hck : w.cell? ⟨b, off + k, none⟩ = some (.int .u64 (z k)) := hcs k hlt
      clear hcs
      go_wp2_with fail
      go_region
      all_goals go_wp2_with fail
      go_roundw
      case rel => exact ⟨k + 1, m + 1, by go_num, by omega, rfl⟩
      case measure => simp [intOf]; omega
    · have hltI : ¬ (k : Int) < len := by omega
      go_wp2_with fail
      go_ret
      exact ⟨rfl, m, rfl⟩

theorem below_drewN {B : Nat} {w w' : World} (h : Below B w w') (m : Nat) : Below B w (w'.drewN m) := ⟨h.os, h.tape, h.output, h.size, h.block⟩

set_option maxHeartbeats 1000000 in
theorem sameS_any (kn ex : Bool) (v : ByteArray) (gen : Int) (ad : Option Addr) (len cap : Nat) (z : Nat → Int) (w : World) (h : IsW w ad len cap z) :
    Calls Try.prog 12 #[.agg #[.bool kn, .string v, .int .u64 gen, .bool ex, .slice ad len cap], .agg #[.bool kn, .string v, .int .u64 gen, .bool ex, .slice ad len cap]] w fun e w' => e = .returned (.bool true) ∧ Below w.heap.size w w' := by
  have HB : Hid (Below w.heap.size w ((w.alloc (.cells #[.bool kn, .string v, .int .u64 gen, .bool ex, .slice ad len cap] 25)).alloc (.cells #[.bool kn, .string v, .int .u64 gen, .bool ex, .slice ad len cap] 25))) := ((Below.refl _ _).alloc (Nat.le_refl _) _).alloc (by simp) _
  have HH := hid (h.below HB.out)
  clear h
  go_enter Try.func12, Try.ntmps12
  go_wp2_with fail
  refine (sameW_any ad len cap z _ HH.out).mono ?_
  rintro e w1 ⟨rfl, m, hw1⟩
  have HB1 : Hid (Below w.heap.size w w1) := by rw [hw1]; exact below_drewN HB.out m
  clear hw1
  go_wp2_with fail
  go_ret
  exact ⟨rfl, HB1.out⟩
end Go.Proofs.Qxb6601963a.St
