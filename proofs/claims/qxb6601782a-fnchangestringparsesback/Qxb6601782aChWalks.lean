import Derived.Test.Qxb6601782aRows
import Derived.WalkKit
import Derived.WalkSpells
import Derived.WalkLawsBesides
import Derived.ProofKit
import Derived.Deep.QuietTactic
import Derived.BigQuiet
import Derived.Test.Qxb6601782aChPlain
namespace Go.Proofs.Qxb6601782a.ChW
open Go.RowKit

theorem hid {p : Prop} (h : p) : Hid p := h

theorem byte_at (o : ByteArray) (k : Nat) (h : k < o.size) : o.data.toList[k]? = some o[k] := by
  rw [List.getElem?_eq_getElem (by simpa using h)]; rfl
theorem ret_int {k : IntKind} {a b : Int} (h : a = b) : Ending.returned (.int k a) = .returned (.int k b) := by rw [h]

set_option maxHeartbeats 400000 in
theorem index_any (s : ByteArray) (w : World) (hs : s.size ≤ maxLen) :
    Calls Try.prog 7 #[.string s] w fun e w' => e = .returned (.int .i64 (spI s.data.toList)) ∧ w' = w := by
  unfold maxLen at hs
  go_enter Try.func7, Try.ntmps7
  go_wp2
  go_loop [3] (fun i => ∃ k : Nat, k ≤ s.size ∧ i = .int .i64 k ∧ Hid (∀ j, j < k → s.data.toList[j]? ≠ some 32)) (fun i => s.size - (intOf i).toNat)
  case atStart => exact ⟨0, Nat.zero_le _, rfl, fun j hj => absurd hj (by omega)⟩
  case round =>
    obtain ⟨k, hk, rfl, HJ⟩ := hrel
    by_cases hlt : k < s.size
    · have hlt' : (k : Int) < s.size := by omega
      by_cases hc : s[k] = 32
      · have hb : ((s[k].toNat : Int) == 32) = true := by rw [hc]; rfl
        have HF : Hid (spI s.data.toList = k) := spI_at _ _ (by simpa using hlt) HJ.out (by rw [byte_at s _ hlt, hc])
        clear hc
        go_wp2
        go_ret
        exact ⟨ret_int HF.out.symm, rfl⟩
      · have hb : ((s[k].toNat : Int) == 32) = false := by
          rw [beq_eq_false_iff_ne]; intro e; exact hc (UInt8.toNat_inj.1 (by simp; omega))
        have HJ' : Hid (∀ j, j < k + 1 → s.data.toList[j]? ≠ some 32) := by
          intro j h2
          by_cases hjk : j = k
          · subst hjk; rw [byte_at s _ hlt]; simpa using hc
          · exact HJ.out j (by omega)
        clear hc
        go_wp2
        go_round
        case rel => exact ⟨k + 1, by omega, by go_num, HJ'⟩
        case measure => simp [intOf]; omega
    · have HF : Hid (spI s.data.toList = -1) := spI_none _ (fun j hj => HJ.out j (by simp at hj; omega))
      go_wp2
      go_ret
      exact ⟨ret_int HF.out.symm, rfl⟩

/-- what the walks are told of a slice of strings that came in -/
def IsStrs (w : World) (ad : Option Addr) (len cap : Nat) (ss : Nat → ByteArray) : Prop :=
  len ≤ cap ∧ cap ≤ maxLen ∧ (ad = none → len = 0) ∧
  (len = 0 ∨ ∃ b off, ad = some ⟨b, off, none⟩ ∧ (∀ i, i < len → w.cell? ⟨b, off + i, none⟩ = some (.string (ss i))) ∧ ∀ i, i < len → (ss i).size ≤ maxLen)

set_option maxHeartbeats 400000 in
theorem sum_any (ad : Option Addr) (len cap : Nat) (ss : Nat → ByteArray) (w : World) (h : IsStrs w ad len cap ss) :
    Calls Try.prog 6 #[.slice ad len cap] w fun e w' => (∃ r : Int, e = .returned (.int .i64 r)) ∧ w' = w := by
  obtain ⟨hlc, hcm, _, h⟩ := h
  unfold maxLen at hcm
  rcases h with rfl | ⟨b, off, rfl, hc, hm⟩
  · go_enter Try.func6, Try.ntmps6
    go_wp2
    refine wp_loop_rounds 1 ?_
    rw [rounds_succ]
    go_wp2
    go_ret
    exact ⟨⟨_, rfl⟩, rfl⟩
  · go_enter Try.func6, Try.ntmps6
    go_wp2
    go_loop [3, 4] (fun s i => ∃ (k : Nat) (x : Int), k ≤ len ∧ i = .int .i64 k ∧ s = .int .i64 x ∧ 0 ≤ x ∧ x ≤ 262144) (fun _ i => len - (intOf i).toNat)
    case atStart => exact ⟨0, 0, Nat.zero_le _, rfl, rfl, by omega, by omega⟩
    case round =>
      obtain ⟨k, x, hk, rfl, rfl, hx0, hx1⟩ := hrel
      have hcell : k < len → w.cell? ⟨b, off + k, none⟩ = some (.string (ss k)) := fun h => hc k h
      have HC := hid hc
      clear hc
      by_cases hlt : k < len
      · have hmk := hm k hlt
        unfold maxLen at hmk
        have hlt' : (k : Int) < len := by omega
        have hcl := hcell hlt
        clear hcell
        have HM := hid hm
        clear hm
        go_wp2
        · go_ret
          exact ⟨⟨_, rfl⟩, rfl⟩
        · go_ret
          exact ⟨⟨_, rfl⟩, rfl⟩
        · go_round
          case rel => exact ⟨k + 1, _, by omega, by go_num, rfl, by omega, by omega⟩
          case measure => simp [intOf]; omega
      · go_wp2
        go_ret
        exact ⟨⟨_, rfl⟩, rfl⟩
end Go.Proofs.Qxb6601782a.ChW
