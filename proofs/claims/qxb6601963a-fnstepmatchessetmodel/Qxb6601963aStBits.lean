import Derived.Test.Qxb6601963aStBase
import Derived.Test.Qxb6601963aStLen
import Derived.Lib.Walk
import Derived.Laws.Bits64
import Derived.Laws.Bits64b
import Derived.Sort.LotD5
set_option linter.unusedVariables false
namespace Go.Proofs.Qxb6601963a.St
open Go.RowKit Go.Sort

set_option maxHeartbeats 1000000 in
theorem len_any (n : Nat) (w : World) (h : n ≤ 1048576) : Calls Try.prog 33 #[.int .u64 n] w fun e w' => e = .returned (.int .i64 (bitsLen n)) ∧ w' = w := by
  go_enter Try.func33, Try.ntmps33
  go_wp2_with (go_at_call 44; refine (len64_any n _ h).mono ?_; rintro e w' ⟨rfl, rfl⟩)
  go_ret
  exact ⟨rfl, rfl⟩

set_option maxHeartbeats 1000000 in
theorem pow2_any (n : Nat) (w : World) (h : n ≤ 1048576) : Calls Try.prog 46 #[.int .i64 n] w fun e w' => e = .returned (.int .u64 ((1 <<< bitsLen n : Nat) : Int)) ∧ w' = w := by
  have hk : bitsLen n ≤ 21 := (bitsLen_le_iff n 21).2 (by omega)
  have hp : IntKind.u64.wrap ((2 : Int) ^ bitsLen n) = ((1 <<< bitsLen n : Nat) : Int) := by
    have h2 : (2 : Nat) ^ bitsLen n ≤ 2 ^ 21 := Nat.pow_le_pow_right (by decide) hk
    rw [IntKind.wrap_u64, Nat.one_shiftLeft, show ((2 : Int) ^ bitsLen n) = ((2 ^ bitsLen n : Nat) : Int) by push_cast; rfl]
    generalize (2 : Nat) ^ bitsLen n = p at h2
    omega
  go_enter Try.func46, Try.ntmps46
  go_wp2_with (go_at_call 33; refine (len_any n _ h).mono ?_; rintro e w' ⟨rfl, rfl⟩)
  go_ret
  exact ⟨rfl, rfl⟩

theorem set_set (w : World) (blk off : Nat) (v v' : Value) : (w.setCell ⟨blk, off, none⟩ v).setCell ⟨blk, off, none⟩ v' = w.setCell ⟨blk, off, none⟩ v' := by
  rw [setCell_eq, setCell_eq, mapBlock_mapBlock, setCell_eq]
  congr 1
  funext c
  simp

set_option maxHeartbeats 2000000 in
theorem next_any (q X : Nat) (hX : X < 18446744073709551616) (w : World) (hc : w.cell? ⟨q, 0, none⟩ = some (.int .u64 X)) (hf : w.frozen? ⟨q, 0, none⟩ = false) :
    Calls Try.prog 47 #[.pointer (some ⟨q, 0, none⟩)] w fun e w' => e = .returned (.int .u64 (xorNextN X : Nat)) ∧ w' = (w.setCell ⟨q, 0, none⟩ (.int .u64 (xorNextN X : Nat))).drewN 3 := by
  obtain ⟨A, hA⟩ : ∃ A : Nat, A = X ^^^ (X * 8192 % 18446744073709551616) := ⟨_, rfl⟩
  obtain ⟨B, hB⟩ : ∃ B : Nat, B = A ^^^ (A / 128) := ⟨_, rfl⟩
  obtain ⟨C, hC⟩ : ∃ C : Nat, C = B ^^^ (B * 131072 % 18446744073709551616) := ⟨_, rfl⟩
  have lA : A < 18446744073709551616 := by rw [hA]; exact Nat.xor_lt_two_pow (n := 64) (by omega) (by omega)
  have lB : B < 18446744073709551616 := by rw [hB]; exact Nat.xor_lt_two_pow (n := 64) (by omega) (by omega)
  have e1 : bits .xor .u64 (X : Int) (IntKind.u64.wrap ((X : Int) * 8192)) = (A : Int) := by
    rw [IntKind.wrap_u64, show ((X : Int) * 8192 % 18446744073709551616) = ((X * 8192 % 18446744073709551616 : Nat) : Int) by omega, bits_xor_u64_nat _ _ hX (by omega), hA]
  have e2 : bits .xor .u64 (A : Int) ((A : Int) / 128) = (B : Int) := by
    rw [show ((A : Int) / 128) = ((A / 128 : Nat) : Int) by omega, bits_xor_u64_nat _ _ lA (by omega), hB]
  have e3 : bits .xor .u64 (B : Int) (IntKind.u64.wrap ((B : Int) * 131072)) = (C : Int) := by
    rw [IntKind.wrap_u64, show ((B : Int) * 131072 % 18446744073709551616) = ((B * 131072 % 18446744073709551616 : Nat) : Int) by omega, bits_xor_u64_nat _ _ lB (by omega), hC]
  have hv : xorNextN X = C := by unfold xorNextN; simp only []; rw [← hA, ← hB, ← hC]
  rw [hv]
  clear hA hB hC hv
  have hss : ∀ v v', (w.setCell ⟨q, 0, none⟩ v).setCell ⟨q, 0, none⟩ v' = w.setCell ⟨q, 0, none⟩ v' := set_set w q 0
  go_enter Try.func47, Try.ntmps47
  go_wp2
  go_region
  all_goals go_wp2
  all_goals go_region
  all_goals go_wp2
  all_goals go_region
  all_goals go_wp2
  go_ret
  exact ⟨rfl, rfl⟩
end Go.Proofs.Qxb6601963a.St
