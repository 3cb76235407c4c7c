import Derived.Test.Qxb6601963aRows
import Derived.Lib.Strings
import Derived.Lib.Slices
import Derived.Lib.Small
import Derived.Lib.Walk
import Derived.Lib.BitFns
import Derived.Sort.LotD1
set_option linter.unusedVariables false
namespace Go.Proofs.Qxb6601963a.St
open Go.Sort

theorem len_same (x : Nat) (h : x < 2 ^ 64) : Lib.bitLen x = bitsLen x := by
  induction x using Nat.strongRecOn with
  | _ x ih =>
    by_cases h0 : x = 0
    · subst h0; rfl
    · have e := Lib.bitLen_half x h0 h
      rw [ih (x / 2) (by omega) (by omega)] at e
      rw [e]
      simp only [bitsLen, if_neg h0]
      rw [Nat.log2_def x]
      by_cases h2 : 2 ≤ x
      · rw [if_pos h2, if_neg (by omega)]; omega
      · obtain rfl : x = 1 := by omega
        simp

set_option maxHeartbeats 4000000 in
set_option maxRecDepth 100000 in
theorem len64_any (n : Nat) (w : World) (h : n ≤ 1048576) : Calls Try.prog 44 #[.int .u64 n] w fun e w' => e = .returned (.int .i64 (bitsLen n)) ∧ w' = w := by
  rw [← len_same n (by omega)]
  have h32 : ¬ (4294967296 : Int) ≤ n := by omega
  by_cases h16 : 65536 ≤ n
  · have h16I : (65536 : Int) ≤ n := by omega
    have h8I : ¬ (256 : Int) ≤ (n : Int) / 65536 := by omega
    go_enter Try.func44, Try.ntmps44
    go_wp2
    go_ret
    refine ⟨congrArg Ending.returned (congrArg (Value.int IntKind.i64) ?_), rfl⟩
    have l := Lib.bitLen_le8' ((n : Int) / 65536 % 256) (by omega) (by omega)
    rw [Lib.len8_of ((n : Int) / 65536 % 256) (by omega) (by omega)]
    have e : ((n : Int) / 65536 % 256).toNat = n / 65536 := by omega
    have s := Lib.bitLen_shift16 n h16 (by omega)
    rw [e] at l ⊢
    omega
  · have h16I : ¬ (65536 : Int) ≤ n := by omega
    by_cases h8 : 256 ≤ n
    · have h8I : (256 : Int) ≤ n := by omega
      go_enter Try.func44, Try.ntmps44
      go_wp2
      go_ret
      refine ⟨congrArg Ending.returned (congrArg (Value.int IntKind.i64) ?_), rfl⟩
      have l := Lib.bitLen_le8' ((n : Int) / 256 % 256) (by omega) (by omega)
      rw [Lib.len8_of ((n : Int) / 256 % 256) (by omega) (by omega)]
      have e : ((n : Int) / 256 % 256).toNat = n / 256 := by omega
      have s := Lib.bitLen_shift8 n h8 (by omega)
      rw [e] at l ⊢
      omega
    · have h8I : ¬ (256 : Int) ≤ n := by omega
      go_enter Try.func44, Try.ntmps44
      go_wp2
      go_ret
      refine ⟨congrArg Ending.returned (congrArg (Value.int IntKind.i64) ?_), rfl⟩
      have l := Lib.bitLen_le8' ((n : Int) % 256) (by omega) (by omega)
      rw [Lib.len8_of ((n : Int) % 256) (by omega) (by omega)]
      have e : ((n : Int) % 256).toNat = n := by omega
      rw [e] at l ⊢
      omega

end Go.Proofs.Qxb6601963a.St
