import Derived.Test.Qxb6601528aFxBase
import Derived.BigRegion
import Derived.Deep.RegionHeld3
namespace Go.Proofs.Qxb6601528a.Fx
open Go.RowKit

theorem ret_int {k : IntKind} {a b : Int} (h : a = b) : Ending.returned (.int k a) = .returned (.int k b) := by rw [h]

set_option maxHeartbeats 400000 in
theorem satAdd_any (a b : Int) (w : World) (ha : 0 ≤ a) (ha' : a ≤ 1073741825) (hb : 0 ≤ b) (hb' : b ≤ 1073741825) :
    Calls Try.prog 20 #[.int .i64 a, .int .i64 b] w fun e w' => e = .returned (.int .i64 (satA a b)) ∧ w' = w := by
  by_cases h : 1073741824 < a + b
  · have HE : Hid (satA a b = 1073741825) := by show _ = _; rw [satA, if_pos h]
    go_enter Try.func20, Try.ntmps20
    go_wp2
    go_ret
    exact ⟨ret_int HE.out.symm, rfl⟩
  · have HE : Hid (satA a b = a + b) := by show _ = _; rw [satA, if_neg h]
    go_enter Try.func20, Try.ntmps20
    go_wp2
    go_ret
    exact ⟨ret_int HE.out.symm, rfl⟩

set_option maxHeartbeats 400000 in
theorem satMul_any (a b : Int) (w : World) (ha : 0 ≤ a) (ha' : a ≤ 9223372036854775807) (hb : 0 ≤ b) (hb' : b ≤ 1073741825) :
    Calls Try.prog 21 #[.int .i64 a, .int .i64 b] w fun e w' => e = .returned (.int .i64 (satM a b)) ∧ w' = w := by
  by_cases h0 : a = 0
  · have HE : Hid (satM a b = 0) := by show _ = _; simp [satM, h0]
    have h0' : (a == 0) = true := by simp [h0]
    clear h0
    go_enter Try.func21, Try.ntmps21
    go_wp2
    go_ret
    exact ⟨ret_int HE.out.symm, rfl⟩
  · have h0' : (a == 0) = false := by simp [h0]
    by_cases h1 : b = 0
    · have HE : Hid (satM a b = 0) := by show _ = _; simp [satM, h1]
      have h1' : (b == 0) = true := by simp [h1]
      clear h0 h1
      go_enter Try.func21, Try.ntmps21
      go_wp2
      go_ret
      exact ⟨ret_int HE.out.symm, rfl⟩
    · have h1' : (b == 0) = false := by simp [h1]
      have hn : ¬ (a = 0 ∨ b = 0) := by omega
      by_cases h2 : 1073741824 < a
      · have HE : Hid (satM a b = 1073741825) := by show _ = _; rw [satM, if_neg hn, if_pos (Or.inl h2)]
        clear h0 h1 hn
        go_enter Try.func21, Try.ntmps21
        go_wp2
        go_ret
        exact ⟨ret_int HE.out.symm, rfl⟩
      · by_cases h3 : 1073741824 < b
        · have HE : Hid (satM a b = 1073741825) := by show _ = _; rw [satM, if_neg hn, if_pos (Or.inr h3)]
          clear h0 h1 hn
          go_enter Try.func21, Try.ntmps21
          go_wp2
          go_ret
          exact ⟨ret_int HE.out.symm, rfl⟩
        · have hn2 : ¬ (1073741824 < a ∨ 1073741824 < b) := by omega
          have p0 : 0 ≤ a * b := Int.mul_nonneg ha hb
          have p1 : a * b ≤ 1073741824 * 1073741824 := Int.mul_le_mul (by omega) (by omega) hb (by omega)
          by_cases h4 : 1073741824 < a * b
          · have HE : Hid (satM a b = 1073741825) := by show _ = _; rw [satM, if_neg hn, if_neg hn2, if_pos h4]
            clear h0 h1 hn hn2
            go_enter Try.func21, Try.ntmps21
            go_wp2
            go_ret
            exact ⟨ret_int HE.out.symm, rfl⟩
          · have HE : Hid (satM a b = a * b) := by show _ = _; rw [satM, if_neg hn, if_neg hn2, if_neg h4]
            clear h0 h1 hn hn2
            go_enter Try.func21, Try.ntmps21
            go_wp2
            go_ret
            exact ⟨ret_int HE.out.symm, rfl⟩
end Go.Proofs.Qxb6601528a.Fx
