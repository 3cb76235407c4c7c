import Derived.Test.Qxb6601963aMemParse
namespace Go.Proofs.Qxb6601963a.MemW
open Go.RowKit Go.Lib

theorem members_any (a0 a1 a2 a3 a4 a5 : Bool) (w : World) :
    Calls Try.prog 15 #[.bool a0, .bool a1, .bool a2, .bool a3, .bool a4, .bool a5] w fun e w' => e = .returned (.string ⟨(outL (acc (pick6 a0 a1 a2 a3 a4 a5) 6)).toArray⟩) ∧ Below w.heap.size w w' := by
  go_enter Try.func15, Try.ntmps15
  go_wp2_with (go_at_call 21; refine (string_any _ _ _ _ _ _ _).mono ?_; rintro e w' ⟨rfl, hb⟩)
  go_ret
  exact ⟨rfl, hb⟩

theorem parse_any (a0 a1 a2 a3 a4 a5 : Bool) (w : World) :
    Calls Try.prog 16 #[.string ⟨(outL (acc (pick6 a0 a1 a2 a3 a4 a5) 6)).toArray⟩] w fun e w' => e = .returned (.tuple #[.bool true, .agg #[.bool a0, .bool a1, .bool a2, .bool a3, .bool a4, .bool a5]]) ∧ Below w.heap.size w w' := by
  rcases reads a0 a1 a2 a3 a4 a5 with ⟨h1, h2⟩ | ⟨h1, h2⟩
  · have h := parse_none ⟨(outL (acc (pick6 a0 a1 a2 a3 a4 a5) 6)).toArray⟩ w h1
    simp only [List.cons.injEq, and_true] at h2
    obtain ⟨rfl, rfl, rfl, rfl, rfl, rfl⟩ := h2
    exact h
  · refine parse_some ⟨(outL (acc (pick6 a0 a1 a2 a3 a4 a5) 6)).toArray⟩ w h1 ?_ a0 a1 a2 a3 a4 a5 7 h2
    have hl := acc_le (pick6 a0 a1 a2 a3 a4 a5) 6
    have hs : (outL (acc (pick6 a0 a1 a2 a3 a4 a5) 6)).length ≤ 66 := by
      unfold outL
      split
      · decide
      · simp; omega
    show (outL (acc (pick6 a0 a1 a2 a3 a4 a5) 6)).toArray.size ≤ maxLen
    unfold maxLen
    simp only [List.size_toArray]
    omega

theorem same_arr (a0 a1 a2 a3 a4 a5 : Bool) (w : World) : (Op.equalIn 10000 39 (.agg #[.bool a0, .bool a1, .bool a2, .bool a3, .bool a4, .bool a5]) (.agg #[.bool a0, .bool a1, .bool a2, .bool a3, .bool a4, .bool a5])).run Try.prog w = .ok true w := by
  cases a0 <;> cases a1 <;> cases a2 <;> cases a3 <;> cases a4 <;> cases a5 <;> kernel_rfl

set_option maxHeartbeats 1000000 in
theorem walk (a0 a1 a2 a3 a4 a5 : Bool) (w : World) :
    Calls Try.prog 5 #[.bool a0, .bool a1, .bool a2, .bool a3, .bool a4, .bool a5] w fun e w' => e = .returned (.bool true) ∧ Below w.heap.size w w' := by
  have hsame := same_arr a0 a1 a2 a3 a4 a5
  go_enter Try.func5, Try.ntmps5
  go_wp2_with (go_at_call 15; refine (members_any _ _ _ _ _ _ _).mono ?_; rintro e w1 ⟨rfl, hb1⟩)
  have HB1 := hid hb1
  clear hb1
  refine (parse_any _ _ _ _ _ _ _).mono ?_
  rintro e w2 ⟨rfl, hb2⟩
  have HB2 := hid hb2
  clear hb2
  go_wp2_with fail
  go_ret
  exact ⟨rfl, ((HB1.out.trans (HB2.out.mono HB1.out.size)).alloc (Nat.le_trans HB1.out.size HB2.out.size) _)⟩
end Go.Proofs.Qxb6601963a.MemW
