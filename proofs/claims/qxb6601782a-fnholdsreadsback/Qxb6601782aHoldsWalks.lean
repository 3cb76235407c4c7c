import Derived.Test.Qxb6601782aRows
import Derived.WalkKit
import Derived.WalkSpells
import Derived.WalkLawsBesides
import Derived.ProofKit
import Derived.Deep.QuietTactic
import Derived.BigQuiet
namespace Go.Proofs.Qxb6601782a.HoldsW
open Go.RowKit

def atB (o s : List UInt8) (p : Nat) : Bool := (o.drop p).take s.length == s

theorem atB_true (o s : List UInt8) (p k : Nat) (hk : k = s.length) (h : ∀ j, j < k → o[p+j]? = s[j]?) : atB o s p = true := by
  subst hk
  unfold atB
  rw [beq_iff_eq]
  apply List.ext_getElem?
  intro i
  by_cases hi : i < s.length
  · rw [List.getElem?_take_of_lt hi, List.getElem?_drop]; exact h i hi
  · rw [List.getElem?_eq_none (by simp; omega), List.getElem?_eq_none (by omega)]

theorem atB_false (o s : List UInt8) (p k : Nat) (hk : k < s.length) (h : o[p+k]? ≠ s[k]?) : atB o s p = false := by
  unfold atB
  rw [beq_eq_false_iff_ne]
  intro e
  apply h
  rw [← List.getElem?_drop, ← List.getElem?_take_of_lt hk, e]

theorem byte_at (o : ByteArray) (k : Nat) (h : k < o.size) : o.data.toList[k]? = some o[k] := by
  rw [List.getElem?_eq_getElem (by simpa using h)]; rfl

set_option maxHeartbeats 400000 in
theorem at_any (o s : ByteArray) (p : Nat) (w : World) (ho : o.size ≤ maxLen) (hs : s.size ≤ maxLen) (hp : p + s.size ≤ o.size) :
    Calls Try.prog 15 #[.string o, .int .i64 p, .string s] w fun e w' => e = .returned (.bool (atB o.data.toList s.data.toList p)) ∧ ∃ n, w' = w.drewN n := by
  unfold maxLen at ho hs
  have h1 : decide ((p : Int) < 0) = false := by simp
  have h2 : decide ((o.size : Int) < (p : Int)) = false := by simp; omega
  have h3 : ((s.size : Int) ≤ (o.size : Int) - (p : Int)) := by omega
  go_enter Try.func15, Try.ntmps15
  go_wp2
  go_loopw [7] (fun i w' => ∃ k n : Nat, k ≤ s.size ∧ i = .int .i64 k ∧ w' = w.drewN n ∧ Hid (∀ j, j < k → o.data.toList[p+j]? = s.data.toList[j]?)) (fun i _ => s.size - (intOf i).toNat)
  case atStart => exact ⟨0, 0, Nat.zero_le _, rfl, rfl, fun j hj => absurd hj (by omega)⟩
  case round =>
    obtain ⟨k, n, hk, rfl, rfl, HR⟩ := hrel
    by_cases hlt : k < s.size
    · have hlt' : (k : Int) < (s.size : Int) := by omega
      have hpk' : (p : Int) + (k : Int) < (o.size : Int) := by omega
      have hpk : p + k < o.size := by omega
      have h0 : (0 : Int) ≤ (p : Int) + (k : Int) := by omega
      by_cases he : o[p + k] = s[k]
      · have hb : ((o[p + k].toNat : Int) != (s[k].toNat : Int)) = false := by rw [he]; simp
        have HN : Hid (∀ j, j < k + 1 → o.data.toList[p+j]? = s.data.toList[j]?) := by
          intro j hj
          by_cases hjk : j = k
          · subst hjk; rw [byte_at o _ hpk, byte_at s _ hlt, he]
          · exact HR.out j (by omega)
        clear he
        go_wp2_with fail
        go_quiet (fail)
        go_wp2
        go_roundw
        case rel => exact ⟨k + 1, n + nq, by omega, by go_num, rfl, HN⟩
        case measure => simp [intOf]; omega
      · have hb : ((o[p + k].toNat : Int) != (s[k].toNat : Int)) = true := by
          rw [bne_iff_ne]; intro e; exact he (UInt8.toNat_inj.1 (by omega))
        have HF : Hid (atB o.data.toList s.data.toList p = false) := atB_false _ _ _ k (by simpa using hlt) (by rw [byte_at o _ hpk, byte_at s _ hlt]; intro e; exact he (by simpa using e))
        clear he
        go_wp2_with fail
        go_quiet (fail)
        go_wp2
        go_ret
        exact ⟨by rw [HF.out]; rfl, n + nq, World.drewN_drewN ..⟩
    · have HF : Hid (atB o.data.toList s.data.toList p = true) := atB_true _ _ _ k (by simp; omega) HR.out
      go_wp2
      go_ret
      exact ⟨by rw [HF.out]; rfl, n, rfl⟩

def sufB (o t : List UInt8) : Bool := decide (t.length ≤ o.length) && atB o t (o.length - t.length)

set_option maxHeartbeats 400000 in
theorem suf_any (o t : ByteArray) (w : World) (ho : o.size ≤ maxLen) (ht : t.size ≤ maxLen) :
    Calls Try.prog 13 #[.string o, .string t] w fun e w' => e = .returned (.bool (sufB o.data.toList t.data.toList)) ∧ ∃ n, w' = w.drewN n := by
  by_cases h : t.size ≤ o.size
  · have HF : Hid (sufB o.data.toList t.data.toList = atB o.data.toList t.data.toList (o.size - t.size)) := by
      show _ = _
      unfold sufB
      simp [h]
    have hc := fun w => at_any o t (o.size - t.size) w ho ht (by omega)
    have e : ((o.size - t.size : Nat) : Int) = (o.size : Int) - (t.size : Int) := by omega
    rw [e] at hc
    have HC : Hid _ := hc
    clear hc e
    unfold maxLen at ho ht
    go_enter Try.func13, Try.ntmps13
    go_wp2_with (go_at_call 15; refine (HC.out _).mono ?_; rintro e w' ⟨rfl, n, rfl⟩)
    go_ret
    exact ⟨by rw [HF.out]; rfl, n, rfl⟩
  · have HF : Hid (sufB o.data.toList t.data.toList = false) := by
      show _ = _
      unfold sufB
      simp; intro h'; omega
    unfold maxLen at ho ht
    go_enter Try.func13, Try.ntmps13
    go_wp2_with fail
    go_ret
    exact ⟨by rw [HF.out]; rfl, 0, rfl⟩

def yes : ByteArray := ⟨#[32, 105, 115, 32, 104, 101, 108, 100]⟩
def no : ByteArray := ⟨#[32, 105, 115, 32, 110, 111, 116, 32, 104, 101, 108, 100]⟩

theorem holds_any (r : ByteArray) (b : Bool) (w : World) (hr : r.size ≤ 1048576) :
    Calls Try.prog 12 #[.string r, .bool b] w fun e w' => e = .returned (.string (r ++ cond b yes no)) ∧ w' = w := by
  cases b
  · go_enter Try.func12, Try.ntmps12
    go_wp2
    go_ret
    exact ⟨rfl, rfl⟩
  · go_enter Try.func12, Try.ntmps12
    go_wp2
    go_ret
    exact ⟨rfl, rfl⟩

theorem bytes_yes (r : ByteArray) (b : Bool) (w : World) (hr : r.size ≤ 1048576) :
    Calls Try.prog 11 #[.string r, .bool b] w fun e w' => e = .returned (.bool true) ∧ w' = w := by
  go_enter Try.func11, Try.ntmps11
  go_wp2
  go_ret
  exact ⟨rfl, rfl⟩
theorem bytes_no (r : ByteArray) (b : Bool) (w : World) (hr : 1048576 < r.size) (hm : r.size ≤ maxLen) :
    Calls Try.prog 11 #[.string r, .bool b] w fun e w' => e = .returned (.bool false) ∧ w' = w := by
  unfold maxLen at hm
  go_enter Try.func11, Try.ntmps11
  go_wp2
  go_ret
  exact ⟨rfl, rfl⟩

theorem suf_no_no (r : List UInt8) : sufB (r ++ no.data.toList) no.data.toList = true := by
  unfold sufB atB
  simp [no]
theorem suf_yes_yes (r : List UInt8) : sufB (r ++ yes.data.toList) yes.data.toList = true := by
  unfold sufB atB
  simp [yes]
theorem suf_yes_no (r : List UInt8) : sufB (r ++ yes.data.toList) no.data.toList = false := by
  unfold sufB
  rw [Bool.and_eq_false_iff]
  by_cases h : no.data.toList.length ≤ (r ++ yes.data.toList).length
  · right
    have h4 : 4 ≤ r.length := by simp [yes, no] at h; omega
    refine atB_false _ _ _ 4 (by simp [no]) ?_
    have e : (r ++ yes.data.toList).length - no.data.toList.length + 4 = r.length := by simp [yes, no]; omega
    rw [e, List.getElem?_append_right (Nat.le_refl _)]
    simp [yes, no]
  · left; simpa using h

theorem cut_back (r s : ByteArray) : (((r ++ s).extract 0 r.size).toList == r.toList) = true := by
  rw [ByteArray.extract_append_eq_left rfl]; simp

theorem grown_drewN (w : World) (n : Nat) : Grown w (w.drewN n) := by
  induction n with
  | zero => exact Grown.refl _
  | succ n ih => exact ih.drew

set_option maxHeartbeats 400000 in
theorem walk_no (r : ByteArray) (w : World) (hr : r.size ≤ 1048576) :
    Calls Try.prog 4 #[.string r, .bool false] w fun e w' => e = .returned (.bool true) ∧ Grown w w' := by
  have hsz : (r ++ no).size = r.size + 12 := by simp [ByteArray.size_append]; rfl
  have h13 : ∀ w : World, Calls Try.prog 13 #[.string (r ++ no), .string no] w fun e w' => e = .returned (.bool true) ∧ ∃ n, w' = w.drewN n := by
    intro w
    have h := suf_any (r ++ no) no w (by unfold maxLen; omega) (by decide)
    have e : (r ++ no).data.toList = r.data.toList ++ no.data.toList := by simp
    rw [e, suf_no_no] at h
    exact h
  have h12 := fun w => holds_any r false w hr
  have H13 : Hid _ := h13
  have H12 : Hid _ := h12
  clear h13 h12
  go_enter Try.func4, Try.ntmps4
  go_wp2_with (first | (go_at_call 11; refine (bytes_yes _ _ _ hr).mono ?_; rintro e w' ⟨rfl, rfl⟩) | (go_at_call 12; refine (H12.out _).mono ?_; rintro e w' ⟨rfl, rfl⟩; simp only [cond]) | (go_at_call 13; refine (H13.out _).mono ?_; rintro e w' ⟨rfl, n, rfl⟩))
  go_ret
  exact ⟨congrArg (fun b => Ending.returned (.bool b)) (cut_back r no), grown_drewN _ _⟩

set_option maxHeartbeats 400000 in
theorem walk_yes (r : ByteArray) (w : World) (hr : r.size ≤ 1048576) :
    Calls Try.prog 4 #[.string r, .bool true] w fun e w' => e = .returned (.bool true) ∧ Grown w w' := by
  have hsz : (r ++ yes).size = r.size + 8 := by simp [ByteArray.size_append]; rfl
  have h13 : ∀ w : World, Calls Try.prog 13 #[.string (r ++ yes), .string no] w fun e w' => e = .returned (.bool false) ∧ ∃ n, w' = w.drewN n := by
    intro w
    have h := suf_any (r ++ yes) no w (by unfold maxLen; omega) (by decide)
    have e : (r ++ yes).data.toList = r.data.toList ++ yes.data.toList := by simp
    rw [e, suf_yes_no] at h
    exact h
  have h13y : ∀ w : World, Calls Try.prog 13 #[.string (r ++ yes), .string yes] w fun e w' => e = .returned (.bool true) ∧ ∃ n, w' = w.drewN n := by
    intro w
    have h := suf_any (r ++ yes) yes w (by unfold maxLen; omega) (by decide)
    have e : (r ++ yes).data.toList = r.data.toList ++ yes.data.toList := by simp
    rw [e, suf_yes_yes] at h
    exact h
  have h12 := fun w => holds_any r true w hr
  have H13 : Hid _ := h13
  have H13Y : Hid _ := h13y
  have H12 : Hid _ := h12
  clear h13 h12 h13y
  go_enter Try.func4, Try.ntmps4
  go_wp2_with (first | (go_at_call 11; refine (bytes_yes _ _ _ hr).mono ?_; rintro e w' ⟨rfl, rfl⟩) | (go_at_call 12; refine (H12.out _).mono ?_; rintro e w' ⟨rfl, rfl⟩; simp only [cond]))
  refine (H13.out _).mono ?_
  rintro e w' ⟨rfl, n, rfl⟩
  go_wp2_with fail
  refine (H13Y.out _).mono ?_
  rintro e w' ⟨rfl, m, rfl⟩
  go_wp2_with fail
  go_ret
  exact ⟨congrArg (fun b => Ending.returned (.bool b)) (cut_back r yes), grown_drewN _ _⟩

theorem walk_far (r : ByteArray) (b : Bool) (w : World) (hr : 1048576 < r.size) (hm : r.size ≤ maxLen) :
    Calls Try.prog 4 #[.string r, .bool b] w fun e w' => e = .returned (.bool true) ∧ Grown w w' := by
  go_enter Try.func4, Try.ntmps4
  go_wp2_with (go_at_call 11; refine (bytes_no _ _ _ hr hm).mono ?_; rintro e w' ⟨rfl, rfl⟩)
  go_ret
  exact ⟨rfl, Grown.refl _⟩
end Go.Proofs.Qxb6601782a.HoldsW
