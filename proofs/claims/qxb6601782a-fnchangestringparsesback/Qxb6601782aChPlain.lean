/- The plain mathematics of the change's text: no Go in sight. -/
namespace Go.Proofs.Qxb6601782a.ChW

/-- the length of the first run without a blank -/
def runL : List UInt8 → Nat
  | [] => 0
  | c :: l => if c = 32 then 0 else runL l + 1

/-- where the first blank stands, or -1 -/
def spI (l : List UInt8) : Int := if runL l < l.length then (runL l : Int) else -1

theorem runL_le : ∀ l : List UInt8, runL l ≤ l.length
  | [] => by simp [runL]
  | c :: l => by
    have := runL_le l
    simp only [runL]
    split <;> simp <;> omega

theorem runL_at : ∀ (l : List UInt8) (k : Nat), k < l.length → (∀ j, j < k → l[j]? ≠ some 32) → l[k]? = some 32 → runL l = k
  | [], k, hk, _, _ => by simp at hk
  | c :: l, 0, _, _, h => by simp at h; simp [runL, h]
  | c :: l, k + 1, hk, hj, h => by
    have h0 : c ≠ 32 := by have := hj 0 (by omega); simpa using this
    simp only [runL, if_neg h0]
    rw [runL_at l k (by simpa using hk) (fun j h1 => by have := hj (j + 1) (by omega); simpa using this) (by simpa using h)]

theorem runL_none : ∀ (l : List UInt8), (∀ j, j < l.length → l[j]? ≠ some 32) → runL l = l.length
  | [], _ => rfl
  | c :: l, hj => by
    have h0 : c ≠ 32 := by have := hj 0 (by simp); simpa using this
    simp only [runL, if_neg h0, List.length_cons]
    rw [runL_none l (fun j h1 => by have := hj (j + 1) (by simp; omega); simpa using this)]

theorem spI_at (l : List UInt8) (k : Nat) (hk : k < l.length) (hj : ∀ j, j < k → l[j]? ≠ some 32) (h : l[k]? = some 32) : spI l = k := by
  have e := runL_at l k hk hj h
  unfold spI
  rw [e, if_pos hk]
theorem spI_none (l : List UInt8) (hj : ∀ j, j < l.length → l[j]? ≠ some 32) : spI l = -1 := by
  have e := runL_none l hj
  unfold spI
  rw [e, if_neg (by omega)]

theorem spI_neg (l : List UInt8) (h : spI l < 0) : runL l = l.length := by
  have := runL_le l
  unfold spI at h
  split at h <;> omega
theorem spI_full (l : List UInt8) (h : runL l = l.length) : spI l = -1 := by
  unfold spI
  rw [h, if_neg (by omega)]

theorem runL_cut : ∀ (m r : List UInt8), runL m = m.length → runL (m ++ 32 :: r) = m.length
  | [], r, _ => by simp [runL]
  | c :: m, r, h => by
    simp only [runL, List.length_cons] at h
    by_cases hc : c = 32
    · rw [if_pos hc] at h; omega
    · rw [if_neg hc] at h
      simp only [List.cons_append, runL, if_neg hc, List.length_cons]
      rw [runL_cut m r (by omega)]
theorem spI_cut (m r : List UInt8) (h : runL m = m.length) : spI (m ++ 32 :: r) = m.length := by
  unfold spI
  rw [runL_cut m r h, if_pos (by simp)]
end Go.Proofs.Qxb6601782a.ChW
