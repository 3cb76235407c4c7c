import Derived.Sort.AssemblyPlain
namespace Go.Proofs.Qxb6601963a.St
open Go.Sort

/-- behind partialInsertionSort -/
def F3 (d : Array Int) (a b l : Nat) (wb wp : Bool) (pv : Nat) : Array Int :=
  if 0 < a ∧ ¬ d[a - 1]! < d[pv]! then pdq ltInt (partitionEqual ltInt d a b pv).2 (partitionEqual ltInt d a b pv).1 b l wb wp
  else if (partition ltInt d a b pv).1 - a < b - (partition ltInt d a b pv).1 then
    pdq ltInt (pdq ltInt (partition ltInt d a b pv).2.2 a (partition ltInt d a b pv).1 l true true) ((partition ltInt d a b pv).1 + 1) b l (decide ((b - a) / 8 ≤ (partition ltInt d a b pv).1 - a)) (partition ltInt d a b pv).2.1
  else pdq ltInt (pdq ltInt (partition ltInt d a b pv).2.2 ((partition ltInt d a b pv).1 + 1) b l true true) a (partition ltInt d a b pv).1 l (decide ((b - a) / 8 ≤ b - (partition ltInt d a b pv).1)) (partition ltInt d a b pv).2.1
/-- behind the pivot's choice -/
def F2 (d : Array Int) (a b l : Nat) (wb wp : Bool) (pv : Nat) (inc : Bool) : Array Int :=
  if (wb && wp && inc) = true then
    if (partialInsertionSort ltInt d a b).2 = true then (partialInsertionSort ltInt d a b).1 else F3 (partialInsertionSort ltInt d a b).1 a b l wb wp pv
  else F3 d a b l wb wp pv
/-- behind breakPatterns -/
def F1 (d : Array Int) (a b l : Nat) (wb wp : Bool) : Array Int :=
  if (choosePivot ltInt d a b).2 = .decreasing then F2 (reverseRange d a b) a b l wb wp ((b - 1) - ((choosePivot ltInt d a b).1 - a)) true
  else F2 d a b l wb wp (choosePivot ltInt d a b).1 (decide ((choosePivot ltInt d a b).2 = .increasing))

theorem partEq_range (d : Array Int) (a b pv : Nat) (hp1 : a ≤ pv) (hp2 : pv < b) (hb : b ≤ d.size) : a < (partitionEqual ltInt d a b pv).1 ∧ (partitionEqual ltInt d a b pv).1 ≤ b := by
  have h := partEqLoop_spec ltInt a b _ (a + 1) (b - 1) (swp d a pv) (Nat.le_refl _) (by omega) (by omega) (by omega) (by rw [size_swp]; exact hb) (fun t h1 h2 => by omega) (fun t h1 h2 => by omega)
  exact ⟨h.1, h.2.1⟩
theorem part_range (d : Array Int) (a b pv : Nat) (hp1 : a ≤ pv) (hp2 : pv < b) (hb : b ≤ d.size) : a ≤ (partition ltInt d a b pv).1 ∧ (partition ltInt d a b pv).1 < b := by
  have h := partition_holds ltInt swo_ltInt d a b pv hp1 hp2 hb
  exact ⟨h.1, h.2.1⟩

theorem pdq_small (d : Array Int) (a b l : Nat) (wb wp : Bool) (h : b - a ≤ 12) : pdq ltInt d a b l wb wp = insertionSort ltInt d a b := by rw [pdq, if_pos h]
theorem pdq_deep (d : Array Int) (a b : Nat) (wb wp : Bool) (h : ¬ b - a ≤ 12) : pdq ltInt d a b 0 wb wp = heapSort ltInt d a b := by rw [pdq, if_neg h, if_pos rfl]
theorem sdn_size (j : Nat) : ∀ d : Array Int, (shiftDown ltInt j d).size = d.size := by
  induction j with
  | zero => intro d; rfl
  | succ k ih =>
    intro d
    rw [shiftDown]
    split
    · rfl
    · rw [ih, size_swp]
theorem sup_size (b : Nat) : ∀ (n j : Nat) (d : Array Int), b - j = n → (shiftUp ltInt b j d).size = d.size := by
  intro n
  induction n with
  | zero => intro j d h; rw [shiftUp, if_neg (by omega)]
  | succ n ih =>
    intro j d h
    rw [shiftUp, if_pos (by omega)]
    split
    · rfl
    · rw [ih _ _ (by omega), size_swp]
theorem pi_size (a b s : Nat) : ∀ (i : Nat) (d : Array Int), (partialIns ltInt a b s i d).1.size = d.size := by
  induction s with
  | zero => intro i d; rfl
  | succ s ih =>
    intro i d
    rw [partialIns]
    simp only []
    split
    · rfl
    split
    · rfl
    rw [ih]
    split <;> split <;> simp [sup_size b _ _ _ rfl, sdn_size, size_swp]

theorem F3_eq (d : Array Int) (a b l : Nat) (wb wp : Bool) (pv : Nat) (hp1 : a ≤ pv) (hp2 : pv < b) (hb : b ≤ d.size) :
    (if (decide (a > 0) && !ltInt d[a - 1]! d[pv]!) = true then
      match partitionEqual ltInt d a b pv with
      | (mid, d4) => if _h : a < mid ∧ mid ≤ b then pdq ltInt d4 mid b l wb wp else d4
    else
      match partition ltInt d a b pv with
      | (mid, alreadyPartitioned, d4) =>
        if _h : a ≤ mid ∧ mid < b then
          if mid - a < b - mid then
            pdq ltInt (pdq ltInt d4 a mid l true true) (mid + 1) b l (decide (mid - a ≥ (b - a) / 8)) alreadyPartitioned
          else
            pdq ltInt (pdq ltInt d4 (mid + 1) b l true true) a mid l (decide (b - mid ≥ (b - a) / 8)) alreadyPartitioned
        else d4) = F3 d a b l wb wp pv := by
  unfold F3
  by_cases hc : 0 < a ∧ ¬ d[a - 1]! < d[pv]!
  · rw [if_pos hc, if_pos (by simp [ltInt, hc.1]; exact Int.not_lt.1 hc.2)]
    have hr := partEq_range d a b pv hp1 hp2 hb
    revert hr
    generalize partitionEqual ltInt d a b pv = r
    obtain ⟨mid, d4⟩ := r
    intro hr
    exact dif_pos hr
  · rw [if_neg hc, if_neg (by intro h; apply hc; simp [ltInt] at h; exact ⟨h.1, Int.not_lt.2 h.2⟩)]
    have hr := part_range d a b pv hp1 hp2 hb
    revert hr
    generalize partition ltInt d a b pv = r
    obtain ⟨mid, ap, d4⟩ := r
    intro hr
    exact dif_pos hr

theorem pdq_round (d : Array Int) (a b l : Nat) (wb wp : Bool) (h : ¬ b - a ≤ 12) (hl : ¬ l = 0) (hb : b ≤ d.size) :
    pdq ltInt d a b l wb wp = F1 (if wb then d else breakPatterns d a b) a b (if wb then l else l - 1) wb wp := by
  rw [pdq, if_neg h, if_neg hl]
  have hD : b ≤ (if wb then d else breakPatterns d a b).size := by
    cases wb
    · rw [if_neg (by simp), (breakPatterns_holds d a b (by omega) hb).1]; exact hb
    · exact hb
  obtain ⟨D, eD⟩ : ∃ D, D = if wb then d else breakPatterns d a b := ⟨_, rfl⟩
  obtain ⟨L, eL⟩ : ∃ L, L = if wb then l else l - 1 := ⟨_, rfl⟩
  rw [← eD, ← eL]
  rw [← eD] at hD
  have e1 : (if (!wb) = true then breakPatterns d a b else d) = D := by rw [eD]; cases wb <;> rfl
  have e2 : (if (!wb) = true then l - 1 else l) = L := by rw [eL]; cases wb <;> rfl
  simp only [e1, e2]
  clear e1 e2 eD eL
  obtain ⟨q1, q2⟩ := choosePivot_holds ltInt D a b (by omega)
  unfold F1
  by_cases hd : (choosePivot ltInt D a b).2 = .decreasing
  · rw [if_pos hd]
    simp only [hd, if_true]
    have hs : (reverseRange D a b).size = D.size := (reverseRange_holds D a b (by omega) hD).1
    unfold F2
    by_cases hc : (wb && wp && decide True) = true
    · refine Eq.trans ?_ (if_pos (c := (wb && wp && true) = true) (by simpa using hc)).symm
      simp only [if_pos hc]
      by_cases hp : (partialInsertionSort ltInt (reverseRange D a b) a b).2 = true
      · simp only [if_pos hp]
      · simp only [if_neg hp]
        exact F3_eq _ a b L wb wp _ (by omega) (by omega) (by rw [partialInsertionSort, pi_size]; omega)
    · refine Eq.trans ?_ (if_neg (c := (wb && wp && true) = true) (by simpa using hc)).symm
      simp only [if_neg hc]
      exact F3_eq _ a b L wb wp _ (by omega) (by omega) (by omega)
  · rw [if_neg hd]
    simp only [if_neg hd]
    unfold F2
    by_cases hc : (wb && wp && decide ((choosePivot ltInt D a b).2 = Hint.increasing)) = true
    · refine Eq.trans ?_ (if_pos (c := (wb && wp && decide ((choosePivot ltInt D a b).2 = Hint.increasing)) = true) (by simpa using hc)).symm
      simp only [if_pos hc]
      by_cases hp : (partialInsertionSort ltInt D a b).2 = true
      · simp only [if_pos hp]
      · simp only [if_neg hp]
        exact F3_eq _ a b L wb wp _ (by omega) (by omega) (by rw [partialInsertionSort, pi_size]; omega)
    · refine Eq.trans ?_ (if_neg (c := (wb && wp && decide ((choosePivot ltInt D a b).2 = Hint.increasing)) = true) (by simpa using hc)).symm
      simp only [if_neg hc]
      exact F3_eq _ a b L wb wp _ (by omega) (by omega) (by omega)
end Go.Proofs.Qxb6601963a.St
