import Derived.Test.Qxb6601963aStWords
import Derived.Sort.AssemblyPlain
set_option linter.unusedVariables false
namespace Go.Proofs.Qxb6601963a.St
open Go.Sort

theorem upB_spec (z : Nat → Int) (gen : Int) : ∀ n, upB z gen n = true → (∀ i, i < n → gen < z i) ∧ (∀ i j, i < j → j < n → z i < z j)
  | 0, _ => ⟨fun i h => by omega, fun i j h h' => by omega⟩
  | n + 1, h => by
    rw [upB, Bool.and_eq_true] at h
    obtain ⟨h1, h2⟩ := upB_spec z gen n h.1
    have h3 : (if n = 0 then gen else z (n - 1)) < z n := by simpa using h.2
    have h4 : ∀ i, i < n → z i < z n := by
      intro i hi
      rw [if_neg (by omega)] at h3
      by_cases e : i = n - 1
      · rw [e]; exact h3
      · have := h2 i (n - 1) (by omega) (by omega); omega
    have h5 : gen < z n := by
      by_cases e : n = 0
      · rw [if_pos e] at h3; exact h3
      · have := h1 0 (by omega); have := h4 0 (by omega); omega
    refine ⟨fun i hi => ?_, fun i j hij hj => ?_⟩
    · by_cases e : i = n
      · rw [e]; exact h5
      · exact h1 i (by omega)
    · by_cases e : j = n
      · rw [e]; exact h4 i (by omega)
      · exact h2 i j hij (by omega)
theorem upB_of (z : Nat → Int) (gen : Int) : ∀ n, (∀ i, i < n → gen < z i) → (∀ i j, i < j → j < n → z i < z j) → upB z gen n = true
  | 0, _, _ => rfl
  | n + 1, h1, h2 => by
    rw [upB, upB_of z gen n (fun i hi => h1 i (by omega)) (fun i j h h' => h2 i j h (by omega))]
    simp only [Bool.true_and, decide_eq_true_eq]
    split
    · exact h1 n (by omega)
    · exact h2 (n - 1) n (by omega) (by omega)

theorem mem_arr (d : Array Int) (p : Int) : p ∈ d.toList ↔ ∃ i, i < d.size ∧ d[i]! = p := by
  rw [List.mem_iff_getElem]
  constructor
  · rintro ⟨i, hi, e⟩
    have hi' : i < d.size := by simpa using hi
    exact ⟨i, hi', by rw [getElem!_pos d i hi']; simpa using e⟩
  · rintro ⟨i, hi, e⟩
    exact ⟨i, by simpa using hi, by rw [getElem!_pos d i hi] at e; simpa using e⟩

/-- the sorted row of the struck words and the new one -/
theorem row_facts (d d' : Array Int) (N : Nat) (hd : d.size = N) (hd' : d'.size = N) (hp : d'.toList.Perm d.toList) (hs : SortedIn ltInt 0 N d') (hinj : ∀ i j, i < j → j < N → d[i]! ≠ d[j]!) :
    (∀ i j, i < j → j < N → d'[i]! < d'[j]!) ∧ (∀ p, (∃ i, i < N ∧ d'[i]! = p) ↔ ∃ i, i < N ∧ d[i]! = p) := by
  have hnd : d.toList.Nodup := by
    rw [List.nodup_iff_pairwise_ne, List.pairwise_iff_getElem]
    intro i j hi hj hij
    have hi' : i < d.size := by simpa using hi
    have hj' : j < d.size := by simpa using hj
    have h := hinj i j hij (by omega)
    rw [getElem!_pos d i hi', getElem!_pos d j hj'] at h
    simpa using h
  have hnd' : d'.toList.Nodup := hp.nodup_iff.2 hnd
  rw [List.nodup_iff_pairwise_ne, List.pairwise_iff_getElem] at hnd'
  refine ⟨fun i j hij hj => ?_, fun p => ?_⟩
  · have hi' : i < d'.size := by omega
    have hj' : j < d'.size := by omega
    have h1 := hnd' i j (by simpa using hi') (by simpa using hj') hij
    have h2 := hs i j (by omega) hij hj
    have h3 : ¬ d'[j]! < d'[i]! := by simpa [ltInt] using h2
    have h4 : d'[i]! ≠ d'[j]! := by
      rw [getElem!_pos d' i hi', getElem!_pos d' j hj']
      simpa using h1
    omega
  · have e1 := mem_arr d' p
    have e2 := mem_arr d p
    rw [hd'] at e1
    rw [hd] at e2
    rw [← e1, ← e2]
    exact hp.mem_iff

/-- what 'without' leaves, in plain words -/
theorem strike (z : Nat → Int) (gen g : Int) (len M k : Nat) (y : Nat → Int) (hM : M = len + 1) (hk : k ≤ M)
    (hw : upB z gen len = true) (hg : gen ≤ g) (hy : ∀ i j, i < j → j < M → y i < y j) (hm : ∀ p, (∃ i, i < M ∧ y i = p) ↔ p = g ∨ ∃ i, i < len ∧ z i = p)
    (hpre : ∀ i, i < k → y i = gen + i) (hstop : k < M → y k ≠ gen + k) :
    upB (fun i => y (k + i)) (gen + k) (M - k) = true ∧ ∀ p, admB true false (gen + k) (fun i => y (k + i)) (M - k) p = (p != g && admB true false gen z len p) := by
  obtain ⟨w1, w2⟩ := upB_spec z gen len hw
  have hge : ∀ i, i < M → gen ≤ y i := by
    intro i hi
    rcases (hm (y i)).1 ⟨i, hi, rfl⟩ with e | ⟨j, hj, e⟩
    · omega
    · have := w1 j hj; omega
  have hgi : ∀ i, i < M → gen + i ≤ y i := by
    intro i
    induction i with
    | zero => intro h; have := hge 0 h; omega
    | succ i ih => intro h; have := ih (by omega); have := hy i (i + 1) (by omega) h; omega
  have habove : ∀ i, i < M - k → gen + k < y (k + i) := by
    intro i hi
    have h1 := hgi k (by omega)
    have h2 := hstop (by omega)
    by_cases e : i = 0
    · rw [e, Nat.add_zero]; omega
    · have := hy k (k + i) (by omega) (by omega); omega
  refine ⟨upB_of _ _ _ habove (fun i j hij hj => hy (k + i) (k + j) (by omega) (by omega)), fun p => ?_⟩
  have key : (gen + k ≤ p ∧ ¬ ∃ i, i < M - k ∧ y (k + i) = p) ↔ (p ≠ g ∧ gen ≤ p ∧ ¬ ∃ i, i < len ∧ z i = p) := by
    have hmp := hm p
    constructor
    · rintro ⟨h1, h2⟩
      have hno : ¬ ∃ i, i < M ∧ y i = p := by
        rintro ⟨i, hi, e⟩
        by_cases hik : i < k
        · have := hpre i hik; omega
        · exact h2 ⟨i - k, by omega, by rw [show k + (i - k) = i by omega]; exact e⟩
      exact ⟨fun e => hno (hmp.2 (Or.inl e)), by omega, fun h => hno (hmp.2 (Or.inr h))⟩
    · rintro ⟨h1, h2, h3⟩
      have hno : ¬ ∃ i, i < M ∧ y i = p := fun h => by
        rcases hmp.1 h with e | e
        · exact h1 e
        · exact h3 e
      refine ⟨?_, fun ⟨i, hi, e⟩ => hno ⟨k + i, by omega, e⟩⟩
      rcases Int.lt_or_le p (gen + k) with h | h
      · exfalso
        apply hno
        refine ⟨(p - gen).toNat, by omega, ?_⟩
        have := hpre (p - gen).toNat (by omega)
        omega
      · exact h
  have a1 : admB true false (gen + k) (fun i => y (k + i)) (M - k) p = true ↔ (gen + k ≤ p ∧ ¬ ∃ i, i < M - k ∧ y (k + i) = p) := by
    have h := hasB_iff (fun i => y (k + i)) p (M - k)
    cases hb : hasB (fun i => y (k + i)) (M - k) p with
    | true => simp [admB, hb]; intro _; exact h.1 hb
    | false =>
      simp only [admB, hb, Bool.not_true, Bool.false_or, Bool.false_eq_true, if_false, Bool.not_false, Bool.and_true, decide_eq_true_eq]
      exact ⟨fun h' => ⟨h', fun h2 => by rw [h.2 h2] at hb; cases hb⟩, fun h' => h'.1⟩
  have a2 : (p != g && admB true false gen z len p) = true ↔ (p ≠ g ∧ gen ≤ p ∧ ¬ ∃ i, i < len ∧ z i = p) := by
    have h := hasB_iff z p len
    cases hb : hasB z len p with
    | true => simp [admB, hb]; intro _ _; exact h.1 hb
    | false =>
      simp only [admB, hb, Bool.not_true, Bool.false_or, Bool.false_eq_true, if_false, Bool.not_false, Bool.and_true, Bool.and_eq_true, bne_iff_ne, decide_eq_true_eq]
      exact ⟨fun h' => ⟨h'.1, h'.2, fun h2 => by rw [h.2 h2] at hb; cases hb⟩, fun h' => ⟨h'.1, h'.2.1⟩⟩
  rw [Bool.eq_iff_iff, a1, a2]
  exact key
end Go.Proofs.Qxb6601963a.St
