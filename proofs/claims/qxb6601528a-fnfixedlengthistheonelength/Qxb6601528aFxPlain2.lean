import Derived.Test.Qxb6601528aFxPlain
/- More of the plain mathematics of fixedLength. -/
namespace Go.Proofs.Qxb6601528a.Fx

theorem foldK_yes (r : Nat → Sp) (n : Nat) (hin : ∀ i, i < n → In (r i)) (h : ∀ i, i < n → fixedS (r i) = true) : fixedS (foldK r n) = true := by
  rw [fixedS_iff]
  exact ⟨foldK_inf r n (fun i hi => ((fixedS_iff _).1 (h i hi)).1), foldK_eq r n hin (fun i hi => ((fixedS_iff _).1 (h i hi)).2)⟩
theorem foldK_no (r : Nat → Sp) (n i : Nat) (hin : ∀ i, i < n → In (r i)) (hlo : (foldK r n).lo ≤ 1073741824) (hhi : (foldK r n).inf = false → (foldK r n).hi ≤ 1073741824) (hi : i < n) (h : fixedS (r i) = false) : fixedS (foldK r n) = false := by
  rw [Bool.eq_false_iff]
  intro hf
  obtain ⟨h1, h2⟩ := (fixedS_iff _).1 hf
  have hfl := (foldK_flags r n).2.2 h1
  have hg := foldK_gap r n hin hfl hlo (hhi h1) i hi
  have hl := (hin i hi).2.2.2.2 (hfl i hi)
  have : fixedS (r i) = true := by rw [fixedS_iff]; exact ⟨hfl i hi, by omega⟩
  rw [this] at h
  exact absurd h (by decide)

theorem foldA_yes (r : Nat → Sp) (n : Nat) (x : Int) (hn : 0 < n) (h : ∀ i, i < n → fixedS (r i) = true ∧ (r i).lo = x) : fixedS (foldA r n) = true ∧ (foldA r n).lo = x := by
  have hx : ∀ i, i < n → (r i).lo = x ∧ (r i).hi = x := fun i hi => by
    obtain ⟨a, b⟩ := h i hi
    have := ((fixedS_iff _).1 a).2
    exact ⟨b, by omega⟩
  obtain ⟨h1, h2⟩ := foldA_all r x n hn hx
  refine ⟨?_, h1⟩
  rw [fixedS_iff]
  exact ⟨foldA_inf r n (fun i hi => ((fixedS_iff _).1 (h i hi).1).1), by omega⟩
theorem foldA_no (r : Nat → Sp) (n i : Nat) (hin : ∀ i, i < n → In (r i)) (hi : i < n) (h : fixedS (r i) = false) : fixedS (foldA r n) = false := by
  rw [Bool.eq_false_iff]
  intro hf
  obtain ⟨h1, h2⟩ := (fixedS_iff _).1 hf
  have hfl := (foldA_flags r n).2.2 h1 i hi
  have a := foldA_lo r n i hi
  have b := foldA_hi r n i hi
  have hl := (hin i hi).2.2.2.2 hfl
  have : fixedS (r i) = true := by rw [fixedS_iff]; exact ⟨hfl, by omega⟩
  rw [this] at h
  exact absurd h (by decide)
theorem foldA_two (r : Nat → Sp) (n i j : Nat) (hi : i < n) (hj : j < n) (h1 : fixedS (r i) = true) (h2 : fixedS (r j) = true) (hne : (r i).lo ≠ (r j).lo) : fixedS (foldA r n) = false := by
  rw [Bool.eq_false_iff]
  intro hf
  obtain ⟨_, h⟩ := (fixedS_iff _).1 hf
  have e1 := ((fixedS_iff _).1 h1).2
  have e2 := ((fixedS_iff _).1 h2).2
  have a := foldA_lo r n i hi
  have b := foldA_hi r n i hi
  have c := foldA_lo r n j hj
  have d := foldA_hi r n j hj
  omega
theorem foldA_one (r : Nat → Sp) : fixedS (foldA r 1) = fixedS (r 0) ∧ (foldA r 1).lo = (r 0).lo := by
  simp [foldA, altS, zero, fixedS]
end Go.Proofs.Qxb6601528a.Fx
