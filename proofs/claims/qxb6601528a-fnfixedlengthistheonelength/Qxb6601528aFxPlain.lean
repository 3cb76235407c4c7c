/- The plain mathematics of fixedLength against the span of lengths: no Go in sight. 'α': whatever names a node. -/
namespace Go.Proofs.Qxb6601528a.Fx

structure Nd (α : Type) where
  kind : Int
  sub : Option α
  sa : Option α
  len : Nat
  cap : Nat
  el : Nat → Option α
  mn : Int
  mx : Int
  asr : Int

structure Sp where
  lo : Int
  hi : Int
  inf : Bool
  big : Bool
  degen : Bool

def WF {α : Type} (G : α → Nd α) : Nat → Option α → Prop
  | 0, _ => False
  | _ + 1, none => False
  | f + 1, some a =>
    ((G a).kind = 3 → ∀ i, i < (G a).len → WF G f ((G a).el i)) ∧
    ((G a).kind = 4 → (G a).len ≠ 0 ∧ ∀ i, i < (G a).len → WF G f ((G a).el i)) ∧
    ((G a).kind = 11 → (G a).len = 2 ∧ ∀ i, i < (G a).len → WF G f ((G a).el i)) ∧
    ((G a).kind = 5 ∨ (G a).kind = 7 → WF G f (G a).sub) ∧
    ((G a).kind = 6 → 0 ≤ (G a).mn ∧ (0 ≤ (G a).mx → (G a).mn ≤ (G a).mx) ∧ WF G f (G a).sub)

def satA (a b : Int) : Int := if 1073741824 < a + b then 1073741825 else a + b
def satM (a b : Int) : Int := if a = 0 ∨ b = 0 then 0 else if 1073741824 < a ∨ 1073741824 < b then 1073741825 else if 1073741824 < a * b then 1073741825 else a * b
def zero : Sp := ⟨0, 0, false, false, false⟩
def open_ : Sp := ⟨0, 0, true, false, false⟩
def one : Sp := ⟨1, 1, false, false, false⟩
def addS (s t : Sp) : Sp := ⟨satA s.lo t.lo, satA s.hi t.hi, s.inf || t.inf, s.big || t.big, s.degen || t.degen⟩
def altS (k : Nat) (s t : Sp) : Sp := ⟨if k = 0 ∨ t.lo < s.lo then t.lo else s.lo, if k = 0 ∨ s.hi < t.hi then t.hi else s.hi, s.inf || t.inf, s.big || t.big, s.degen || t.degen⟩
def foldK (r : Nat → Sp) : Nat → Sp
  | 0 => zero
  | k + 1 => addS (foldK r k) (r k)
def foldA (r : Nat → Sp) : Nat → Sp
  | 0 => zero
  | k + 1 => altS k (foldA r k) (r k)
def fixedS (t : Sp) : Bool := !t.inf && t.lo == t.hi
def repHi (mx : Int) (t : Sp) : Int := if mx = 0 then 0 else if t.inf then 0 else if t.hi = 0 then 0 else if mx < 0 then 0 else satM mx t.hi
def repInf (mx : Int) (t : Sp) : Bool := if mx = 0 then false else if t.inf then true else if t.hi = 0 then false else if mx < 0 then true else false
def repDeg (mn mx : Int) (t : Sp) : Bool := t.degen || (mx == 0 && !fixedS t) || (!t.inf && t.hi == 0 && mn != mx)
def repS (mn mx : Int) (t : Sp) : Sp := ⟨satM mn t.lo, repHi mx t, repInf mx t, t.big, repDeg mn mx t⟩
def finS (s : Sp) : Sp := if 1073741824 < s.lo ∨ (s.inf = false ∧ 1073741824 < s.hi) then ⟨s.lo, s.hi, s.inf, true, s.degen⟩ else s

def rngF {α : Type} (G : α → Nd α) : Nat → Option α → Sp
  | 0, _ => open_
  | _ + 1, none => open_
  | f + 1, some a =>
    if (G a).kind = 1 ∨ (G a).kind = 2 then one
    else if (G a).kind = 0 ∨ (G a).kind = 9 ∨ (G a).kind = 8 then zero
    else if (G a).kind = 3 then finS (foldK (fun i => rngF G f ((G a).el i)) (G a).len)
    else if (G a).kind = 4 ∨ (G a).kind = 11 then finS (foldA (fun i => rngF G f ((G a).el i)) (G a).len)
    else if (G a).kind = 5 ∨ (G a).kind = 7 then rngF G f (G a).sub
    else if (G a).kind = 6 then finS (repS (G a).mn (G a).mx (rngF G f (G a).sub))
    else open_

/-- the bounds of a span -/
def In (s : Sp) : Prop := 0 ≤ s.lo ∧ s.lo ≤ 1073741825 ∧ 0 ≤ s.hi ∧ s.hi ≤ 1073741825 ∧ (s.inf = false → s.lo ≤ s.hi)

theorem satA_in {a b : Int} (_ha : 0 ≤ a) (_hb : 0 ≤ b) : 0 ≤ satA a b ∧ satA a b ≤ 1073741825 := by
  unfold satA; split <;> omega
theorem satA_mono {a b c d : Int} (h1 : a ≤ c) (h2 : b ≤ d) : satA a b ≤ satA c d := by
  unfold satA; split <;> split <;> omega
theorem satM_in {a b : Int} (ha : 0 ≤ a) (hb : 0 ≤ b) : 0 ≤ satM a b ∧ satM a b ≤ 1073741825 := by
  have := Int.mul_nonneg ha hb
  unfold satM
  split
  · omega
  · split
    · omega
    · split <;> omega
theorem satM_small {a b : Int} (_ha : 0 ≤ a) (_hb : 0 ≤ b) (h : satM a b ≤ 1073741824) : satM a b = a * b := by
  unfold satM at h ⊢
  split
  · rename_i h0; rcases h0 with h0 | h0 <;> simp [h0]
  · rename_i h0
    rw [if_neg h0] at h
    split
    · rename_i h1; rw [if_pos h1] at h; omega
    · rename_i h1
      rw [if_neg h1] at h
      split
      · rename_i h2; rw [if_pos h2] at h; omega
      · rfl

theorem satM_mono {a b c d : Int} (ha : 0 ≤ a) (hb : 0 ≤ b) (h1 : a ≤ c) (h2 : b ≤ d) : satM a b ≤ satM c d := by
  by_cases h : satM c d ≤ 1073741824
  · have hc : 0 ≤ c := by omega
    have hd : 0 ≤ d := by omega
    have e := satM_small hc hd h
    have hm : a * b ≤ c * d := Int.mul_le_mul h1 h2 hb hc
    have h0 : 0 ≤ a * b := Int.mul_nonneg ha hb
    rw [e] at h ⊢
    unfold satM
    split
    · omega
    · rename_i hz
      split
      · rename_i hbig
        exfalso
        have a1 : 1 ≤ a := by omega
        have b1 : 1 ≤ b := by omega
        have p1 : a * 1 ≤ a * b := Int.mul_le_mul_of_nonneg_left b1 ha
        have p2 : 1 * b ≤ a * b := Int.mul_le_mul_of_nonneg_right a1 hb
        omega
      · split <;> omega
  · have := satM_in ha hb
    have := satM_in (a := c) (b := d) (by omega) (by omega)
    omega

theorem foldK_in (r : Nat → Sp) : ∀ n, (∀ i, i < n → In (r i)) → In (foldK r n)
  | 0, _ => by simp [foldK, zero, In]
  | n + 1, h => by
    obtain ⟨a1, a2, a3, a4, a5⟩ := foldK_in r n (fun i hi => h i (by omega))
    obtain ⟨b1, b2, b3, b4, b5⟩ := h n (by omega)
    simp only [foldK, addS]
    refine ⟨(satA_in a1 b1).1, (satA_in a1 b1).2, (satA_in a3 b3).1, (satA_in a3 b3).2, fun hi => ?_⟩
    simp at hi
    exact satA_mono (a5 hi.1) (b5 hi.2)
theorem foldA_in (r : Nat → Sp) : ∀ n, (∀ i, i < n → In (r i)) → In (foldA r n)
  | 0, _ => by simp [foldA, zero, In]
  | n + 1, h => by
    obtain ⟨a1, a2, a3, a4, a5⟩ := foldA_in r n (fun i hi => h i (by omega))
    obtain ⟨b1, b2, b3, b4, b5⟩ := h n (by omega)
    simp only [foldA, altS]
    refine ⟨by dsimp only; split <;> omega, by dsimp only; split <;> omega, by dsimp only; split <;> omega, by dsimp only; split <;> omega, fun hi => ?_⟩
    simp at hi
    have c1 := a5 hi.1
    have c2 := b5 hi.2
    show (if n = 0 ∨ (r n).lo < (foldA r n).lo then (r n).lo else (foldA r n).lo) ≤ (if n = 0 ∨ (foldA r n).hi < (r n).hi then (r n).hi else (foldA r n).hi)
    split <;> split <;> omega
theorem finS_in {s : Sp} (h : In s) : In (finS s) := by
  unfold finS
  split
  · exact h
  · exact h

theorem repS_in {mn mx : Int} {t : Sp} (hm : 0 ≤ mn) (hx : 0 ≤ mx → mn ≤ mx) (h : In t) : In (repS mn mx t) := by
  obtain ⟨a1, a2, a3, a4, a5⟩ := h
  have m1 := satM_in hm a1
  have hhi : 0 ≤ repHi mx t ∧ repHi mx t ≤ 1073741825 := by
    unfold repHi
    split
    · omega
    · split
      · omega
      · split
        · omega
        · split
          · omega
          · exact satM_in (by omega) a3
  refine ⟨m1.1, m1.2, hhi.1, hhi.2, fun hi => ?_⟩
  show satM mn t.lo ≤ repHi mx t
  simp only [repS, repInf] at hi
  unfold repHi
  by_cases h0 : mx = 0
  · rw [if_pos h0]
    have : mn = 0 := by have := hx (by omega); omega
    subst this
    simp [satM]
  · rw [if_neg h0] at hi ⊢
    by_cases h1 : t.inf = true
    · rw [if_pos h1] at hi; simp at hi
    · rw [if_neg h1] at hi ⊢
      have hlh := a5 (by simpa using h1)
      by_cases h2 : t.hi = 0
      · rw [if_pos h2]
        have : t.lo = 0 := by omega
        simp [satM, this]
      · rw [if_neg h2] at hi ⊢
        by_cases h3 : mx < 0
        · rw [if_pos h3] at hi; simp at hi
        · rw [if_neg h3]
          exact satM_mono hm a1 (hx (by omega)) hlh

theorem rngF_in {α : Type} (G : α → Nd α) : ∀ f p, WF G f p → In (rngF G f p)
  | 0, _, h => by simp [WF] at h
  | _ + 1, none, h => by simp [WF] at h
  | f + 1, some a, h => by
    simp only [WF] at h
    obtain ⟨h3, h4, h11, h57, h6⟩ := h
    simp only [rngF]
    split
    · simp [one, In]
    · split
      · simp [zero, In]
      · split
        · rename_i k; exact finS_in (foldK_in _ _ (fun i hi => rngF_in G f _ (h3 k i hi)))
        · split
          · rename_i k
            refine finS_in (foldA_in _ _ (fun i hi => ?_))
            rcases k with k | k
            · exact rngF_in G f _ ((h4 k).2 i hi)
            · exact rngF_in G f _ ((h11 k).2 i hi)
          · split
            · rename_i k; exact rngF_in G f _ (h57 k)
            · split
              · rename_i k
                obtain ⟨q1, q2, q3⟩ := h6 k
                exact finS_in (repS_in q1 q2 (rngF_in G f _ q3))
              · simp [open_, In]

/-- what 'not big' says behind finS -/
theorem finS_nb {s : Sp} (h : (finS s).big = false) : finS s = s ∧ s.big = false ∧ s.lo ≤ 1073741824 ∧ (s.inf = false → s.hi ≤ 1073741824) := by
  unfold finS at h ⊢
  split
  · rename_i h1; rw [if_pos h1] at h; simp at h
  · rename_i h1
    rw [if_neg h1] at h
    refine ⟨rfl, h, by omega, fun hi => ?_⟩
    by_cases h2 : 1073741824 < s.hi
    · exact absurd (Or.inr ⟨hi, h2⟩) h1
    · omega

theorem foldK_flags (r : Nat → Sp) : ∀ n, ((foldK r n).big = false → ∀ i, i < n → (r i).big = false) ∧ ((foldK r n).degen = false → ∀ i, i < n → (r i).degen = false) ∧ ((foldK r n).inf = false → ∀ i, i < n → (r i).inf = false)
  | 0 => ⟨fun _ i hi => by omega, fun _ i hi => by omega, fun _ i hi => by omega⟩
  | n + 1 => by
    obtain ⟨a, b, c⟩ := foldK_flags r n
    simp only [foldK, addS, Bool.or_eq_false_iff]
    refine ⟨fun h i hi => ?_, fun h i hi => ?_, fun h i hi => ?_⟩
    all_goals by_cases e : i = n
    · subst e; exact h.2
    · exact a h.1 i (by omega)
    · subst e; exact h.2
    · exact b h.1 i (by omega)
    · subst e; exact h.2
    · exact c h.1 i (by omega)
theorem foldA_flags (r : Nat → Sp) : ∀ n, ((foldA r n).big = false → ∀ i, i < n → (r i).big = false) ∧ ((foldA r n).degen = false → ∀ i, i < n → (r i).degen = false) ∧ ((foldA r n).inf = false → ∀ i, i < n → (r i).inf = false)
  | 0 => ⟨fun _ i hi => by omega, fun _ i hi => by omega, fun _ i hi => by omega⟩
  | n + 1 => by
    obtain ⟨a, b, c⟩ := foldA_flags r n
    simp only [foldA, altS, Bool.or_eq_false_iff]
    refine ⟨fun h i hi => ?_, fun h i hi => ?_, fun h i hi => ?_⟩
    all_goals by_cases e : i = n
    · subst e; exact h.2
    · exact a h.1 i (by omega)
    · subst e; exact h.2
    · exact b h.1 i (by omega)
    · subst e; exact h.2
    · exact c h.1 i (by omega)

theorem foldK_inf (r : Nat → Sp) : ∀ n, (∀ i, i < n → (r i).inf = false) → (foldK r n).inf = false
  | 0, _ => rfl
  | n + 1, h => by
    simp only [foldK, addS, Bool.or_eq_false_iff]
    exact ⟨foldK_inf r n (fun i hi => h i (by omega)), h n (by omega)⟩
theorem foldA_inf (r : Nat → Sp) : ∀ n, (∀ i, i < n → (r i).inf = false) → (foldA r n).inf = false
  | 0, _ => rfl
  | n + 1, h => by
    simp only [foldA, altS, Bool.or_eq_false_iff]
    exact ⟨foldA_inf r n (fun i hi => h i (by omega)), h n (by omega)⟩

theorem foldK_step_lo (r : Nat → Sp) (n : Nat) (hin : ∀ i, i < n + 1 → In (r i)) (h : (foldK r (n + 1)).lo ≤ 1073741824) : (foldK r (n + 1)).lo = (foldK r n).lo + (r n).lo ∧ (foldK r n).lo ≤ 1073741824 := by
  have a := (foldK_in r n (fun i hi => hin i (by omega))).1
  have b := (hin n (by omega)).1
  simp only [foldK, addS, satA] at h ⊢
  split
  · rename_i h1; rw [if_pos h1] at h; omega
  · exact ⟨rfl, by omega⟩
theorem foldK_step_hi (r : Nat → Sp) (n : Nat) (hin : ∀ i, i < n + 1 → In (r i)) (h : (foldK r (n + 1)).hi ≤ 1073741824) : (foldK r (n + 1)).hi = (foldK r n).hi + (r n).hi ∧ (foldK r n).hi ≤ 1073741824 := by
  have a := (foldK_in r n (fun i hi => hin i (by omega))).2.2.1
  have b := (hin n (by omega)).2.2.1
  simp only [foldK, addS, satA] at h ⊢
  split
  · rename_i h1; rw [if_pos h1] at h; omega
  · exact ⟨rfl, by omega⟩

theorem foldK_lo_le (r : Nat → Sp) : ∀ n, (∀ i, i < n → In (r i)) → (foldK r n).lo ≤ 1073741824 → ∀ k, k ≤ n → (foldK r k).lo ≤ 1073741824
  | 0, _, h, k, hk => by obtain rfl : k = 0 := by omega
                         exact h
  | n + 1, hin, h, k, hk => by
    by_cases e : k = n + 1
    · subst e; exact h
    · exact foldK_lo_le r n (fun i hi => hin i (by omega)) (foldK_step_lo r n hin h).2 k (by omega)

/-- a sum of spans that are all one number is one number; and only then -/
theorem foldK_eq (r : Nat → Sp) : ∀ n, (∀ i, i < n → In (r i)) → (∀ i, i < n → (r i).lo = (r i).hi) → (foldK r n).lo = (foldK r n).hi
  | 0, _, _ => rfl
  | n + 1, hin, h => by
    have e := foldK_eq r n (fun i hi => hin i (by omega)) (fun i hi => h i (by omega))
    simp only [foldK, addS]
    rw [e, h n (by omega)]
theorem foldK_gap (r : Nat → Sp) : ∀ n, (∀ i, i < n → In (r i)) → (∀ i, i < n → (r i).inf = false) → (foldK r n).lo ≤ 1073741824 → (foldK r n).hi ≤ 1073741824 → ∀ i, i < n → (r i).hi - (r i).lo ≤ (foldK r n).hi - (foldK r n).lo
  | 0, _, _, _, _, i, hi => by omega
  | n + 1, hin, hf, h1, h2, i, hi => by
    obtain ⟨e1, l1⟩ := foldK_step_lo r n hin h1
    obtain ⟨e2, l2⟩ := foldK_step_hi r n hin h2
    have hn := (hin n (by omega)).2.2.2.2 (hf n (by omega))
    have hk := (foldK_in r n (fun i hi => hin i (by omega))).2.2.2.2 (foldK_inf r n (fun i hi => hf i (by omega)))
    by_cases e : i = n
    · subst e; omega
    · have := foldK_gap r n (fun i hi => hin i (by omega)) (fun i hi => hf i (by omega)) l1 l2 i (by omega)
      omega

theorem foldA_lo (r : Nat → Sp) : ∀ n i, i < n → (foldA r n).lo ≤ (r i).lo
  | 0, i, hi => by omega
  | n + 1, i, hi => by
    simp only [foldA, altS]
    by_cases e : i = n
    · subst e; split <;> omega
    · have := foldA_lo r n i (by omega)
      have hn : n ≠ 0 := by omega
      split
      · rename_i h; rcases h with h | h <;> omega
      · exact this
theorem foldA_hi (r : Nat → Sp) : ∀ n i, i < n → (r i).hi ≤ (foldA r n).hi
  | 0, i, hi => by omega
  | n + 1, i, hi => by
    simp only [foldA, altS]
    by_cases e : i = n
    · subst e; split <;> omega
    · have := foldA_hi r n i (by omega)
      have hn : n ≠ 0 := by omega
      split
      · rename_i h; rcases h with h | h <;> omega
      · exact this
theorem foldA_all (r : Nat → Sp) (x : Int) : ∀ n, 0 < n → (∀ i, i < n → (r i).lo = x ∧ (r i).hi = x) → (foldA r n).lo = x ∧ (foldA r n).hi = x
  | 0, h, _ => by omega
  | n + 1, _, h => by
    have hn := h n (by omega)
    simp only [foldA, altS]
    by_cases e : n = 0
    · rw [if_pos (Or.inl e), if_pos (Or.inl e)]; exact hn
    · have := foldA_all r x n (by omega) (fun i hi => h i (by omega))
      constructor <;> split <;> omega

theorem fixedS_iff (t : Sp) : fixedS t = true ↔ t.inf = false ∧ t.lo = t.hi := by
  unfold fixedS; simp
theorem fixedS_false (t : Sp) (h : ¬ (t.inf = false ∧ t.lo = t.hi)) : fixedS t = false := by
  rw [Bool.eq_false_iff]
  intro e
  exact h ((fixedS_iff t).1 e)

/-- a repeat is of one length just where its part is and its two counts are one -/
theorem rep_fixed {mn mx : Int} {t : Sp} (hm : 0 ≤ mn) (hx : 0 ≤ mx → mn ≤ mx) (hin : In t) (hb : (finS (repS mn mx t)).big = false) (hd : (finS (repS mn mx t)).degen = false) :
    t.big = false ∧ t.degen = false ∧ fixedS (finS (repS mn mx t)) = (fixedS t && mn == mx) ∧ ((fixedS t && mn == mx) = true → (finS (repS mn mx t)).lo = mn * t.lo ∧ mn * t.lo ≤ 1073741824) := by
  obtain ⟨e, hb', hlo, hhi⟩ := finS_nb hb
  rw [e] at hd ⊢
  obtain ⟨a1, a2, a3, a4, a5⟩ := hin
  have hbig : t.big = false := hb'
  have hdeg : repDeg mn mx t = false := hd
  unfold repDeg at hdeg
  simp only [Bool.or_eq_false_iff] at hdeg
  obtain ⟨⟨hd1, hd2⟩, hd3⟩ := hdeg
  have hlo' : satM mn t.lo ≤ 1073741824 := hlo
  have elo := satM_small hm a1 hlo'
  refine ⟨hbig, hd1, ?_, fun _ => ⟨elo, by omega⟩⟩
  have hhi' : repInf mx t = false → repHi mx t ≤ 1073741824 := hhi
  have efix : fixedS (repS mn mx t) = (!repInf mx t && mn * t.lo == repHi mx t) := by
    unfold fixedS
    show (!repInf mx t && satM mn t.lo == repHi mx t) = _
    rw [elo]
  rw [efix]
  by_cases h0 : mx = 0
  · have hmn : mn = 0 := by have := hx (by omega); omega
    subst hmn
    subst h0
    simp at hd2
    simp [repInf, repHi, hd2]
  · by_cases h1 : t.inf = true
    · have hf : fixedS t = false := by unfold fixedS; simp [h1]
      simp [repInf, h0, h1, hf]
    · have h1' : t.inf = false := by simpa using h1
      have hlh := a5 h1'
      by_cases h2 : t.hi = 0
      · have hl0 : t.lo = 0 := by omega
        simp [h1', h2] at hd3
        subst hd3
        simp [repInf, repHi, h0, h1', h2, hl0, fixedS]
      · by_cases h3 : mx < 0
        · have hne : (mn == mx) = false := by rw [beq_eq_false_iff_ne]; omega
          simp [repInf, h0, h1', h2, h3, hne]
        · have hri : repInf mx t = false := by simp [repInf, h0, h1', h2, h3]
          have hrh : repHi mx t = satM mx t.hi := by simp [repHi, h0, h1', h2, h3]
          have hsm := hhi' hri
          rw [hrh] at hsm
          have ehi := satM_small (by omega) a3 hsm
          rw [hri, hrh, ehi]
          have hmx := hx (by omega)
          have ef : fixedS t = (t.lo == t.hi) := by simp [fixedS, h1']
          rw [ef]
          rw [Bool.eq_iff_iff]
          simp
          constructor
          · intro h
            by_cases hc : mn = mx
            · subst hc
              refine ⟨?_, rfl⟩
              exact Int.eq_of_mul_eq_mul_left (by omega) h
            · exfalso
              have p1 : mn * t.lo ≤ mn * t.hi := Int.mul_le_mul_of_nonneg_left hlh hm
              have p2 : (mn + 1) * t.hi ≤ mx * t.hi := Int.mul_le_mul_of_nonneg_right (by omega) a3
              have p3 : (mn + 1) * t.hi = mn * t.hi + t.hi := by rw [Int.add_mul]; omega
              omega
          · rintro ⟨h1, h2⟩
            rw [h1, h2]

theorem wf_seq {α : Type} {G : α → Nd α} {f : Nat} {a : α} {n : Nd α} (hn : G a = n) (hk : n.kind = 3 ∨ (n.kind = 4 ∧ n.len ≠ 0) ∨ (n.kind = 11 ∧ n.len = 2)) (h : ∀ i, i < n.len → WF G f (n.el i)) : WF G (f + 1) (some a) := by
  simp only [WF]
  rw [hn]
  exact ⟨fun _ => h, fun k => ⟨by omega, h⟩, fun k => ⟨by omega, h⟩, fun k => by omega, fun k => by omega⟩
theorem wf_sub {α : Type} {G : α → Nd α} {f : Nat} {a : α} {n : Nd α} (hn : G a = n) (hk : n.kind = 5 ∨ n.kind = 7) (h : WF G f n.sub) : WF G (f + 1) (some a) := by
  simp only [WF]
  rw [hn]
  exact ⟨fun k => by omega, fun k => by omega, fun k => by omega, fun _ => h, fun k => by omega⟩
theorem wf_rep {α : Type} {G : α → Nd α} {f : Nat} {a : α} {n : Nd α} (hn : G a = n) (hk : n.kind = 6) (h0 : 0 ≤ n.mn) (h1 : 0 ≤ n.mx → n.mn ≤ n.mx) (h : WF G f n.sub) : WF G (f + 1) (some a) := by
  simp only [WF]
  rw [hn]
  exact ⟨fun k => by omega, fun k => by omega, fun k => by omega, fun k => by omega, fun _ => ⟨h0, h1, h⟩⟩
theorem wf_else {α : Type} {G : α → Nd α} {f : Nat} {a : α} {n : Nd α} (hn : G a = n) (h3 : n.kind ≠ 3) (h4 : n.kind ≠ 4) (h11 : n.kind ≠ 11) (h5 : n.kind ≠ 5) (h7 : n.kind ≠ 7) (h6 : n.kind ≠ 6) : WF G (f + 1) (some a) := by
  simp only [WF]
  rw [hn]
  exact ⟨fun k => by omega, fun k => by omega, fun k => by omega, fun k => by omega, fun k => by omega⟩
end Go.Proofs.Qxb6601528a.Fx
