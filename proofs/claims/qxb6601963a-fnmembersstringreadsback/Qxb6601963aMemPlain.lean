/- The plain mathematics of members.String and of the strict reader: no Go in sight. -/
namespace Go.Proofs.Qxb6601963a.MemW

def nmL : Nat → List UInt8
  | 0 => [101, 120, 112, 101, 99, 116]
  | 1 => [118, 97, 108, 117, 101]
  | 2 => [109, 111, 100, 101]
  | 3 => [111, 107]
  | 4 => [103, 101, 110, 101, 114, 97, 116, 105, 111, 110]
  | _ => [117, 110, 107, 110, 111, 119, 110]
def pick6 (a0 a1 a2 a3 a4 a5 : Bool) : Nat → Bool
  | 0 => a0
  | 1 => a1
  | 2 => a2
  | 3 => a3
  | 4 => a4
  | _ => a5
def acc (hs : Nat → Bool) : Nat → List UInt8
  | 0 => []
  | k + 1 => acc hs k ++ (if hs k then 32 :: nmL k else [])
def noneL : List UInt8 := [110, 111, 110, 101, 32, 111, 102, 32, 101, 120, 112, 101, 99, 116, 44, 32, 118, 97, 108, 117, 101, 44, 32, 109, 111, 100, 101, 44, 32, 111, 107, 44, 32, 103, 101, 110, 101, 114, 97, 116, 105, 111, 110, 32, 111, 114, 32, 117, 110, 107, 110, 111, 119, 110]
def outL (l : List UInt8) : List UInt8 := if l.length = 0 then noneL else l.tail

theorem nmL_le (k : Nat) : (nmL k).length ≤ 10 := by
  match k with
  | 0 => decide
  | 1 => decide
  | 2 => decide
  | 3 => decide
  | 4 => decide
  | (n + 5) => simp [nmL]
theorem nmL_ge (k : Nat) : 2 ≤ (nmL k).length := by
  match k with
  | 0 => decide
  | 1 => decide
  | 2 => decide
  | 3 => decide
  | 4 => decide
  | (n + 5) => simp [nmL]
theorem acc_ge (hs : Nat → Bool) : ∀ k, (acc hs k).length = 0 ∨ 2 ≤ (acc hs k).length
  | 0 => by simp [acc]
  | k + 1 => by
    have h := acc_ge hs k
    have hn := nmL_ge k
    simp only [acc, List.length_append]
    cases hs k <;> simp only [Bool.false_eq_true, if_false, if_true, List.length_nil, List.length_cons] <;> omega
theorem acc_le (hs : Nat → Bool) : ∀ k, (acc hs k).length ≤ 11 * k
  | 0 => by simp [acc]
  | k + 1 => by
    have := acc_le hs k
    have hn := nmL_le k
    simp only [acc, List.length_append]
    cases hs k <;> simp only [Bool.false_eq_true, if_false, if_true, List.length_nil, List.length_cons] <;> omega
theorem acc_true (hs : Nat → Bool) (k : Nat) (h : hs k = true) : acc hs (k + 1) = acc hs k ++ [32] ++ nmL k := by simp [acc, h]
theorem acc_false (hs : Nat → Bool) (k : Nat) (h : hs k = false) : acc hs (k + 1) = acc hs k := by simp [acc, h]

/-- the length of the first run without a blank -/
def runL : List UInt8 → Nat
  | [] => 0
  | c :: l => if c = 32 then 0 else runL l + 1
def endOf (l : List UInt8) (i : Nat) : Nat := i + runL (l.drop i)

theorem runL_unique : ∀ (l : List UInt8) (k : Nat), k ≤ l.length → (∀ j, j < k → l[j]? ≠ some 32) → (k = l.length ∨ l[k]? = some 32) → runL l = k
  | [], k, hk, _, _ => by simp at hk; subst hk; rfl
  | c :: l, 0, _, _, h => by
    rcases h with h | h
    · simp at h
    · simp at h; simp [runL, h]
  | c :: l, k + 1, hk, hj, h => by
    have h0 : c ≠ 32 := by have := hj 0 (by omega); simpa using this
    simp only [runL, if_neg h0]
    rw [runL_unique l k (by simpa using hk) (fun j h1 => by have := hj (j + 1) (by omega); simpa using this) (by simpa using h)]

theorem endOf_unique (l : List UInt8) (i e : Nat) (hi : i ≤ e) (he : e ≤ l.length) (hj : ∀ j, i ≤ j → j < e → l[j]? ≠ some 32) (h : e = l.length ∨ l[e]? = some 32) : endOf l i = e := by
  unfold endOf
  rw [runL_unique (l.drop i) (e - i) (by simp; omega) (fun j h1 => by rw [List.getElem?_drop]; exact hj _ (by omega) (by omega)) (by
    rcases h with h | h
    · left; simp; omega
    · right; rw [List.getElem?_drop]; rw [show i + (e - i) = e from by omega]; exact h)]
  omega

def tokOf (l : List UInt8) (a b : Nat) : List UInt8 := (l.drop a).take (b - a)

/-- the first name from n on (m names to try) that the token is -/
def idxOf (tok : List UInt8) : Nat → Nat → Option Nat
  | _, 0 => none
  | n, m + 1 => if tok = nmL n then some n else idxOf tok (n + 1) m

def parse (l : List UInt8) : Nat → Nat → Nat → List Bool → Bool × List Bool
  | 0, _, _, got => (false, got)
  | f + 1, st, nx, got =>
    match idxOf (tokOf l st (endOf l st)) nx (6 - nx) with
    | none => (false, got)
    | some i => if endOf l st = l.length then (true, got.set i true) else parse l f (endOf l st + 1) (i + 1) (got.set i true)

theorem idxOf_lt (tok : List UInt8) : ∀ (m n i : Nat), idxOf tok n m = some i → n ≤ i ∧ i < n + m
  | 0, _, _, h => by simp [idxOf] at h
  | m + 1, n, i, h => by
    simp only [idxOf] at h
    split at h
    · simp at h; omega
    · have := idxOf_lt tok m (n + 1) i h; omega

theorem parse_step (l : List UInt8) (f st nx : Nat) (got F : List Bool) (h : parse l f st nx got = (true, F)) :
    ∃ g q, idxOf (tokOf l st (endOf l st)) nx (6 - nx) = some q ∧ ((endOf l st = l.length ∧ got.set q true = F) ∨ (endOf l st ≠ l.length ∧ parse l g (endOf l st + 1) (q + 1) (got.set q true) = (true, F))) := by
  cases f with
  | zero => simp [parse] at h
  | succ g =>
    simp only [parse] at h
    cases hi : idxOf (tokOf l st (endOf l st)) nx (6 - nx) with
    | none => rw [hi] at h; simp at h
    | some q =>
      rw [hi] at h
      simp only at h
      refine ⟨g, q, rfl, ?_⟩
      by_cases he : endOf l st = l.length
      · rw [if_pos he] at h; simp at h; exact Or.inl ⟨he, h⟩
      · rw [if_neg he] at h; exact Or.inr ⟨he, h⟩

theorem idxOf_step (tok : List UInt8) (n q : Nat) (h : idxOf tok n (6 - n) = some q) : n < 6 ∧ ((tok = nmL n ∧ q = n) ∨ (tok ≠ nmL n ∧ idxOf tok (n + 1) (6 - (n + 1)) = some q)) := by
  by_cases hn : n < 6
  · refine ⟨hn, ?_⟩
    rw [show 6 - n = 5 - n + 1 from by omega] at h
    simp only [idxOf] at h
    by_cases ht : tok = nmL n
    · rw [if_pos ht] at h; simp at h; exact Or.inl ⟨ht, h.symm⟩
    · rw [if_neg ht] at h; rw [show 6 - (n + 1) = 5 - n from by omega]; exact Or.inr ⟨ht, h⟩
  · rw [show 6 - n = 0 from by omega] at h
    simp [idxOf] at h

theorem reads : ∀ a0 a1 a2 a3 a4 a5 : Bool,
    (outL (acc (pick6 a0 a1 a2 a3 a4 a5) 6) = noneL ∧ [a0, a1, a2, a3, a4, a5] = [false, false, false, false, false, false]) ∨
    (outL (acc (pick6 a0 a1 a2 a3 a4 a5) 6) ≠ noneL ∧ parse (outL (acc (pick6 a0 a1 a2 a3 a4 a5) 6)) 7 0 0 [false, false, false, false, false, false] = (true, [a0, a1, a2, a3, a4, a5])) := by
  decide +kernel
end Go.Proofs.Qxb6601963a.MemW
