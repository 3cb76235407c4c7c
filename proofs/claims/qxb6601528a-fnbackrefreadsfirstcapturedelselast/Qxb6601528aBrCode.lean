import Derived.Test.Qxb6601528aBrEmit
set_option linter.unusedVariables false
namespace Go.Proofs.Qxb6601528a.Br
open Go.RowKit

/-- instruction t of a program whose cells are xs -/
def Ins (xs : List Value) (t : Nat) (op : Int) (fold : Bool) (x y : Int) : Prop := ∀ c, c < 9 → xs[t * 9 + c]? = (instL op fold x y)[c]?

theorem Ins.app {xs ys : List Value} {t : Nat} {op : Int} {fold : Bool} {x y : Int} (h : Ins xs t op fold x y) (hl : t * 9 + 9 ≤ xs.length) : Ins (xs ++ ys) t op fold x y := fun c hc => by
  rw [List.getElem?_append_left (by omega)]; exact h c hc
theorem Ins.new {xs : List Value} {t : Nat} {op : Int} {fold : Bool} {x y : Int} (hl : xs.length = t * 9) : Ins (xs ++ instL op fold x y) t op fold x y := fun c hc => by
  rw [List.getElem?_append_right (by omega)]
  congr 1
  omega
theorem Ins.setY {xs : List Value} {t : Nat} {op : Int} {fold : Bool} {x y y' : Int} (h : Ins xs t op fold x y) (hl : t * 9 + 9 ≤ xs.length) : Ins (xs.set (t * 9 + 7) (.int .i64 y')) t op fold x y' := fun c hc => by
  by_cases e : c = 7
  · subst e; rw [List.getElem?_set_self (by omega)]; rfl
  · rw [List.getElem?_set_ne (by omega), h c hc]
    match c, hc, e with
    | 0, _, _ => rfl
    | 1, _, _ => rfl
    | 2, _, _ => rfl
    | 3, _, _ => rfl
    | 4, _, _ => rfl
    | 5, _, _ => rfl
    | 6, _, _ => rfl
    | 8, _, _ => rfl
theorem Ins.setX {xs : List Value} {t : Nat} {op : Int} {fold : Bool} {x y x' : Int} (h : Ins xs t op fold x y) (hl : t * 9 + 9 ≤ xs.length) : Ins (xs.set (t * 9 + 6) (.int .i64 x')) t op fold x' y := fun c hc => by
  by_cases e : c = 6
  · subst e; rw [List.getElem?_set_self (by omega)]; rfl
  · rw [List.getElem?_set_ne (by omega), h c hc]
    match c, hc, e with
    | 0, _, _ => rfl
    | 1, _, _ => rfl
    | 2, _, _ => rfl
    | 3, _, _ => rfl
    | 4, _, _ => rfl
    | 5, _, _ => rfl
    | 7, _, _ => rfl
    | 8, _, _ => rfl
theorem Ins.setO {xs : List Value} {t t' d : Nat} {op : Int} {fold : Bool} {x y : Int} {v : Value} (h : Ins xs t op fold x y) (hne : t' ≠ t) (hd : d < 9) : Ins (xs.set (t' * 9 + d) v) t op fold x y := fun c hc => by
  rw [List.getElem?_set_ne (by omega)]; exact h c hc

/-- the code of the first j groups, their jumps to jx -/
def Code (xs : List Value) (s : Nat) (z : Nat → Int) (fold : Bool) (jx : Nat → Int) (j : Nat) : Prop :=
  ∀ i, i < j → Ins xs (s + 3 * i) 16 false (z i) ((s + 3 * i + 3 : Nat) : Int) ∧ Ins xs (s + 3 * i + 1) 8 fold (z i) 0 ∧ Ins xs (s + 3 * i + 2) 5 false (jx i) 0

theorem Code.round {xs : List Value} {s j : Nat} {z : Nat → Int} {fold : Bool} (h : Code xs s z fold (fun _ => 0) j) (hl : xs.length = (s + 3 * j) * 9) :
    Code ((((xs ++ instL 16 false (z j) 0) ++ instL 8 fold (z j) 0) ++ instL 5 false 0 0).set ((s + 3 * j) * 9 + 7) (.int .i64 ((s + 3 * j + 3 : Nat) : Int))) s z fold (fun _ => 0) (j + 1) := by
  have l1 : (instL 16 false (z j) 0).length = 9 := rfl
  have l2 : (instL 8 fold (z j) 0).length = 9 := rfl
  have l3 : (instL 5 false 0 0).length = 9 := rfl
  intro i hi
  by_cases e : i = j
  · subst e
    refine ⟨?_, ?_, ?_⟩
    · exact (((Ins.new hl).app (by simp only [List.length_append, l1]; omega)).app (by simp only [List.length_append, l1, l2]; omega)).setY (by simp only [List.length_append, l1, l2, l3]; omega)
    · exact ((Ins.new (by simp only [List.length_append, l1]; omega)).app (by simp only [List.length_append, l1, l2]; omega)).setO (by omega) (by omega)
    · exact (Ins.new (by simp only [List.length_append, l1, l2]; omega)).setO (by omega) (by omega)
  · obtain ⟨h1, h2, h3⟩ := h i (by omega)
    refine ⟨?_, ?_, ?_⟩
    · exact (((h1.app (by omega)).app (by simp only [List.length_append, l1]; omega)).app (by simp only [List.length_append, l1, l2]; omega)).setO (by omega) (by omega)
    · exact (((h2.app (by omega)).app (by simp only [List.length_append, l1]; omega)).app (by simp only [List.length_append, l1, l2]; omega)).setO (by omega) (by omega)
    · exact (((h3.app (by omega)).app (by simp only [List.length_append, l1]; omega)).app (by simp only [List.length_append, l1, l2]; omega)).setO (by omega) (by omega)

theorem Code.last {xs : List Value} {s j : Nat} {z : Nat → Int} {fold : Bool} {jx : Nat → Int} (h : Code xs s z fold jx j) (hl : xs.length = (s + 3 * j) * 9) (ys : List Value) : Code (xs ++ ys) s z fold jx j := fun i hi => by
  obtain ⟨h1, h2, h3⟩ := h i hi
  exact ⟨h1.app (by omega), h2.app (by omega), h3.app (by omega)⟩

theorem Code.patch {xs : List Value} {s j r : Nat} {z : Nat → Int} {fold : Bool} {E : Int} (h : Code xs s z fold (fun i => if i < r then E else 0) j) (hr : r < j) (hl : (s + 3 * j) * 9 ≤ xs.length) :
    Code (xs.set ((s + 3 * r + 2) * 9 + 6) (.int .i64 E)) s z fold (fun i => if i < r + 1 then E else 0) j := fun i hi => by
  obtain ⟨h1, h2, h3⟩ := h i hi
  refine ⟨h1.setO (by omega) (by omega), h2.setO (by omega) (by omega), ?_⟩
  by_cases e : i = r
  · subst e
    have := h3.setX (x' := E) (by omega)
    simp only [if_pos (Nat.lt_succ_self i)]
    exact this
  · have h4 := h3.setO (t' := s + 3 * r + 2) (d := 6) (v := .int .i64 E) (by omega) (by omega)
    have e2 : (if i < r + 1 then E else 0) = (if i < r then E else 0) := by
      by_cases h5 : i < r
      · rw [if_pos h5, if_pos (by omega)]
      · rw [if_neg h5, if_neg (by omega)]
    simp only [e2]
    exact h4

theorem Prg.set {w : World} {gC g n cap B : Nat} {nr : Int} {xs : List Value} (h : Prg w gC g n cap B nr xs) (i : Nat) (v : Value) : Prg (w.setCell ⟨g, i, none⟩ v) gC g n cap B nr (xs.set i v) := by
  refine ⟨?_, (h.own.stored i v).1, by simpa [World.setCell] using h.bnd⟩
  show (w.setCell ⟨g, i, none⟩ v).heap[gC]? = _
  rw [Below.heap_setCell _ _ _ _ h.ne]
  exact h.cmp

/-- what all but the compiler and its program say: a block of another type than theirs stays -/
theorem Prg.far {w : World} {gC g n cap B : Nat} {nr : Int} {xs : List Value} (h : Prg w gC g n cap B nr xs) {k : Nat} {cur : Array Value} {t : TypeId} {fr : Nat × Nat} (hk : w.heap[k]? = some (.cells cur t fr)) (h61 : t ≠ 61) (h53 : t ≠ 53) : k ≠ gC ∧ k ≠ g := by
  constructor
  · intro e
    have hc := h.cmp
    unfold Cmp at hc
    rw [← e, hk] at hc
    simp at hc
    exact h61 hc.2.1
  · intro e
    obtain ⟨_, h2⟩ := h.own
    rcases h2 with ⟨e1, _⟩ | ⟨g', cap', cur', e1, _, e3, _⟩
    · simp at e1
    · simp at e1
      rw [← e1.1, ← e, hk] at e3
      simp at e3
      exact h53 e3.2.1
theorem Chg.keep {w w' : World} {gC g n cap B : Nat} {nr : Int} {xs : List Value} (hc : Chg w w' gC g) (h : Prg w gC g n cap B nr xs) {k : Nat} {cur : Array Value} {t : TypeId} {fr : Nat × Nat} (hk : w.heap[k]? = some (.cells cur t fr)) (h61 : t ≠ 61) (h53 : t ≠ 53) : w'.heap[k]? = some (.cells cur t fr) := by
  obtain ⟨a, b⟩ := h.far hk h61 h53
  rw [hc.block k (gt_of hk) a b]
  exact hk
theorem Chg.below {w w' : World} {gC g n cap B : Nat} {nr : Int} {xs : List Value} (hc : Chg w w' gC g) (h : Prg w gC g n cap B nr xs) (hB : B ≤ gC) : Below B w w' := by
  have hg := (h.own.lt g rfl).1
  exact ⟨hc.os, hc.tape, hc.output, hc.size, fun k hk => hc.block k (by have := h.bnd; omega) (by omega) (by omega)⟩
theorem Chg.owns {w w' : World} {gC g n cap B : Nat} {nr : Int} {xs : List Value} (hc : Chg w w' gC g) (h : Prg w gC g n cap B nr xs) {J : Nat} {v : Value} {m : Nat} {ys : List Value} (hy : w.ownsRow J 3 1 v m ys) : w'.ownsRow J 3 1 v m ys := by
  obtain ⟨h1, h2⟩ := hy
  refine ⟨h1, ?_⟩
  rcases h2 with h2 | ⟨g', cap', cur', e1, e2, e3, e4⟩
  · exact Or.inl h2
  · exact Or.inr ⟨g', cap', cur', e1, e2, hc.keep h e3 (by decide) (by decide), e4⟩
theorem Prg.grown {w w' : World} {gC g n cap B J : Nat} {nr : Int} {xs : List Value} (h : Prg w gC g n cap B nr xs) {v : Value} {m : Nat} {ys : List Value} (hy : w.ownsRow J 3 1 v m ys) (hg : w.grownBy w' v.ownBlock) : Prg w' gC g n cap B nr xs := by
  have hrow : ∀ (k : Nat) (cur : Array Value) (t : TypeId) (fr : Nat × Nat), w.heap[k]? = some (Obj.cells cur t fr) → t ≠ 3 → w'.heap[k]? = some (Obj.cells cur t fr) := by
    intro k cur t fr hk ht
    rw [hg.block k (gt_of hk) (by
      intro e
      obtain ⟨_, h2⟩ := hy
      rcases h2 with ⟨e1, _⟩ | ⟨g', cap', cur', e1, _, e3, _⟩
      · subst e1; simp [Value.ownBlock] at e
      · subst e1
        simp [Value.ownBlock] at e
        subst e
        rw [hk] at e3
        simp at e3
        exact ht e3.2.1)]
    exact hk
  refine ⟨hrow _ _ _ _ h.cmp (by decide), ?_, Nat.le_trans h.bnd hg.size⟩
  obtain ⟨h1, h2⟩ := h.own
  refine ⟨h1, ?_⟩
  rcases h2 with h2 | ⟨g', cap', cur', e1, e2, e3, e4⟩
  · exact Or.inl h2
  · exact Or.inr ⟨g', cap', cur', e1, e2, hrow _ _ _ _ e3 (by decide), e4⟩
theorem Prg.later {w w' : World} {gC g n cap B : Nat} {nr : Int} {xs : List Value} (h : Prg w gC g n cap B nr xs) (hb : Below w.heap.size w w') : Prg w' gC g n cap B nr xs := by
  refine ⟨?_, ?_, Nat.le_trans h.bnd hb.size⟩
  · show w'.heap[gC]? = _
    rw [hb.block gC (gt_of h.cmp)]
    exact h.cmp
  · obtain ⟨h1, h2⟩ := h.own
    refine ⟨h1, ?_⟩
    rcases h2 with h2 | ⟨g', cap', cur', e1, e2, e3, e4⟩
    · exact Or.inl h2
    · exact Or.inr ⟨g', cap', cur', e1, e2, by rw [hb.block g' (gt_of e3)]; exact e3, e4⟩
theorem Prg.alloc {w : World} {gC g n cap B : Nat} {nr : Int} {xs : List Value} (h : Prg w gC g n cap B nr xs) (o : Obj) : Prg (w.alloc o) gC g n cap B nr xs := h.later ((Below.refl _ _).alloc (Nat.le_refl _) _)
theorem Prg.drewN {w : World} {gC g n cap B : Nat} {nr : Int} {xs : List Value} (h : Prg w gC g n cap B nr xs) (m : Nat) : Prg (w.drewN m) gC g n cap B nr xs := h.later ⟨rfl, rfl, rfl, Nat.le_refl _, fun _ _ => rfl⟩
theorem grown_block {w w' : World} {J : Nat} {v : Value} {m : Nat} {ys : List Value} (hy : w.ownsRow J 3 1 v m ys) (hg : w.grownBy w' v.ownBlock) {k : Nat} {o : Obj} (hk : w.heap[k]? = some o) (hkJ : k < J) : w'.heap[k]? = some o := by
  rw [hg.block k (gt_of hk) (by intro e; have := (hy.lt k e.symm).1; omega)]
  exact hk
theorem owns_far {w : World} {J g i m : Nat} {v u : Value} {ys : List Value} {gC n cap B : Nat} {nr : Int} {xs : List Value} (h : Prg w gC g n cap B nr xs) (hy : w.ownsRow J 3 1 v m ys) : (w.setCell ⟨g, i, none⟩ u).ownsRow J 3 1 v m ys := by
  obtain ⟨h1, h2⟩ := hy
  refine ⟨h1, ?_⟩
  rcases h2 with h2 | ⟨g', cap', cur', e1, e2, e3, e4⟩
  · exact Or.inl h2
  · refine Or.inr ⟨g', cap', cur', e1, e2, ?_, e4⟩
    rw [Below.heap_setCell _ _ _ _ (h.far e3 (by decide) (by decide)).2]
    exact e3
end Go.Proofs.Qxb6601528a.Br
