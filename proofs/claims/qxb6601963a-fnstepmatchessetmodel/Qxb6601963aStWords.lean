import Derived.Test.Qxb6601963aStBase
set_option linter.unusedVariables false
namespace Go.Proofs.Qxb6601963a.St
open Go.RowKit

/-- a slice of words, read by an index function -/
structure IsW (w : World) (ad : Option Addr) (len cap : Nat) (z : Nat → Int) : Prop where
  le : len ≤ cap
  capM : cap ≤ maxLen
  nil : ad = none → len = 0
  rng : ∀ i, i < len → 0 ≤ z i ∧ z i ≤ 18446744073709551615
  at_ : len = 0 ∨ ∃ b off, ad = some ⟨b, off, none⟩ ∧ b < w.heap.size ∧ ∀ i, i < len → w.cell? ⟨b, off + i, none⟩ = some (.int .u64 (z i))

theorem IsW.below {w w' : World} {ad : Option Addr} {len cap : Nat} {z : Nat → Int} (h : IsW w ad len cap z) (hb : Below w.heap.size w w') : IsW w' ad len cap z :=
  ⟨h.le, h.capM, h.nil, h.rng, by
    rcases h.at_ with h0 | ⟨b, off, e, hl, hc⟩
    · exact Or.inl h0
    · exact Or.inr ⟨b, off, e, Nat.lt_of_lt_of_le hl hb.size, fun i hi => (hb.cell (by exact hl)).trans (hc i hi)⟩⟩

def hasB (z : Nat → Int) : Nat → Int → Bool
  | 0, _ => false
  | n + 1, x => hasB z n x || z n == x
theorem hasB_iff (z : Nat → Int) (x : Int) : ∀ n, hasB z n x = true ↔ ∃ i, i < n ∧ z i = x
  | 0 => by simp [hasB]
  | n + 1 => by
    rw [hasB, Bool.or_eq_true, hasB_iff z x n]
    constructor
    · rintro (⟨i, h1, h2⟩ | h)
      · exact ⟨i, by omega, h2⟩
      · exact ⟨n, by omega, by simpa using h⟩
    · rintro ⟨i, h1, h2⟩
      by_cases e : i = n
      · subst e; right; simpa using h2
      · left; exact ⟨i, by omega, h2⟩
theorem hasB_no (z : Nat → Int) (x : Int) (n : Nat) (h : ∀ i, i < n → z i ≠ x) : hasB z n x = false := by
  cases e : hasB z n x with
  | false => rfl
  | true => obtain ⟨i, h1, h2⟩ := (hasB_iff z x n).1 e; exact absurd h2 (h i h1)
theorem hasB_yes (z : Nat → Int) (x : Int) (n i : Nat) (hi : i < n) (h : z i = x) : hasB z n x = true := (hasB_iff z x n).2 ⟨i, hi, h⟩

set_option maxHeartbeats 1000000 in
theorem has_any (ad : Option Addr) (len cap : Nat) (z : Nat → Int) (x : Int) (w : World) (h : IsW w ad len cap z) :
    Calls Try.prog 17 #[.slice ad len cap, .int .u64 x] w fun e w' => e = .returned (.bool (hasB z len x)) ∧ w' = w := by
  have hlen : len ≤ maxLen := Nat.le_trans h.le h.capM
  unfold maxLen at hlen
  have HH := hid h
  clear h
  go_enter Try.func17, Try.ntmps17
  go_wp2_with fail
  go_loopw [5] (fun v wr => ∃ k : Nat, v = .int .i64 k ∧ k ≤ len ∧ wr = w ∧ Hid (∀ t, t < k → z t ≠ x)) (fun v _ => len - (intOf v).toNat)
  case atStart => exact ⟨0, rfl, Nat.zero_le _, rfl, fun t ht => by omega⟩
  case round =>
    obtain ⟨k, rfl, hk, rfl, HN⟩ := hrel
    by_cases hlt : k < len
    · have hltI : (k : Int) < len := by omega
      rcases HH.out.at_ with h0 | ⟨b, off, rfl, hbl, hcs⟩
      · omega
      have hck := hcs k hlt
      clear hcs
      by_cases he : z k = x
      · have heI : (z k == x) = true := by simpa using he
        have HE := hid he
        clear he
        go_wp2_with fail
        go_ret
        exact ⟨by rw [hasB_yes z x len k hlt HE.out]; rfl, rfl⟩
      · have heI : (z k == x) = false := by simpa using he
        have HE := hid he
        go_wp2_with fail
        go_roundw
        case rel =>
          refine ⟨k + 1, by go_num, by omega, by first | rfl | trivial, fun t ht => ?_⟩
          by_cases e : t = k
          · subst e; exact HE.out
          · exact HN.out t (by omega)
        case measure => simp [intOf]; omega
    · have hltI : ¬ (k : Int) < len := by omega
      obtain rfl : k = len := by omega
      go_wp2_with fail
      go_ret
      exact ⟨by rw [hasB_no z x k HN.out]; rfl, rfl⟩

set_option maxHeartbeats 1000000 in
theorem index_any (ad : Option Addr) (len cap : Nat) (z : Nat → Int) (x : Int) (w : World) (h : IsW w ad len cap z) :
    Calls Try.prog 31 #[.slice ad len cap, .int .u64 x] w fun e w' => (∃ r : Int, e = .returned (.int .i64 r) ∧ (hasB z len x = true → 0 ≤ r) ∧ (hasB z len x = false → r = -1)) ∧ w' = w := by
  have hlen : len ≤ maxLen := Nat.le_trans h.le h.capM
  unfold maxLen at hlen
  have HH := hid h
  clear h
  go_enter Try.func31, Try.ntmps31
  go_wp2_with fail
  go_loopw [8] (fun v wr => ∃ k : Nat, v = .int .i64 k ∧ k ≤ len ∧ wr = w ∧ Hid (∀ t, t < k → z t ≠ x)) (fun v _ => len - (intOf v).toNat)
  case atStart => exact ⟨0, rfl, Nat.zero_le _, rfl, fun t ht => by omega⟩
  case round =>
    obtain ⟨k, rfl, hk, rfl, HN⟩ := hrel
    by_cases hlt : k < len
    · have hltI : (k : Int) < len := by omega
      rcases HH.out.at_ with h0 | ⟨b, off, rfl, hbl, hcs⟩
      · omega
      have hck := hcs k hlt
      clear hcs
      by_cases he : z k = x
      · have heI : (x == z k) = true := by simpa using he.symm
        have HE := hid he
        clear he
        go_wp2_with fail
        go_ret
        exact ⟨⟨_, rfl, fun _ => by omega, fun h => by rw [hasB_yes z x len k hlt HE.out] at h; cases h⟩, rfl⟩
      · have heI : (x == z k) = false := by simpa using fun e => he e.symm
        have HE := hid he
        clear he
        go_wp2_with fail
        go_roundw
        case rel =>
          refine ⟨k + 1, by go_num, by omega, by first | rfl | trivial, fun t ht => ?_⟩
          by_cases e : t = k
          · subst e; exact HE.out
          · exact HN.out t (by omega)
        case measure => simp [intOf]; omega
    · have hltI : ¬ (k : Int) < len := by omega
      obtain rfl : k = len := by omega
      go_wp2_with fail
      go_ret
      exact ⟨⟨-1, rfl, fun (h : hasB z k x = true) => absurd h (by rw [hasB_no z x k HN.out]; simp), fun _ => rfl⟩, rfl⟩

set_option maxHeartbeats 1000000 in
theorem contains_any (ad : Option Addr) (len cap : Nat) (z : Nat → Int) (x : Int) (w : World) (h : IsW w ad len cap z) :
    Calls Try.prog 28 #[.slice ad len cap, .int .u64 x] w fun e w' => e = .returned (.bool (hasB z len x)) ∧ w' = w := by
  have HH := hid h
  clear h
  go_enter Try.func28, Try.ntmps28
  go_wp2_with fail
  refine (index_any ad len cap z x w HH.out).mono ?_
  rintro e w1 ⟨⟨r, rfl, h1, h2⟩, rfl⟩
  cases hb : hasB z len x with
  | true =>
    have hr := h1 hb
    have HBq := hid hb
    clear h1 h2 hb
    go_wp2_with fail
    go_ret
    exact ⟨by rw [HBq.out]; rfl, rfl⟩
  | false =>
    have hr := h2 hb
    have HBq := hid hb
    clear h1 h2 hb
    subst hr
    go_wp2_with fail
    go_ret
    exact ⟨by rw [HBq.out]; rfl, rfl⟩

def admB (kn ex : Bool) (gen : Int) (z : Nat → Int) (len : Nat) (g : Int) : Bool := !kn || (if ex then gen == g else decide (gen ≤ g) && !hasB z len g)

set_option maxHeartbeats 1000000 in
theorem adm_any (kn ex : Bool) (gen g : Int) (ad : Option Addr) (len cap : Nat) (z : Nat → Int) (w : World) (h : IsW w ad len cap z) :
    Calls Try.prog 10 #[.bool kn, .bool ex, .int .u64 gen, .slice ad len cap, .int .u64 g] w fun e w' => e = .returned (.bool (admB kn ex gen z len g)) ∧ w' = w := by
  have HH := hid h
  clear h
  cases kn with
  | false =>
    go_enter Try.func10, Try.ntmps10
    go_wp2_with fail
    go_ret
    exact ⟨rfl, rfl⟩
  | true =>
    cases ex with
    | true =>
      go_enter Try.func10, Try.ntmps10
      go_wp2_with fail
      go_ret
      exact ⟨by simp [admB, Bool.beq_comm], rfl⟩
    | false =>
      by_cases hg : gen ≤ g
      · go_enter Try.func10, Try.ntmps10
        go_wp2_with fail
        refine (has_any ad len cap z g w HH.out).mono ?_
        rintro e w1 ⟨rfl, rfl⟩
        go_wp2_with fail
        go_ret
        exact ⟨by simp [admB, hg], rfl⟩
      · go_enter Try.func10, Try.ntmps10
        go_wp2_with fail
        go_ret
        exact ⟨by simp [admB]; omega, rfl⟩

/-- the first n words ascend, all above gen -/
def upB (z : Nat → Int) (gen : Int) : Nat → Bool
  | 0 => true
  | n + 1 => upB z gen n && decide ((if n = 0 then gen else z (n - 1)) < z n)
theorem upB_down (z : Nat → Int) (gen : Int) (n m : Nat) (h : upB z gen m = true) (hn : n ≤ m) : upB z gen n = true := by
  induction m with
  | zero => obtain rfl : n = 0 := by omega
            exact h
  | succ m ih =>
    by_cases e : n = m + 1
    · rw [e]; exact h
    · rw [upB, Bool.and_eq_true] at h
      exact ih h.1 (by omega)
theorem upB_false (z : Nat → Int) (gen : Int) (n m : Nat) (h : upB z gen n = false) (hn : n ≤ m) : upB z gen m = false := by
  cases e : upB z gen m with
  | false => rfl
  | true => rw [upB_down z gen n m e hn] at h; cases h
def wellB (kn ex : Bool) (gen : Int) (len : Nat) (z : Nat → Int) : Bool := !kn || (if ex then decide (len = 0) else upB z gen len)

set_option maxHeartbeats 1000000 in
theorem well_any (kn ex : Bool) (gen : Int) (ad : Option Addr) (len cap : Nat) (z : Nat → Int) (w : World) (h : IsW w ad len cap z) :
    Calls Try.prog 7 #[.bool kn, .bool ex, .int .u64 gen, .slice ad len cap] w fun e w' => e = .returned (.bool (wellB kn ex gen len z)) ∧ w' = w := by
  have hlen : len ≤ maxLen := Nat.le_trans h.le h.capM
  unfold maxLen at hlen
  have HH := hid h
  clear h
  cases kn with
  | false =>
    go_enter Try.func7, Try.ntmps7
    go_wp2_with fail
    go_ret
    exact ⟨rfl, rfl⟩
  | true =>
    cases ex with
    | true =>
      go_enter Try.func7, Try.ntmps7
      go_wp2_with fail
      go_ret
      refine ⟨?_, rfl⟩
      have e : ((len : Int) == 0) = decide (len = 0) := by
        by_cases h0 : len = 0
        · subst h0; rfl
        · simp [h0]
      simp [wellB, e]
    | false =>
      have hw : wellB true false gen len z = upB z gen len := rfl
      rw [hw]
      clear hw
      go_enter Try.func7, Try.ntmps7
      go_wp2_with fail
      go_loopw [9, 10] (fun vp v wr => ∃ (k : Nat) (pr : Int), vp = .int .u64 pr ∧ v = .int .i64 k ∧ k ≤ len ∧ wr = w ∧ Hid (upB z gen k = true ∧ pr = if k = 0 then gen else z (k - 1))) (fun _ v _ => len - (intOf v).toNat)
      case atStart => exact ⟨0, gen, rfl, rfl, Nat.zero_le _, rfl, rfl, rfl⟩
      case round =>
        obtain ⟨k, pr, rfl, rfl, hk, rfl, HU⟩ := hrel
        by_cases hlt : k < len
        · have hltI : (k : Int) < len := by omega
          rcases HH.out.at_ with h0 | ⟨b, off, rfl, hbl, hcs⟩
          · omega
          have hck := hcs k hlt
          clear hcs
          by_cases he : z k ≤ pr
          · have HE := hid he
            go_wp2_with fail
            go_ret
            have hf : upB z gen (k + 1) = false := by
              rw [upB, HU.out.1, ← HU.out.2]
              simp; omega
            exact ⟨by rw [upB_false z gen (k + 1) len hf (by omega)]; rfl, rfl⟩
          · have HE := hid he
            go_wp2_with fail
            go_roundw
            case rel =>
              refine ⟨k + 1, z k, rfl, by go_num, by omega, by first | rfl | trivial, ?_, by simp⟩
              rw [upB, HU.out.1, ← HU.out.2]
              simp; omega
            case measure => simp [intOf]; omega
        · have hltI : ¬ (k : Int) < len := by omega
          obtain rfl : k = len := by omega
          go_wp2_with fail
          go_ret
          exact ⟨by rw [HU.out.1]; rfl, rfl⟩

set_option maxHeartbeats 1000000 in
theorem others_any (gen : Int) (ad : Option Addr) (len cap : Nat) (w : World) (h0 : 0 ≤ gen) (h1 : gen ≤ 18446744073709551615) (hlen : len ≤ 1048576) :
    Calls Try.prog 8 #[.int .u64 gen, .slice ad len cap] w fun e w' => e = .returned (.int .u64 ((18446744073709551615 - gen - len) % 18446744073709551616)) ∧ w' = w := by
  go_enter Try.func8, Try.ntmps8
  go_wp2_with fail
  go_ret
  refine ⟨?_, rfl⟩
  first | rfl | (simp [IntKind.wrap_u64])

theorem Try.info22 : (Try.prog.info? 22).map (fun i => (i.zero, i.size, i.bytes)) = some (some (.int .u64 0), 1, 8) := by kernel_rfl

/-- nil, or a new slice with the same words -/
def CopyPost (B : Nat) (ad : Option Addr) (len : Nat) (z : Nat → Int) (w : World) (e : Ending) : Prop :=
  ∃ ad' cap', e = .returned (.slice ad' len cap') ∧ (ad' = none ↔ ad = none) ∧ (∀ a, ad' = some a → B ≤ a.block) ∧ IsW w ad' len cap' z

set_option maxHeartbeats 1000000 in
theorem copy_any (ad : Option Addr) (len cap : Nat) (z : Nat → Int) (w : World) (h : IsW w ad len cap z) (hl : len ≤ 1048576) :
    Calls Try.prog 9 #[.slice ad len cap] w fun e w' => CopyPost w.heap.size ad len z w' e ∧ Below w.heap.size w w' := by
  have HH := hid h
  clear h
  have hnl := fun w => Lib.run_eql_slice_nil (P := Try.prog) w 23 22 ad len cap 0 0 Try.underlying23
  cases ad with
  | none =>
    obtain rfl := HH.out.nil rfl
    simp only [Option.isNone] at hnl
    go_enter Try.func9, Try.ntmps9
    go_wp2
    go_ret
    exact ⟨⟨none, 0, rfl, Iff.rfl, (fun a ha => by cases ha), Nat.le_refl _, Nat.zero_le _, fun _ => rfl, fun i hi => by omega, Or.inl rfl⟩, Below.refl _ _⟩
  | some ad =>
    obtain ⟨i9, hi, hz0, hz1, hz2⟩ := info_parts Try.info22
    have HI := hid hi
    clear hi
    simp only [Option.isNone] at hnl
    go_enter Try.func9, Try.ntmps9
    go_wp2_with (at_make; refine wpList_make_full _ rfl (.tmp 8) (.tmp 8) 23 rfl w.heap.size 22 i9 (.int .u64 0) 1 Try.underlying23 HI.out hz0 hz1 .i64 .i64 _ _ len rfl rfl rfl rfl (by rw [hz2]; omega) (by unfold maxLen; omega) (Nat.le_refl _) ?_; intro w1 ho1 hg1; have HO1 := hid ho1; have HG1 := hid hg1; clear ho1 hg1)
    have HB0 : Hid (Below w.heap.size w w1) := (Below.refl _ _).grown HG1.out (Nat.le_refl _) (fun k hk => by cases hk)
    clear hnl HG1 HI hz0 hz1 hz2
    go_loopw [4] (fun i wr => ∃ (k : Nat) (xs : List Value), k ≤ len ∧ i = .int .i64 k ∧ Hid (wr.ownsRow w.heap.size 22 1 (.slice (some ⟨w.heap.size, 0, none⟩) len len) len xs) ∧ Hid (Below w.heap.size w wr) ∧ Hid (∀ t, t < k → xs[t]? = some (.int .u64 (z t)))) (fun i _ => len - (intOf i).toNat)
    case atStart => exact ⟨0, _, Nat.zero_le _, rfl, HO1, HB0, fun t ht => by omega⟩
    case round =>
      obtain ⟨k, xs, hk, rfl, HO, HB, HX⟩ := hrel
      clear HO1 HB0
      by_cases hlt : k < len
      · rcases (HH.out.below HB.out).at_ with h0 | ⟨b, off, e, hbl, hc⟩
        · omega
        · obtain rfl : ad = ⟨b, off, none⟩ := by simpa using e
          have hcl := hc k hlt
          have hlt' : (k : Int) < len := by omega
          have hxl : xs.length = len * 1 := HO.out.1
          obtain ⟨u, hu⟩ : ∃ u, xs[k]? = some u := ⟨_, List.getElem?_eq_getElem (by omega)⟩
          have hcy : wr.cell? ⟨w.heap.size, k, none⟩ = some u := (HO.out.cellAt k (by omega)).trans hu
          have hfy : wr.frozen? ⟨w.heap.size, k, none⟩ = false := HO.out.frozenAt k
          have HXL := hid hxl
          clear hxl hu hc
          go_wp2
          go_roundw
          case rel =>
            refine ⟨k + 1, _, by omega, by go_num, (HO.out.stored _ _).1, HB.out.setCell (Nat.le_refl _) _, fun t ht => ?_⟩
            by_cases e : t = k
            · subst e; rw [List.getElem?_set_self (by have := HXL.out; omega)]
            · rw [List.getElem?_set_ne (by omega)]; exact HX.out t (by omega)
          case measure => simp [intOf]; omega
      · obtain rfl : k = len := by omega
        go_wp2
        go_ret
        refine ⟨⟨some ⟨w.heap.size, 0, none⟩, k, rfl, by simp, (fun a ha => by simp at ha; subst ha; simp), Nat.le_refl _, by unfold maxLen; omega, (fun h => by cases h), HH.out.rng, ?_⟩, HB.out⟩
        by_cases h0 : k = 0
        · exact Or.inl h0
        · refine Or.inr ⟨w.heap.size, 0, rfl, ?_, fun i hi => ?_⟩
          · have hxl : xs.length = k * 1 := HO.out.1
            exact World.block_lt_of_cell? wr ⟨w.heap.size, 0, none⟩ ((HO.out.cellAt 0 (by omega)).trans (HX.out 0 (by omega)))
          · rw [Nat.zero_add]; exact (HO.out.cellAt i (by omega)).trans (HX.out i hi)
end Go.Proofs.Qxb6601963a.St
