import Derived.Test.Qxb6601963aStWithout
set_option linter.unusedVariables false
namespace Go.Proofs.Qxb6601963a.St
open Go.RowKit Go.Sort

def dW (z : Nat → Int) (len : Nat) (g : Int) : Array Int := ((List.range len).map z ++ [g]).toArray
theorem dW_size (z : Nat → Int) (len : Nat) (g : Int) : (dW z len g).size = len + 1 := by simp [dW]
theorem dW_get (z : Nat → Int) (len : Nat) (g : Int) (i : Nat) (h : i < len) : (dW z len g)[i]! = z i := by
  rw [getElem!_pos _ i (by rw [dW_size]; omega)]
  simp [dW, h]
theorem dW_last (z : Nat → Int) (len : Nat) (g : Int) : (dW z len g)[len]! = g := by
  rw [getElem!_pos _ len (by rw [dW_size]; omega)]
  simp [dW]
theorem dW_row (z : Nat → Int) (len : Nat) (g : Int) (i : Nat) (h : i < len + 1) : (words z len ++ [Value.int .u64 g])[i]? = some (.int .u64 (dW z len g)[i]!) := by
  by_cases e : i = len
  · rw [e, dW_last, List.getElem?_append_right (by rw [words_len]; exact Nat.le_refl _), words_len]; simp
  · rw [dW_get z len g i (by omega), List.getElem?_append_left (by rw [words_len]; omega), words_get z len i (by omega)]
theorem dW_inj (z : Nat → Int) (len : Nat) (g gen : Int) (hw : upB z gen len = true) (hno : hasB z len g = false) (i j : Nat) (hij : i < j) (hj : j < len + 1) : (dW z len g)[i]! ≠ (dW z len g)[j]! := by
  obtain ⟨_, w2⟩ := upB_spec z gen len hw
  by_cases e : j = len
  · rw [e, dW_last, dW_get z len g i (by omega)]
    intro h
    rw [hasB_yes z g len i (by omega) h] at hno
    cases hno
  · rw [dW_get z len g i (by omega), dW_get z len g j (by omega)]
    have := w2 i j hij (by omega)
    omega
theorem dW_mem (z : Nat → Int) (len : Nat) (g p : Int) : (∃ i, i < len + 1 ∧ (dW z len g)[i]! = p) ↔ p = g ∨ ∃ i, i < len ∧ z i = p := by
  constructor
  · rintro ⟨i, hi, e⟩
    by_cases h : i = len
    · rw [h, dW_last] at e; exact Or.inl e.symm
    · rw [dW_get z len g i (by omega)] at e; exact Or.inr ⟨i, by omega, e⟩
  · rintro (e | ⟨i, hi, e⟩)
    · exact ⟨len, by omega, by rw [dW_last]; exact e.symm⟩
    · exact ⟨i, by omega, by rw [dW_get z len g i hi]; exact e⟩

theorem own_ge {w : World} {base e size n : Nat} {v : Value} {xs : List Value} (h : w.ownsRow base e size v n xs) : ∀ k, v.ownBlock = some k → base ≤ k := by
  intro k hk
  rcases h.2 with ⟨rfl, _⟩ | ⟨g, cap, cur, rfl, hb, _⟩
  · cases hk
  · simp [Value.ownBlock] at hk; omega
theorem own_cap {w : World} {base e size n g cap : Nat} {xs : List Value} (h : w.ownsRow base e size (.slice (some ⟨g, 0, none⟩) n cap) n xs) : n ≤ cap ∧ cap ≤ maxLen := by
  rcases h.2 with ⟨h', _⟩ | ⟨g', cap', cur, h', _, hg, h1, h2, _⟩
  · simp at h'
  · simp only [Value.slice.injEq, Option.some.injEq, Addr.mk.injEq, and_true, true_and] at h'
    obtain ⟨rfl, rfl⟩ := h'
    exact ⟨h1, h2⟩
theorem IsW.same {w w' : World} {b off len cap : Nat} {z : Nat → Int} (h : IsW w (some ⟨b, off, none⟩) len cap z) (hb : w'.heap[b]? = w.heap[b]?) (hs : w.heap.size ≤ w'.heap.size) : IsW w' (some ⟨b, off, none⟩) len cap z :=
  ⟨h.le, h.capM, h.nil, h.rng, by
    rcases h.at_ with h0 | ⟨b', off', e, hl, hc⟩
    · exact Or.inl h0
    · refine Or.inr ⟨b', off', e, Nat.lt_of_lt_of_le hl hs, fun i hi => ?_⟩
      simp only [Option.some.injEq, Addr.mk.injEq] at e
      obtain ⟨rfl, rfl, _⟩ := e
      exact (World.cell?_of_block hb).trans (hc i hi)⟩
theorem IsW.set {w : World} {ad : Option Addr} {len cap : Nat} {z : Nat → Int} (h : IsW w ad len cap z) (q o : Nat) (v : Value) (hne : ∀ a, ad = some a → a.block ≠ q) : IsW (w.setCell ⟨q, o, none⟩ v) ad len cap z :=
  ⟨h.le, h.capM, h.nil, h.rng, by
    rcases h.at_ with h0 | ⟨b', off', e, hl, hc⟩
    · exact Or.inl h0
    · exact Or.inr ⟨b', off', e, by simpa using hl, fun i hi => (World.cell?_setCell_other w _ _ _ (fun e' => hne _ e (by simpa using (congrArg Addr.block e').symm))).trans (hc i hi)⟩⟩
theorem far_set5 {w : World} {q b : Nat} {v0 v1 v2 v3 v4 : Value} (h : b ≠ q) :
    (((((w.setCell ⟨q, 0, none⟩ v0).setCell ⟨q, 1, none⟩ v1).setCell ⟨q, 2, none⟩ v2).setCell ⟨q, 3, none⟩ v3).setCell ⟨q, 4, none⟩ v4).heap[b]? = w.heap[b]? := by
  rw [Below.heap_setCell _ _ _ _ h, Below.heap_setCell _ _ _ _ h, Below.heap_setCell _ _ _ _ h, Below.heap_setCell _ _ _ _ h, Below.heap_setCell _ _ _ _ h]
def sliceLen : Value → Nat
  | .slice _ n _ => n
  | _ => 0
theorem no_wrap (z : Nat → Int) (gen g : Int) (len k : Nat) (y : Nat → Int) (hw : upB z gen len = true) (hk : k < len + 1) (hy : ∀ i j, i < j → j < len + 1 → y i < y j)
    (hm : ∀ p, (∃ i, i < len + 1 ∧ y i = p) ↔ p = g ∨ ∃ i, i < len ∧ z i = p) (hz : ∀ i, i < len → z i ≤ 18446744073709551615) (ht : g ≤ 18446744073709551615)
    (hpre : ∀ i, i < k + 1 → y i = gen + i) (hgd : ¬ (g = gen ∧ gen + len = 18446744073709551615)) : gen + k + 1 ≤ 18446744073709551615 := by
  have hle : ∀ i, i < len + 1 → y i ≤ 18446744073709551615 := by
    intro i hi
    rcases (hm (y i)).1 ⟨i, hi, rfl⟩ with e | ⟨j, hj, e⟩
    · omega
    · have := hz j hj; omega
  have h1 := hle k hk
  rw [hpre k (by omega)] at h1
  rcases Int.lt_or_le (gen + k) 18446744073709551615 with h | h
  · omega
  · exfalso
    have hkl : k = len := by
      rcases Nat.lt_or_ge k len with h' | h'
      · have h2 := hy k (k + 1) (by omega) (by omega)
        have h3 := hle (k + 1) (by omega)
        rw [hpre k (by omega)] at h2
        omega
      · omega
    apply hgd
    refine ⟨?_, by omega⟩
    rcases (hm (y 0)).1 ⟨0, by omega, rfl⟩ with e | ⟨j, hj, e⟩
    · rw [hpre 0 (by omega)] at e; simp at e; omega
    · have := (upB_spec z gen len hw).1 j hj
      rw [hpre 0 (by omega)] at e
      simp at e
      omega

set_option maxRecDepth 100000 in
set_option maxHeartbeats 4000000 in
theorem without_new (v : ByteArray) (gen g : Int) (ad : Option Addr) (len cap : Nat) (z : Nat → Int) (w : World) (h : IsW w ad len cap z) (hl : len ≤ 131072) (hw : upB z gen len = true)
    (hg : gen ≤ g) (hno : hasB z len g = false) (h0 : 0 ≤ gen) (ht : g ≤ 18446744073709551615) (hgd : ¬ (g = gen ∧ gen + len = 18446744073709551615)) :
    Calls Try.prog 27 #[.agg #[.bool true, .string v, .int .u64 gen, .bool false, .slice ad len cap], .int .u64 g] w fun e w' => WPost w.heap.size v gen g len z w' e ∧ Below w.heap.size w w' := by
  have HB : Hid (Below w.heap.size w ((w.alloc (.cells #[.bool true, .string v, .int .u64 gen, .bool false, .slice ad len cap] 56)).alloc (.cells #[.bool false, .string ⟨#[]⟩, .int .u64 0, .bool false, .slice none 0 0] 56))) := ((Below.refl _ _).alloc (Nat.le_refl _) _).alloc (by simp) _
  have HRNG := hid h.rng
  have HH := hid (h.below HB.out)
  clear h
  have HA : Hid (((w.alloc (.cells #[.bool true, .string v, .int .u64 gen, .bool false, .slice ad len cap] 56)).alloc (.cells #[.bool false, .string ⟨#[]⟩, .int .u64 0, .bool false, .slice none 0 0] 56)).heap[w.heap.size]? = some (.cells #[.bool true, .string v, .int .u64 gen, .bool false, .slice ad len cap] 56 (0, 0))) := box_below w _ _
  have HR : Hid (((w.alloc (.cells #[.bool true, .string v, .int .u64 gen, .bool false, .slice ad len cap] 56)).alloc (.cells #[.bool false, .string ⟨#[]⟩, .int .u64 0, .bool false, .slice none 0 0] 56)).heap[w.heap.size + 1]? = some (.cells #[.bool false, .string ⟨#[]⟩, .int .u64 0, .bool false, .slice none 0 0] 56 (0, 0))) := box_above w _ _
  obtain ⟨i22, hi, hz0, hz1, hz2⟩ := info_parts Try.info22
  have HI := hid hi
  have HNO := hid hno
  have HW := hid hw
  have HGD := hid hgd
  clear hi hno hw hgd
  have hlt : ¬ g < gen := by omega
  go_enter Try.func27, Try.ntmps27
  go_upto_region 1 with fail
  generalize (w.alloc (.cells #[.bool true, .string v, .int .u64 gen, .bool false, .slice ad len cap] 56)).alloc (.cells #[.bool false, .string ⟨#[]⟩, .int .u64 0, .bool false, .slice none 0 0] 56) = w1 at HB HH HA HR
  obtain ⟨k0, k1, k2, k3, k4, _⟩ := five_cells HA.out
  go_wp2_with fail
  refine (contains_any ad len cap z g _ HH.out).mono ?_
  rintro e w2 ⟨rfl, rfl⟩
  rw [HNO.out]
  go_wp2_with fail
  refine (clone_any ad len cap z w2 HH.out (by omega)).mono ?_
  rintro e w3 ⟨⟨vv, rfl, ho3⟩, hb3⟩
  have HA3 := hid (block_later HA.out hb3)
  have HR3 := hid (block_later HR.out hb3)
  have HB3 : Hid (Below w.heap.size w w3) := HB.out.trans (hb3.mono HB.out.size)
  have HO3 := hid (ho3.alloc (.cells #[.int .u64 g] 22))
  have HB3w := hid hb3
  have hs3 := hb3.size
  clear hb3 ho3 k0 k1 k2 k3 k4
  go_wp2_with (at_builtin; refine wpList_append_own _ rfl (.tmp 20) (.tmp 22) 23 rfl w2.heap.size 22 i22 _ 1 8 Try.underlying23 HI.out hz0 hz1 hz2 rfl (by decide) vv len (words z len) rfl HO3.out ⟨w3.heap.size, 0, none⟩ 1 1 [.int .u64 g] rfl rfl (World.news_of_block (heap_alloc_new w3 _)) (by simp [Value.oneCell']) (by unfold maxLen; omega) (by omega) (by simp; omega) ?_; intro v4 w4 ho hg4 hx; clear hx; obtain ⟨b4, cap4, rfl, hlo4, hlt4⟩ := ho.form (by omega); have HO4 := hid ho; have HG4 := hid hg4; clear ho hg4)
  obtain ⟨hcap1, hcap2⟩ := own_cap HO4.out
  unfold maxLen at hcap2
  have HB4w : Hid (Below w2.heap.size w2 w4) := (HB3w.out.alloc hs3 _).grown HG4.out (by simp; omega) (own_ge HO3.out)
  have HA4 := hid (block_later HA.out HB4w.out)
  have HR4 := hid (block_later HR.out HB4w.out)
  have hrow4 : Holds (Value.int .u64) w4 b4 0 (dW z len g) := by
    intro j hj
    rw [dW_size] at hj
    rw [Nat.zero_add]
    exact ⟨(HO4.out.cellAt j (by omega)).trans (dW_row z len g j hj), HO4.out.frozenAt j⟩
  have hs := sort_any b4 0 cap4 (len + 1) (dW z len g) w4 hrow4 (dW_size z len g) (by omega)
  have HS := hid hs
  clear hs hrow4 HA3 HR3 HO3 HB3w HO4 HG4
  refine HS.out.mono ?_
  rintro e w5 ⟨rfl, d', hd', hperm, hsort⟩
  obtain ⟨hy, hm⟩ := row_facts (dW z len g) d' (len + 1) (dW_size z len g) hd'.size hperm hsort (dW_inj z len g gen HW.out HNO.out)
  obtain ⟨y, hyq⟩ : ∃ y : Nat → Int, ∀ i, y i = d'[i]! := ⟨fun i => d'[i]!, fun _ => rfl⟩
  have hy2 : ∀ i j, i < j → j < len + 1 → y i < y j := fun i j hij hj => by rw [hyq, hyq]; exact hy i j hij hj
  have hm2 : ∀ p, (∃ i, i < len + 1 ∧ y i = p) ↔ p = g ∨ ∃ i, i < len ∧ z i = p := fun p => by
    rw [← dW_mem z len g p, ← hm p]
    simp only [hyq]
  have hcy : ∀ i, i < len + 1 → w5.cell? ⟨b4, i, none⟩ = some (.int .u64 (y i)) := fun i hi => by
    have := (hd'.row i (by rw [hd'.size]; exact hi)).1
    rw [Nat.zero_add] at this
    rw [hyq]; exact this
  have HY := hid hy2
  have HM := hid hm2
  have HC := hid hcy
  have HB5w : Hid (Below w2.heap.size w2 w5) := HB4w.out.grown hd'.only HB4w.out.size (fun k hk => by simp at hk; omega)
  have HA5 := hid (block_later HA.out HB5w.out)
  have HR5 := hid (block_later HR.out HB5w.out)
  have HB5 : Hid (Below w.heap.size w w5) := HB.out.trans (HB5w.out.mono HB.out.size)
  have hb5 : b4 < w5.heap.size := Nat.lt_of_lt_of_le hlt4 hd'.only.size
  have hr1 : w.heap.size + 1 < w2.heap.size := by
    rcases Nat.lt_or_ge (w.heap.size + 1) w2.heap.size with h' | h'
    · exact h'
    · have := HR.out; simp [Array.getElem?_eq_none h'] at this
  clear hd' hperm hsort hy hm hyq hy2 hm2 hcy HS HB4w HA4 HR4
  obtain ⟨k0, k1, k2, k3, k4, _⟩ := five_cells HA5.out
  obtain ⟨r0, r1, r2, r3, r4, f0, f1, f2, f3, f4⟩ := five_cells HR5.out
  go_wp2_with fail
  go_loopw [5, 6] (fun v5 v6 wr => ∃ k o c n : Nat, k ≤ len + 1 ∧ v5 = .slice (some ⟨b4, o, none⟩) n c ∧ v6 = .int .u64 (gen + k) ∧ wr = w5 ∧ gen + (k : Int) ≤ 18446744073709551615 ∧ n ≤ c ∧ c ≤ 9223372036854775807 ∧ Hid (n = len + 1 - k ∧ (k < len + 1 → o = k)) ∧ Hid (∀ i, i < k → y i = gen + i)) (fun v5 _ _ => sliceLen v5)
  case atStart => exact ⟨0, 0, cap4, len + 1, by omega, by rfl, by simp, rfl, by omega, by omega, by omega, ⟨by omega, fun _ => rfl⟩, fun i hi => by omega⟩
  case round =>
    obtain ⟨k, o, c1, n1, hk, rfl, rfl, rfl, hgo, hnc, hcM, HN1, HPRE⟩ := hrel
    by_cases hkl : k < len + 1
    · have hn0 : 0 < n1 := by have := HN1.out.1; omega
      have hn0I : (0 : Int) < n1 := by omega
      obtain rfl : o = k := HN1.out.2 hkl
      have hck := HC.out o hkl
      by_cases he : y o = gen + o
      · have heI : (y o == gen + o) = true := by simpa using he
        have hpre : ∀ i, i < o + 1 → y i = gen + i := by
          intro i hi
          by_cases e : i = o
          · rw [e]; exact he
          · exact HPRE.out i (by omega)
        have hnw := no_wrap z gen g len o y HW.out hkl HY.out HM.out (fun i hi => (HRNG.out i hi).2) ht hpre HGD.out
        have HPR := hid hpre
        clear he hpre
        by_cases hc1 : c1 = 1
        · have hn1 : n1 = 1 := by omega
          have HC1 := hid (And.intro hc1 hn1)
          go_wp2_with fail
          go_roundw
          case rel =>
            have e1 := HC1.out.1
            have e2 := HC1.out.2
            have e3 := HN1.out.1
            subst e1
            subst e2
            exact ⟨o + 1, o, 0, 0, by omega, by simp, by simp; omega, by first | rfl | trivial, by omega, by omega, by omega, ⟨by omega, fun h => by omega⟩, HPR⟩
          case measure => simp [sliceLen]; omega
        · have HC1 := hid hc1
          go_wp2_with fail
          go_roundw
          case rel =>
            have e3 := HN1.out.1
            refine ⟨o + 1, o + 1, c1 - 1, n1 - 1, by omega, rfl, by simp; omega, by first | rfl | trivial, by omega, by omega, by omega, ⟨by omega, fun h => rfl⟩, HPR⟩
          case measure => simp [sliceLen]; omega
      · have heI : (y o == gen + o) = false := by simpa using he
        have HE := hid he
        clear he
        have hn0J : ¬ (n1 : Int) = 0 := by omega
        go_wp2_with fail
        have hst := strike z gen g len (len + 1) o y rfl (by omega) HW.out hg HY.out HM.out HPRE.out (fun _ => HE.out)
        have hisw : IsW wr (some ⟨b4, o, none⟩) n1 c1 (fun i => y (o + i)) := by
          refine ⟨hnc, by unfold maxLen; omega, (fun h => by cases h), fun i hi => ?_, Or.inr ⟨b4, o, rfl, hb5, fun i hi => HC.out (o + i) (by have := HN1.out.1; omega)⟩⟩
          have hi2 : o + i < len + 1 := by have := HN1.out.1; omega
          rcases (HM.out (y (o + i))).1 ⟨o + i, hi2, rfl⟩ with e | ⟨j, hj, e⟩
          · exact ⟨by omega, by omega⟩
          · have := HRNG.out j hj; exact ⟨by omega, by omega⟩
        have hnb : b4 ≠ w.heap.size + 1 := by omega
        exact bodyPost_ret (v := .agg #[.bool true, .string v, .int .u64 (gen + o), .bool false, .slice (some ⟨b4, o, none⟩) n1 c1]) (by simp [results, Try.results27, go_sem, r0, r1, r2, r3, r4]) rfl
          ⟨⟨gen + o, some ⟨b4, o, none⟩, n1, c1, (fun i => y (o + i)), rfl, hisw.same (far_set5 hnb) (by simp), (fun a ha => by have := HB.out.size; simp at ha; subst ha; simp; omega), by omega, hgo, by rw [HN1.out.1]; exact hst.1, fun p => by rw [HN1.out.1]; exact hst.2 p⟩,
            (((((HB5.out.setCell (by simp) _).setCell (by simp) _).setCell (by simp) _).setCell (by simp) _).setCell (by simp) _)⟩
    · obtain rfl : k = len + 1 := by omega
      have hn0 : n1 = 0 := by have := HN1.out.1; omega
      subst hn0
      go_wp2_with fail
      have hst := strike z gen g len (len + 1) (len + 1) y rfl (Nat.le_refl _) HW.out hg HY.out HM.out HPRE.out (fun h => by omega)
      rw [Nat.sub_self] at hst
      exact bodyPost_ret (v := .agg #[.bool true, .string v, .int .u64 (gen + ((len + 1 : Nat) : Int)), .bool false, .slice none 0 0]) (by simp [results, Try.results27, go_sem, r0, r1, r2, r3, r4]) rfl
        ⟨⟨gen + ((len + 1 : Nat) : Int), none, 0, 0, (fun i => y (len + 1 + i)), rfl, ⟨Nat.le_refl _, Nat.zero_le _, fun _ => rfl, fun i hi => by omega, Or.inl rfl⟩, (fun a ha => by cases ha), by omega, hgo, hst.1, hst.2⟩,
          (((((HB5.out.setCell (by simp) _).setCell (by simp) _).setCell (by simp) _).setCell (by simp) _).setCell (by simp) _)⟩
end Go.Proofs.Qxb6601963a.St
