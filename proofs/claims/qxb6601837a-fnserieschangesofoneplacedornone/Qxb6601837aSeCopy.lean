import Derived.Test.Qxb6601837aSeBase
import Derived.Deep.CutRange
set_option linter.unusedVariables false
namespace Go.Proofs.Qxb6601837a.Se
open Go.RowKit

theorem Try.info9 : (Try.prog.info? 9).map (fun i => (i.zero, i.size, i.bytes)) = some (some (.string ⟨#[]⟩), 1, 16) := by kernel_rfl
theorem Try.info82 : (Try.prog.info? 82).map (fun i => (i.zero, i.size, i.bytes)) = some (some (.agg #[.string ⟨#[]⟩, .string ⟨#[]⟩]), 2, 32) := by kernel_rfl

def SlicePost (e : Ending) : Prop := ∃ a n c, e = .returned (.slice a n c)

set_option maxHeartbeats 1000000 in
theorem clone_any (ad : Option Addr) (len cap : Nat) (w : World) (h : IsStrs w ad len cap) (hl : len ≤ 1048576) :
    Calls Try.prog 12 #[.slice ad len cap] w fun e w' => SlicePost e ∧ Below w.heap.size w w' := by
  have HH := hid h
  clear h
  have hnl := fun w => Lib.run_eql_slice_nil (P := Try.prog) w 23 9 ad len cap 0 0 Try.underlying23
  cases ad with
  | none =>
    simp only [Option.isNone] at hnl
    go_enter Try.func12, Try.ntmps12
    go_wp2
    go_ret
    exact ⟨⟨_, _, _, rfl⟩, Below.refl _ _⟩
  | some ad =>
    obtain ⟨i9, hi, hz0, hz1, hz2⟩ := info_parts Try.info9
    have HI := hid hi
    clear hi
    simp only [Option.isNone] at hnl
    go_enter Try.func12, Try.ntmps12
    go_wp2_with (at_make; refine wpList_make_full _ rfl (.tmp 8) (.tmp 8) 23 rfl w.heap.size 9 i9 (.string ⟨#[]⟩) 1 Try.underlying23 HI.out hz0 hz1 .i64 .i64 _ _ len rfl rfl rfl rfl (by rw [hz2]; omega) (by unfold maxLen; omega) (Nat.le_refl _) ?_; intro w1 ho1 hg1; have HO1 := hid ho1; have HG1 := hid hg1; clear ho1 hg1)
    have HB0 : Hid (Below w.heap.size w w1) := (Below.refl _ _).grown HG1.out (Nat.le_refl _) (fun k hk => by cases hk)
    clear hnl HG1 HI hz0 hz1 hz2
    go_loopw [4] (fun i wr => ∃ (k : Nat) (xs : List Value), k ≤ len ∧ i = .int .i64 k ∧ Hid (wr.ownsRow w.heap.size 9 1 (.slice (some ⟨w.heap.size, 0, none⟩) len len) len xs) ∧ Hid (Below w.heap.size w wr)) (fun i _ => len - (intOf i).toNat)
    case atStart => exact ⟨0, _, Nat.zero_le _, rfl, HO1, HB0⟩
    case round =>
      obtain ⟨k, xs, hk, rfl, HO, HB⟩ := hrel
      clear HO1 HB0
      by_cases hlt : k < len
      · rcases (HH.out.below HB.out).2.2 with h0 | ⟨b, off, e, hbl, hc⟩
        · omega
        · obtain rfl : ad = ⟨b, off, none⟩ := by simpa using e
          obtain ⟨s, _, hcl⟩ := hc k hlt
          have hlt' : (k : Int) < len := by omega
          have hxl : xs.length = len * 1 := HO.out.1
          obtain ⟨u, hu⟩ : ∃ u, xs[k]? = some u := ⟨_, List.getElem?_eq_getElem (by omega)⟩
          have hcy : wr.cell? ⟨w.heap.size, k, none⟩ = some u := (HO.out.cellAt k (by omega)).trans hu
          have hfy : wr.frozen? ⟨w.heap.size, k, none⟩ = false := HO.out.frozenAt k
          clear hxl hu hc
          go_wp2
          go_roundw
          case rel => exact ⟨k + 1, _, by omega, by go_num, (HO.out.stored _ _).1, HB.out.setCell (Nat.le_refl _) _⟩
          case measure => simp [intOf]; omega
      · obtain rfl : k = len := by omega
        go_wp2
        go_ret
        exact ⟨⟨_, _, _, rfl⟩, HB.out⟩

theorem box_below (w : World) (o o' : Obj) : ((w.alloc o).alloc o').heap[w.heap.size]? = some o := by
  have hb : Below (w.alloc o).heap.size (w.alloc o) ((w.alloc o).alloc o') := (Below.refl _ _).alloc (Nat.le_refl _) _
  rw [hb.block _ (by simp)]
  exact heap_alloc_new w o
theorem box_above (w : World) (o o' : Obj) : ((w.alloc o).alloc o').heap[w.heap.size + 1]? = some o' := by
  have h := heap_alloc_new (w.alloc o) o'
  have e : (w.alloc o).heap.size = w.heap.size + 1 := by simp
  rw [e] at h
  exact h
theorem block_later {w w' : World} {b : Nat} {o : Obj} (h : w.heap[b]? = some o) (hb : Below w.drew.heap.size w.drew w') : w'.heap[b]? = some o := by
  have hl : b < w.heap.size := by
    rcases Nat.lt_or_ge b w.heap.size with h' | h'
    · exact h'
    · simp [Array.getElem?_eq_none h'] at h
  rw [hb.block b (by exact hl)]
  exact h
theorem block_later' {w w' : World} {b : Nat} {o : Obj} (h : w.heap[b]? = some o) (hb : Below w.heap.size w w') : w'.heap[b]? = some o := by
  have hl : b < w.heap.size := by
    rcases Nat.lt_or_ge b w.heap.size with h' | h'
    · exact h'
    · simp [Array.getElem?_eq_none h'] at h
  rw [hb.block b hl]
  exact h
theorem box_cells {w : World} {b : Nat} {x0 x1 x2 x3 x4 : Value} {t : TypeId} (h : w.heap[b]? = some (.cells #[x0, x1, x2, x3, x4] t (0, 0))) :
    w.cell? ⟨b, 0, none⟩ = some x0 ∧ w.cell? ⟨b, 1, none⟩ = some x1 ∧ w.cell? ⟨b, 2, none⟩ = some x2 ∧ w.cell? ⟨b, 3, none⟩ = some x3 := by
  simp [World.cell?, h]
theorem res_cells {w : World} {b : Nat} {x0 x1 x2 x3 x4 x5 : Value} {t : TypeId} (h : w.heap[b]? = some (.cells #[x0, x1, x2, x3, x4, x5] t (0, 0))) :
    w.cell? ⟨b, 0, none⟩ = some x0 ∧ w.cell? ⟨b, 1, none⟩ = some x1 ∧ w.cell? ⟨b, 2, none⟩ = some x2 ∧ w.cell? ⟨b, 3, none⟩ = some x3 ∧ w.cell? ⟨b, 4, none⟩ = some x4 ∧ w.cell? ⟨b, 5, none⟩ = some x5 ∧
    w.frozen? ⟨b, 0, none⟩ = false ∧ w.frozen? ⟨b, 1, none⟩ = false ∧ w.frozen? ⟨b, 2, none⟩ = false ∧ w.frozen? ⟨b, 3, none⟩ = false ∧ w.frozen? ⟨b, 4, none⟩ = false ∧ w.frozen? ⟨b, 5, none⟩ = false := by
  simp [World.cell?, World.frozen?, h]

/-- a commit as zzCommit makes it: the strings are kept, the slices are whatever they are -/
def CommitPost (h tr ms : ByteArray) (e : Ending) : Prop :=
  ∃ a n c a' n' c', e = .returned (.agg #[.string h, .slice a n c, .string tr, .string ms, .slice a' n' c', .string ⟨#[]⟩])

set_option maxRecDepth 100000 in
set_option maxHeartbeats 2000000 in
theorem commit_any (h tr ms : ByteArray) (pa ta : Option Addr) (lp cp lt ct : Nat) (w : World) (hP : IsStrs w pa lp cp) (hT : IsTrs w ta lt ct) (hlp : lp ≤ 1048576) (hlt : lt ≤ 1048576) :
    Calls Try.prog 36 #[.agg #[.string h, .slice pa lp cp, .string tr, .string ms, .slice ta lt ct]] w fun e w' => CommitPost h tr ms e ∧ Below w.heap.size w w' := by
  have HP := hid hP
  have HT := hid hT
  clear hP hT
  have hnl := fun w => run_neq_slice_nil_any (P := Try.prog) w 49 75 ta lt ct 0 0 Try.underlying49
  cases ta with
  | none =>
    simp only [Option.isNone, Bool.not_true] at hnl
    go_enter Try.func36, Try.ntmps36
    go_wp2_with fail
    have HA : Hid (((w.alloc (.cells #[.string h, .slice pa lp cp, .string tr, .string ms, .slice none lt ct] 51)).alloc (.cells #[.string ⟨#[]⟩, .slice none 0 0, .string ⟨#[]⟩, .string ⟨#[]⟩, .slice none 0 0, .string ⟨#[]⟩] 32)).heap[w.heap.size]? = some (.cells #[.string h, .slice pa lp cp, .string tr, .string ms, .slice none lt ct] 51 (0, 0))) := box_below w _ _
    have HR : Hid (((w.alloc (.cells #[.string h, .slice pa lp cp, .string tr, .string ms, .slice none lt ct] 51)).alloc (.cells #[.string ⟨#[]⟩, .slice none 0 0, .string ⟨#[]⟩, .string ⟨#[]⟩, .slice none 0 0, .string ⟨#[]⟩] 32)).heap[w.heap.size + 1]? = some (.cells #[.string ⟨#[]⟩, .slice none 0 0, .string ⟨#[]⟩, .string ⟨#[]⟩, .slice none 0 0, .string ⟨#[]⟩] 32 (0, 0))) := box_above w _ _
    have HB : Hid (Below w.heap.size w ((w.alloc (.cells #[.string h, .slice pa lp cp, .string tr, .string ms, .slice none lt ct] 51)).alloc (.cells #[.string ⟨#[]⟩, .slice none 0 0, .string ⟨#[]⟩, .string ⟨#[]⟩, .slice none 0 0, .string ⟨#[]⟩] 32))) := ((Below.refl _ _).alloc (Nat.le_refl _) _).alloc (by simp) _
    generalize (w.alloc (.cells #[.string h, .slice pa lp cp, .string tr, .string ms, .slice none lt ct] 51)).alloc (.cells #[.string ⟨#[]⟩, .slice none 0 0, .string ⟨#[]⟩, .string ⟨#[]⟩, .slice none 0 0, .string ⟨#[]⟩] 32) = w1 at HA HR HB
    obtain ⟨k0, k1, k2, k3⟩ := box_cells HA.out
    clear hnl
    go_region_held3 (fun w' => w'.cell? ⟨w.heap.size, 0, none⟩ = some (.string h) ∧ w'.cell? ⟨w.heap.size, 1, none⟩ = some (.slice pa lp cp) ∧ w'.cell? ⟨w.heap.size, 2, none⟩ = some (.string tr) ∧ w'.cell? ⟨w.heap.size, 3, none⟩ = some (.string ms)) (go_keep)
      ((first | (go_at_call 12; refine (clone_any pa lp cp _ (HP.out.below (HB.out.drew)) hlp).mono ?_; rintro e w5 ⟨⟨a, n, c, rfl⟩, hb5⟩; have HA5 := hid (block_later HA.out hb5); have HR5 := hid (block_later HR.out hb5); obtain ⟨e0, e1, e2, e3⟩ := box_cells HA5.out; obtain ⟨r0, r1, r2, r3, r4, r5, f0, f1, f2, f3, f4, f5⟩ := res_cells HR5.out; have HB5 := hid ((HB.out.drew).trans (hb5.mono HB.out.size)); clear hb5)))
    clear HA HR HA5 HR5
    go_wp2_with fail
    exact bodyPost_ret (v := .agg #[.string h, .slice a n c, .string tr, .string ms, .slice none 0 0, .string ⟨#[]⟩]) (by simp [results, Try.results36, go_sem, r0, r1, r2, r3, r4, r5]) rfl ⟨⟨a, n, c, none, 0, 0, rfl⟩, (((((HB5.out.setCell (by simp) _).setCell (by simp) _).setCell (by simp) _).setCell (by simp) _).setCell (by simp) _).setCell (by simp) _⟩
  | some ta =>
    simp only [Option.isNone, Bool.not_false] at hnl
    obtain ⟨i82, hi, hz0, hz1, hz2⟩ := info_parts Try.info82
    have HI := hid hi
    clear hi
    go_enter Try.func36, Try.ntmps36
    go_upto_region 3 with fail
    have HA0 : Hid (((w.alloc (.cells #[.string h, .slice pa lp cp, .string tr, .string ms, .slice (some ta) lt ct] 51)).alloc (.cells #[.string ⟨#[]⟩, .slice none 0 0, .string ⟨#[]⟩, .string ⟨#[]⟩, .slice none 0 0, .string ⟨#[]⟩] 32)).heap[w.heap.size]? = some (.cells #[.string h, .slice pa lp cp, .string tr, .string ms, .slice (some ta) lt ct] 51 (0, 0))) := box_below w _ _
    have HR0 : Hid (((w.alloc (.cells #[.string h, .slice pa lp cp, .string tr, .string ms, .slice (some ta) lt ct] 51)).alloc (.cells #[.string ⟨#[]⟩, .slice none 0 0, .string ⟨#[]⟩, .string ⟨#[]⟩, .slice none 0 0, .string ⟨#[]⟩] 32)).heap[w.heap.size + 1]? = some (.cells #[.string ⟨#[]⟩, .slice none 0 0, .string ⟨#[]⟩, .string ⟨#[]⟩, .slice none 0 0, .string ⟨#[]⟩] 32 (0, 0))) := box_above w _ _
    have HB0 : Hid (Below w.heap.size w ((w.alloc (.cells #[.string h, .slice pa lp cp, .string tr, .string ms, .slice (some ta) lt ct] 51)).alloc (.cells #[.string ⟨#[]⟩, .slice none 0 0, .string ⟨#[]⟩, .string ⟨#[]⟩, .slice none 0 0, .string ⟨#[]⟩] 32))) := ((Below.refl _ _).alloc (Nat.le_refl _) _).alloc (by simp) _
    generalize (w.alloc (.cells #[.string h, .slice pa lp cp, .string tr, .string ms, .slice (some ta) lt ct] 51)).alloc (.cells #[.string ⟨#[]⟩, .slice none 0 0, .string ⟨#[]⟩, .string ⟨#[]⟩, .slice none 0 0, .string ⟨#[]⟩] 32) = w1 at HA0 HR0 HB0
    have k4 : w1.cell? ⟨w.heap.size, 4, none⟩ = some (.slice (some ta) lt ct) := by have := HA0.out; simp [World.cell?, this]
    clear hnl
    go_wp2_with (at_make; refine wpList_make_full _ rfl (.tmp 10) (.tmp 10) 30 rfl w1.heap.size 82 i82 (.agg #[.string ⟨#[]⟩, .string ⟨#[]⟩]) 2 Try.underlying30 HI.out hz0 hz1 .i64 .i64 _ _ lt rfl rfl rfl rfl (by rw [hz2]; omega) (by unfold maxLen; omega) (Nat.le_refl _) ?_; intro w2 ho2 hg2; have HO2 := hid ho2; have HG2 := hid hg2; clear ho2 hg2)
    have HB2 : Hid (Below w1.heap.size w1 w2) := (Below.refl _ _).grown HG2.out (Nat.le_refl _) (fun k hk => by cases hk)
    clear HG2 HI hz0 hz1 hz2
    go_loopw [4] (fun i wr => ∃ (k : Nat) (xs : List Value), k ≤ lt ∧ i = .int .i64 k ∧ Hid (wr.ownsRow w1.heap.size 82 2 (.slice (some ⟨w1.heap.size, 0, none⟩) lt lt) lt xs) ∧ Hid (Below w1.heap.size w1 wr)) (fun i _ => lt - (intOf i).toNat)
    case atStart => exact ⟨0, _, Nat.zero_le _, rfl, HO2, HB2⟩
    case round =>
      obtain ⟨k, xs, hk, rfl, HO, HBr⟩ := hrel
      clear HO2 HB2
      have HB := hid (HB0.out.trans (HBr.out.mono HB0.out.size))
      have HA := hid (block_later' HA0.out HBr.out)
      have HR := hid (block_later' HR0.out HBr.out)
      have k5 : wr.cell? ⟨w.heap.size, 4, none⟩ = some (.slice (some ta) lt ct) := by have := HA.out; simp [World.cell?, this]
      clear k4
      by_cases hlk : k < lt
      · rcases (HT.out.below HB.out).2.2 with h0 | ⟨b, off, e, hbl, hc⟩
        · omega
        · obtain rfl : ta = ⟨b, off, none⟩ := by simpa using e
          obtain ⟨s, s', _, _, hcl, hcl'⟩ := hc k hlk
          have hlk' : (k : Int) < lt := by omega
          have hk0 : (0 : Int) ≤ k := by omega
          have hxl : xs.length = lt * 2 := HO.out.1
          obtain ⟨u, hu⟩ : ∃ u, xs[k * 2]? = some u := ⟨_, List.getElem?_eq_getElem (by omega)⟩
          obtain ⟨u', hu'⟩ : ∃ u, xs[k * 2 + 1]? = some u := ⟨_, List.getElem?_eq_getElem (by omega)⟩
          have hcy : wr.cell? ⟨w1.heap.size, k * 2, none⟩ = some u := (HO.out.cellAt _ (by omega)).trans hu
          have hcy' : wr.cell? ⟨w1.heap.size, k * 2 + 1, none⟩ = some u' := (HO.out.cellAt _ (by omega)).trans hu'
          have hfy : wr.frozen? ⟨w1.heap.size, k * 2, none⟩ = false := HO.out.frozenAt _
          have hfy' : wr.frozen? ⟨w1.heap.size, k * 2 + 1, none⟩ = false := HO.out.frozenAt _
          clear hxl hu hu' hc
          go_wp2_with fail
          go_region
          go_wp2_with fail
          go_roundw
          case rel => exact ⟨k + 1, _, by omega, by go_num, (((HO.out.stored _ _).1.stored _ _).1).drew, ((HBr.out.setCell (Nat.le_refl _) _).setCell (Nat.le_refl _) _).drew⟩
          case measure => simp [intOf]; omega
      · obtain rfl : k = lt := by omega
        obtain ⟨k0, k1, k2, k3⟩ := box_cells HA.out
        go_wp2_with fail
        go_region_held3 (fun w' => w'.cell? ⟨w.heap.size, 0, none⟩ = some (.string h) ∧ w'.cell? ⟨w.heap.size, 1, none⟩ = some (.slice pa lp cp) ∧ w'.cell? ⟨w.heap.size, 2, none⟩ = some (.string tr) ∧ w'.cell? ⟨w.heap.size, 3, none⟩ = some (.string ms)) (go_keep)
          ((first | (go_at_call 12; refine (clone_any pa lp cp _ (HP.out.below (HB.out.drew)) hlp).mono ?_; rintro e w5 ⟨⟨a, n, c, rfl⟩, hb5⟩; have HA5 := hid (block_later HA.out hb5); have HR5 := hid (block_later HR.out hb5); obtain ⟨e0, e1, e2, e3⟩ := box_cells HA5.out; obtain ⟨r0, r1, r2, r3, r4, r5, f0, f1, f2, f3, f4, f5⟩ := res_cells HR5.out; have HB5 := hid ((HB.out.drew).trans (hb5.mono HB.out.size)); clear hb5)))
        clear HA HR HA5 HR5
        go_wp2_with fail
        exact bodyPost_ret (v := .agg #[.string h, .slice a n c, .string tr, .string ms, .slice (some ⟨w1.heap.size, 0, none⟩) k k, .string ⟨#[]⟩]) (by simp [results, Try.results36, go_sem, r0, r1, r2, r3, r4, r5]) rfl ⟨⟨a, n, c, some ⟨w1.heap.size, 0, none⟩, k, k, rfl⟩, (((((HB5.out.setCell (by simp) _).setCell (by simp) _).setCell (by simp) _).setCell (by simp) _).setCell (by simp) _).setCell (by simp) _⟩
end Go.Proofs.Qxb6601837a.Se
