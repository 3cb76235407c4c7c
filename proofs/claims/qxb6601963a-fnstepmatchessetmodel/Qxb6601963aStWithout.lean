import Derived.Test.Qxb6601963aStSort
import Derived.Test.Qxb6601963aStState
import Derived.Test.Qxb6601963aStPlain
import Derived.Deep.AppendLies
set_option linter.unusedVariables false
namespace Go.Proofs.Qxb6601963a.St
open Go.RowKit

def words (z : Nat → Int) (len : Nat) : List Value := (List.range len).map (fun i => Value.int .u64 (z i))
theorem words_len (z : Nat → Int) (len : Nat) : (words z len).length = len := by simp [words]
theorem words_get (z : Nat → Int) (len i : Nat) (h : i < len) : (words z len)[i]? = some (.int .u64 (z i)) := by simp [words, h]
theorem words_one (z : Nat → Int) (len : Nat) : ∀ u ∈ words z len, u.oneCell' = true := by
  intro u hu
  simp only [words, List.mem_map] at hu
  obtain ⟨i, _, rfl⟩ := hu
  rfl

theorem st_add (b off k : Nat) : (⟨b, off, none⟩ : Addr).add k = ⟨b, off + k, none⟩ := by simp [Addr.add]

set_option maxHeartbeats 1000000 in
theorem clone_any (ad : Option Addr) (len cap : Nat) (z : Nat → Int) (w : World) (h : IsW w ad len cap z) (hl : len ≤ 1048576) :
    Calls Try.prog 29 #[.slice ad len cap] w fun e w' => (∃ v, e = .returned v ∧ w'.ownsRow w.heap.size 22 1 v len (words z len)) ∧ Below w.heap.size w w' := by
  have HH := hid h
  clear h
  have hnl := fun w => Lib.run_eql_slice_nil (P := Try.prog) w 23 22 ad len cap 0 0 Try.underlying23
  cases ad with
  | none =>
    obtain rfl := HH.out.nil rfl
    simp only [Option.isNone] at hnl
    go_enter Try.func29, Try.ntmps29
    go_wp2
    go_ret
    exact ⟨⟨_, rfl, World.ownsRow_nil _ _ _ _⟩, Below.refl _ _⟩
  | some ad =>
    obtain ⟨i22, hi, hz0, hz1, hz2⟩ := info_parts Try.info22
    have HI := hid hi
    clear hi
    simp only [Option.isNone] at hnl
    have hnews : ∀ j u, (words z len)[j]? = some u → w.cell? (ad.add j) = some u := by
      intro j u hu
      have hj : j < len := by
        rcases Nat.lt_or_ge j len with h | h
        · exact h
        · rw [List.getElem?_eq_none (by rw [words_len]; exact h)] at hu; cases hu
      rw [words_get z len j hj] at hu
      rcases HH.out.at_ with h0 | ⟨b, off, e, hbl, hc⟩
      · omega
      · obtain rfl : ad = ⟨b, off, none⟩ := by simpa using e
        rw [← hu]
        rw [st_add]
        exact hc j hj
    have hbel : Below w.heap.size w (w.alloc (.cells #[] 22)) := (Below.refl _ _).alloc (Nat.le_refl _) _
    have hown : (w.alloc (.cells #[] 22)).ownsRow w.heap.size 22 1 (.slice (some ⟨w.heap.size, 0, none⟩) 0 0) 0 [] :=
      ⟨rfl, Or.inr ⟨w.heap.size, 0, #[], rfl, Nat.le_refl _, heap_alloc_new w _, Nat.le_refl _, Nat.zero_le _, rfl, rfl⟩⟩
    have HN := hid hnews
    have HO := hid hown
    have HB := hid hbel
    clear hnews hown hbel
    go_enter Try.func29, Try.ntmps29
    go_wp2_with (at_builtin; refine wpList_append_own _ rfl (.tmp 5) (.tmp 6) 23 rfl w.heap.size 22 i22 _ 1 8 Try.underlying23 HI.out hz0 hz1 hz2 rfl (by decide) (.slice (some ⟨w.heap.size, 0, none⟩) 0 0) 0 [] rfl HO.out ad len cap (words z len) rfl (by rw [words_len]; omega) (fun j u hu => by rw [HB.out.cell (by have h1 := HN.out j u hu; exact World.block_lt_of_cell? w _ h1)]; exact HN.out j u hu) (words_one z len) (by unfold maxLen; omega) (by omega) (by simp) ?_; intro v w3 ho hg hx; clear hx; have HO3 := hid ho; have HG3 := hid hg; clear ho hg)
    go_ret
    refine ⟨⟨_, rfl, ?_⟩, HB.out.grown HG3.out (by simp) (fun k hk => by simp [Value.ownBlock] at hk; omega)⟩
    have h := HO3.out
    simpa using h

/-- what 'without' hands back -/
def WPost (B : Nat) (v : ByteArray) (gen g : Int) (len : Nat) (z : Nat → Int) (w : World) (e : Ending) : Prop :=
  ∃ least ad' len' cap' z', e = .returned (.agg #[.bool true, .string v, .int .u64 least, .bool false, .slice ad' len' cap']) ∧ IsW w ad' len' cap' z' ∧ (∀ a, ad' = some a → B ≤ a.block) ∧ 0 ≤ least ∧ least ≤ 18446744073709551615 ∧
    upB z' least len' = true ∧ ∀ p, admB true false least z' len' p = (p != g && admB true false gen z len p)

theorem box_below (w : World) (o o' : Obj) : ((w.alloc o).alloc o').heap[w.heap.size]? = some o := by
  have hb : Below (w.alloc o).heap.size (w.alloc o) ((w.alloc o).alloc o') := (Below.refl _ _).alloc (Nat.le_refl _) _
  rw [hb.block _ (by simp)]
  exact heap_alloc_new w o
theorem box_above (w : World) (o o' : Obj) : ((w.alloc o).alloc o').heap[w.heap.size + 1]? = some o' := by
  have h := heap_alloc_new (w.alloc o) o'
  have e : (w.alloc o).heap.size = w.heap.size + 1 := by simp
  rw [e] at h
  exact h
theorem block_later {w w' : World} {b : Nat} {o : Obj} (h : w.heap[b]? = some o) (hb : Below w.heap.size w w') : w'.heap[b]? = some o := by
  have hl : b < w.heap.size := by
    rcases Nat.lt_or_ge b w.heap.size with h' | h'
    · exact h'
    · simp [Array.getElem?_eq_none h'] at h
  exact (hb.block b hl).trans h

set_option maxRecDepth 100000 in
set_option maxHeartbeats 4000000 in
theorem without_same (v : ByteArray) (gen g : Int) (ad : Option Addr) (len cap : Nat) (z : Nat → Int) (w : World) (h : IsW w ad len cap z) (hs : g < gen ∨ hasB z len g = true) :
    Calls Try.prog 27 #[.agg #[.bool true, .string v, .int .u64 gen, .bool false, .slice ad len cap], .int .u64 g] w fun e w' => e = .returned (.agg #[.bool true, .string v, .int .u64 gen, .bool false, .slice ad len cap]) ∧ Below w.heap.size w w' := by
  have HB : Hid (Below w.heap.size w ((w.alloc (.cells #[.bool true, .string v, .int .u64 gen, .bool false, .slice ad len cap] 56)).alloc (.cells #[.bool false, .string ⟨#[]⟩, .int .u64 0, .bool false, .slice none 0 0] 56))) := ((Below.refl _ _).alloc (Nat.le_refl _) _).alloc (by simp) _
  have HH := hid (h.below HB.out)
  clear h
  have HA : Hid (((w.alloc (.cells #[.bool true, .string v, .int .u64 gen, .bool false, .slice ad len cap] 56)).alloc (.cells #[.bool false, .string ⟨#[]⟩, .int .u64 0, .bool false, .slice none 0 0] 56)).heap[w.heap.size]? = some (.cells #[.bool true, .string v, .int .u64 gen, .bool false, .slice ad len cap] 56 (0, 0))) := box_below w _ _
  have HR : Hid (((w.alloc (.cells #[.bool true, .string v, .int .u64 gen, .bool false, .slice ad len cap] 56)).alloc (.cells #[.bool false, .string ⟨#[]⟩, .int .u64 0, .bool false, .slice none 0 0] 56)).heap[w.heap.size + 1]? = some (.cells #[.bool false, .string ⟨#[]⟩, .int .u64 0, .bool false, .slice none 0 0] 56 (0, 0))) := box_above w _ _
  go_enter Try.func27, Try.ntmps27
  go_upto_region 1 with fail
  generalize (w.alloc (.cells #[.bool true, .string v, .int .u64 gen, .bool false, .slice ad len cap] 56)).alloc (.cells #[.bool false, .string ⟨#[]⟩, .int .u64 0, .bool false, .slice none 0 0] 56) = w1 at HB HH HA HR
  obtain ⟨k0, k1, k2, k3, k4, _⟩ := five_cells HA.out
  obtain ⟨r0, r1, r2, r3, r4, f0, f1, f2, f3, f4⟩ := five_cells HR.out
  by_cases hlt : g < gen
  · go_wp2_with fail
    exact bodyPost_ret (v := .agg #[.bool true, .string v, .int .u64 gen, .bool false, .slice ad len cap]) (by simp [results, Try.results27, go_sem, r0, r1, r2, r3, r4]) rfl ⟨rfl, (((((HB.out.setCell (by simp) _).setCell (by simp) _).setCell (by simp) _).setCell (by simp) _).setCell (by simp) _)⟩
  · have hh := hs.resolve_left hlt
    have HHH := hid hh
    clear hh hs
    go_wp2_with fail
    refine (contains_any ad len cap z g _ HH.out).mono ?_
    rintro e w2 ⟨rfl, rfl⟩
    rw [HHH.out]
    go_wp2_with fail
    exact bodyPost_ret (v := .agg #[.bool true, .string v, .int .u64 gen, .bool false, .slice ad len cap]) (by simp [results, Try.results27, go_sem, r0, r1, r2, r3, r4]) rfl ⟨rfl, (((((HB.out.setCell (by simp) _).setCell (by simp) _).setCell (by simp) _).setCell (by simp) _).setCell (by simp) _)⟩
end Go.Proofs.Qxb6601963a.St
