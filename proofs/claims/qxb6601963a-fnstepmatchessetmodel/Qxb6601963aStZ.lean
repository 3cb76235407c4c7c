import Derived.Test.Qxb6601963aStStep
set_option linter.unusedVariables false
namespace Go.Proofs.Qxb6601963a.St
open Go.RowKit

/-- what a step hands back: world-free (P), or with new words (P2) -/
def QQ (P : Bool → ByteArray → Int → Bool → Option Addr → Nat → Nat → Bool → Prop) (P2 : Bool → ByteArray → Int → Bool → Nat → (Nat → Int) → Bool → Prop)
    (B : Nat) (w : World) (kn : Bool) (v : ByteArray) (g : Int) (ex : Bool) (ad : Option Addr) (len cap : Nat) (ok : Bool) : Prop :=
  P kn v g ex ad len cap ok ∨ ∃ z, IsW w ad len cap z ∧ (∀ a, ad = some a → B ≤ a.block) ∧ P2 kn v g ex len z ok

section
variable {P : Bool → ByteArray → Int → Bool → Option Addr → Nat → Nat → Bool → Prop} {P2 : Bool → ByteArray → Int → Bool → Nat → (Nat → Int) → Bool → Prop}
  {kn ex ok : Bool} {v : ByteArray} {g : Int} {ad : Option Addr} {len cap : Nat}
theorem QQ.below {B : Nat} {w w' : World} (h : QQ P P2 B w kn v g ex ad len cap ok) (hb : Below w.heap.size w w') : QQ P P2 B w' kn v g ex ad len cap ok :=
  by
  rcases h with h | ⟨z, h1, h2, h3⟩
  · exact Or.inl h
  · exact Or.inr ⟨z, h1.below hb, h2, h3⟩
theorem QQ.less {B B' : Nat} {w : World} (h : QQ P P2 B w kn v g ex ad len cap ok) (hb : B' ≤ B) : QQ P P2 B' w kn v g ex ad len cap ok :=
  by
  rcases h with h | ⟨z, h1, h2, h3⟩
  · exact Or.inl h
  · exact Or.inr ⟨z, h1, fun a ha => Nat.le_trans hb (h2 a ha), h3⟩
theorem QQ.set {B : Nat} {w : World} (h : QQ P P2 B w kn v g ex ad len cap ok) (q o : Nat) (u : Value) (hq : q < B) : QQ P P2 B (w.setCell ⟨q, o, none⟩ u) kn v g ex ad len cap ok :=
  by
  rcases h with h | ⟨z, h1, h2, h3⟩
  · exact Or.inl h
  · exact Or.inr ⟨z, h1.set q o u (fun a ha => by have := h2 a ha; omega), h2, h3⟩
theorem QQ.drewN {B : Nat} {w : World} (h : QQ P P2 B w kn v g ex ad len cap ok) (n : Nat) : QQ P P2 B (w.drewN n) kn v g ex ad len cap ok :=
  by
  rcases h with h | ⟨z, h1, h2, h3⟩
  · exact Or.inl h
  · exact Or.inr ⟨z, ⟨h1.le, h1.capM, h1.nil, h1.rng, h1.at_⟩, h2, h3⟩
end

set_option maxRecDepth 100000 in
set_option maxHeartbeats 2000000 in
theorem zzop_any (kind nm ov : ByteArray) (oc o1 o2 og oe : Int) (oo ou : Bool) (w : World) :
    Calls Try.prog 19 #[.agg #[.int .i64 oc, .int .i64 o1, .int .i64 o2, .string kind, .string nm, .string ov, .int .u64 og, .int .u64 oe, .bool oo, .bool ou]] w fun e w' =>
      e = .returned (.agg #[.int .i64 oc, .int .i64 o1, .int .i64 o2, .string kind, .string nm, .string ov, .int .u64 og, .int .u64 oe, .bool oo, .bool ou]) ∧ Below w.heap.size w w' := by
  go_enter Try.func19, Try.ntmps19
  go_wp2_with fail
  exact bodyPost_ret (v := .agg #[.int .i64 oc, .int .i64 o1, .int .i64 o2, .string kind, .string nm, .string ov, .int .u64 og, .int .u64 oe, .bool oo, .bool ou]) (by simp [results, Try.results19, go_sem]) rfl ⟨rfl, ((Below.refl _ _).alloc (Nat.le_refl _) _).alloc (by simp) _⟩

set_option maxRecDepth 100000 in
set_option maxHeartbeats 4000000 in
theorem zz18 (P : Bool → ByteArray → Int → Bool → Option Addr → Nat → Nat → Bool → Prop) (P2 : Bool → ByteArray → Int → Bool → Nat → (Nat → Int) → Bool → Prop)
    (sv kind nm ov : ByteArray) (gen oc o1 o2 og oe : Int) (ad : Option Addr) (len cap : Nat) (z : Nat → Int) (kn ex oo ou : Bool) (w : World) (h : IsW w ad len cap z)
    (hc : ∀ w1, IsW w1 ad len cap z → Calls Try.prog 23 #[.agg #[.bool kn, .string sv, .int .u64 gen, .bool ex, .slice ad len cap], .agg #[.int .i64 oc, .int .i64 o1, .int .i64 o2, .string kind, .string nm, .string ov, .int .u64 og, .int .u64 oe, .bool oo, .bool ou]] w1 fun e w' =>
      (∃ kn' v' g' ex' ad' len' cap' ok, e = .returned (.tuple #[.agg #[.bool kn', .string v', .int .u64 g', .bool ex', .slice ad' len' cap'], .bool ok]) ∧ QQ P P2 w1.heap.size w' kn' v' g' ex' ad' len' cap' ok) ∧ Below w1.heap.size w1 w') :
    Calls Try.prog 18 #[.bool kn, .string sv, .int .u64 gen, .bool ex, .slice ad len cap, .agg #[.int .i64 oc, .int .i64 o1, .int .i64 o2, .string kind, .string nm, .string ov, .int .u64 og, .int .u64 oe, .bool oo, .bool ou]] w fun e w' =>
      (∃ kn' v' g' ex' ad' len' cap' ok, e = .returned (.tuple #[.bool kn', .string v', .int .u64 g', .bool ex', .slice ad' len' cap', .bool ok]) ∧ QQ P P2 w.heap.size w' kn' v' g' ex' ad' len' cap' ok) ∧ Below w.heap.size w w' := by
  have HB : Hid (Below w.heap.size w (w.alloc (.cells #[.int .i64 oc, .int .i64 o1, .int .i64 o2, .string kind, .string nm, .string ov, .int .u64 og, .int .u64 oe, .bool oo, .bool ou] 48))) := (Below.refl _ _).alloc (Nat.le_refl _) _
  have C := hid (hc _ (h.below HB.out))
  clear h hc
  go_enter Try.func18, Try.ntmps18
  go_wp2_with fail
  refine C.out.mono ?_
  rintro e w2 ⟨⟨kn', v', g', ex', ad', len', cap', ok, rfl, hq⟩, hb2⟩
  have HB2 : Hid (Below w.heap.size w w2) := HB.out.trans (hb2.mono HB.out.size)
  have HQ := hid (hq.less (B' := w.heap.size) HB.out.size)
  clear hq hb2 C
  go_wp2_with fail
  have hbx : Below w2.heap.size w2 (w2.alloc (.cells #[.bool kn', .string v', .int .u64 g', .bool ex', .slice ad' len' cap'] 56)) := (Below.refl _ _).alloc (Nat.le_refl _) _
  have HX := hid (heap_alloc_new w2 (.cells #[.bool kn', .string v', .int .u64 g', .bool ex', .slice ad' len' cap'] 56))
  have HB3 : Hid (Below w.heap.size w (w2.alloc (.cells #[.bool kn', .string v', .int .u64 g', .bool ex', .slice ad' len' cap'] 56))) := HB2.out.trans (hbx.mono HB2.out.size)
  have HQ3 := hid (HQ.out.below hbx)
  clear hbx HQ
  generalize w2.alloc (.cells #[.bool kn', .string v', .int .u64 g', .bool ex', .slice ad' len' cap'] 56) = w3 at HX HB3 HQ3
  obtain ⟨k0, k1, k2, k3, k4, _⟩ := five_cells HX.out
  go_quiet (fail)
  go_wp2_with fail
  exact bodyPost_ret (v := .tuple #[.bool kn', .string v', .int .u64 g', .bool ex', .slice ad' len' cap', .bool ok]) (by simp [results, Try.results18, go_sem]) rfl ⟨⟨kn', v', g', ex', ad', len', cap', ok, rfl, HQ3.out.drewN _⟩, below_drewN HB3.out _⟩
end Go.Proofs.Qxb6601963a.St
