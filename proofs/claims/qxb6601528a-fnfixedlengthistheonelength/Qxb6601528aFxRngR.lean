import Derived.Test.Qxb6601528aFxRng
import Derived.Deep.DrawnRows
namespace Go.Proofs.Qxb6601528a.Fx
open Go.RowKit
attribute [local go_sem ↓] Go.wp_at_zero Go.wp_at_succ

set_option maxHeartbeats 4000000 in
set_option maxRecDepth 100000 in
theorem rng_sub (b off : Nat) (x : Int) (w : World) (kind : Int) (sub : Option Addr) (t : Sp) (hx : 1 ≤ x) (hxm : x ≤ 65537) (hk : kind = 5 ∨ kind = 7)
    (c0 : w.cell? ⟨b, off, none⟩ = some (.int .u8 kind)) (c1 : w.cell? ⟨b, off + 1, none⟩ = some (.pointer sub))
    (ih : ∀ wr : World, Below w.heap.size w wr → Calls Try.prog 8 #[.pointer sub, .int .i64 (x - 1)] wr fun e w' => RngPost t e ∧ Below wr.heap.size wr w') :
    Calls Try.prog 8 #[.pointer (some ⟨b, off, none⟩), .int .i64 x] w fun e w' => RngPost t e ∧ Below w.heap.size w w' := by
  have hlt := World.block_lt_of_cell? w _ c0
  simp only at hlt
  have IH := hid ih
  clear ih
  rcases hk with rfl | rfl
  all_goals
    go_enter Try.func8, Try.ntmps8
    go_wp2_with fail
    have HT := hid (two_start w _ rfl)
    refine (IH.out _ HT.out.2.2.1).mono ?_
    rintro e w1 ⟨rfl, hb1⟩
    have HT1 := hid (HT.out.later hb1)
    have hsz1 : w.heap.size < w1.heap.size := by have := HT1.out.2.2.2; omega
    obtain ⟨r0, r1, r2, r3, r4, rf⟩ := box_cells HT1.out.1
    have HB := hid HT1.out.2.2.1
    clear hb1 HT HT1 c1
    simp only [zero] at r0 r1 r2 r3 r4
    go_wp2_with fail
    exact bodyPost_ret (v := .agg #[.int .i64 t.lo, .int .i64 t.hi, .bool t.inf, .bool t.big, .bool t.degen]) (by simp [results, Try.results8, go_sem, r0, r1, r2, r3, r4]) rfl ⟨rfl, (((((HB.out.setCell (Nat.le_refl _) _).setCell (Nat.le_refl _) _).setCell (Nat.le_refl _) _).setCell (Nat.le_refl _) _).setCell (Nat.le_refl _) _)⟩

theorem kept (w : World) (g i : Nat) (v : Value) (c o : Nat) (h : c ≠ g) : (w.setCell ⟨g, i, none⟩ v).cell? ⟨c, o, none⟩ = w.cell? ⟨c, o, none⟩ :=
  World.cell?_setCell_other _ _ _ _ (by intro e; simp only [Addr.mk.injEq] at e; omega)

/-- rng's two boxes, and the box of 't' -/
def Rep (B : Nat) (s t : Sp) (TT : Nat) (w wr : World) : Prop := Two B s w wr ∧ wr.heap[TT]? = some (boxO t) ∧ B + 2 ≤ TT
theorem Rep.set {B : Nat} {s s' t : Sp} {TT : Nat} {w wr : World} (h : Rep B s t TT w wr) (i : Nat) (v : Value) (hs : (#[.int .i64 s.lo, .int .i64 s.hi, .bool s.inf, .bool s.big, .bool s.degen] : Array Value).setIfInBounds i v = #[.int .i64 s'.lo, .int .i64 s'.hi, .bool s'.inf, .bool s'.big, .bool s'.degen]) :
    Rep B s' t TT w (wr.setCell ⟨B + 1, i, none⟩ v) :=
  ⟨h.1.set i v hs, by rw [Below.heap_setCell _ _ _ _ (by have := h.2.2; show TT ≠ B + 1; omega)]; exact h.2.1, h.2.2⟩
theorem Rep.drew {B : Nat} {s t : Sp} {TT : Nat} {w wr : World} (h : Rep B s t TT w wr) : Rep B s t TT w wr.drew := ⟨h.1.drewN 1, h.2.1, h.2.2⟩

theorem rep_end {B : Nat} {t : Sp} {TT : Nat} {w wr : World} {mn mx hi' : Int} {inf' d : Bool} (hh : repHi mx t = hi') (hi : repInf mx t = inf') (hd : repDeg mn mx t = d) (h : Rep B ⟨satM mn t.lo, hi', inf', t.big, d⟩ t TT w wr) : Hid (Two B (repS mn mx t) w wr) := by
  subst hh hi hd
  exact h.1

end Go.Proofs.Qxb6601528a.Fx
