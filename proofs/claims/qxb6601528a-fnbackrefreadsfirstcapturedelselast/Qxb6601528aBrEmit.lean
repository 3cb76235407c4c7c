import Derived.Test.Qxb6601528aBrBuild
import Derived.BigRegion
import Derived.Deep.RegionHeld3
import Derived.Deep.AppendLies
import Derived.Deep.DrawnRows
set_option linter.unusedVariables false
namespace Go.Proofs.Qxb6601528a.Br
open Go.RowKit
attribute [local go_sem ↓] Go.wp_at_zero Go.wp_at_succ

def Cmp (w : World) (gC : Nat) (v : Value) (nr : Int) : Prop := w.heap[gC]? = some (.cells #[v, .int .i64 nr] 61 (0, 0))
theorem Cmp.cell {w : World} {gC : Nat} {v : Value} {nr : Int} (h : Cmp w gC v nr) : w.cell? ⟨gC, 0, none⟩ = some v ∧ w.frozen? ⟨gC, 0, none⟩ = false := by
  unfold Cmp at h
  simp [World.cell?, World.frozen?, h]

def boxI (op : Int) (fold : Bool) (x : Int) : Obj := .cells #[.int .u8 op, .int .u8 0, .int .u8 0, .bool fold, .bool false, .int .u8 0, .int .i64 x, .int .i64 0, .pointer none] 53
def instL (op : Int) (fold : Bool) (x y : Int) : List Value := [.int .u8 op, .int .u8 0, .int .u8 0, .bool fold, .bool false, .int .u8 0, .int .i64 x, .int .i64 y, .pointer none]

/-- the built-in append's run, behind a name that the walk does not open -/
def appR (P : Program) (ts : Array TypeId) (ty : TypeId) (vs : Array Value) (W : World) := (Builtin.append_ ts ty vs).run P W
theorem wp_ap (P : Program) (dst : Option Tmp) (s x : Operand) (t ty : TypeId) (pos : String) (aft : Array Edge) (a : Act) (W : World) (K : Act → World → Prop) (Q : Exit → Act → World → Prop) :
    Oper.wp P { dst := dst, op := .call { callee := .builtin .append, args := #[s, x], argTypes := #[t, t] }, type := ty, pos := pos, after := aft, guard := none } a W K Q =
    Oper.upon P { dst := dst, op := .call { callee := .builtin .append, args := #[s, x], argTypes := #[t, t] }, type := ty, pos := pos, after := aft, guard := none } a K Q ((appR P #[t, t] ty #[a.eval s, a.eval x] W).andThen fun v w' => .ok (Next.value v) w') := by
  unfold Oper.wp execOp
  simp only [resolve, invoke, builtin, Sem.run_bind, Sem.run_pure, Result.andThen_ok, List.map_toArray, List.map_cons, List.map_nil, appR]
attribute [local go_sem ↓] wp_ap

/-- all but blocks c and g of what lay in w lies in w' -/
structure Chg (w w' : World) (c g : Nat) : Prop where
  os : w'.os = w.os
  tape : w'.tape = w.tape
  output : w'.output = w.output
  size : w.heap.size ≤ w'.heap.size
  block : ∀ k, k < w.heap.size → k ≠ c → k ≠ g → w'.heap[k]? = w.heap[k]?

/-- the compiler at gC, its program the row g of n instructions, whose cells are xs -/
structure Prg (w : World) (gC g n cap B : Nat) (nr : Int) (xs : List Value) : Prop where
  cmp : Cmp w gC (.slice (some ⟨g, 0, none⟩) n cap) nr
  own : w.ownsRow B 53 9 (.slice (some ⟨g, 0, none⟩) n cap) n xs
  bnd : B ≤ w.heap.size

theorem Prg.ne {w : World} {gC g n cap B : Nat} {nr : Int} {xs : List Value} (h : Prg w gC g n cap B nr xs) : gC ≠ g := by
  intro e
  obtain ⟨_, h2⟩ := h.own
  rcases h2 with ⟨e1, _⟩ | ⟨g', cap', cur, e1, _, e3, _⟩
  · simp at e1
  · simp at e1
    have hc := h.cmp
    unfold Cmp at hc
    rw [e, e1.1, e3] at hc
    simp at hc

theorem gt_of {w : World} {k : Nat} {o : Obj} (h : w.heap[k]? = some o) : k < w.heap.size := by
  rcases Nat.lt_or_ge k w.heap.size with h' | h'
  · exact h'
  · simp [Array.getElem?_eq_none h'] at h

theorem owns_set {w : World} {B e n cap g gC i : Nat} {xs : List Value} {v : Value} (h : w.ownsRow B e 9 (.slice (some ⟨g, 0, none⟩) n cap) n xs) (hne : g ≠ gC) : (w.setCell ⟨gC, i, none⟩ v).ownsRow B e 9 (.slice (some ⟨g, 0, none⟩) n cap) n xs := by
  obtain ⟨h1, h2⟩ := h
  refine ⟨h1, ?_⟩
  rcases h2 with h2 | ⟨g', cap', cur, e1, e2, e3, e4⟩
  · exact Or.inl h2
  · right
    refine ⟨g', cap', cur, e1, e2, ?_, e4⟩
    rw [Below.heap_setCell _ _ _ _ (by simp at e1; show g' ≠ gC; omega)]
    exact e3

def EmitPost (w w' : World) (gC g n B : Nat) (nr : Int) (xs ins : List Value) (e : Ending) : Prop :=
  e = .returned (.int .i64 n) ∧ ∃ g' cap', Prg w' gC g' (n + 1) cap' B nr (xs ++ ins) ∧ (g' = g ∨ w.heap.size ≤ g') ∧ Chg w w' gC g

set_option maxRecDepth 100000 in
set_option maxHeartbeats 3200000 in
theorem emit_any (gC g n cap B : Nat) (nr : Int) (xs : List Value) (op : Int) (fold : Bool) (x : Int) (w : World)
    (hP : Prg w gC g n cap B nr xs) (hn : n < 65536) :
    Calls Try.prog 26 #[.pointer (some ⟨gC, 0, none⟩), .agg #[.int .u8 op, .int .u8 0, .int .u8 0, .bool fold, .bool false, .int .u8 0, .int .i64 x, .int .i64 0, .pointer none]] w fun e w' => EmitPost w w' gC g n B nr xs (instL op fold x 0) e := by
  obtain ⟨c0, f0⟩ := hP.cmp.cell
  have hlt := World.block_lt_of_cell? w _ c0
  simp only at hlt
  have hne := hP.ne
  have hn' : ((n : Int) == 65536) = false := by rw [beq_eq_false_iff_ne]; omega
  obtain ⟨i53, hi, hz0, hz1, hz2⟩ := info_parts Try.info53
  have hO2 := (hP.own.alloc (boxI op fold x)).alloc (boxI op fold x)
  obtain ⟨g', cap', w3, hrun, hO3, hG3, hat, hlt3⟩ := run_append_lies (P := Try.prog) (w := ((w.alloc (boxI op fold x)).alloc (boxI op fold x)).drew) 39 39 B 53 i53 _ 9 32 Try.underlying39 hi hz0 hz1 hz2 rfl (by omega)
    (.slice (some ⟨g, 0, none⟩) n cap) n xs hO2.drew ⟨w.heap.size + 1, 0, none⟩ 1 1 (instL op fold x 0) rfl
    (by
      have h := World.news_of_block (w := ((w.alloc (boxI op fold x)).alloc (boxI op fold x)).drew) (B := w.heap.size + 1) (cs := (instL op fold x 0).toArray) (t := 53) (fr := (0, 0)) (by
        have e : (w.alloc (boxI op fold x)).heap.size = w.heap.size + 1 := by simp
        have h2 := heap_alloc_new (w.alloc (boxI op fold x)) (boxI op fold x)
        rw [e] at h2
        exact h2)
      simpa using h)
    (by simp [instL, Value.oneCell']) (by omega) (by unfold maxLen; omega) (by omega) (by have := hP.bnd; simp; omega) (w.heap.size + 2) (by simp)
  have hb2 : Below w.heap.size w ((w.alloc (boxI op fold x)).alloc (boxI op fold x)).drew := (((Below.refl _ _).alloc (Nat.le_refl _) _).alloc (by simp) _).drew
  have d0 : w3.cell? ⟨gC, 0, none⟩ = some (.slice (some ⟨g, 0, none⟩) n cap) := (hG3.cell_far _ (by simp; omega) (by simp [Value.ownBlock]; exact hne)).trans ((hb2.cell (by exact hlt)).trans c0)
  have d1 : w3.frozen? ⟨gC, 0, none⟩ = false := (hG3.frozen_far _ (by simp; omega) (by simp [Value.ownBlock]; exact hne)).trans ((hb2.frozen (by exact hlt)).trans f0)
  have HC3 : Hid (w3.heap[gC]? = some (.cells #[.slice (some ⟨g, 0, none⟩) n cap, .int .i64 nr] 61 (0, 0))) := by
    show _ = _
    rw [hG3.block gC (by simp; omega) (by simp [Value.ownBlock]; exact hne), hb2.block gC hlt]
    exact hP.cmp
  have HCH : Hid (∀ k, k < w.heap.size → k ≠ gC → k ≠ g → w3.heap[k]? = w.heap[k]?) := fun k hk _ hkg => by
    rw [hG3.block k (by simp; omega) (by simp [Value.ownBlock]; exact hkg), hb2.block k hk]
  have HO3 := hid hO3
  have HAT := hid hat
  have HSZ := hid hG3.size
  have HOS := hid hG3.os
  have HTP := hid hG3.tape
  have HOU := hid hG3.output
  have HP := hid hP
  have hcn : g' ≠ gC := by
    rcases hat with e | e
    · simp [Value.ownBlock] at e; omega
    · omega
  simp only [boxI] at hrun
  change appR _ _ _ _ _ = _ at hrun
  clear hO2 hO3 hG3 hat hb2 hP hi hz0 hz1 hz2
  go_enter Try.func26, Try.ntmps26
  go_wp2_with fail
  go_region
  go_wp2
  go_ret
  refine ⟨by first | rfl | simp, g', cap', ⟨?_, ?_, ?_⟩, ?_, ?_⟩
  · show (w3.setCell ⟨gC, 0, none⟩ _).heap[gC]? = _
    rw [heap_setCell_same w3 gC 0 _ 61 _ HC3.out]
    rfl
  · exact owns_set HO3.out hcn
  · have := HP.out.bnd
    have h := HSZ.out
    simp [World.setCell] at h ⊢
    omega
  · rcases HAT.out with e | e
    · left; simp [Value.ownBlock] at e; exact e.symm
    · right; omega
  · exact ⟨HOS.out, HTP.out, HOU.out, by have h := HSZ.out; simp [World.setCell] at h ⊢; omega, fun k hk h1 h2 => by rw [Below.heap_setCell _ _ _ _ h1]; exact HCH.out k hk h1 h2⟩
end Go.Proofs.Qxb6601528a.Br
