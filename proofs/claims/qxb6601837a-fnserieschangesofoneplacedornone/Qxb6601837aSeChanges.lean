import Derived.Test.Qxb6601837aSePlaced
import Derived.Deep.AppendLies
import Derived.Deep.DrawnRows
set_option linter.unusedVariables false
namespace Go.Proofs.Qxb6601837a.Se
open Go.RowKit

set_option maxRecDepth 100000 in
set_option maxHeartbeats 2000000 in
theorem pick_any (ch tr ms au ci : ByteArray) (a a' : Option Addr) (n c n' c' : Nat) (mg : Bool) (w : World) :
    Calls Try.prog 35 #[.agg #[.string ch, .slice a n c, .string tr, .string ms, .slice a' n' c', .string au, .string ci, .bool mg]] w fun e w' =>
      e = .returned (.agg #[.string ch, .slice a n c, .string tr, .string ms, .slice a' n' c', .string au, .slice none 0 0, .string ci, .bool false, .string ⟨#[]⟩]) ∧ Below w.heap.size w w' := by
  go_enter Try.func35, Try.ntmps35
  go_wp2_with fail
  exact bodyPost_ret (v := .agg #[.string ch, .slice a n c, .string tr, .string ms, .slice a' n' c', .string au, .slice none 0 0, .string ci, .bool false, .string ⟨#[]⟩]) (by simp [results, Try.results35, go_sem]) rfl ⟨rfl, ((Below.refl _ _).alloc (Nat.le_refl _) _).alloc (by simp) _⟩

set_option maxRecDepth 100000 in
set_option maxHeartbeats 2000000 in
theorem changes_none (gL gH : Nat) (hv : Value) (w : World) (k0 : w.cell? ⟨gL, 0, none⟩ = some (.slice none 0 0)) :
    Calls Try.prog 14 #[.slice (some ⟨gL, 0, none⟩) 1 1, hv] w fun e w' => e = .returned (.slice none 0 0) ∧ w' = w := by
  go_enter Try.func14, Try.ntmps14
  go_wp2_with fail
  refine wp_loop_rounds 2 ?_
  rw [rounds_succ]
  go_wp2_with fail
  refine wp_loop_rounds 1 ?_
  rw [rounds_succ]
  go_wp2_with fail
  rw [rounds_succ]
  go_wp2_with fail
  go_ret
  exact ⟨rfl, rfl⟩

/-- one row that holds one pick, one row that holds one hash -/
structure OneRow (w : World) (gL gP gH gS cP cS : Nat) (ch tr ms au ci hh : ByteArray) (a a' : Option Addr) (n c n' c' : Nat) : Prop where
  l0 : w.heap[gL]? = some (.cells #[.slice (some ⟨gP, 0, none⟩) 1 cP] 28 (0, 0))
  p0 : ∃ cs, w.heap[gP]? = some (.cells cs 36 (0, 0)) ∧ cs[0]? = some (.string ch) ∧ cs[1]? = some (.slice a n c) ∧ cs[2]? = some (.string tr) ∧ cs[3]? = some (.string ms) ∧ cs[4]? = some (.slice a' n' c') ∧ cs[5]? = some (.string au) ∧ cs[6]? = some (.slice none 0 0) ∧ cs[7]? = some (.string ci) ∧ cs[8]? = some (.bool false) ∧ cs[9]? = some (.string ⟨#[]⟩)
  h0 : w.heap[gH]? = some (.cells #[.slice (some ⟨gS, 0, none⟩) 1 cS] 23 (0, 0))
  s0 : ∃ cs, w.heap[gS]? = some (.cells cs 9 (0, 0)) ∧ cs[0]? = some (.string hh)

set_option maxRecDepth 100000 in
set_option maxHeartbeats 2000000 in
theorem changes_same (gL gP gH gS cP cS : Nat) (ch tr ms au ci hh : ByteArray) (a a' : Option Addr) (n c n' c' : Nat) (w : World) (h : OneRow w gL gP gH gS cP cS ch tr ms au ci hh a a' n c n' c')
    (hno : ci = ⟨#[]⟩ ∨ ch = hh) :
    Calls Try.prog 14 #[.slice (some ⟨gL, 0, none⟩) 1 1, .slice (some ⟨gH, 0, none⟩) 1 1] w fun e w' => e = .returned (.slice none 0 0) ∧ Below w.heap.size w w' := by
  have k0 : w.cell? ⟨gL, 0, none⟩ = some (.slice (some ⟨gP, 0, none⟩) 1 cP) := by simp [World.cell?, h.l0]
  have k1 : w.cell? ⟨gH, 0, none⟩ = some (.slice (some ⟨gS, 0, none⟩) 1 cS) := by simp [World.cell?, h.h0]
  have k2 : w.cell? ⟨gS, 0, none⟩ = some (.string hh) := by obtain ⟨cs, h1, h2⟩ := h.s0; simp [World.cell?, h1, h2]
  obtain ⟨cs, hp, q0, q1, q2, q3, q4, q5, q6, q7, q8, q9⟩ := h.p0
  have p0 : w.cell? ⟨gP, 0, none⟩ = some (.string ch) := by simp [World.cell?, hp, q0]
  have p1 : w.cell? ⟨gP, 1, none⟩ = some (.slice a n c) := by simp [World.cell?, hp, q1]
  have p2 : w.cell? ⟨gP, 2, none⟩ = some (.string tr) := by simp [World.cell?, hp, q2]
  have p3 : w.cell? ⟨gP, 3, none⟩ = some (.string ms) := by simp [World.cell?, hp, q3]
  have p4 : w.cell? ⟨gP, 4, none⟩ = some (.slice a' n' c') := by simp [World.cell?, hp, q4]
  have p5 : w.cell? ⟨gP, 5, none⟩ = some (.string au) := by simp [World.cell?, hp, q5]
  have p6 : w.cell? ⟨gP, 6, none⟩ = some (.slice none 0 0) := by simp [World.cell?, hp, q6]
  have p7 : w.cell? ⟨gP, 7, none⟩ = some (.string ci) := by simp [World.cell?, hp, q7]
  have p8 : w.cell? ⟨gP, 8, none⟩ = some (.bool false) := by simp [World.cell?, hp, q8]
  have p9 : w.cell? ⟨gP, 9, none⟩ = some (.string ⟨#[]⟩) := by simp [World.cell?, hp, q9]
  have b1 : gH < w.heap.size := gt_of h.h0
  have b2 : gS < w.heap.size := by obtain ⟨cs, h1, h2⟩ := h.s0; exact gt_of h1
  clear h hp q0 q1 q2 q3 q4 q5 q6 q7 q8 q9
  go_enter Try.func14, Try.ntmps14
  go_wp2_with fail
  refine wp_loop_rounds 2 ?_
  rw [rounds_succ]
  go_wp2_with fail
  refine wp_loop_rounds 2 ?_
  rw [rounds_succ]
  go_wp2_with fail
  by_cases hci : ci = ⟨#[]⟩
  · subst hci
    go_quiet (fail)
    go_wp2_with fail
    rw [rounds_succ]
    go_wp2_with fail
    rw [rounds_succ]
    go_wp2_with fail
    go_ret
    exact ⟨rfl, below_drewN ((Below.refl _ _).alloc (Nat.le_refl _) _) _⟩
  · obtain rfl : ch = hh := hno.resolve_left hci
    have hb0 : ci.toList ≠ [] := fun e => hci (by
      rw [ByteArray.toList_eq] at e
      obtain ⟨⟨l⟩⟩ := ci
      simp at e
      subst e
      rfl)
    have hb : (ci.toList == []) = false := by rw [beq_eq_false_iff_ne]; exact hb0
    have hb' : (ci.toList == (⟨#[]⟩ : ByteArray).toList) = false := by rw [beq_eq_false_iff_ne]; simpa [ByteArray.toList_eq] using hb0
    go_quiet (fail)
    go_wp2_with fail
    rw [rounds_succ]
    go_wp2_with fail
    rw [rounds_succ]
    go_wp2_with fail
    go_ret
    exact ⟨rfl, below_drewN ((Below.refl _ _).alloc (Nat.le_refl _) _) _⟩

theorem list_inj {a b : ByteArray} (e : a.toList = b.toList) : a = b := by
  rw [ByteArray.toList_eq, ByteArray.toList_eq] at e
  obtain ⟨⟨l⟩⟩ := a
  obtain ⟨⟨m⟩⟩ := b
  simp at e
  subst e
  rfl
theorem list_ne {a : ByteArray} (h : a ≠ ⟨#[]⟩) : a.toList ≠ [] := fun e => h (list_inj (by rw [e]; simp [ByteArray.toList_eq]))

theorem Try.info48 : (Try.prog.info? 48).map (fun i => (i.zero, i.size, i.bytes)) = some (some (.agg #[.string ⟨#[]⟩, .string ⟨#[]⟩, .string ⟨#[]⟩]), 3, 48) := by kernel_rfl
/-- the built-in append's run, behind a name that the walk does not open -/
def appR (P : Program) (ts : Array TypeId) (ty : TypeId) (vs : Array Value) (W : World) := (Builtin.append_ ts ty vs).run P W
theorem wp_ap (P : Program) (dst : Option Tmp) (s x : Operand) (t ty : TypeId) (pos : String) (aft : Array Edge) (a : Act) (W : World) (K : Act → World → Prop) (Q : Exit → Act → World → Prop) :
    Oper.wp P { dst := dst, op := .call { callee := .builtin .append, args := #[s, x], argTypes := #[t, t] }, type := ty, pos := pos, after := aft, guard := none } a W K Q =
    Oper.upon P { dst := dst, op := .call { callee := .builtin .append, args := #[s, x], argTypes := #[t, t] }, type := ty, pos := pos, after := aft, guard := none } a K Q ((appR P #[t, t] ty #[a.eval s, a.eval x] W).andThen fun v w' => .ok (Next.value v) w') := by
  unfold Oper.wp execOp
  simp only [resolve, invoke, builtin, Sem.run_bind, Sem.run_pure, Result.andThen_ok, List.map_toArray, List.map_cons, List.map_nil, appR]

/-- a slice of the one change -/
def NewOne (ci ch hh : ByteArray) (w : World) (e : Ending) : Prop :=
  ∃ g cap, e = .returned (.slice (some ⟨g, 0, none⟩) 1 cap) ∧ w.cell? ⟨g, 0, none⟩ = some (.string ci) ∧ w.cell? ⟨g, 1, none⟩ = some (.string ch) ∧ w.cell? ⟨g, 2, none⟩ = some (.string hh)

attribute [local go_sem ↓] wp_ap
set_option maxRecDepth 100000 in
set_option maxHeartbeats 2000000 in
theorem changes_new (gL gP gH gS cP cS : Nat) (ch tr ms au ci hh : ByteArray) (a a' : Option Addr) (n c n' c' : Nat) (w : World) (h : OneRow w gL gP gH gS cP cS ch tr ms au ci hh a a' n c n' c')
    (hci : ci ≠ ⟨#[]⟩) (hne : ch ≠ hh) :
    Calls Try.prog 14 #[.slice (some ⟨gL, 0, none⟩) 1 1, .slice (some ⟨gH, 0, none⟩) 1 1] w fun e w' => NewOne ci ch hh w' e ∧ Below w.heap.size w w' := by
  have k0 : w.cell? ⟨gL, 0, none⟩ = some (.slice (some ⟨gP, 0, none⟩) 1 cP) := by simp [World.cell?, h.l0]
  have k1 : w.cell? ⟨gH, 0, none⟩ = some (.slice (some ⟨gS, 0, none⟩) 1 cS) := by simp [World.cell?, h.h0]
  have k2 : w.cell? ⟨gS, 0, none⟩ = some (.string hh) := by obtain ⟨cs, h1, h2⟩ := h.s0; simp [World.cell?, h1, h2]
  obtain ⟨cs, hp, q0, q1, q2, q3, q4, q5, q6, q7, q8, q9⟩ := h.p0
  have p0 : w.cell? ⟨gP, 0, none⟩ = some (.string ch) := by simp [World.cell?, hp, q0]
  have p1 : w.cell? ⟨gP, 1, none⟩ = some (.slice a n c) := by simp [World.cell?, hp, q1]
  have p2 : w.cell? ⟨gP, 2, none⟩ = some (.string tr) := by simp [World.cell?, hp, q2]
  have p3 : w.cell? ⟨gP, 3, none⟩ = some (.string ms) := by simp [World.cell?, hp, q3]
  have p4 : w.cell? ⟨gP, 4, none⟩ = some (.slice a' n' c') := by simp [World.cell?, hp, q4]
  have p5 : w.cell? ⟨gP, 5, none⟩ = some (.string au) := by simp [World.cell?, hp, q5]
  have p6 : w.cell? ⟨gP, 6, none⟩ = some (.slice none 0 0) := by simp [World.cell?, hp, q6]
  have p7 : w.cell? ⟨gP, 7, none⟩ = some (.string ci) := by simp [World.cell?, hp, q7]
  have p8 : w.cell? ⟨gP, 8, none⟩ = some (.bool false) := by simp [World.cell?, hp, q8]
  have p9 : w.cell? ⟨gP, 9, none⟩ = some (.string ⟨#[]⟩) := by simp [World.cell?, hp, q9]
  have b1 : gH < w.heap.size := gt_of h.h0
  have b2 : gS < w.heap.size := by obtain ⟨cs, h1, h2⟩ := h.s0; exact gt_of h1
  have hb0 : ci.toList ≠ [] := list_ne hci
  have hb1 : ch.toList ≠ hh.toList := fun e => hne (list_inj e)
  have hb : (ci.toList == []) = false := by rw [beq_eq_false_iff_ne]; exact hb0
  have hb' : (ch.toList == hh.toList) = false := by rw [beq_eq_false_iff_ne]; exact hb1
  clear h hp q0 q1 q2 q3 q4 q5 q6 q7 q8 q9
  go_enter Try.func14, Try.ntmps14
  go_wp2_with fail
  refine wp_loop_rounds 2 ?_
  rw [rounds_succ]
  go_wp2_with fail
  refine wp_loop_rounds 2 ?_
  rw [rounds_succ]
  go_wp2_with fail
  go_quiet (fail)
  go_wp2_with fail
  have m0 : ((w.alloc (.cells #[.string ch, .slice a n c, .string tr, .string ms, .slice a' n' c', .string au, .slice none 0 0, .string ci, .bool false, .string ⟨#[]⟩] 36)).drewN nq).cell? ⟨w.heap.size, 0, none⟩ = some (.string ch) := cell_box w #[.string ch, .slice a n c, .string tr, .string ms, .slice a' n' c', .string au, .slice none 0 0, .string ci, .bool false, .string ⟨#[]⟩] 36 0 _ rfl
  have m7 : ((w.alloc (.cells #[.string ch, .slice a n c, .string tr, .string ms, .slice a' n' c', .string au, .slice none 0 0, .string ci, .bool false, .string ⟨#[]⟩] 36)).drewN nq).cell? ⟨w.heap.size, 7, none⟩ = some (.string ci) := cell_box w #[.string ch, .slice a n c, .string tr, .string ms, .slice a' n' c', .string au, .slice none 0 0, .string ci, .bool false, .string ⟨#[]⟩] 36 7 _ rfl
  have HB1 : Hid (Below w.heap.size w ((w.alloc (.cells #[.string ch, .slice a n c, .string tr, .string ms, .slice a' n' c', .string au, .slice none 0 0, .string ci, .bool false, .string ⟨#[]⟩] 36)).drewN nq)) := below_drewN ((Below.refl _ _).alloc (Nat.le_refl _) _) _
  have n1 : ((w.alloc (.cells #[.string ch, .slice a n c, .string tr, .string ms, .slice a' n' c', .string au, .slice none 0 0, .string ci, .bool false, .string ⟨#[]⟩] 36)).drewN nq).cell? ⟨gH, 0, none⟩ = some (.slice (some ⟨gS, 0, none⟩) 1 cS) := (HB1.out.cell (by exact b1)).trans k1
  have n2 : ((w.alloc (.cells #[.string ch, .slice a n c, .string tr, .string ms, .slice a' n' c', .string au, .slice none 0 0, .string ci, .bool false, .string ⟨#[]⟩] 36)).drewN nq).cell? ⟨gS, 0, none⟩ = some (.string hh) := (HB1.out.cell (by exact b2)).trans k2
  generalize (w.alloc (.cells #[.string ch, .slice a n c, .string tr, .string ms, .slice a' n' c', .string au, .slice none 0 0, .string ci, .bool false, .string ⟨#[]⟩] 36)).drewN nq = w1 at m0 m7 HB1 n1 n2
  obtain ⟨i48, hi, hz0, hz1, hz2⟩ := info_parts Try.info48
  obtain ⟨g', cap', w3, hrun, hO3, hG3, hat, hlt3⟩ := run_append_lies (P := Try.prog) (w := (w1.alloc (.cells #[.string ci, .string ch, .string hh] 48)).drew) 37 37 w1.heap.size 48 i48 _ 3 48 Try.underlying37 hi hz0 hz1 hz2 rfl (by omega)
    (.slice none 0 0) 0 [] (World.ownsRow_nil _ _ _ _) ⟨w1.heap.size, 0, none⟩ 1 1 [.string ci, .string ch, .string hh] rfl
    (by
      have h := World.news_of_block (w := (w1.alloc (.cells #[.string ci, .string ch, .string hh] 48)).drew) (B := w1.heap.size) (cs := [Value.string ci, .string ch, .string hh].toArray) (t := 48) (fr := (0, 0)) (heap_alloc_new w1 _)
      simpa using h)
    (by simp [Value.oneCell']) (by omega) (by unfold maxLen; omega) (by omega) (by simp) (w1.heap.size + 1) (by simp)
  change appR _ _ _ _ _ = _ at hrun
  have HO3 := hid hO3
  have HG3 := hid hG3
  have HAT := hid hat
  have bw : w.heap.size < w1.heap.size := World.block_lt_of_cell? w1 ⟨w.heap.size, 0, none⟩ m0
  clear hO3 hG3 hat hi hz0 hz1 hz2
  go_region
  go_wp2_with fail
  rw [rounds_succ]
  go_wp2_with fail
  rw [rounds_succ]
  go_wp2_with fail
  go_ret
  exact ⟨⟨g', cap', rfl, (HO3.out.cellAt 0 (by omega)).trans rfl, (HO3.out.cellAt 1 (by omega)).trans rfl, (HO3.out.cellAt 2 (by omega)).trans rfl⟩, ((HB1.out.alloc (by omega) _).drew).grown HG3.out (by simp; omega) (fun k hk => by cases hk)⟩
end Go.Proofs.Qxb6601837a.Se
