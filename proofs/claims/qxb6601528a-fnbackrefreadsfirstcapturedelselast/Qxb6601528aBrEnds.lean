import Derived.Test.Qxb6601528aBrBack
import Derived.BigQuiet
set_option linter.unusedVariables false
namespace Go.Proofs.Qxb6601528a.Br
open Go.RowKit
attribute [local go_sem ↓] Go.wp_at_zero Go.wp_at_succ

theorem below_drewN {B : Nat} {w w' : World} (h : Below B w w') (m : Nat) : Below B w (w'.drewN m) := ⟨h.os, h.tape, h.output, h.size, h.block⟩

def NewPost (w w' : World) (v : Value) (nr : Int) (e : Ending) : Prop :=
  e = .returned (.pointer (some ⟨w.heap.size, 0, none⟩)) ∧ w' = w.alloc (.cells #[v, .int .i64 nr] 61)
set_option maxHeartbeats 1000000 in
theorem newc_any (a : Option Addr) (n c : Nat) (nr : Int) (w : World) :
    Calls Try.prog 13 #[.slice a n c, .int .i64 nr] w fun e w' => NewPost w w' (.slice a n c) nr e := by
  go_enter Try.func13, Try.ntmps13
  go_wp2
  go_ret
  exact ⟨rfl, rfl⟩

def RefPost (w w' : World) (v : Value) (fold : Bool) (e : Ending) : Prop :=
  e = .returned (.pointer (some ⟨w.heap.size, 0, none⟩)) ∧ ∃ nc, w' = w.alloc (.cells nc 70) ∧ nc[6]? = some v ∧ nc[14]? = some (.bool fold)
set_option maxHeartbeats 1000000 in
theorem ref_any (a : Option Addr) (n c : Nat) (fold : Bool) (w : World) :
    Calls Try.prog 16 #[.slice a n c, .bool fold] w fun e w' => RefPost w w' (.slice a n c) fold e := by
  go_enter Try.func16, Try.ntmps16
  go_wp2
  go_ret
  exact ⟨rfl, _, rfl, rfl, rfl⟩

set_option maxHeartbeats 1000000 in
theorem zback_any (gC gN gG g n cap B k : Nat) (nr : Int) (xs : List Value) (fold : Bool) (nc gc : Array Value) (z : Nat → Int) (w : World)
    (hP : Prg w gC g n cap B nr xs) (hN : Nod w gN gG k fold nc gc z) (hk : 0 < k) (hend : n + 3 * k - 2 ≤ 65536) (hBC : B ≤ gC) :
    Calls Try.prog 15 #[.pointer (some ⟨gC, 0, none⟩), .pointer (some ⟨gN, 0, none⟩)] w fun e w' => BackPost w w' gC n k B nr z fold e := by
  have HP := hid hP
  have HN := hid hN
  clear hP hN
  go_enter Try.func15, Try.ntmps15
  go_wp2_with fail
  refine (back_any gC gN gG g n cap B k nr xs fold nc gc z w HP.out HN.out hk hend hBC).mono ?_
  rintro e w' ⟨rfl, h⟩
  have H := hid h
  clear h
  go_wp2
  go_end0
  exact ⟨by first | rfl | simp, H.out⟩

set_option maxHeartbeats 1000000 in
theorem prog_any (gC : Nat) (v : Value) (nr : Int) (w : World) (h : Cmp w gC v nr) :
    Calls Try.prog 17 #[.pointer (some ⟨gC, 0, none⟩)] w fun e w' => e = .returned v ∧ w' = w := by
  obtain ⟨c0, f0⟩ := h.cell
  go_enter Try.func17, Try.ntmps17
  go_wp2
  go_ret
  exact ⟨rfl, rfl⟩

set_option maxHeartbeats 2000000 in
theorem fields_any (a0 a1 a2 a5 a6 a7 : Int) (a3 a4 : Bool) (a8 : Option Addr) (w : World) :
    Calls Try.prog 19 #[.agg #[.int .u8 a0, .int .u8 a1, .int .u8 a2, .bool a3, .bool a4, .int .u8 a5, .int .i64 a6, .int .i64 a7, .pointer a8]] w fun e w' =>
      e = .returned (.tuple #[.int .u8 a0, .int .u8 a1, .int .u8 a2, .bool a3, .bool a4, .int .u8 a5, .int .i64 a6, .int .i64 a7, .pointer a8]) ∧ Below w.heap.size w w' := by
  go_enter Try.func19, Try.ntmps19
  go_wp2_with fail
  go_quiet (fail)
  go_wp2
  exact bodyPost_ret (v := .tuple #[.int .u8 a0, .int .u8 a1, .int .u8 a2, .bool a3, .bool a4, .int .u8 a5, .int .i64 a6, .int .i64 a7, .pointer a8]) (by simp [results, Try.results19, go_sem]) rfl ⟨rfl, below_drewN ((Below.refl _ _).alloc (Nat.le_refl _) _) _⟩
end Go.Proofs.Qxb6601528a.Br
