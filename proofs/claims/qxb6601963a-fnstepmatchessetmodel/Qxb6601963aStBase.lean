import Derived.Test.Qxb6601963aRows
import Derived.WalkKit
import Derived.WalkSpells
import Derived.WalkLawsBesides
import Derived.ProofKit
import Derived.Deep.QuietTactic
import Derived.BigQuiet
import Derived.Lib.LazyBuf
import Derived.BigRegion
import Derived.BigCall
import Derived.BigGuard
import Derived.CellFam
import Derived.Deep.RegionHeld3
import Derived.Deep.CutRange
import Derived.Sort.Row
import Derived.Sort.AssemblyPlain
import Derived.Maps.AppendAt
import Derived.OwnWalk
set_option linter.unusedVariables false
namespace Go.Proofs.Qxb6601963a.St
open Go.RowKit Go.Sort

theorem hid {p : Prop} (h : p) : Hid p := h

/-- the row of words holds d', no other block of the old ones has turned -/
structure Done (blk off N : Nat) (w w' : World) (d : Array Int) : Prop where
  size : d.size = N
  row : Holds (Value.int .u64) w' blk off d
  only : w.grownBy w' (some blk)

theorem only_set {blk : Nat} {w w' : World} (h : w.grownBy w' (some blk)) (o : Nat) (v : Value) : w.grownBy (w'.setCell ⟨blk, o, none⟩ v) (some blk) :=
  ⟨h.os, h.tape, h.output, by simpa using h.size, fun k hk hne => (Below.heap_setCell _ _ _ _ (fun e => hne (by rw [e]))).trans (h.block k hk hne)⟩
theorem only_drewN {blk : Nat} {w w' : World} (h : w.grownBy w' (some blk)) (n : Nat) : w.grownBy (w'.drewN n) (some blk) := ⟨h.os, h.tape, h.output, h.size, h.block⟩
theorem only_alloc {blk : Nat} {w w' : World} (h : w.grownBy w' (some blk)) (o : Obj) : w.grownBy (w'.alloc o) (some blk) := h.trans (World.grownBy_alloc w' o _)

theorem Done.start {blk off : Nat} {w : World} {d : Array Int} (h : Holds (Value.int .u64) w blk off d) : Done blk off d.size w w d := ⟨rfl, h, World.grownBy.refl _ _⟩
theorem Done.drewN {blk off N : Nat} {w w' : World} {d : Array Int} (h : Done blk off N w w' d) (n : Nat) : Done blk off N w (w'.drewN n) d := ⟨h.size, h.row, only_drewN h.only n⟩
theorem Done.after {blk off N : Nat} {w w' w'' : World} {d d' : Array Int} (h : Done blk off N w w' d) (h' : Done blk off N w' w'' d') : Done blk off N w w'' d' := ⟨h'.size, h'.row, h.only.trans h'.only⟩
theorem Done.swap {blk off N : Nat} {w w' : World} {d : Array Int} (h : Done blk off N w w' d) (i j : Nat) (hi : i < N) (hj : j < N) :
    Done blk off N w ((w'.setCell ⟨blk, off + i, none⟩ (.int .u64 d[j]!)).setCell ⟨blk, off + j, none⟩ (.int .u64 d[i]!)) (swp d i j) := by
  obtain ⟨hs, hr, ho⟩ := h
  subst hs
  refine ⟨size_swp _ _ _, ?_, only_set (only_set ho _ _) _ _⟩
  have e := putRow_swp (Value.int .u64) w' blk off d i j hi hj
  rw [putRow_self _ _ _ _ _ hr] at e
  rw [e]
  exact holds_putRow _ _ _ _ d _ hr (size_swp _ _ _)

theorem Done.cells {blk off N : Nat} {w w' : World} {d : Array Int} (h : Done blk off N w w' d) :
    ∃ G : Nat → Int, (∀ t, G t = d[t]!) ∧ (∀ t, t < N → w'.cell? ⟨blk, off + t, none⟩ = some (.int .u64 (G t))) ∧ (∀ t, t < N → w'.frozen? ⟨blk, off + t, none⟩ = false) := by
  obtain ⟨rfl, hr, ho⟩ := h
  exact ⟨fun t => d[t]!, fun _ => rfl, fun t ht => (hr t ht).1, fun t ht => (hr t ht).2⟩

set_option maxHeartbeats 1000000 in
theorem isNaN_any (x : Int) (w : World) : Calls Try.prog 50 #[.int .u64 x] w fun e w' => e = .returned (.bool false) ∧ w' = w := by
  go_enter Try.func50, Try.ntmps50
  go_wp2
  go_ret
  exact ⟨by simp, rfl⟩

set_option maxHeartbeats 1000000 in
theorem less_any (x y : Int) (w : World) : Calls Try.prog 40 #[.int .u64 x, .int .u64 y] w fun e w' => e = .returned (.bool (decide (x < y))) ∧ w' = w := by
  go_enter Try.func40, Try.ntmps40
  go_wp2_with (go_at_call 50; refine (isNaN_any _ _).mono ?_; rintro e w' ⟨rfl, rfl⟩)
  go_ret
  exact ⟨rfl, rfl⟩
end Go.Proofs.Qxb6601963a.St
