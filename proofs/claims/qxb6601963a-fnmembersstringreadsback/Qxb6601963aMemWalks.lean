import Derived.Test.Qxb6601963aRows
import Derived.WalkKit
import Derived.WalkSpells
import Derived.WalkLawsBesides
import Derived.ProofKit
import Derived.Deep.QuietTactic
import Derived.BigQuiet
import Derived.Lib.BufSteps
import Derived.Test.Qxb6601963aMemPlain
namespace Go.Proofs.Qxb6601963a.MemW
open Go.RowKit Go.Lib

theorem hid {p : Prop} (h : p) : Hid p := h

def nm (k : Nat) : ByteArray := ⟨(nmL k).toArray⟩
def byteCells (l : List UInt8) : List Value := l.map fun b => Value.int .u8 b.toNat

theorem Try.info5 : (Try.prog.info? 5).map (fun i => (i.zero, i.size, i.bytes)) = some (some (.int .u8 0), 1, 1) := by kernel_rfl

def boxed (w : World) (a0 a1 a2 a3 a4 a5 : Bool) : World :=
  (w.alloc (Obj.cells #[Value.bool a0, Value.bool a1, Value.bool a2, Value.bool a3, Value.bool a4, Value.bool a5] 52)).alloc
  (Obj.cells #[Value.string { data := #[101, 120, 112, 101, 99, 116] }, Value.bool a0,
      Value.string { data := #[118, 97, 108, 117, 101] }, Value.bool a1, Value.string { data := #[109, 111, 100, 101] },
      Value.bool a2, Value.string { data := #[111, 107] }, Value.bool a3,
      Value.string { data := #[103, 101, 110, 101, 114, 97, 116, 105, 111, 110] }, Value.bool a4,
      Value.string { data := #[117, 110, 107, 110, 111, 119, 110] }, Value.bool a5] 60)

theorem boxed_size (w : World) (a0 a1 a2 a3 a4 a5 : Bool) : (boxed w a0 a1 a2 a3 a4 a5).heap.size = w.heap.size + 2 := by
  show ((w.heap.push _).push _).size = _
  simp
theorem boxed_heap (w : World) (a0 a1 a2 a3 a4 a5 : Bool) : (boxed w a0 a1 a2 a3 a4 a5).heap[w.heap.size + 1]? = some (Obj.cells #[Value.string { data := #[101, 120, 112, 101, 99, 116] }, Value.bool a0,
      Value.string { data := #[118, 97, 108, 117, 101] }, Value.bool a1, Value.string { data := #[109, 111, 100, 101] },
      Value.bool a2, Value.string { data := #[111, 107] }, Value.bool a3,
      Value.string { data := #[103, 101, 110, 101, 114, 97, 116, 105, 111, 110] }, Value.bool a4,
      Value.string { data := #[117, 110, 107, 110, 111, 119, 110] }, Value.bool a5] 60) := by
  show ((w.heap.push _).push _)[_]? = _
  rw [Array.getElem?_push, if_pos (by simp)]
theorem boxed_cell (w : World) (a0 a1 a2 a3 a4 a5 : Bool) (k : Nat) (hk : k < 6) :
    (boxed w a0 a1 a2 a3 a4 a5).cell? ⟨w.heap.size + 1, k * 2, none⟩ = some (.string (nm k)) ∧ (boxed w a0 a1 a2 a3 a4 a5).cell? ⟨w.heap.size + 1, k * 2 + 1, none⟩ = some (.bool (pick6 a0 a1 a2 a3 a4 a5 k)) := by
  simp only [World.cell?, boxed_heap]
  match k, hk with
  | 0, _ => exact ⟨rfl, rfl⟩
  | 1, _ => exact ⟨rfl, rfl⟩
  | 2, _ => exact ⟨rfl, rfl⟩
  | 3, _ => exact ⟨rfl, rfl⟩
  | 4, _ => exact ⟨rfl, rfl⟩
  | 5, _ => exact ⟨rfl, rfl⟩
theorem boxed_below (w : World) (a0 a1 a2 a3 a4 a5 : Bool) : Below w.heap.size w (boxed w a0 a1 a2 a3 a4 a5) :=
  (((Below.refl _ _).alloc (Nat.le_refl _) _).alloc (by simp) _)

theorem own_step {B : Nat} {v v' : Value} {n n' : Nat} {xs xs' : List Value} {W0 w w' : World} (h : OwnBuf B 5 v n xs W0 w) (ho : w'.ownsRowF B 5 1 v' n' xs') (hg : w.grownBy w' v.ownBlock) : OwnBuf B 5 v' n' xs' W0 w' := h.grown ho hg

theorem one_new2 (w : World) (o : Obj) (x : Value) (t : TypeId) : ∀ j u, [x][j]? = some u → ((w.alloc o).alloc (.cells #[x] t)).cell? ((⟨w.heap.size + 1, 0, none⟩ : Addr).add j) = some u := by
  have h := cell_one_new (w.alloc o) x t
  have e : (w.alloc o).heap.size = w.heap.size + 1 := by simp
  rw [e] at h
  exact h

theorem kept_box {B : Nat} {v : Value} {n : Nat} {xs : List Value} {W0 wr w1 : World} (hB : OwnBuf B 5 v n xs W0 wr) (s : ByteArray) (b : Bool) (o : Obj)
    (hg : ((wr.alloc (.cells #[.string s, .bool b] 60)).alloc o).grownBy w1 v.ownBlock) : w1.cell? ⟨wr.heap.size, 0, none⟩ = some (.string s) := by
  refine hg.cell ?_ ?_
  · rw [World.cell?_alloc_past _ _ _ (by simp)]
    simp
  · intro e
    have := (hB.1.lt wr.heap.size e.symm).2
    omega

theorem byteCells_append (a b : List UInt8) : byteCells (a ++ b) = byteCells a ++ byteCells b := by simp [byteCells]
theorem strCells_nm (k : Nat) : strCells (nm k) = byteCells (nmL k) := by simp [strCells, byteCells, nm]
theorem nm_size (k : Nat) : (nm k).size = (nmL k).length := by simp [nm, ByteArray.size]
set_option maxHeartbeats 1000000 in
theorem string_any (a0 a1 a2 a3 a4 a5 : Bool) (w : World) :
    Calls Try.prog 21 #[.agg #[.bool a0, .bool a1, .bool a2, .bool a3, .bool a4, .bool a5]] w fun e w' => e = .returned (.string ⟨(outL (acc (pick6 a0 a1 a2 a3 a4 a5) 6)).toArray⟩) ∧ Below w.heap.size w w' := by
  obtain ⟨i5, hi, hz0, hz1, hz2⟩ := info_parts Try.info5
  have HI := hid hi
  clear hi
  go_enter Try.func21, Try.ntmps21
  go_wp2
  go_loopw [3, 26] (fun v i wr => ∃ k : Nat, k ≤ 6 ∧ i = .int .i64 k ∧ OwnBuf (w.heap.size + 2) 5 v (acc (pick6 a0 a1 a2 a3 a4 a5) k).length (byteCells (acc (pick6 a0 a1 a2 a3 a4 a5) k)) (boxed w a0 a1 a2 a3 a4 a5) wr) (fun _ i _ => 6 - (intOf i).toNat)
  case atStart => exact ⟨0, by omega, rfl, ⟨⟨by simp [acc, byteCells], Or.inl ⟨rfl, rfl⟩⟩, Below.refl _ _, by simp⟩⟩
  case round =>
    obtain ⟨k, hk, rfl, hB⟩ := hrel
    by_cases hlt : k < 6
    · obtain ⟨c1, c2⟩ := boxed_cell w a0 a1 a2 a3 a4 a5 k hlt
      have d1 : wr.cell? ⟨w.heap.size + 1, k * 2, none⟩ = some (.string (nm k)) := (hB.2.1.cell (by show w.heap.size + 1 < _; omega)).trans c1
      have d2 : wr.cell? ⟨w.heap.size + 1, k * 2 + 1, none⟩ = some (.bool (pick6 a0 a1 a2 a3 a4 a5 k)) := (hB.2.1.cell (by show w.heap.size + 1 < _; omega)).trans c2
      clear c1 c2
      have hal := acc_le (pick6 a0 a1 a2 a3 a4 a5) k
      have HB : Hid (OwnBuf (w.heap.size + 2) 5 u3 (acc (pick6 a0 a1 a2 a3 a4 a5) k).length (byteCells (acc (pick6 a0 a1 a2 a3 a4 a5) k)) (boxed w a0 a1 a2 a3 a4 a5) wr) := hB
      clear hB
      generalize hpk : pick6 a0 a1 a2 a3 a4 a5 k = pk at d2
      have HP : Hid (pick6 a0 a1 a2 a3 a4 a5 k = pk) := hpk
      clear hpk
      cases pk
      · go_wp2_with fail
        go_roundw
        case rel => exact ⟨k + 1, by omega, by go_num, by rw [acc_false _ _ HP.out]; exact HB.out.alloc _⟩
        case measure => simp [intOf]; omega
      · have hnl := nmL_le k
        go_wp2_with (first | (at_builtin; (refine wpList_append_ownF _ rfl (.tmp 32) (.tmp 33) 59 rfl (w.heap.size + 2) 5 i5 (.int .u8 0) 1 1 Try.underlying59 HI.out hz0 hz1 hz2 rfl (by decide) _ _ _ rfl ((HB.out.alloc _).alloc _).1 ⟨wr.heap.size + 1, 0, none⟩ 1 1 [.int .u8 32] rfl rfl (one_new2 _ _ _ _) (by simp [Value.oneCell']) (by unfold maxLen; omega) (by omega) ((HB.out.alloc _).alloc _).2.2 ?_); intro v1 w1 ho1 hg1 _; have hcl := kept_box HB.out _ _ _ hg1; have hB1 := ((HB.out.alloc _).alloc _).grown ho1 hg1; have HB1 := hid hB1; clear ho1 hg1 hB1) | (at_builtin; (refine wpList_append_own_stringF _ rfl (.tmp 35) (.tmp 37) 59 9 rfl (w.heap.size + 2) 5 i5 Try.underlying59 Try.underlying9 HI.out hz0 hz1 hz2 _ _ _ rfl HB1.out.1 (nm k) rfl (by rw [nm_size]; unfold maxLen; omega) (by rw [nm_size]; omega) HB1.out.2.2 ?_; intro v2 w2 ho2 hg2 _; have hB2 := HB1.out.grown ho2 hg2; have HB2 := hid hB2; clear ho2 hg2 hB2)))
        go_roundw
        case rel =>
          refine ⟨k + 1, by omega, by go_num, ?_⟩
          rw [acc_true _ _ HP.out, byteCells_append, byteCells_append, List.length_append, List.length_append, ← nm_size, ← strCells_nm]
          exact HB2.out
        case measure => simp [intOf]; omega
    · obtain rfl : k = 6 := by omega
      have hbel : Below w.heap.size w wr := (boxed_below w a0 a1 a2 a3 a4 a5).trans (hB.2.1.mono (by omega))
      have hal := acc_le (pick6 a0 a1 a2 a3 a4 a5) 6
      have hag := acc_ge (pick6 a0 a1 a2 a3 a4 a5) 6
      generalize hl : acc (pick6 a0 a1 a2 a3 a4 a5) 6 = l at hB hal hag
      have HL := hid hl
      clear hl
      have HBel := hid hbel
      clear hbel
      obtain ⟨⟨hxl, hsh⟩, _, _⟩ := hB
      rcases hsh with ⟨rfl, hn⟩ | ⟨g, cap, cur, fz, rfl, hg, hh, _, hnc, hcm, hcs, htk⟩
      · have HO : Hid (outL l = noneL) := by show _ = _; rw [outL, if_pos hn]
        clear hxl hn hlt hal hag
        go_wp2_with fail
        go_ret
        exact ⟨by rw [HL.out, HO.out]; rfl, HBel.out⟩
      · have hcells : ∀ j (hj : j < l.length), wr.cell? ⟨g, j, none⟩ = some (.int .u8 (l[j].toNat : Int)) := by
          intro j hj
          simp only [World.cell?, hh]
          have h1 : (cur.toList.take (l.length * 1))[j]? = (byteCells l)[j]? := by rw [htk]
          rw [List.getElem?_take_of_lt (by omega)] at h1
          simp [byteCells, List.getElem?_eq_getElem hj] at h1
          simpa using h1
        by_cases hn : l.length = 0
        · have HO : Hid (outL l = noneL) := by show _ = _; rw [outL, if_pos hn]
          have hl0 : ((l.length : Int) == 0) = true := by rw [beq_iff_eq]; omega
          clear hcells htk hh hxl hag
          go_wp2_with fail
          go_ret
          exact ⟨by rw [HL.out, HO.out]; rfl, HBel.out⟩
        · have HO : Hid (outL l = l.tail) := by show _ = _; rw [outL, if_neg hn]
          have hl0 : ((l.length : Int) == 0) = false := by rw [beq_eq_false_iff_ne]; omega
          have hcv : (convert 59 9 (.slice (some ⟨g, 1, none⟩) (l.length - 1) (cap - 1))).run Try.prog wr = .ok (.string ⟨l.tail.toArray⟩) wr := by
            have h := run_convert_bytes_back (P := Try.prog) wr 59 9 5 ⟨g, 1, none⟩ (cap - 1) l.tail Try.underlying59 Try.underlying5 Try.underlying9 (by
              intro j hj
              have hj' : j + 1 < l.length := by simp at hj; omega
              have := hcells (j + 1) hj'
              simp only [List.getElem_tail]
              rw [← this]
              simp only [Addr.add]
              split
              · rename_i h0; subst h0; rfl
              · rw [Nat.add_comm 1 j])
            rw [List.length_tail] at h
            exact h
          clear hcells htk hh hxl
          unfold maxLen at hcm
          have hc2 : 2 ≤ cap := by omega
          clear hag
          go_wp2_with fail
          go_ret
          exact ⟨by rw [HL.out, HO.out]; rfl, HBel.out⟩
end Go.Proofs.Qxb6601963a.MemW
