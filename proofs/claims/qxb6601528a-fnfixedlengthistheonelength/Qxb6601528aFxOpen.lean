import Derived.Test.Qxb6601528aFxBase
import Derived.ProofKit
import Derived.OpenShut
namespace Go.Proofs.Qxb6601528a.Fx
open Go.RowKit Go.ChangeShapes Go.WideShapes

section
variable {H : Type} (enc : TypeId × Value → H) (W : World)

/-- a pointer to a node that can be read as data -/
def Sees (q : Option Addr) : Prop := ∃ fuel x, DataW.trod enc Try.prog W 0 (fun _ => true) true fuel 22 [.pointer q] = some x

theorem ptr_of {fuel : Nat} {v : Value} {x : DataW H × List MemPlace} (h : DataW.trod enc Try.prog W 0 (fun _ => true) true fuel 22 [v] = some x) : ∃ q, v = .pointer q ∧ Sees enc W q := by
  have h0 := h
  rcases DataW.trod_pointer Try.underlying22 h with ⟨e, _⟩ | ⟨a, cs', y, n, _, e, _, _, _⟩
  · simp at e; subst e; exact ⟨none, rfl, fuel, x, h0⟩
  · simp at e; subst e; exact ⟨some a, rfl, fuel, x, h0⟩

theorem els_of {len : Nat} {a : Addr} {m : Nat} {elems : List (DataW H × List MemPlace)} (hl : elems.length = len)
    (h : ∀ i, i < len → (W.cells? 0 (a.add (i * Try.prog.cellsOf 22)) (Try.prog.cellsOf 22)).bind (DataW.trod enc Try.prog W 0 (fun _ => true) true m 22) = elems[i]?) :
    ∃ el : Nat → Option Addr, ∀ i, i < len → W.cell? (a.add i) = some (.pointer (el i)) ∧ Sees enc W (el i) := by
  have hc : Try.prog.cellsOf 22 = 1 := by kernel_rfl
  rw [hc] at h
  have key : ∀ i, ∃ q : Option Addr, i < len → W.cell? (a.add i) = some (.pointer q) ∧ Sees enc W q := by
    intro i
    by_cases hi : i < len
    · have h1 := h i hi
      rw [List.getElem?_eq_getElem (by omega), Nat.mul_one] at h1
      simp only [Option.bind_eq_some_iff] at h1
      obtain ⟨cs, hcs, ht⟩ := h1
      obtain ⟨_, hlen, hcell⟩ := World.cells?_some hcs
      match cs, hlen with
      | [v], _ =>
        obtain ⟨q, rfl, hq⟩ := ptr_of enc W ht
        have h0 := hcell 0 (by omega)
        refine ⟨q, fun _ => ⟨?_, hq⟩⟩
        have e : (a.add i).add 0 = a.add i := by simp [Addr.add]
        rw [e] at h0
        simpa using h0
    · exact ⟨none, fun h' => absurd h' hi⟩
  obtain ⟨el, hel⟩ := Classical.skolem.1 key
  exact ⟨el, hel⟩

theorem plain_add (a : Addr) (v : Value) (h : W.cell? (a.add 0) = some v) : a.spot = none := by
  simpa [Addr.add] using World.cell?_spot h

/-- a node opened -/
theorem node_of (a : Addr) (h : Sees enc W (some a)) : ∃ n : Nd Addr, (∃ b off, a = ⟨b, off, none⟩ ∧ NdAt W b off n) ∧ Sees enc W n.sub ∧ ∀ i, i < n.len → Sees enc W (n.el i) := by
  obtain ⟨fuel, x, hx⟩ := h
  rcases DataW.trod_pointer Try.underlying22 hx with ⟨e, _⟩ | ⟨a', cs, y, m, _, e, _, hcells, hd⟩
  · simp at e
  · simp at e
    subst e
    have h6 : Try.prog.cellsOf 56 = 6 := by kernel_rfl
    rw [h6] at hcells
    obtain ⟨_, hlen, hcell⟩ := World.cells?_some hcells
    match cs, hlen with
    | [v0, v1, v2, v3, v4, v5], _ =>
      obtain ⟨b, off, spot⟩ := a
      have hspot : spot = none := by simpa [Addr.add] using World.cell?_spot (hcell 0 (by omega))
      subst hspot
      have g : ∀ i, i < 6 → W.cell? ⟨b, off + i, none⟩ = [v0, v1, v2, v3, v4, v5][i]? := fun i hi => by have h := hcell i hi; rwa [add_plain] at h
      obtain ⟨xs, k, _, _, _, hxl, hf⟩ := DataW.trod_struct Try.underlying56 hd
      have hxl' : xs.length = 6 := hxl
      have c5 : Try.prog.cellsOf 5 = 1 := by kernel_rfl
      have c22 : Try.prog.cellsOf 22 = 1 := by kernel_rfl
      have c54 : Try.prog.cellsOf 54 = 1 := by kernel_rfl
      have c3 : Try.prog.cellsOf 3 = 1 := by kernel_rfl
      have f0 : DataW.trod enc Try.prog W 0 (fun _ => true) true k 5 (([v0, v1, v2, v3, v4, v5].drop 0).take (Try.prog.cellsOf 5)) = xs[0]? := hf 0 _ rfl
      have f1 : DataW.trod enc Try.prog W 0 (fun _ => true) true k 22 (([v0, v1, v2, v3, v4, v5].drop 1).take (Try.prog.cellsOf 22)) = xs[1]? := hf 1 _ rfl
      have f2 : DataW.trod enc Try.prog W 0 (fun _ => true) true k 54 (([v0, v1, v2, v3, v4, v5].drop 2).take (Try.prog.cellsOf 54)) = xs[2]? := hf 2 _ rfl
      have f3 : DataW.trod enc Try.prog W 0 (fun _ => true) true k 3 (([v0, v1, v2, v3, v4, v5].drop 3).take (Try.prog.cellsOf 3)) = xs[3]? := hf 3 _ rfl
      have f4 : DataW.trod enc Try.prog W 0 (fun _ => true) true k 3 (([v0, v1, v2, v3, v4, v5].drop 4).take (Try.prog.cellsOf 3)) = xs[4]? := hf 4 _ rfl
      have f5 : DataW.trod enc Try.prog W 0 (fun _ => true) true k 5 (([v0, v1, v2, v3, v4, v5].drop 5).take (Try.prog.cellsOf 5)) = xs[5]? := hf 5 _ rfl
      rw [List.getElem?_eq_getElem (show 0 < xs.length by omega)] at f0
      rw [List.getElem?_eq_getElem (show 1 < xs.length by omega)] at f1
      rw [List.getElem?_eq_getElem (show 2 < xs.length by omega)] at f2
      rw [List.getElem?_eq_getElem (show 3 < xs.length by omega)] at f3
      rw [List.getElem?_eq_getElem (show 4 < xs.length by omega)] at f4
      rw [List.getElem?_eq_getElem (show 5 < xs.length by omega)] at f5
      simp only [c5, c22, c54, c3, List.drop_succ_cons, List.drop_zero, List.take_succ_cons, List.take_zero] at f0 f1 f2 f3 f4 f5
      obtain ⟨kind, e0, _, wk⟩ := DataW.trod_int Try.underlying5 f0
      obtain ⟨mn, e3, _, wm⟩ := DataW.trod_int Try.underlying3 f3
      obtain ⟨mx, e4, _, wx⟩ := DataW.trod_int Try.underlying3 f4
      obtain ⟨asr, e5, _, _⟩ := DataW.trod_int Try.underlying5 f5
      simp at e0 e3 e4 e5
      subst e0 e3 e4 e5
      obtain ⟨sub, rfl, hsub⟩ := ptr_of enc W f1
      have bk := bounds_u8 wk
      have bm := bounds_i64 wm
      have bx := bounds_i64 wx
      rcases DataW.trod_slice Try.underlying54 f2 with ⟨e2, _⟩ | ⟨sa, len, cap, elems, rest, r, _, e2, _, _, hlc, hcm, hel, helc, _, _⟩
      · simp at e2
        subst e2
        exact ⟨⟨kind, sub, none, 0, 0, fun _ => none, mn, mx, asr⟩, ⟨b, off, rfl, ⟨g 0 (by omega), g 1 (by omega), g 2 (by omega), g 3 (by omega), g 4 (by omega), g 5 (by omega), bk.1, bk.2, bm.1, bm.2, bx.1, bx.2, Nat.le_refl _, Nat.zero_le _, fun _ => rfl, Or.inl rfl⟩⟩, hsub, fun i hi => absurd hi (Nat.not_lt_zero _)⟩
      · simp at e2
        subst e2
        obtain ⟨el, hE⟩ := els_of enc W hel helc
        refine ⟨⟨kind, sub, some sa, len, cap, el, mn, mx, asr⟩, ⟨b, off, rfl, ⟨g 0 (by omega), g 1 (by omega), g 2 (by omega), g 3 (by omega), g 4 (by omega), g 5 (by omega), bk.1, bk.2, bm.1, bm.2, bx.1, bx.2, hlc, hcm, fun h => by simp at h, ?_⟩⟩, hsub, fun i hi => (hE i hi).2⟩
        by_cases h0 : len = 0
        · exact Or.inl h0
        · right
          obtain ⟨b', off', spot'⟩ := sa
          have hs := plain_add W _ _ (hE 0 (by omega)).1
          simp only at hs
          subst hs
          exact ⟨b', off', rfl, fun i hi => by have h := (hE i hi).1; rwa [add_plain] at h⟩

theorem closed_of : ∃ G : Addr → Nd Addr, Closed W G (Sees enc W) := by
  have key : ∀ a : Addr, ∃ n : Nd Addr, Sees enc W (some a) → (∃ b off, a = ⟨b, off, none⟩ ∧ NdAt W b off n) ∧ Sees enc W n.sub ∧ ∀ i, i < n.len → Sees enc W (n.el i) := by
    intro a
    by_cases h : Sees enc W (some a)
    · obtain ⟨n, hn⟩ := node_of enc W a h
      exact ⟨n, fun _ => hn⟩
    · exact ⟨⟨0, none, none, 0, 0, fun _ => none, 0, 0, 0⟩, fun h' => absurd h' h⟩
  obtain ⟨G, hG⟩ := Classical.skolem.1 key
  exact ⟨G, ⟨fun a ha => (hG a ha).1, fun a ha => (hG a ha).2.1, fun a ha => (hG a ha).2.2⟩⟩
end
end Go.Proofs.Qxb6601528a.Fx
