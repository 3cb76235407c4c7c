import Derived.Test.Qxb6601528aBrBuild
import Derived.ProofKit
import Derived.OpenShut
set_option linter.unusedVariables false
namespace Go.Proofs.Qxb6601528a.Br
open Go.RowKit Go.ChangeShapes Go.WideShapes

section
variable {H : Type} (enc : TypeId × Value → H) (W : World)

theorem br_add (b off k : Nat) : (⟨b, off, none⟩ : Addr).add k = ⟨b, off + k, none⟩ := by simp [Addr.add]

theorem ints_of {fuel : Nat} {v : Value} {x : DataW H × List MemPlace} (h : DataW.trod enc Try.prog W 0 (fun _ => true) true fuel 34 [v] = some x) :
    ∃ ad len cap z, v = .slice ad len cap ∧ IsInts W ad len cap z := by
  have hc : Try.prog.cellsOf 3 = 1 := by kernel_rfl
  rcases DataW.trod_slice Try.underlying34 h with ⟨e2, _⟩ | ⟨a, len, cap, elems, rest, m, _, e2, _, _, hlc, hcm, hl, hel, _, _⟩
  · simp at e2
    subst e2
    exact ⟨none, 0, 0, fun _ => 0, rfl, Nat.le_refl _, Nat.zero_le _, fun _ => rfl, Or.inl rfl⟩
  · simp at e2
    subst e2
    rw [hc] at hel
    have key : ∀ i, ∃ q : Int, i < len → W.cell? (a.add i) = some (.int .i64 q) := by
      intro i
      by_cases hi : i < len
      · have h1 := hel i hi
        rw [List.getElem?_eq_getElem (by omega), Nat.mul_one] at h1
        simp only [Option.bind_eq_some_iff] at h1
        obtain ⟨cs, hcs, ht⟩ := h1
        obtain ⟨_, hlen, hcell⟩ := World.cells?_some hcs
        match cs, hlen with
        | [v], _ =>
          obtain ⟨q, e0, _, _⟩ := DataW.trod_int Try.underlying3 ht
          simp at e0
          subst e0
          have h0 := hcell 0 (by omega)
          refine ⟨q, fun _ => ?_⟩
          have e : (a.add i).add 0 = a.add i := by simp [Addr.add]
          rw [e] at h0
          simpa using h0
      · exact ⟨0, fun h' => absurd h' hi⟩
    obtain ⟨z, hz⟩ := Classical.skolem.1 key
    refine ⟨some a, len, cap, z, rfl, hlc, hcm, (fun h => by cases h), ?_⟩
    by_cases h0 : len = 0
    · exact Or.inl h0
    · right
      obtain ⟨b', off', spot'⟩ := a
      have hs : spot' = none := by simpa [Addr.add] using World.cell?_spot (hz 0 (by omega))
      subst hs
      exact ⟨b', off', rfl, fun i hi => by have h := hz i hi; rwa [br_add] at h⟩

theorem set_of {fuel : Nat} {v : Value} {x : DataW H × List MemPlace} (h : DataW.trod enc Try.prog W 0 (fun _ => true) true fuel 45 [v] = some x) :
    ∃ a8, v = .pointer a8 ∧ (a8 = none ∨ ∃ (b' o' : Nat) (s0 s1 s2 s3 : Int), a8 = some ⟨b', o', none⟩ ∧ W.cell? ⟨b', o', none⟩ = some (.int .u64 s0) ∧ W.cell? ⟨b', o' + 1, none⟩ = some (.int .u64 s1) ∧ W.cell? ⟨b', o' + 2, none⟩ = some (.int .u64 s2) ∧ W.cell? ⟨b', o' + 3, none⟩ = some (.int .u64 s3)) := by
  rcases DataW.trod_pointer Try.underlying45 h with ⟨e, _⟩ | ⟨a, cs, y, m, _, e, _, hcells, hd⟩
  · simp at e; exact ⟨none, e, Or.inl rfl⟩
  · simp at e
    subst e
    refine ⟨some a, rfl, Or.inr ?_⟩
    have h4 : Try.prog.cellsOf 65 = 4 := by kernel_rfl
    have c64 : Try.prog.cellsOf 64 = 1 := by kernel_rfl
    rw [h4] at hcells
    obtain ⟨_, hlen, hcell⟩ := World.cells?_some hcells
    match cs, hlen with
    | [v0, v1, v2, v3], _ =>
      obtain ⟨b, off, spot⟩ := a
      have hspot : spot = none := by simpa [Addr.add] using World.cell?_spot (hcell 0 (by omega))
      subst hspot
      have g : ∀ i, i < 4 → W.cell? ⟨b, off + i, none⟩ = [v0, v1, v2, v3][i]? := fun i hi => by have h := hcell i hi; rwa [br_add] at h
      obtain ⟨xs, k, _, _, _, hxl, hf⟩ := DataW.trod_array Try.underlying65 hd
      have f0 := hf 0 (by omega)
      have f1 := hf 1 (by omega)
      have f2 := hf 2 (by omega)
      have f3 := hf 3 (by omega)
      rw [List.getElem?_eq_getElem (show 0 < xs.length by omega)] at f0
      rw [List.getElem?_eq_getElem (show 1 < xs.length by omega)] at f1
      rw [List.getElem?_eq_getElem (show 2 < xs.length by omega)] at f2
      rw [List.getElem?_eq_getElem (show 3 < xs.length by omega)] at f3
      simp only [c64, Nat.mul_one, List.drop_succ_cons, List.drop_zero, List.take_succ_cons, List.take_zero] at f0 f1 f2 f3
      obtain ⟨s0, e0, _, _⟩ := DataW.trod_int Try.underlying64 f0
      obtain ⟨s1, e1, _, _⟩ := DataW.trod_int Try.underlying64 f1
      obtain ⟨s2, e2, _, _⟩ := DataW.trod_int Try.underlying64 f2
      obtain ⟨s3, e3, _, _⟩ := DataW.trod_int Try.underlying64 f3
      simp at e0 e1 e2 e3
      subst e0 e1 e2 e3
      exact ⟨b, off, s0, s1, s2, s3, rfl, g 0 (by omega), g 1 (by omega), g 2 (by omega), g 3 (by omega)⟩

theorem inst_of {fuel b off : Nat} {cs : List Value} {x : DataW H × List MemPlace} (hcells : W.cells? 0 ⟨b, off, none⟩ 9 = some cs)
    (hd : DataW.trod enc Try.prog W 0 (fun _ => true) true fuel 63 cs = some x) : PreAt W b off := by
  obtain ⟨_, hlen, hcell⟩ := World.cells?_some hcells
  match cs, hlen with
  | [v0, v1, v2, v3, v4, v5, v6, v7, v8], _ =>
    have g : ∀ i, i < 9 → W.cell? ⟨b, off + i, none⟩ = [v0, v1, v2, v3, v4, v5, v6, v7, v8][i]? := fun i hi => by have h := hcell i hi; rwa [br_add] at h
    obtain ⟨xs, k, _, _, _, hxl, hf⟩ := DataW.trod_struct Try.underlying63 hd
    have hxl' : xs.length = 9 := hxl
    have c5 : Try.prog.cellsOf 5 = 1 := by kernel_rfl
    have c4 : Try.prog.cellsOf 4 = 1 := by kernel_rfl
    have c3 : Try.prog.cellsOf 3 = 1 := by kernel_rfl
    have c45 : Try.prog.cellsOf 45 = 1 := by kernel_rfl
    have f0 : DataW.trod enc Try.prog W 0 (fun _ => true) true k 5 (([v0, v1, v2, v3, v4, v5, v6, v7, v8].drop 0).take (Try.prog.cellsOf 5)) = xs[0]? := hf 0 _ rfl
    have f1 : DataW.trod enc Try.prog W 0 (fun _ => true) true k 5 (([v0, v1, v2, v3, v4, v5, v6, v7, v8].drop 1).take (Try.prog.cellsOf 5)) = xs[1]? := hf 1 _ rfl
    have f2 : DataW.trod enc Try.prog W 0 (fun _ => true) true k 5 (([v0, v1, v2, v3, v4, v5, v6, v7, v8].drop 2).take (Try.prog.cellsOf 5)) = xs[2]? := hf 2 _ rfl
    have f3 : DataW.trod enc Try.prog W 0 (fun _ => true) true k 4 (([v0, v1, v2, v3, v4, v5, v6, v7, v8].drop 3).take (Try.prog.cellsOf 4)) = xs[3]? := hf 3 _ rfl
    have f4 : DataW.trod enc Try.prog W 0 (fun _ => true) true k 4 (([v0, v1, v2, v3, v4, v5, v6, v7, v8].drop 4).take (Try.prog.cellsOf 4)) = xs[4]? := hf 4 _ rfl
    have f5 : DataW.trod enc Try.prog W 0 (fun _ => true) true k 5 (([v0, v1, v2, v3, v4, v5, v6, v7, v8].drop 5).take (Try.prog.cellsOf 5)) = xs[5]? := hf 5 _ rfl
    have f6 : DataW.trod enc Try.prog W 0 (fun _ => true) true k 3 (([v0, v1, v2, v3, v4, v5, v6, v7, v8].drop 6).take (Try.prog.cellsOf 3)) = xs[6]? := hf 6 _ rfl
    have f7 : DataW.trod enc Try.prog W 0 (fun _ => true) true k 3 (([v0, v1, v2, v3, v4, v5, v6, v7, v8].drop 7).take (Try.prog.cellsOf 3)) = xs[7]? := hf 7 _ rfl
    have f8 : DataW.trod enc Try.prog W 0 (fun _ => true) true k 45 (([v0, v1, v2, v3, v4, v5, v6, v7, v8].drop 8).take (Try.prog.cellsOf 45)) = xs[8]? := hf 8 _ rfl
    rw [List.getElem?_eq_getElem (show 0 < xs.length by omega)] at f0
    rw [List.getElem?_eq_getElem (show 1 < xs.length by omega)] at f1
    rw [List.getElem?_eq_getElem (show 2 < xs.length by omega)] at f2
    rw [List.getElem?_eq_getElem (show 3 < xs.length by omega)] at f3
    rw [List.getElem?_eq_getElem (show 4 < xs.length by omega)] at f4
    rw [List.getElem?_eq_getElem (show 5 < xs.length by omega)] at f5
    rw [List.getElem?_eq_getElem (show 6 < xs.length by omega)] at f6
    rw [List.getElem?_eq_getElem (show 7 < xs.length by omega)] at f7
    rw [List.getElem?_eq_getElem (show 8 < xs.length by omega)] at f8
    simp only [c5, c4, c3, c45, List.drop_succ_cons, List.drop_zero, List.take_succ_cons, List.take_zero] at f0 f1 f2 f3 f4 f5 f6 f7 f8
    obtain ⟨a0, e0, _, _⟩ := DataW.trod_int Try.underlying5 f0
    obtain ⟨a1, e1, _, _⟩ := DataW.trod_int Try.underlying5 f1
    obtain ⟨a2, e2, _, _⟩ := DataW.trod_int Try.underlying5 f2
    obtain ⟨a3, e3, _⟩ := DataW.trod_bool Try.underlying4 f3
    obtain ⟨a4, e4, _⟩ := DataW.trod_bool Try.underlying4 f4
    obtain ⟨a5, e5, _, _⟩ := DataW.trod_int Try.underlying5 f5
    obtain ⟨a6, e6, _, _⟩ := DataW.trod_int Try.underlying3 f6
    obtain ⟨a7, e7, _, _⟩ := DataW.trod_int Try.underlying3 f7
    obtain ⟨a8, e8, h8⟩ := set_of enc W f8
    simp at e0 e1 e2 e3 e4 e5 e6 e7
    subst e0 e1 e2 e3 e4 e5 e6 e7 e8
    exact ⟨a0, a1, a2, a5, a6, a7, a3, a4, a8, g 0 (by omega), g 1 (by omega), g 2 (by omega), g 3 (by omega), g 4 (by omega), g 5 (by omega), g 6 (by omega), g 7 (by omega), g 8 (by omega), h8⟩

theorem pre_of {fuel : Nat} {v : Value} {x : DataW H × List MemPlace} (h : DataW.trod enc Try.prog W 0 (fun _ => true) true fuel 33 [v] = some x) :
    ∃ ad len cap, v = .slice ad len cap ∧ IsPre W ad len cap := by
  have hc : Try.prog.cellsOf 63 = 9 := by kernel_rfl
  rcases DataW.trod_slice Try.underlying33 h with ⟨e2, _⟩ | ⟨a, len, cap, elems, rest, m, _, e2, _, _, hlc, hcm, hl, hel, _, _⟩
  · simp at e2
    subst e2
    exact ⟨none, 0, 0, rfl, Nat.le_refl _, Nat.zero_le _, Or.inl rfl⟩
  · simp at e2
    subst e2
    rw [hc] at hel
    refine ⟨some a, len, cap, rfl, hlc, hcm, ?_⟩
    by_cases h0 : len = 0
    · exact Or.inl h0
    · right
      obtain ⟨b', off', spot'⟩ := a
      have hat : ∀ i, i < len → ∃ cs, W.cells? 0 ((⟨b', off', spot'⟩ : Addr).add (i * 9)) 9 = some cs ∧ ∃ y, DataW.trod enc Try.prog W 0 (fun _ => true) true m 63 cs = some y := by
        intro i hi
        have h1 := hel i hi
        rw [List.getElem?_eq_getElem (by omega)] at h1
        simp only [Option.bind_eq_some_iff] at h1
        obtain ⟨cs, hcs, ht⟩ := h1
        exact ⟨cs, hcs, _, ht⟩
      obtain ⟨cs, hcs, _⟩ := hat 0 (by omega)
      obtain ⟨_, hlen, hcell⟩ := World.cells?_some hcs
      have hs : spot' = none := by
        have h9 := hcell 0 (by omega)
        rw [List.getElem?_eq_getElem (by omega)] at h9
        simpa [Addr.add] using World.cell?_spot h9
      subst hs
      refine ⟨b', off', rfl, fun i hi => ?_⟩
      obtain ⟨cs, hcs, y, hy⟩ := hat i hi
      rw [br_add] at hcs
      exact inst_of enc W hcs hy
end
end Go.Proofs.Qxb6601528a.Br
