import Derived.Test.Qxb6601837aSeBase
import Derived.ProofKit
import Derived.OpenShut
set_option linter.unusedVariables false
namespace Go.Proofs.Qxb6601837a.Se
open Go.RowKit Go.ChangeShapes Go.WideShapes

section
variable {H : Type} (enc : TypeId × Value → H) (W : World)

theorem se_add (b off k : Nat) : (⟨b, off, none⟩ : Addr).add k = ⟨b, off + k, none⟩ := by simp [Addr.add]

theorem some_at {α : Type} {xs : List α} {n i : Nat} {o : Option α} (h : o = xs[i]?) (hn : xs.length = n) (hi : i < n) : ∃ y, o = some y :=
  ⟨_, h.trans (List.getElem?_eq_getElem (by omega))⟩

theorem strs_of {fuel : Nat} {v : Value} {x : DataW H × List MemPlace} (h : DataW.trod enc Try.prog W 0 (fun _ => true) true fuel 23 [v] = some x) :
    ∃ ad len cap, v = .slice ad len cap ∧ IsStrs W ad len cap := by
  have hc : Try.prog.cellsOf 9 = 1 := by kernel_rfl
  rcases DataW.trod_slice Try.underlying23 h with ⟨e2, _⟩ | ⟨a, len, cap, elems, rest, m, _, e2, _, _, hlc, hcm, hl, hel, _, _⟩
  · simp at e2
    subst e2
    exact ⟨none, 0, 0, rfl, Nat.le_refl _, Nat.zero_le _, Or.inl rfl⟩
  · simp at e2
    subst e2
    rw [hc] at hel
    have key : ∀ i, i < len → ∃ s : ByteArray, s.size ≤ maxLen ∧ W.cell? (a.add i) = some (.string s) := by
      intro i hi
      have h1 := hel i hi
      rw [List.getElem?_eq_getElem (by omega), Nat.mul_one] at h1
      simp only [Option.bind_eq_some_iff] at h1
      obtain ⟨cs, hcs, ht⟩ := h1
      obtain ⟨_, hlen, hcell⟩ := World.cells?_some hcs
      match cs, hlen with
      | [v], _ =>
        obtain ⟨s, e0, _, hs⟩ := DataW.trod_string Try.underlying9 ht
        simp at e0
        subst e0
        have h0 := hcell 0 (by omega)
        have e : (a.add i).add 0 = a.add i := by simp [Addr.add]
        rw [e] at h0
        exact ⟨s, hs, by simpa using h0⟩
    refine ⟨some a, len, cap, rfl, hlc, hcm, ?_⟩
    by_cases h0 : len = 0
    · exact Or.inl h0
    · right
      obtain ⟨b', off', spot'⟩ := a
      obtain ⟨s0, _, hs0⟩ := key 0 (by omega)
      have hs : spot' = none := by simpa [Addr.add] using World.cell?_spot hs0
      subst hs
      refine ⟨b', off', rfl, World.block_lt_of_cell? W _ hs0, fun i hi => ?_⟩
      obtain ⟨s, h1, h2⟩ := key i hi
      rw [se_add] at h2
      exact ⟨s, h1, h2⟩

theorem trs_of {fuel : Nat} {v : Value} {x : DataW H × List MemPlace} (h : DataW.trod enc Try.prog W 0 (fun _ => true) true fuel 49 [v] = some x) :
    ∃ ad len cap, v = .slice ad len cap ∧ IsTrs W ad len cap := by
  have hc : Try.prog.cellsOf 75 = 2 := by kernel_rfl
  have hc9 : Try.prog.cellsOf 9 = 1 := by kernel_rfl
  rcases DataW.trod_slice Try.underlying49 h with ⟨e2, _⟩ | ⟨a, len, cap, elems, rest, m, _, e2, _, _, hlc, hcm, hl, hel, _, _⟩
  · simp at e2
    subst e2
    exact ⟨none, 0, 0, rfl, Nat.le_refl _, Nat.zero_le _, Or.inl rfl⟩
  · simp at e2
    subst e2
    rw [hc] at hel
    have key : ∀ i, i < len → ∃ s t : ByteArray, s.size ≤ maxLen ∧ t.size ≤ maxLen ∧ W.cell? (a.add (i * 2)) = some (.string s) ∧ W.cell? ((a.add (i * 2)).add 1) = some (.string t) := by
      intro i hi
      have h1 := hel i hi
      rw [List.getElem?_eq_getElem (by omega)] at h1
      simp only [Option.bind_eq_some_iff] at h1
      obtain ⟨cs, hcs, ht⟩ := h1
      obtain ⟨_, hlen, hcell⟩ := World.cells?_some hcs
      match cs, hlen with
      | [v0, v1], _ =>
        obtain ⟨xs, k, _, _, _, hxl, hf⟩ := DataW.trod_struct Try.underlying75 ht
        have hxl' : xs.length = 2 := hxl
        have f0 : DataW.trod enc Try.prog W 0 (fun _ => true) true k 9 (([v0, v1].drop 0).take (Try.prog.cellsOf 9)) = xs[0]? := hf 0 _ rfl
        have f1 : DataW.trod enc Try.prog W 0 (fun _ => true) true k 9 (([v0, v1].drop 1).take (Try.prog.cellsOf 9)) = xs[1]? := hf 1 _ rfl
        simp only [hc9, List.drop_succ_cons, List.drop_zero, List.take_succ_cons, List.take_zero] at f0 f1
        obtain ⟨y0, g0⟩ := some_at f0 hxl' (by omega)
        obtain ⟨y1, g1⟩ := some_at f1 hxl' (by omega)
        obtain ⟨s, e0, _, hs⟩ := DataW.trod_string Try.underlying9 g0
        obtain ⟨t, e1, _, hst⟩ := DataW.trod_string Try.underlying9 g1
        simp at e0 e1
        subst e0 e1
        have h0 := hcell 0 (by omega)
        have h1 := hcell 1 (by omega)
        have e : (a.add (i * 2)).add 0 = a.add (i * 2) := by simp [Addr.add]
        rw [e] at h0
        exact ⟨s, t, hs, hst, by simpa using h0, by simpa using h1⟩
    refine ⟨some a, len, cap, rfl, hlc, hcm, ?_⟩
    by_cases h0 : len = 0
    · exact Or.inl h0
    · right
      obtain ⟨b', off', spot'⟩ := a
      obtain ⟨s0, t0, _, _, hs0, _⟩ := key 0 (by omega)
      have hs : spot' = none := by simpa [Addr.add] using World.cell?_spot hs0
      subst hs
      refine ⟨b', off', rfl, World.block_lt_of_cell? W _ hs0, fun i hi => ?_⟩
      obtain ⟨s, t, h1, h2, h3, h4⟩ := key i hi
      rw [se_add] at h3
      rw [se_add, se_add] at h4
      exact ⟨s, t, h1, h2, h3, h4⟩

theorem placed_of {fuel : Nat} {cs : List Value} {x : DataW H × List MemPlace} (h : DataW.trod enc Try.prog W 0 (fun _ => true) true fuel 55 cs = some x) :
    ∃ hh ch pa lp cp tr ms ta lt ct ci mg co ti, cs = [.string hh, .string ch, .slice pa lp cp, .string tr, .string ms, .slice ta lt ct, .string ci, .bool mg, .bool co, .string ti] ∧
      hh.size ≤ maxLen ∧ ch.size ≤ maxLen ∧ tr.size ≤ maxLen ∧ ms.size ≤ maxLen ∧ ci.size ≤ maxLen ∧ ti.size ≤ maxLen ∧ IsStrs W pa lp cp ∧ IsTrs W ta lt ct := by
  have c55 : Try.prog.cellsOf 55 = 10 := by kernel_rfl
  have c53 : Try.prog.cellsOf 53 = 7 := by kernel_rfl
  have c51 : Try.prog.cellsOf 51 = 5 := by kernel_rfl
  have c49 : Try.prog.cellsOf 49 = 1 := by kernel_rfl
  have c23 : Try.prog.cellsOf 23 = 1 := by kernel_rfl
  have c9 : Try.prog.cellsOf 9 = 1 := by kernel_rfl
  have c4 : Try.prog.cellsOf 4 = 1 := by kernel_rfl
  obtain ⟨xs, k, _, _, hlen, hxl, hf⟩ := DataW.trod_struct Try.underlying55 h
  rw [c55] at hlen
  have hxl' : xs.length = 4 := hxl
  match cs, hlen with
  | [v0, v1, v2, v3, v4, v5, v6, v7, v8, v9], _ =>
    have f0 : DataW.trod enc Try.prog W 0 (fun _ => true) true k 9 (([v0, v1, v2, v3, v4, v5, v6, v7, v8, v9].drop 0).take (Try.prog.cellsOf 9)) = xs[0]? := hf 0 _ rfl
    have f1 : DataW.trod enc Try.prog W 0 (fun _ => true) true k 53 (([v0, v1, v2, v3, v4, v5, v6, v7, v8, v9].drop 1).take (Try.prog.cellsOf 53)) = xs[1]? := hf 1 _ rfl
    have f2 : DataW.trod enc Try.prog W 0 (fun _ => true) true k 4 (([v0, v1, v2, v3, v4, v5, v6, v7, v8, v9].drop 8).take (Try.prog.cellsOf 4)) = xs[2]? := hf 2 _ rfl
    have f3 : DataW.trod enc Try.prog W 0 (fun _ => true) true k 9 (([v0, v1, v2, v3, v4, v5, v6, v7, v8, v9].drop 9).take (Try.prog.cellsOf 9)) = xs[3]? := hf 3 _ rfl
    simp only [c53, c9, c4, List.drop_succ_cons, List.drop_zero, List.take_succ_cons, List.take_zero] at f0 f1 f2 f3
    obtain ⟨y0, g0⟩ := some_at f0 hxl' (by omega)
    obtain ⟨y1, g1⟩ := some_at f1 hxl' (by omega)
    obtain ⟨y2, g2⟩ := some_at f2 hxl' (by omega)
    obtain ⟨y3, g3⟩ := some_at f3 hxl' (by omega)
    obtain ⟨hh, e0, _, z0⟩ := DataW.trod_string Try.underlying9 g0
    obtain ⟨co, e8, _⟩ := DataW.trod_bool Try.underlying4 g2
    obtain ⟨ti, e9, _, z9⟩ := DataW.trod_string Try.underlying9 g3
    obtain ⟨ys, k1, _, _, _, hyl, hg⟩ := DataW.trod_struct Try.underlying53 g1
    have hyl' : ys.length = 3 := hyl
    have f4 : DataW.trod enc Try.prog W 0 (fun _ => true) true k1 51 (([v1, v2, v3, v4, v5, v6, v7].drop 0).take (Try.prog.cellsOf 51)) = ys[0]? := hg 0 _ rfl
    have f5 : DataW.trod enc Try.prog W 0 (fun _ => true) true k1 9 (([v1, v2, v3, v4, v5, v6, v7].drop 5).take (Try.prog.cellsOf 9)) = ys[1]? := hg 1 _ rfl
    have f6 : DataW.trod enc Try.prog W 0 (fun _ => true) true k1 4 (([v1, v2, v3, v4, v5, v6, v7].drop 6).take (Try.prog.cellsOf 4)) = ys[2]? := hg 2 _ rfl
    simp only [c51, c9, c4, List.drop_succ_cons, List.drop_zero, List.take_succ_cons, List.take_zero] at f4 f5 f6
    obtain ⟨y4, g4⟩ := some_at f4 hyl' (by omega)
    obtain ⟨y5, g5⟩ := some_at f5 hyl' (by omega)
    obtain ⟨y6, g6⟩ := some_at f6 hyl' (by omega)
    obtain ⟨ci, e6, _, z6⟩ := DataW.trod_string Try.underlying9 g5
    obtain ⟨mg, e7, _⟩ := DataW.trod_bool Try.underlying4 g6
    obtain ⟨us, k2, _, _, _, hul, hu⟩ := DataW.trod_struct Try.underlying51 g4
    have hul' : us.length = 5 := hul
    have u0 : DataW.trod enc Try.prog W 0 (fun _ => true) true k2 9 (([v1, v2, v3, v4, v5].drop 0).take (Try.prog.cellsOf 9)) = us[0]? := hu 0 _ rfl
    have u1 : DataW.trod enc Try.prog W 0 (fun _ => true) true k2 23 (([v1, v2, v3, v4, v5].drop 1).take (Try.prog.cellsOf 23)) = us[1]? := hu 1 _ rfl
    have u2 : DataW.trod enc Try.prog W 0 (fun _ => true) true k2 9 (([v1, v2, v3, v4, v5].drop 2).take (Try.prog.cellsOf 9)) = us[2]? := hu 2 _ rfl
    have u3 : DataW.trod enc Try.prog W 0 (fun _ => true) true k2 9 (([v1, v2, v3, v4, v5].drop 3).take (Try.prog.cellsOf 9)) = us[3]? := hu 3 _ rfl
    have u4 : DataW.trod enc Try.prog W 0 (fun _ => true) true k2 49 (([v1, v2, v3, v4, v5].drop 4).take (Try.prog.cellsOf 49)) = us[4]? := hu 4 _ rfl
    simp only [c9, c23, c49, List.drop_succ_cons, List.drop_zero, List.take_succ_cons, List.take_zero] at u0 u1 u2 u3 u4
    obtain ⟨t0, d0⟩ := some_at u0 hul' (by omega)
    obtain ⟨t1, d1⟩ := some_at u1 hul' (by omega)
    obtain ⟨t2, d2⟩ := some_at u2 hul' (by omega)
    obtain ⟨t3, d3⟩ := some_at u3 hul' (by omega)
    obtain ⟨t4, d4⟩ := some_at u4 hul' (by omega)
    obtain ⟨ch, e1, _, z1⟩ := DataW.trod_string Try.underlying9 d0
    obtain ⟨tr, e3, _, z3⟩ := DataW.trod_string Try.underlying9 d2
    obtain ⟨ms, e4, _, z4⟩ := DataW.trod_string Try.underlying9 d3
    obtain ⟨pa, lp, cp, e2, hP⟩ := strs_of enc W d1
    obtain ⟨ta, lt, ct, e5, hT⟩ := trs_of enc W d4
    simp at e0 e1 e3 e4 e6 e7 e8 e9
    subst e0 e1 e2 e3 e4 e5 e6 e7 e8 e9
    exact ⟨hh, ch, pa, lp, cp, tr, ms, ta, lt, ct, ci, mg, co, ti, rfl, z0, z1, z3, z4, z6, z9, hP, hT⟩
end
end Go.Proofs.Qxb6601837a.Se
