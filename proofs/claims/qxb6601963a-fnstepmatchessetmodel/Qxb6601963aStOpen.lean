import Derived.Test.Qxb6601963aStWords
import Derived.ProofKit
import Derived.OpenShut
set_option linter.unusedVariables false
namespace Go.Proofs.Qxb6601963a.St
open Go.RowKit Go.ChangeShapes Go.WideShapes

section
variable {H : Type} (enc : TypeId × Value → H) (W : World)

theorem op_add (b off k : Nat) : (⟨b, off, none⟩ : Addr).add k = ⟨b, off + k, none⟩ := by simp [Addr.add]
theorem some_at {α : Type} {xs : List α} {n i : Nat} {o : Option α} (h : o = xs[i]?) (hn : xs.length = n) (hi : i < n) : ∃ y, o = some y :=
  ⟨_, h.trans (List.getElem?_eq_getElem (by omega))⟩
theorem rng_of {n : Int} (h : (Lit.int .u64 n).wf = true) : 0 ≤ n ∧ n ≤ 18446744073709551615 := by
  simp [Lit.wf, IntKind.min, IntKind.max, IntKind.signed, IntKind.bits] at h
  omega

theorem words_of {fuel : Nat} {v : Value} {x : DataW H × List MemPlace} (h : DataW.trod enc Try.prog W 0 (fun _ => true) true fuel 23 [v] = some x) :
    ∃ ad len cap z, v = .slice ad len cap ∧ IsW W ad len cap z := by
  have hc : Try.prog.cellsOf 22 = 1 := by kernel_rfl
  rcases DataW.trod_slice Try.underlying23 h with ⟨e2, _⟩ | ⟨a, len, cap, elems, rest, m, _, e2, _, _, hlc, hcm, hl, hel, _, _⟩
  · simp at e2
    subst e2
    exact ⟨none, 0, 0, fun _ => 0, rfl, Nat.le_refl _, Nat.zero_le _, fun _ => rfl, fun i hi => by omega, Or.inl rfl⟩
  · simp at e2
    subst e2
    rw [hc] at hel
    have key : ∀ i, ∃ q : Int, i < len → W.cell? (a.add i) = some (.int .u64 q) ∧ 0 ≤ q ∧ q ≤ 18446744073709551615 := by
      intro i
      by_cases hi : i < len
      · have h1 := hel i hi
        rw [List.getElem?_eq_getElem (by omega), Nat.mul_one] at h1
        simp only [Option.bind_eq_some_iff] at h1
        obtain ⟨cs, hcs, ht⟩ := h1
        obtain ⟨_, hlen, hcell⟩ := World.cells?_some hcs
        match cs, hlen with
        | [v], _ =>
          obtain ⟨q, e0, _, hwf⟩ := DataW.trod_int Try.underlying22 ht
          simp at e0
          subst e0
          have h0 := hcell 0 (by omega)
          refine ⟨q, fun _ => ⟨?_, rng_of hwf⟩⟩
          have e : (a.add i).add 0 = a.add i := by simp [Addr.add]
          rw [e] at h0
          simpa using h0
      · exact ⟨0, fun h' => absurd h' hi⟩
    obtain ⟨z, hz⟩ := Classical.skolem.1 key
    refine ⟨some a, len, cap, z, rfl, hlc, hcm, (fun h => by cases h), fun i hi => (hz i hi).2, ?_⟩
    by_cases h0 : len = 0
    · exact Or.inl h0
    · right
      obtain ⟨b', off', spot'⟩ := a
      have hz0 := (hz 0 (by omega)).1
      have hs : spot' = none := by simpa [Addr.add] using World.cell?_spot hz0
      subst hs
      exact ⟨b', off', rfl, World.block_lt_of_cell? W _ hz0, fun i hi => by have h := (hz i hi).1; rwa [op_add] at h⟩

theorem state_of {fuel : Nat} {cs : List Value} {x : DataW H × List MemPlace} (h : DataW.trod enc Try.prog W 0 (fun _ => true) true fuel 25 cs = some x) :
    ∃ kn sv gen ex ad len cap z, cs = [.bool kn, .string sv, .int .u64 gen, .bool ex, .slice ad len cap] ∧ sv.size ≤ maxLen ∧ 0 ≤ gen ∧ gen ≤ 18446744073709551615 ∧ IsW W ad len cap z := by
  have c25 : Try.prog.cellsOf 25 = 5 := by kernel_rfl
  have c4 : Try.prog.cellsOf 4 = 1 := by kernel_rfl
  have c9 : Try.prog.cellsOf 9 = 1 := by kernel_rfl
  have c22 : Try.prog.cellsOf 22 = 1 := by kernel_rfl
  have c23 : Try.prog.cellsOf 23 = 1 := by kernel_rfl
  obtain ⟨xs, k, _, _, hlen, hxl, hf⟩ := DataW.trod_struct Try.underlying25 h
  rw [c25] at hlen
  have hxl' : xs.length = 5 := hxl
  match cs, hlen with
  | [v0, v1, v2, v3, v4], _ =>
    have f0 : DataW.trod enc Try.prog W 0 (fun _ => true) true k 4 (([v0, v1, v2, v3, v4].drop 0).take (Try.prog.cellsOf 4)) = xs[0]? := hf 0 _ rfl
    have f1 : DataW.trod enc Try.prog W 0 (fun _ => true) true k 9 (([v0, v1, v2, v3, v4].drop 1).take (Try.prog.cellsOf 9)) = xs[1]? := hf 1 _ rfl
    have f2 : DataW.trod enc Try.prog W 0 (fun _ => true) true k 22 (([v0, v1, v2, v3, v4].drop 2).take (Try.prog.cellsOf 22)) = xs[2]? := hf 2 _ rfl
    have f3 : DataW.trod enc Try.prog W 0 (fun _ => true) true k 4 (([v0, v1, v2, v3, v4].drop 3).take (Try.prog.cellsOf 4)) = xs[3]? := hf 3 _ rfl
    have f4 : DataW.trod enc Try.prog W 0 (fun _ => true) true k 23 (([v0, v1, v2, v3, v4].drop 4).take (Try.prog.cellsOf 23)) = xs[4]? := hf 4 _ rfl
    simp only [c4, c9, c22, c23, List.drop_succ_cons, List.drop_zero, List.take_succ_cons, List.take_zero] at f0 f1 f2 f3 f4
    obtain ⟨y0, g0⟩ := some_at f0 hxl' (by omega)
    obtain ⟨y1, g1⟩ := some_at f1 hxl' (by omega)
    obtain ⟨y2, g2⟩ := some_at f2 hxl' (by omega)
    obtain ⟨y3, g3⟩ := some_at f3 hxl' (by omega)
    obtain ⟨y4, g4⟩ := some_at f4 hxl' (by omega)
    obtain ⟨kn, e0, _⟩ := DataW.trod_bool Try.underlying4 g0
    obtain ⟨sv, e1, _, s1⟩ := DataW.trod_string Try.underlying9 g1
    obtain ⟨gen, e2, _, w2⟩ := DataW.trod_int Try.underlying22 g2
    obtain ⟨ex, e3, _⟩ := DataW.trod_bool Try.underlying4 g3
    obtain ⟨ad, len, cap, z, e4, hw⟩ := words_of enc W g4
    simp at e0 e1 e2 e3
    subst e0 e1 e2 e3 e4
    exact ⟨kn, sv, gen, ex, ad, len, cap, z, rfl, s1, (rng_of w2).1, (rng_of w2).2, hw⟩

theorem oper_of {fuel : Nat} {cs : List Value} {x : DataW H × List MemPlace} (h : DataW.trod enc Try.prog W 0 (fun _ => true) true fuel 27 cs = some x) :
    ∃ oc o1 o2 kind nm ov og oe oo ou, cs = [.int .i64 oc, .int .i64 o1, .int .i64 o2, .string kind, .string nm, .string ov, .int .u64 og, .int .u64 oe, .bool oo, .bool ou] ∧
      kind.size ≤ maxLen ∧ nm.size ≤ maxLen ∧ ov.size ≤ maxLen ∧ 0 ≤ oe ∧ oe ≤ 18446744073709551615 := by
  have c27 : Try.prog.cellsOf 27 = 10 := by kernel_rfl
  have c4 : Try.prog.cellsOf 4 = 1 := by kernel_rfl
  have c9 : Try.prog.cellsOf 9 = 1 := by kernel_rfl
  have c22 : Try.prog.cellsOf 22 = 1 := by kernel_rfl
  have c3 : Try.prog.cellsOf 3 = 1 := by kernel_rfl
  have c2 : Try.prog.cellsOf 2 = 1 := by kernel_rfl
  obtain ⟨xs, k, _, _, hlen, hxl, hf⟩ := DataW.trod_struct Try.underlying27 h
  rw [c27] at hlen
  have hxl' : xs.length = 10 := hxl
  match cs, hlen with
  | [v0, v1, v2, v3, v4, v5, v6, v7, v8, v9], _ =>
    have f0 : DataW.trod enc Try.prog W 0 (fun _ => true) true k 3 (([v0, v1, v2, v3, v4, v5, v6, v7, v8, v9].drop 0).take (Try.prog.cellsOf 3)) = xs[0]? := hf 0 _ rfl
    have f1 : DataW.trod enc Try.prog W 0 (fun _ => true) true k 2 (([v0, v1, v2, v3, v4, v5, v6, v7, v8, v9].drop 1).take (Try.prog.cellsOf 2)) = xs[1]? := hf 1 _ rfl
    have f2 : DataW.trod enc Try.prog W 0 (fun _ => true) true k 2 (([v0, v1, v2, v3, v4, v5, v6, v7, v8, v9].drop 2).take (Try.prog.cellsOf 2)) = xs[2]? := hf 2 _ rfl
    have f3 : DataW.trod enc Try.prog W 0 (fun _ => true) true k 9 (([v0, v1, v2, v3, v4, v5, v6, v7, v8, v9].drop 3).take (Try.prog.cellsOf 9)) = xs[3]? := hf 3 _ rfl
    have f4 : DataW.trod enc Try.prog W 0 (fun _ => true) true k 9 (([v0, v1, v2, v3, v4, v5, v6, v7, v8, v9].drop 4).take (Try.prog.cellsOf 9)) = xs[4]? := hf 4 _ rfl
    have f5 : DataW.trod enc Try.prog W 0 (fun _ => true) true k 9 (([v0, v1, v2, v3, v4, v5, v6, v7, v8, v9].drop 5).take (Try.prog.cellsOf 9)) = xs[5]? := hf 5 _ rfl
    have f6 : DataW.trod enc Try.prog W 0 (fun _ => true) true k 22 (([v0, v1, v2, v3, v4, v5, v6, v7, v8, v9].drop 6).take (Try.prog.cellsOf 22)) = xs[6]? := hf 6 _ rfl
    have f7 : DataW.trod enc Try.prog W 0 (fun _ => true) true k 22 (([v0, v1, v2, v3, v4, v5, v6, v7, v8, v9].drop 7).take (Try.prog.cellsOf 22)) = xs[7]? := hf 7 _ rfl
    have f8 : DataW.trod enc Try.prog W 0 (fun _ => true) true k 4 (([v0, v1, v2, v3, v4, v5, v6, v7, v8, v9].drop 8).take (Try.prog.cellsOf 4)) = xs[8]? := hf 8 _ rfl
    have f9 : DataW.trod enc Try.prog W 0 (fun _ => true) true k 4 (([v0, v1, v2, v3, v4, v5, v6, v7, v8, v9].drop 9).take (Try.prog.cellsOf 4)) = xs[9]? := hf 9 _ rfl
    simp only [c2, c3, c4, c9, c22, List.drop_succ_cons, List.drop_zero, List.take_succ_cons, List.take_zero] at f0 f1 f2 f3 f4 f5 f6 f7 f8 f9
    obtain ⟨y0, g0⟩ := some_at f0 hxl' (by omega)
    obtain ⟨y1, g1⟩ := some_at f1 hxl' (by omega)
    obtain ⟨y2, g2⟩ := some_at f2 hxl' (by omega)
    obtain ⟨y3, g3⟩ := some_at f3 hxl' (by omega)
    obtain ⟨y4, g4⟩ := some_at f4 hxl' (by omega)
    obtain ⟨y5, g5⟩ := some_at f5 hxl' (by omega)
    obtain ⟨y6, g6⟩ := some_at f6 hxl' (by omega)
    obtain ⟨y7, g7⟩ := some_at f7 hxl' (by omega)
    obtain ⟨y8, g8⟩ := some_at f8 hxl' (by omega)
    obtain ⟨y9, g9⟩ := some_at f9 hxl' (by omega)
    obtain ⟨oc, e0, _⟩ := DataW.trod_int Try.underlying3 g0
    obtain ⟨o1, e1, _⟩ := DataW.trod_int Try.underlying2 g1
    obtain ⟨o2, e2, _⟩ := DataW.trod_int Try.underlying2 g2
    obtain ⟨kind, e3, _, s3⟩ := DataW.trod_string Try.underlying9 g3
    obtain ⟨nm, e4, _, s4⟩ := DataW.trod_string Try.underlying9 g4
    obtain ⟨ov, e5, _, s5⟩ := DataW.trod_string Try.underlying9 g5
    obtain ⟨og, e6, _⟩ := DataW.trod_int Try.underlying22 g6
    obtain ⟨oe, e7, _, w7⟩ := DataW.trod_int Try.underlying22 g7
    obtain ⟨oo, e8, _⟩ := DataW.trod_bool Try.underlying4 g8
    obtain ⟨ou, e9, _⟩ := DataW.trod_bool Try.underlying4 g9
    simp at e0 e1 e2 e3 e4 e5 e6 e7 e8 e9
    subst e0 e1 e2 e3 e4 e5 e6 e7 e8 e9
    exact ⟨oc, o1, o2, kind, nm, ov, og, oe, oo, ou, rfl, s3, s4, s5, (rng_of w7).1, (rng_of w7).2⟩
end
end Go.Proofs.Qxb6601963a.St
