import Derived.Test.Qxb6601528aFxRngB
import Derived.Test.Qxb6601528aFxRngRa
import Derived.Test.Qxb6601528aFxRngRb
import Derived.Test.Qxb6601528aFxRngRc
import Derived.Test.Qxb6601528aFxRngRd
namespace Go.Proofs.Qxb6601528a.Fx
open Go.RowKit

theorem rng_rep (b off : Nat) (x : Int) (w : World) (sub : Option Addr) (mn mx : Int) (t : Sp) (hx : 1 ≤ x) (hxm : x ≤ 65537)
    (hm : 0 ≤ mn) (hm1 : mn ≤ 9223372036854775807) (hx0 : -9223372036854775808 ≤ mx) (hx1 : mx ≤ 9223372036854775807) (hmx : 0 ≤ mx → mn ≤ mx) (hin : In t)
    (c0 : w.cell? ⟨b, off, none⟩ = some (.int .u8 6)) (c1 : w.cell? ⟨b, off + 1, none⟩ = some (.pointer sub)) (c3 : w.cell? ⟨b, off + 3, none⟩ = some (.int .i64 mn)) (c4 : w.cell? ⟨b, off + 4, none⟩ = some (.int .i64 mx))
    (ih : ∀ wr : World, Below w.heap.size w wr → Calls Try.prog 8 #[.pointer sub, .int .i64 (x - 1)] wr fun e w' => RngPost t e ∧ Below wr.heap.size wr w') :
    Calls Try.prog 8 #[.pointer (some ⟨b, off, none⟩), .int .i64 x] w fun e w' => RngPost (finS (repS mn mx t)) e ∧ Below w.heap.size w w' := by
  obtain ⟨tlo, thi, tinf, tbig, tdeg⟩ := t
  by_cases h0 : mx = 0
  · cases tinf with
    | true =>
      cases tdeg with
      | true => exact rep_a b off x w sub mn mx tlo thi tbig hx hxm hm hm1 hx0 hx1 hmx hin c0 c1 c3 c4 ih h0
      | false => exact rep_b b off x w sub mn mx tlo thi tbig hx hxm hm hm1 hx0 hx1 hmx hin c0 c1 c3 c4 ih h0
    | false =>
      cases tdeg with
      | true => exact rep_e b off x w sub mn mx tlo thi tbig hx hxm hm hm1 hx0 hx1 hmx hin c0 c1 c3 c4 ih h0
      | false =>
        by_cases h2 : tlo = thi
        · by_cases h1 : thi = 0
          · exact rep_f b off x w sub mn mx tlo thi tbig hx hxm hm hm1 hx0 hx1 hmx hin c0 c1 c3 c4 ih h0 h2 h1
          · exact rep_g b off x w sub mn mx tlo thi tbig hx hxm hm hm1 hx0 hx1 hmx hin c0 c1 c3 c4 ih h0 h2 h1
        · exact rep_h b off x w sub mn mx tlo thi tbig hx hxm hm hm1 hx0 hx1 hmx hin c0 c1 c3 c4 ih h0 h2
  · cases tinf with
    | true =>
      cases tdeg with
      | true => exact rep_c b off x w sub mn mx tlo thi tbig hx hxm hm hm1 hx0 hx1 hmx hin c0 c1 c3 c4 ih h0
      | false => exact rep_d b off x w sub mn mx tlo thi tbig hx hxm hm hm1 hx0 hx1 hmx hin c0 c1 c3 c4 ih h0
    | false =>
      by_cases h1 : thi = 0
      · cases tdeg with
        | true => exact rep_i b off x w sub mn mx tlo thi tbig hx hxm hm hm1 hx0 hx1 hmx hin c0 c1 c3 c4 ih h0 h1
        | false => exact rep_j b off x w sub mn mx tlo thi tbig hx hxm hm hm1 hx0 hx1 hmx hin c0 c1 c3 c4 ih h0 h1
      · by_cases h3 : mx < 0
        · cases tdeg with
          | true => exact rep_k b off x w sub mn mx tlo thi tbig hx hxm hm hm1 hx0 hx1 hmx hin c0 c1 c3 c4 ih h0 h1 h3
          | false => exact rep_l b off x w sub mn mx tlo thi tbig hx hxm hm hm1 hx0 hx1 hmx hin c0 c1 c3 c4 ih h0 h1 h3
        · cases tdeg with
          | true => exact rep_m b off x w sub mn mx tlo thi tbig hx hxm hm hm1 hx0 hx1 hmx hin c0 c1 c3 c4 ih h0 h1 h3
          | false => exact rep_n b off x w sub mn mx tlo thi tbig hx hxm hm hm1 hx0 hx1 hmx hin c0 c1 c3 c4 ih h0 h1 h3

/-- rng's contract: of a tree that wf has let by -/
theorem rng_any (G : Addr → Nd Addr) (S : Option Addr → Prop) (f : Nat) : ∀ (p : Option Addr) (x : Int) (w : World), Closed w G S → S p → x = f → f ≤ 65537 → WF G f p →
    Calls Try.prog 8 #[.pointer p, .int .i64 x] w fun e w' => RngPost (rngF G f p) e ∧ Below w.heap.size w w' := by
  induction f with
  | zero => intro p x w _ _ _ _ h; simp [WF] at h
  | succ f ih =>
    intro p x w hC hS hx hf hW
    cases p with
    | none => simp [WF] at hW
    | some a =>
      obtain ⟨b, off, rfl, hN⟩ := hC.at_ a hS
      have hsub := hC.sub _ hS
      have hels := hC.els _ hS
      simp only [WF] at hW
      obtain ⟨w3, w4, w11, w57, w6⟩ := hW
      have hx1 : 1 ≤ x := by omega
      have hxm : x ≤ 65537 := by omega
      have hih : ∀ q, S q → WF G f q → ∀ wr : World, Below w.heap.size w wr → Calls Try.prog 8 #[.pointer q, .int .i64 (x - 1)] wr fun e w' => RngPost (rngF G f q) e ∧ Below wr.heap.size wr w' :=
        fun q hq hwq wr hb => ih q (x - 1) wr (hC.below hb) hq (by omega) (by omega) hwq
      generalize hn : G ⟨b, off, none⟩ = n at hN hsub hels w3 w4 w11 w57 w6
      have hk : n.kind = 1 ∨ n.kind = 2 ∨ n.kind = 0 ∨ n.kind = 9 ∨ n.kind = 8 ∨ n.kind = 3 ∨ n.kind = 4 ∨ n.kind = 11 ∨ n.kind = 5 ∨ n.kind = 7 ∨ n.kind = 6 ∨ 11 < n.kind ∨ n.kind = 10 := by
        have := hN.k0
        omega
      have hc0 := hN.c0
      by_cases h12 : n.kind = 1 ∨ n.kind = 2
      · rw [rng_leaf hn one (by rw [if_pos h12])]
        exact rng_one b off x w n.kind hx1 hc0 h12
      · by_cases h098 : n.kind = 0 ∨ n.kind = 9 ∨ n.kind = 8
        · rw [rng_leaf hn zero (by rw [if_neg h12, if_pos h098])]
          exact rng_zero b off x w n.kind hx1 hc0 h098
        · by_cases h3 : n.kind = 3
          · rw [rng_leaf hn _ (by rw [if_neg h12, if_neg h098, if_pos h3])]
            rw [h3] at hc0
            exact rng_seq b off x w n.sa n.len n.cap n.el (fun i => rngF G f (n.el i)) hx1 hxm hN.lc hN.cm hc0 hN.c2 hN.el (fun i hi => rngF_in G f _ (w3 h3 i hi)) (fun i hi => hih _ (hels i hi) (w3 h3 i hi))
          · by_cases h4 : n.kind = 4 ∨ n.kind = 11
            · rw [rng_leaf hn _ (by rw [if_neg h12, if_neg h098, if_neg h3, if_pos h4])]
              rcases h4 with h4 | h4
              · rw [h4] at hc0
                exact rng_alt4 b off x w n.sa n.len n.cap n.el (fun i => rngF G f (n.el i)) hx1 hxm hN.lc hN.cm hc0 hN.c2 hN.el (fun i hi => rngF_in G f _ ((w4 h4).2 i hi)) (fun i hi => hih _ (hels i hi) ((w4 h4).2 i hi))
              · rw [h4] at hc0
                exact rng_alt11 b off x w n.sa n.len n.cap n.el (fun i => rngF G f (n.el i)) hx1 hxm hN.lc hN.cm hc0 hN.c2 hN.el (fun i hi => rngF_in G f _ ((w11 h4).2 i hi)) (fun i hi => hih _ (hels i hi) ((w11 h4).2 i hi))
            · by_cases h5 : n.kind = 5 ∨ n.kind = 7
              · rw [rng_leaf hn _ (by rw [if_neg h12, if_neg h098, if_neg h3, if_neg h4, if_pos h5])]
                exact rng_sub b off x w n.kind n.sub (rngF G f n.sub) hx1 hxm h5 hc0 hN.c1 (hih _ hsub (w57 h5))
              · by_cases h6 : n.kind = 6
                · rw [rng_leaf hn _ (by rw [if_neg h12, if_neg h098, if_neg h3, if_neg h4, if_neg h5, if_pos h6])]
                  rw [h6] at hc0
                  obtain ⟨q0, q1, q2⟩ := w6 h6
                  exact rng_rep b off x w n.sub n.mn n.mx (rngF G f n.sub) hx1 hxm q0 hN.m1 hN.x0 hN.x1 q1 (rngF_in G f _ q2) hc0 hN.c1 hN.c3 hN.c4 (hih _ hsub q2)
                · rw [rng_leaf hn _ (by rw [if_neg h12, if_neg h098, if_neg h3, if_neg h4, if_neg h5, if_neg h6])]
                  exact rng_open b off x w n.kind hx1 hc0 (by omega)
end Go.Proofs.Qxb6601528a.Fx
