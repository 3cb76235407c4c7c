import Derived.Test.Qxb6601528aRows
import Derived.WalkKit
import Derived.WalkSpells
import Derived.WalkLawsBesides
import Derived.ProofKit
import Derived.Deep.QuietTactic
import Derived.BigQuiet
import Derived.Test.Qxb6601528aFxPlain
namespace Go.Proofs.Qxb6601528a.Fx
open Go.RowKit

theorem hid {p : Prop} (h : p) : Hid p := h

/-- node a of the input reads as n in memory -/
structure NdAt (W : World) (b off : Nat) (n : Nd Addr) : Prop where
  c0 : W.cell? ⟨b, off, none⟩ = some (.int .u8 n.kind)
  c1 : W.cell? ⟨b, off + 1, none⟩ = some (.pointer n.sub)
  c2 : W.cell? ⟨b, off + 2, none⟩ = some (.slice n.sa n.len n.cap)
  c3 : W.cell? ⟨b, off + 3, none⟩ = some (.int .i64 n.mn)
  c4 : W.cell? ⟨b, off + 4, none⟩ = some (.int .i64 n.mx)
  c5 : W.cell? ⟨b, off + 5, none⟩ = some (.int .u8 n.asr)
  k0 : 0 ≤ n.kind
  k1 : n.kind ≤ 255
  m0 : -9223372036854775808 ≤ n.mn
  m1 : n.mn ≤ 9223372036854775807
  x0 : -9223372036854775808 ≤ n.mx
  x1 : n.mx ≤ 9223372036854775807
  lc : n.len ≤ n.cap
  cm : n.cap ≤ maxLen
  nl : n.sa = none → n.len = 0
  el : n.len = 0 ∨ ∃ b' off', n.sa = some ⟨b', off', none⟩ ∧ ∀ i, i < n.len → W.cell? ⟨b', off' + i, none⟩ = some (.pointer (n.el i))

/-- a set of nodes, closed under 'part of', that all read as G says -/
structure Closed (W : World) (G : Addr → Nd Addr) (S : Option Addr → Prop) : Prop where
  at_ : ∀ a, S (some a) → ∃ b off, a = ⟨b, off, none⟩ ∧ NdAt W b off (G a)
  sub : ∀ a, S (some a) → S (G a).sub
  els : ∀ a, S (some a) → ∀ i, i < (G a).len → S ((G a).el i)

theorem NdAt.later {W w' : World} {b off : Nat} {n : Nd Addr} (h : NdAt W b off n) (hw : ∀ p v, W.cell? p = some v → w'.cell? p = some v) : NdAt w' b off n :=
  ⟨hw _ _ h.c0, hw _ _ h.c1, hw _ _ h.c2, hw _ _ h.c3, hw _ _ h.c4, hw _ _ h.c5, h.k0, h.k1, h.m0, h.m1, h.x0, h.x1, h.lc, h.cm, h.nl,
   by
    rcases h.el with h0 | ⟨b', off', e, hc⟩
    · exact Or.inl h0
    · exact Or.inr ⟨b', off', e, fun i hi => hw _ _ (hc i hi)⟩⟩
theorem Closed.later {W w' : World} {G : Addr → Nd Addr} {S : Option Addr → Prop} (h : Closed W G S) (hw : ∀ p v, W.cell? p = some v → w'.cell? p = some v) : Closed w' G S :=
  ⟨fun a ha => by obtain ⟨b, off, e, hn⟩ := h.at_ a ha; exact ⟨b, off, e, hn.later hw⟩, h.sub, h.els⟩
theorem Closed.below {W w' : World} {G : Addr → Nd Addr} {S : Option Addr → Prop} (h : Closed W G S) (hb : Below W.heap.size W w') : Closed w' G S :=
  h.later (fun p _ hp => (hb.cell (World.block_lt_of_cell? W p hp)).trans hp)
theorem Closed.drewN {W : World} {G : Addr → Nd Addr} {S : Option Addr → Prop} (h : Closed W G S) (n : Nat) : Closed (W.drewN n) G S :=
  h.later (fun _ _ hp => hp)

/-- every node down to level k has few parts -/
def LenTo (G : Addr → Nd Addr) : Nat → Option Addr → Prop
  | 0, _ => True
  | _ + 1, none => True
  | k + 1, some a => (G a).len ≤ 65536 ∧ LenTo G k (G a).sub ∧ ∀ i, i < (G a).len → LenTo G k ((G a).el i)
def Few (G : Addr → Nd Addr) (p : Option Addr) : Prop := ∀ k, LenTo G k p
theorem few_none (G : Addr → Nd Addr) : Few G none := fun k => by cases k <;> simp [LenTo]
theorem few_mk (G : Addr → Nd Addr) (a : Addr) (h1 : (G a).len ≤ 65536) (h2 : Few G (G a).sub) (h3 : ∀ i, i < (G a).len → Few G ((G a).el i)) : Few G (some a) := by
  intro k
  cases k with
  | zero => simp [LenTo]
  | succ k => exact ⟨h1, h2 k, fun i hi => h3 i hi k⟩
theorem Few.len {G : Addr → Nd Addr} {a : Addr} (h : Few G (some a)) : (G a).len ≤ 65536 := (h 1).1
theorem Few.sub {G : Addr → Nd Addr} {a : Addr} (h : Few G (some a)) : Few G (G a).sub := fun k => (h (k + 1)).2.1
theorem Few.els {G : Addr → Nd Addr} {a : Addr} (h : Few G (some a)) (i : Nat) (hi : i < (G a).len) : Few G ((G a).el i) := fun k => (h (k + 1)).2.2 i hi

def SpendPost (G : Addr → Nd Addr) (p : Option Addr) (left : Int) (e : Ending) : Prop := ∃ r : Int, e = .returned (.int .i64 r) ∧ -1 ≤ r ∧ r ≤ left ∧ (0 ≤ r → Few G p)

set_option maxHeartbeats 1000000 in
theorem spend_any (G : Addr → Nd Addr) (S : Option Addr → Prop) (m : Nat) : ∀ (p : Option Addr) (left : Int) (w : World), Closed w G S → S p → -1 ≤ left → left < m → m ≤ 65537 →
    Calls Try.prog 6 #[.pointer p, .int .i64 left] w fun e w' => SpendPost G p left e ∧ w = w' := by
  induction m with
  | zero =>
    intro p left w _ _ h1 h2 _
    have hneg : left < 0 := by omega
    go_enter Try.func6, Try.ntmps6
    go_wp2_with fail
    go_ret
    exact ⟨⟨-1, rfl, by omega, by omega, fun h => by omega⟩, rfl⟩
  | succ m ih =>
    intro p left w hC hS h1 h2 h3
    by_cases hneg : left < 0
    · go_enter Try.func6, Try.ntmps6
      go_wp2_with fail
      go_ret
      exact ⟨⟨-1, rfl, by omega, by omega, fun h => by omega⟩, rfl⟩
    · cases p with
      | none =>
        go_enter Try.func6, Try.ntmps6
        go_wp2_with fail
        go_ret
        exact ⟨⟨left, rfl, by omega, by omega, fun _ => few_none G⟩, rfl⟩
      | some a =>
        obtain ⟨b, off, rfl, hN⟩ := hC.at_ a hS
        have hsub := hC.sub _ hS
        have hels := hC.els _ hS
        generalize hn : G ⟨b, off, none⟩ = n at hN hsub hels
        obtain ⟨kind, sub, sa, len, cap, el, mn, mx, asr⟩ := n
        obtain ⟨c0, c1, c2, c3, c4, c5, k0, k1, m0, m1, x0, x1, lc, cm, nl, hel⟩ := hN
        simp only at c0 c1 c2 c3 c4 c5 k0 k1 m0 m1 x0 x1 lc cm nl hel hsub hels
        unfold maxLen at cm
        have HN := hid hn
        have HEL := hid hel
        have HC := hid hC
        have HSUB := hid hsub
        have HELS := hid hels
        have IH := hid ih
        clear hn hel c0 c3 c4 c5 k0 k1 m0 m1 x0 x1 nl hC hsub hels ih
        by_cases hsm : left - 1 - len < 0
        · go_enter Try.func6, Try.ntmps6
          go_wp2_with fail
          go_ret
          exact ⟨⟨-1, rfl, by omega, by omega, fun h => by omega⟩, rfl⟩
        · go_enter Try.func6, Try.ntmps6
          go_wp2_with fail
          refine (IH.out sub (left - 1 - len) w HC.out HSUB.out (by omega) (by omega) (by omega)).mono ?_
          rintro e w' ⟨⟨r, rfl, hr1, hr2, hr3⟩, rfl⟩
          have HR3 := hid hr3
          clear hr3
          go_wp2_with fail
          go_loop [1, 5] (fun l i => ∃ (k : Nat) (x : Int), k ≤ len ∧ i = .int .i64 k ∧ l = .int .i64 x ∧ -1 ≤ x ∧ x ≤ left - 1 - len ∧ Hid (0 ≤ x → Few G sub ∧ ∀ j, j < k → Few G (el j))) (fun _ i => len - (intOf i).toNat)
          case atStart => exact ⟨0, r, Nat.zero_le _, rfl, rfl, hr1, hr2, fun h => ⟨HR3.out h, fun j hj => by omega⟩⟩
          case round =>
            obtain ⟨k, x, hk, rfl, rfl, hx1, hx2, HX⟩ := hrel
            by_cases hlt : k < len
            · have hlt' : (k : Int) < len := by omega
              rcases HEL.out with h0 | ⟨b', off', rfl, hcs⟩
              · omega
              · have hck := hcs k hlt
                clear hcs
                go_wp2_with fail
                refine (IH.out (el k) x w HC.out (HELS.out k hlt) (by omega) (by omega) (by omega)).mono ?_
                rintro e w' ⟨⟨r', rfl, hs1, hs2, hs3⟩, rfl⟩
                have HS3 := hid hs3
                clear hs3
                go_wp2_with fail
                go_round
                case rel =>
                  refine ⟨k + 1, r', by omega, by go_num, rfl, hs1, by omega, fun h => ⟨(HX.out (by omega)).1, fun j hj => ?_⟩⟩
                  by_cases e : j = k
                  · subst e; exact HS3.out h
                  · exact (HX.out (by omega)).2 j (by omega)
                case measure => simp [intOf]; omega
            · go_wp2_with fail
              go_ret
              refine ⟨⟨x, rfl, hx1, by omega, fun h => ?_⟩, rfl⟩
              have e := HN.out
              obtain ⟨q1, q2⟩ := HX.out h
              refine few_mk G _ ?_ ?_ ?_
              · rw [e]; show len ≤ 65536; omega
              · rw [e]; exact q1
              · rw [e]; exact fun i hi => q2 i (by have : i < len := hi; omega)
end Go.Proofs.Qxb6601528a.Fx
