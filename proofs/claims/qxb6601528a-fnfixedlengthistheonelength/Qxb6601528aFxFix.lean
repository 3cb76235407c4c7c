import Derived.Test.Qxb6601528aFxCopy
import Derived.Test.Qxb6601528aFxWf
import Derived.Test.Qxb6601528aFxPlain2
set_option linter.unusedVariables false
namespace Go.Proofs.Qxb6601528a.Fx
open Go.RowKit

def FixPost (s : Sp) (e : Ending) : Prop := ∃ (l : Int) (ok : Bool), e = .returned (.tuple #[.int .i64 l, .bool ok]) ∧ ok = fixedS s ∧ (ok = true → l = s.lo)

set_option maxHeartbeats 4000000 in
set_option maxRecDepth 100000 in
theorem fix_leaf (g : Nat) (w : World) (kind : Int) (s : Sp) (c0 : w.cell? ⟨g, 0, none⟩ = some (.int .u8 kind))
    (hk : ((kind = 1 ∨ kind = 2) ∧ s = one) ∨ ((kind = 0 ∨ kind = 9 ∨ kind = 8) ∧ s = zero) ∨ ((11 < kind ∨ kind = 10) ∧ s = open_)) :
    Calls Try.prog 22 #[.pointer (some ⟨g, 0, none⟩)] w fun e w' => FixPost s e ∧ Drawn w w' := by
  rcases hk with ⟨rfl | rfl, rfl⟩ | ⟨rfl | rfl | rfl, rfl⟩ | ⟨hk | rfl, rfl⟩
  all_goals
    go_enter Try.func22, Try.ntmps22
    go_wp2_with fail
    go_ret2
    exact ⟨⟨_, _, rfl, rfl, fun _ => by first | rfl | (simp_all)⟩, 0, rfl⟩

set_option maxHeartbeats 4000000 in
set_option maxRecDepth 100000 in
theorem fix_seq (g : Nat) (w : World) (sa : Option Addr) (len : Nat) (el : Nat → Option Addr) (r : Nat → Sp) (hlen : len ≤ 65536)
    (c0 : w.cell? ⟨g, 0, none⟩ = some (.int .u8 3)) (c4 : w.cell? ⟨g, 4, none⟩ = some (.slice sa len len))
    (hel : len = 0 ∨ ∃ h, sa = some ⟨h, 0, none⟩ ∧ ∀ i, i < len → w.cell? ⟨h, i, none⟩ = some (.pointer (el i)))
    (hin : ∀ i, i < len → In (r i)) (hlo : (foldK r len).lo ≤ 1073741824) (hhi : (foldK r len).inf = false → (foldK r len).hi ≤ 1073741824)
    (ih : ∀ i, i < len → ∀ n, Calls Try.prog 22 #[.pointer (el i)] (w.drewN n) fun e w' => FixPost (r i) e ∧ Drawn (w.drewN n) w') :
    Calls Try.prog 22 #[.pointer (some ⟨g, 0, none⟩)] w fun e w' => FixPost (foldK r len) e ∧ Drawn w w' := by
  have HEL := hid hel
  have HIN := hid hin
  have IH := hid ih
  have HLO := hid hlo
  have HHI := hid hhi
  clear hel hin ih hlo hhi
  go_enter Try.func22, Try.ntmps22
  go_wp2_with fail
  go_loopw [4, 35] (fun t i w' => ∃ (k q : Nat) (x : Int), k ≤ len ∧ i = .int .i64 k ∧ t = .int .i64 x ∧ 0 ≤ x ∧ x ≤ 1073741824 ∧ w' = w.drewN q ∧ Hid (x = (foldK r k).lo) ∧ Hid (∀ j, j < k → fixedS (r j) = true)) (fun _ i _ => len - (intOf i).toNat)
  case atStart => exact ⟨0, 0, 0, Nat.zero_le _, rfl, rfl, by omega, by omega, rfl, rfl, fun j hj => by omega⟩
  case round =>
    obtain ⟨k, q, x, hk, rfl, rfl, hx0, hx1, rfl, HX, HJ⟩ := hrel
    by_cases hlk : k < len
    · rcases HEL.out with h0 | ⟨h, rfl, hcs⟩
      · omega
      · have hck := hcs k hlk
        clear hcs
        have hlk' : (k : Int) < len := by omega
        go_wp2_with fail
        refine (IH.out k hlk q).mono ?_
        rintro e w' ⟨⟨l, ok, rfl, hok, hl⟩, ⟨q', rfl⟩⟩
        have hnx : (foldK r (k + 1)).lo ≤ 1073741824 := foldK_lo_le r len HIN.out HLO.out (k + 1) (by omega)
        have hst := foldK_step_lo r k (fun i hi => HIN.out i (by omega)) hnx
        have hrl := (HIN.out k hlk).1
        have hru := (HIN.out k hlk).2.1
        cases ok
        · have HF := hid (foldK_no r len k HIN.out HLO.out HHI.out hlk hok.symm)
          clear hok hl hnx hst hrl hru
          go_wp2_with fail
          go_ret2
          exact ⟨⟨_, false, rfl, HF.out.symm, fun h => by cases h⟩, q + q', rfl⟩
        · have hl' := hl rfl
          have HOK := hid hok
          have HST := hid hst.1
          clear hok hl hst
          have HX2 := hid hl'
          have hlb : 0 ≤ l := by omega
          have hlu : l ≤ 1073741825 := by omega
          have hxe := HX.out
          have hsum : x + l ≤ 1073741824 := by have := HST.out; omega
          clear hl' hxe hnx hrl hru
          go_wp2_with fail
          go_roundw
          case rel =>
            refine ⟨k + 1, q + q', x + l, by omega, by go_num, rfl, by omega, by omega, rfl, ?_, fun j hj => ?_⟩
            · show x + l = _
              rw [HST.out, ← HX.out, ← HX2.out]
            · by_cases e : j = k
              · subst e; exact HOK.out.symm
              · exact HJ.out j (by omega)
          case measure => simp [intOf]; omega
    · obtain rfl : k = len := by omega
      have HF := hid (foldK_yes r k HIN.out HJ.out)
      go_wp2_with fail
      go_ret2
      exact ⟨⟨x, true, rfl, HF.out.symm, fun _ => HX.out⟩, q, rfl⟩

set_option maxHeartbeats 4000000 in
set_option maxRecDepth 100000 in
theorem fix_sub (g : Nat) (w : World) (kind : Int) (sub : Option Addr) (t : Sp) (hk : kind = 5 ∨ kind = 7) (c0 : w.cell? ⟨g, 0, none⟩ = some (.int .u8 kind)) (c3 : w.cell? ⟨g, 3, none⟩ = some (.pointer sub))
    (ih : ∀ n, Calls Try.prog 22 #[.pointer sub] (w.drewN n) fun e w' => FixPost t e ∧ Drawn (w.drewN n) w') :
    Calls Try.prog 22 #[.pointer (some ⟨g, 0, none⟩)] w fun e w' => FixPost t e ∧ Drawn w w' := by
  have IH := hid (ih 0)
  clear ih
  rcases hk with rfl | rfl
  all_goals
    go_enter Try.func22, Try.ntmps22
    go_wp2_with fail
    refine (show Calls Try.prog 22 #[.pointer sub] w _ from IH.out).mono ?_
    rintro e w' ⟨⟨l, ok, rfl, hok, hl⟩, ⟨q, rfl⟩⟩
    have HOK := hid hok
    have HL := hid hl
    clear hok hl
    go_wp2_with fail
    go_ret2
    exact ⟨⟨l, ok, rfl, HOK.out, HL.out⟩, q, rfl⟩

set_option maxHeartbeats 4000000 in
set_option maxRecDepth 100000 in
theorem fix_rep (g : Nat) (w : World) (sub : Option Addr) (mn mx : Int) (t s : Sp) (c0 : w.cell? ⟨g, 0, none⟩ = some (.int .u8 6)) (c3 : w.cell? ⟨g, 3, none⟩ = some (.pointer sub))
    (c8 : w.cell? ⟨g, 8, none⟩ = some (.int .i64 mn)) (c9 : w.cell? ⟨g, 9, none⟩ = some (.int .i64 mx)) (hin : In t) (hm : 0 ≤ mn)
    (hfx : fixedS s = (fixedS t && mn == mx)) (hlo : (fixedS t && mn == mx) = true → s.lo = mn * t.lo ∧ mn * t.lo ≤ 1073741824)
    (ih : ∀ n, Calls Try.prog 22 #[.pointer sub] (w.drewN n) fun e w' => FixPost t e ∧ Drawn (w.drewN n) w') :
    Calls Try.prog 22 #[.pointer (some ⟨g, 0, none⟩)] w fun e w' => FixPost s e ∧ Drawn w w' := by
  have IH := hid (ih 0)
  have HFX := hid hfx
  have HLO := hid hlo
  have HIN := hid hin
  clear ih hfx hlo hin
  go_enter Try.func22, Try.ntmps22
  go_wp2_with fail
  refine (show Calls Try.prog 22 #[.pointer sub] w _ from IH.out).mono ?_
  rintro e w' ⟨⟨l, ok, rfl, hok, hl⟩, ⟨q, rfl⟩⟩
  have HOK := hid hok
  have HL := hid hl
  clear hok hl IH
  cases ok
  · go_wp2_with fail
    go_quiet (fail)
    go_wp2_with fail
    go_ret2
    exact ⟨⟨_, false, rfl, by rw [HFX.out, ← HOK.out]; rfl, fun h => by cases h⟩, q + nq, World.drewN_drewN ..⟩
  · go_wp2_with fail
    go_quiet (fail)
    go_wp2_with fail
    go_ret2
    refine ⟨⟨_, _, rfl, by rw [HFX.out, ← HOK.out]; rfl, fun h => ?_⟩, q + nq, World.drewN_drewN ..⟩
    have h1 : (fixedS t && mn == mx) = true := by rw [← HOK.out]; exact h
    obtain ⟨e1, e2⟩ := HLO.out h1
    have e3 : l = t.lo := HL.out (by simp)
    have e0 : 0 ≤ mn * t.lo := Int.mul_nonneg hm HIN.out.1
    rw [e1]
    subst e3
    exact IntWalk.wrap64_in _ ⟨by omega, by omega⟩

set_option maxHeartbeats 4000000 in
set_option maxRecDepth 100000 in
theorem fix_alt (g : Nat) (w : World) (kind : Int) (hkind : kind = 4 ∨ kind = 11) (sa : Option Addr) (len : Nat) (el : Nat → Option Addr) (r : Nat → Sp) (hlen : len ≤ 65536) (h0 : len ≠ 0)
    (c0 : w.cell? ⟨g, 0, none⟩ = some (.int .u8 kind)) (c4 : w.cell? ⟨g, 4, none⟩ = some (.slice sa len len))
    (hel : len = 0 ∨ ∃ h, sa = some ⟨h, 0, none⟩ ∧ ∀ i, i < len → w.cell? ⟨h, i, none⟩ = some (.pointer (el i)))
    (hin : ∀ i, i < len → In (r i))
    (ih : ∀ i, i < len → ∀ n, Calls Try.prog 22 #[.pointer (el i)] (w.drewN n) fun e w' => FixPost (r i) e ∧ Drawn (w.drewN n) w') :
    Calls Try.prog 22 #[.pointer (some ⟨g, 0, none⟩)] w fun e w' => FixPost (foldA r len) e ∧ Drawn w w' := by
  rcases hel with h00 | ⟨h, rfl, hcs⟩
  · exact absurd h00 h0
  · have HCS := hid hcs
    have HIN := hid hin
    have IH := hid ih
    have hc0 := hcs 0 (by omega)
    clear hcs hin ih
    have hlen0 : (0 : Int) < (len : Int) := by omega
    by_cases h1 : len = 1
    · subst h1
      rcases hkind with rfl | rfl
      all_goals
        go_enter Try.func22, Try.ntmps22
        go_wp2_with fail
        refine (show Calls Try.prog 22 #[.pointer (el 0)] w _ from IH.out 0 (by omega) 0).mono ?_
        rintro e w' ⟨⟨l, ok, rfl, hok, hl⟩, ⟨q, rfl⟩⟩
        have HOK := hid hok
        have HL := hid hl
        clear hok hl
        go_wp2_with fail
        refine wp_loop_rounds 1 ?_
        rw [rounds_succ]
        go_wp2_with fail
        go_ret2
        exact ⟨⟨l, ok, rfl, by rw [(foldA_one r).1]; exact HOK.out, fun hk => by rw [(foldA_one r).2]; exact HL.out hk⟩, q, rfl⟩
    · have h2 : 2 ≤ len := by omega
      rcases hkind with rfl | rfl
      all_goals
        go_enter Try.func22, Try.ntmps22
        go_wp2_with fail
        refine (show Calls Try.prog 22 #[.pointer (el 0)] w _ from IH.out 0 (by omega) 0).mono ?_
        rintro e w' ⟨⟨l, ok, rfl, hok, hl⟩, ⟨q0, rfl⟩⟩
        have HOK := hid hok
        have HL := hid hl
        clear hok hl
        go_wp2_with fail
        go_loopw [70] (fun i w' => ∃ (k q : Nat), k + 1 ≤ len ∧ i = .int .i64 k ∧ w' = w.drewN q ∧ Hid (∀ j, j < k → fixedS (r (1 + j)) = true ∧ (r (1 + j)).lo = l)) (fun i _ => len - (intOf i).toNat)
        case atStart => exact ⟨0, q0, by omega, rfl, rfl, fun j hj => by omega⟩
        case round =>
          obtain ⟨k, q, hk, rfl, rfl, HJ⟩ := hrel
          by_cases hlk : k + 1 < len
          · have hck : w.cell? ⟨h, 1 + k, none⟩ = some (.pointer (el (1 + k))) := HCS.out (1 + k) (by omega)
            have hlk' : (k : Int) < ((len - 1 : Nat) : Int) := by omega
            go_wp2_with fail
            refine (IH.out (1 + k) (by omega) q).mono ?_
            rintro e w' ⟨⟨l2, ok2, rfl, hok2, hl2⟩, ⟨q', rfl⟩⟩
            have HOK2 := hid hok2
            have HL2 := hid hl2
            clear hok2 hl2
            cases ok2
            · have HF := hid (foldA_no r len (1 + k) HIN.out (by omega) HOK2.out.symm)
              go_wp2_with fail
              go_ret2
              exact ⟨⟨_, false, rfl, HF.out.symm, fun hh => by cases hh⟩, q + q', rfl⟩
            · by_cases hll : l2 = l
              · have hb : (l2 != l) = false := by simp [hll]
                have HLL := hid hll
                clear hll
                go_wp2_with fail
                go_roundw
                case rel =>
                  refine ⟨k + 1, q + q', by omega, by go_num, rfl, fun j hj => ?_⟩
                  by_cases e : j = k
                  · subst e; exact ⟨HOK2.out.symm, by rw [← HL2.out (by simp)]; exact HLL.out⟩
                  · exact HJ.out j (by omega)
                case measure => simp [intOf]; omega
              · have hb : (l2 != l) = true := by simp [hll]
                have HF : Hid (fixedS (foldA r len) = false) := by
                  cases hfo : fixedS (r 0) with
                  | false => exact foldA_no r len 0 HIN.out (by omega) hfo
                  | true =>
                    have e1 : l = (r 0).lo := HL.out (by rw [HOK.out]; exact hfo)
                    have e2 : l2 = (r (1 + k)).lo := HL2.out (by simp)
                    exact foldA_two r len 0 (1 + k) (by omega) (by omega) hfo HOK2.out.symm (by omega)
                clear hll
                go_wp2_with fail
                go_ret2
                exact ⟨⟨_, false, rfl, HF.out.symm, fun hh => by cases hh⟩, q + q', rfl⟩
          · have hlk' : ¬ (k : Int) < ((len - 1 : Nat) : Int) := by omega
            go_wp2_with fail
            go_ret2
            have hall : ok = true → fixedS (foldA r len) = true ∧ (foldA r len).lo = l := fun hk' => by
              have hfo : fixedS (r 0) = true := by rw [← HOK.out]; exact hk'
              have hl0 := HL.out hk'
              refine foldA_yes r len l (by omega) (fun i hi => ?_)
              by_cases e : i = 0
              · subst e; exact ⟨hfo, hl0.symm⟩
              · have := HJ.out (i - 1) (by omega)
                rw [show 1 + (i - 1) = i from by omega] at this
                exact this
            refine ⟨⟨l, ok, rfl, ?_, fun hk' => (hall hk').2.symm⟩, q, rfl⟩
            cases hfo : fixedS (r 0) with
            | true => rw [HOK.out, hfo]; exact (hall (by rw [HOK.out]; exact hfo)).1.symm
            | false => rw [HOK.out, hfo]; exact (foldA_no r len 0 HIN.out (by omega) hfo).symm

/-- fixedLength's contract, of a copy of a tree that wf has let by, with nothing big and nothing degenerate in it -/
theorem fix_any (G : Addr → Nd Addr) (S : Option Addr → Prop) (hsub : ∀ a, S (some a) → S (G a).sub) (hels : ∀ a, S (some a) → ∀ i, i < (G a).len → S ((G a).el i)) (hfew : ∀ p, S p → Few G p) (hk0 : ∀ a, S (some a) → 0 ≤ (G a).kind) (B : Nat) (f : Nat) :
    ∀ (p q : Option Addr) (w : World), S p → WF G f p → Cp w G B f p q → (rngF G f p).big = false → (rngF G f p).degen = false →
    Calls Try.prog 22 #[.pointer q] w fun e w' => FixPost (rngF G f p) e ∧ Drawn w w' := by
  induction f with
  | zero => intro p q w _ h; simp [WF] at h
  | succ f ih =>
    intro p q w hS hW hCp hb hd
    cases p with
    | none => simp [WF] at hW
    | some a =>
      obtain ⟨g, sub', sa', rfl, _, c0, c3, c4, c8, c9, hcs, hel⟩ := hCp
      have hlen := (hfew _ hS).len
      have hks := hk0 _ hS
      simp only [WF] at hW
      obtain ⟨w3, w4, w11, w57, w6⟩ := hW
      have hih : ∀ p q, S p → WF G f p → Cp w G B f p q → (rngF G f p).big = false → (rngF G f p).degen = false → ∀ n, Calls Try.prog 22 #[.pointer q] (w.drewN n) fun e w' => FixPost (rngF G f p) e ∧ Drawn (w.drewN n) w' :=
        fun p q h1 h2 h3 h4 h5 n => ih p q (w.drewN n) h1 h2 (Cp.later (w := w) (w' := w.drewN n) (fun _ _ _ => rfl) f _ _ h3) h4 h5
      have hkk : (G a).kind = 1 ∨ (G a).kind = 2 ∨ (G a).kind = 0 ∨ (G a).kind = 9 ∨ (G a).kind = 8 ∨ (G a).kind = 3 ∨ (G a).kind = 4 ∨ (G a).kind = 11 ∨ (G a).kind = 5 ∨ (G a).kind = 7 ∨ (G a).kind = 6 ∨ 11 < (G a).kind ∨ (G a).kind = 10 := by omega
      simp only [rngF] at hb hd ⊢
      by_cases h12 : (G a).kind = 1 ∨ (G a).kind = 2
      · rw [if_pos h12]
        exact fix_leaf g w _ _ c0 (Or.inl ⟨h12, rfl⟩)
      · rw [if_neg h12] at hb hd ⊢
        by_cases h098 : (G a).kind = 0 ∨ (G a).kind = 9 ∨ (G a).kind = 8
        · rw [if_pos h098]
          exact fix_leaf g w _ _ c0 (Or.inr (Or.inl ⟨h098, rfl⟩))
        · rw [if_neg h098] at hb hd ⊢
          have hcell : ∀ (h : Nat) (el' : Nat → Option Addr), True := fun _ _ => trivial
          by_cases h3 : (G a).kind = 3
          · rw [if_pos h3] at hb hd ⊢
            obtain ⟨e, hb', hlo, hhi⟩ := finS_nb hb
            rw [e] at hd ⊢
            have fl := foldK_flags (fun i => rngF G f ((G a).el i)) (G a).len
            rw [h3] at c0
            rcases hel with h0 | ⟨h, el', e', _, hi⟩
            · exact fix_seq g w sa' (G a).len (fun _ => none) _ hlen c0 c4 (Or.inl h0) (fun i hlt => by omega) hlo hhi (fun i hlt => by omega)
            · exact fix_seq g w sa' (G a).len el' _ hlen c0 c4 (Or.inr ⟨h, e', fun i hlt => (hi i hlt).1⟩) (fun i hlt => rngF_in G f _ (w3 h3 i hlt)) hlo hhi
                (fun i hlt => hih _ _ (hels a hS i hlt) (w3 h3 i hlt) (hi i hlt).2 (fl.1 hb' i hlt) (fl.2.1 hd i hlt))
          · rw [if_neg h3] at hb hd ⊢
            by_cases h4 : (G a).kind = 4 ∨ (G a).kind = 11
            · rw [if_pos h4] at hb hd ⊢
              obtain ⟨e, hb', hlo, hhi⟩ := finS_nb hb
              rw [e] at hd ⊢
              have fl := foldA_flags (fun i => rngF G f ((G a).el i)) (G a).len
              have hl0 : (G a).len ≠ 0 := by
                rcases h4 with h4 | h4
                · exact (w4 h4).1
                · have := (w11 h4).1; omega
              have hwf : ∀ i, i < (G a).len → WF G f ((G a).el i) := by
                rcases h4 with h4 | h4
                · exact (w4 h4).2
                · exact (w11 h4).2
              rcases hel with h0 | ⟨h, el', e', _, hi⟩
              · exact absurd h0 hl0
              · exact fix_alt g w _ h4 sa' (G a).len el' _ hlen hl0 c0 c4 (Or.inr ⟨h, e', fun i hlt => (hi i hlt).1⟩) (fun i hlt => rngF_in G f _ (hwf i hlt))
                  (fun i hlt => hih _ _ (hels a hS i hlt) (hwf i hlt) (hi i hlt).2 (fl.1 hb' i hlt) (fl.2.1 hd i hlt))
            · rw [if_neg h4] at hb hd ⊢
              by_cases h5 : (G a).kind = 5 ∨ (G a).kind = 7
              · rw [if_pos h5] at hb hd ⊢
                exact fix_sub g w _ sub' _ h5 c0 c3 (hih _ _ (hsub a hS) (w57 h5) hcs hb hd)
              · rw [if_neg h5] at hb hd ⊢
                by_cases h6 : (G a).kind = 6
                · rw [if_pos h6] at hb hd ⊢
                  obtain ⟨q0, q1, q2⟩ := w6 h6
                  have hin := rngF_in G f _ q2
                  obtain ⟨r1, r2, r3, r4⟩ := rep_fixed q0 q1 hin hb hd
                  rw [h6] at c0
                  exact fix_rep g w sub' _ _ _ _ c0 c3 c8 c9 hin q0 r3 r4 (hih _ _ (hsub a hS) q2 hcs r1 r2)
                · rw [if_neg h6]
                  exact fix_leaf g w _ _ c0 (Or.inr (Or.inr ⟨by omega, rfl⟩))
end Go.Proofs.Qxb6601528a.Fx
