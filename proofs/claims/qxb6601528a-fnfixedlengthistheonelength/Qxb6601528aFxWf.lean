import Derived.Test.Qxb6601528aFxBase
namespace Go.Proofs.Qxb6601528a.Fx
open Go.RowKit

def WfPost (G : Addr → Nd Addr) (f : Nat) (p : Option Addr) (e : Ending) : Prop := ∃ r : Bool, e = .returned (.bool r) ∧ (r = true → WF G f p)
def Drawn (w w' : World) : Prop := ∃ n, w' = w.drewN n

set_option maxHeartbeats 4000000 in
set_option maxRecDepth 100000 in
theorem wf_any (G : Addr → Nd Addr) (S : Option Addr → Prop) (f : Nat) : ∀ (p : Option Addr) (x : Int) (w : World), Closed w G S → S p → x = f → f ≤ 65537 →
    Calls Try.prog 7 #[.pointer p, .int .i64 x] w fun e w' => WfPost G f p e ∧ Drawn w w' := by
  induction f with
  | zero =>
    intro p x w _ _ hx0 _
    have hx : x ≤ 0 := by omega
    clear hx0
    cases p with
    | none =>
      go_enter Try.func7, Try.ntmps7
      go_wp2_with fail
      go_ret
      exact ⟨⟨false, rfl, fun h => by cases h⟩, 0, rfl⟩
    | some a =>
      go_enter Try.func7, Try.ntmps7
      go_wp2_with fail
      go_ret
      exact ⟨⟨false, rfl, fun h => by cases h⟩, 0, rfl⟩
  | succ f ih =>
    intro p x w hC hS hxe hf
    have hx : 1 ≤ x := by omega
    have hxm : x ≤ 65537 := by omega
    have HXE := hid hxe
    clear hxe
    cases p with
    | none =>
      go_enter Try.func7, Try.ntmps7
      go_wp2_with fail
      go_ret
      exact ⟨⟨false, rfl, fun h => by cases h⟩, 0, rfl⟩
    | some a =>
      obtain ⟨b, off, rfl, hN⟩ := hC.at_ a hS
      have hsub := hC.sub _ hS
      have hels := hC.els _ hS
      generalize hn : G ⟨b, off, none⟩ = n at hN hsub hels
      obtain ⟨kind, sub, sa, len, cap, el, mn, mx, asr⟩ := n
      obtain ⟨c0, c1, c2, c3, c4, c5, k0, k1, m0, m1, x0, x1, lc, cm, nl, hel⟩ := hN
      simp only at c0 c1 c2 c3 c4 c5 k0 k1 m0 m1 x0 x1 lc cm nl hel hsub hels
      unfold maxLen at cm
      have HN := hid hn
      have HEL := hid hel
      have HC := hid hC
      have HSUB := hid hsub
      have HELS := hid hels
      have IH := hid ih
      clear hn hel c5 nl hC hsub hels ih
      have hkind : kind = 3 ∨ kind = 4 ∨ kind = 11 ∨ (kind = 5 ∨ kind = 7) ∨ kind = 6 ∨ (kind ≠ 3 ∧ kind ≠ 4 ∧ kind ≠ 11 ∧ kind ≠ 5 ∧ kind ≠ 7 ∧ kind ≠ 6) := by omega
      rcases hkind with rfl | rfl | rfl | h57 | rfl | ⟨n3, n4, n11, n5, n7, n6⟩
      · clear c1 c3 c4 k0 k1 m0 m1 x0 x1
        go_enter Try.func7, Try.ntmps7
        go_wp2_with fail
        go_loopw [5] (fun i w' => ∃ (k q : Nat), k ≤ len ∧ i = .int .i64 k ∧ w' = w.drewN q ∧ Hid (∀ j, j < k → WF G f (el j))) (fun i _ => len - (intOf i).toNat)
        case atStart => exact ⟨0, 0, Nat.zero_le _, rfl, rfl, fun j hj => by omega⟩
        case round =>
          obtain ⟨k, q, hk, rfl, rfl, HX⟩ := hrel
          by_cases hlt : k < len
          · have hlt' : (k : Int) < len := by omega
            rcases HEL.out with h0 | ⟨b', off', rfl, hcs⟩
            · omega
            · have hck := hcs k hlt
              clear hcs
              go_wp2_with fail
              refine (IH.out (el k) (x - 1) (w.drewN q) (HC.out.drewN q) (HELS.out k hlt) (by have := HXE.out; omega) (by omega)).mono ?_
              rintro e w' ⟨⟨r, rfl, hr⟩, ⟨q', rfl⟩⟩
              have HR := hid hr
              clear hr
              cases r
              · go_wp2_with fail
                go_ret
                exact ⟨⟨false, rfl, fun h => by cases h⟩, q + q', rfl⟩
              · go_wp2_with fail
                go_roundw
                case rel =>
                  refine ⟨k + 1, q + q', by omega, by go_num, rfl, fun j hj => ?_⟩
                  by_cases e : j = k
                  · subst e; exact HR.out (by simp)
                  · exact HX.out j (by omega)
                case measure => simp [intOf]; omega
          · go_wp2_with fail
            go_ret
            exact ⟨⟨true, rfl, fun _ => wf_seq HN.out (by simp) (fun i hi => HX.out i (by have : i < len := hi; omega))⟩, q, rfl⟩
      · clear c1 c3 c4 k0 k1 m0 m1 x0 x1
        by_cases h0 : len = 0
        · subst h0
          go_enter Try.func7, Try.ntmps7
          go_wp2_with fail
          go_ret
          exact ⟨⟨false, rfl, fun h => by cases h⟩, 0, rfl⟩
        · have h0' : ((len : Int) == 0) = false := by rw [beq_eq_false_iff_ne]; omega
          go_enter Try.func7, Try.ntmps7
          go_wp2_with fail
          go_loopw [6] (fun i w' => ∃ (k q : Nat), k ≤ len ∧ i = .int .i64 k ∧ w' = w.drewN q ∧ Hid (∀ j, j < k → WF G f (el j))) (fun i _ => len - (intOf i).toNat)
          case atStart => exact ⟨0, 0, Nat.zero_le _, rfl, rfl, fun j hj => by omega⟩
          case round =>
            obtain ⟨k, q, hk, rfl, rfl, HX⟩ := hrel
            by_cases hlt : k < len
            · have hlt' : (k : Int) < len := by omega
              rcases HEL.out with h0 | ⟨b', off', rfl, hcs⟩
              · omega
              · have hck := hcs k hlt
                clear hcs
                go_wp2_with fail
                refine (IH.out (el k) (x - 1) (w.drewN q) (HC.out.drewN q) (HELS.out k hlt) (by have := HXE.out; omega) (by omega)).mono ?_
                rintro e w' ⟨⟨r, rfl, hr⟩, ⟨q', rfl⟩⟩
                have HR := hid hr
                clear hr
                cases r
                · go_wp2_with fail
                  go_ret
                  exact ⟨⟨false, rfl, fun h => by cases h⟩, q + q', rfl⟩
                · go_wp2_with fail
                  go_roundw
                  case rel =>
                    refine ⟨k + 1, q + q', by omega, by go_num, rfl, fun j hj => ?_⟩
                    by_cases e : j = k
                    · subst e; exact HR.out (by simp)
                    · exact HX.out j (by omega)
                  case measure => simp [intOf]; omega
            · go_wp2_with fail
              go_ret
              exact ⟨⟨true, rfl, fun _ => wf_seq HN.out (by simp [h0]) (fun i hi => HX.out i (by have : i < len := hi; omega))⟩, q, rfl⟩
      · clear c1 c3 c4 k0 k1 m0 m1 x0 x1
        by_cases h2 : len = 2
        · subst h2
          have h2' : (((2 : Nat) : Int) != 2) = false := by decide
          rcases HEL.out with h0 | ⟨b', off', rfl, hcs⟩
          · omega
          · have hc0 := hcs 0 (by omega)
            have hc1 := hcs 1 (by omega)
            rw [Nat.add_zero] at hc0
            clear hcs
            go_enter Try.func7, Try.ntmps7
            go_wp2_with fail
            refine (IH.out (el 0) (x - 1) w HC.out (HELS.out 0 (by omega)) (by have := HXE.out; omega) (by omega)).mono ?_
            rintro e w' ⟨⟨r, rfl, hr⟩, ⟨q, rfl⟩⟩
            have HR := hid hr
            clear hr
            cases r
            · go_wp2_with fail
              go_ret
              exact ⟨⟨false, rfl, fun h => by cases h⟩, q, rfl⟩
            · go_wp2_with fail
              refine (IH.out (el 1) (x - 1) (w.drewN q) (HC.out.drewN q) (HELS.out 1 (by omega)) (by have := HXE.out; omega) (by omega)).mono ?_
              rintro e w' ⟨⟨r', rfl, hr'⟩, ⟨q', rfl⟩⟩
              have HR' := hid hr'
              clear hr'
              go_wp2_with fail
              go_ret
              refine ⟨⟨r', rfl, fun h => wf_seq HN.out (by simp) (fun i hi => ?_)⟩, q + q', rfl⟩
              have hi' : i < 2 := hi
              match i, hi' with
              | 0, _ => exact HR.out (by simp)
              | 1, _ => exact HR'.out h
        · have h2' : ((len : Int) != 2) = true := by rw [bne_iff_ne]; omega
          go_enter Try.func7, Try.ntmps7
          go_wp2_with fail
          go_ret
          exact ⟨⟨false, rfl, fun h => by cases h⟩, 0, rfl⟩
      · clear c2 c3 c4 m0 m1 x0 x1 lc cm
        rcases h57 with rfl | rfl
        · go_enter Try.func7, Try.ntmps7
          go_wp2_with fail
          refine (IH.out sub (x - 1) w HC.out HSUB.out (by have := HXE.out; omega) (by omega)).mono ?_
          rintro e w' ⟨⟨r, rfl, hr⟩, ⟨q, rfl⟩⟩
          have HR := hid hr
          clear hr
          go_wp2_with fail
          go_ret
          exact ⟨⟨r, rfl, fun h => wf_sub HN.out (by simp) (HR.out h)⟩, q, rfl⟩
        · go_enter Try.func7, Try.ntmps7
          go_wp2_with fail
          refine (IH.out sub (x - 1) w HC.out HSUB.out (by have := HXE.out; omega) (by omega)).mono ?_
          rintro e w' ⟨⟨r, rfl, hr⟩, ⟨q, rfl⟩⟩
          have HR := hid hr
          clear hr
          go_wp2_with fail
          go_ret
          exact ⟨⟨r, rfl, fun h => wf_sub HN.out (by simp) (HR.out h)⟩, q, rfl⟩
      · clear c2 lc cm
        by_cases hm0 : mn < 0
        · go_enter Try.func7, Try.ntmps7
          go_wp2_with fail
          go_ret
          exact ⟨⟨false, rfl, fun h => by cases h⟩, 0, rfl⟩
        · by_cases hx0 : 0 ≤ mx
          · by_cases hmx : mx < mn
            · go_enter Try.func7, Try.ntmps7
              go_wp2_with fail
              go_quiet (fail)
              go_wp2_with fail
              go_ret
              exact ⟨⟨false, rfl, fun h => by cases h⟩, _, rfl⟩
            · go_enter Try.func7, Try.ntmps7
              go_wp2_with fail
              go_quiet (fail)
              go_wp2_with fail
              refine (IH.out sub (x - 1) (w.drewN nq) (HC.out.drewN _) HSUB.out (by have := HXE.out; omega) (by omega)).mono ?_
              rintro e w' ⟨⟨r, rfl, hr⟩, ⟨q, rfl⟩⟩
              have HR := hid hr
              clear hr
              go_wp2_with fail
              go_ret
              exact ⟨⟨r, rfl, fun h => wf_rep HN.out rfl (by show 0 ≤ mn; omega) (by show 0 ≤ mx → mn ≤ mx; omega) (HR.out h)⟩, nq + q, rfl⟩
          · have hd : decide (0 ≤ mx) = false := by simpa using hx0
            go_enter Try.func7, Try.ntmps7
            go_wp2_with fail
            go_quiet (fail)
            go_wp2_with fail
            refine (IH.out sub (x - 1) (w.drewN nq) (HC.out.drewN _) HSUB.out (by have := HXE.out; omega) (by omega)).mono ?_
            rintro e w' ⟨⟨r, rfl, hr⟩, ⟨q, rfl⟩⟩
            have HR := hid hr
            clear hr
            go_wp2_with fail
            go_ret
            exact ⟨⟨r, rfl, fun h => wf_rep HN.out rfl (by show 0 ≤ mn; omega) (by show 0 ≤ mx → mn ≤ mx; omega) (HR.out h)⟩, nq + q, rfl⟩
      · go_enter Try.func7, Try.ntmps7
        go_wp2_with fail
        go_ret
        exact ⟨⟨true, rfl, fun _ => wf_else HN.out n3 n4 n11 n5 n7 n6⟩, 0, rfl⟩
end Go.Proofs.Qxb6601528a.Fx
