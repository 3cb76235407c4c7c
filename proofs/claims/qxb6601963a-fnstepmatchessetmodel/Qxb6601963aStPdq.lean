import Derived.Test.Qxb6601963aStHeap
import Derived.Test.Qxb6601963aStPartEq
import Derived.Test.Qxb6601963aStPi
import Derived.Test.Qxb6601963aStBreak
import Derived.Test.Qxb6601963aStPdqP
set_option linter.unusedVariables false
namespace Go.Proofs.Qxb6601963a.St
open Go.RowKit Go.Sort

theorem F1_dec (d : Array Int) (a b l : Nat) (wb wp : Bool) (c : Nat × Hint) (hc : c = choosePivot ltInt d a b) (h : c.2 = .decreasing) :
    F1 d a b l wb wp = F2 (reverseRange d a b) a b l wb wp ((b - 1) - (c.1 - a)) true := by
  subst hc; unfold F1; rw [if_pos h]
theorem F1_not (d : Array Int) (a b l : Nat) (wb wp : Bool) (c : Nat × Hint) (hc : c = choosePivot ltInt d a b) (h : ¬ c.2 = .decreasing) :
    F1 d a b l wb wp = F2 d a b l wb wp c.1 (decide (c.2 = .increasing)) := by
  subst hc; unfold F1; rw [if_neg h]
theorem F2_end (d : Array Int) (a b l : Nat) (wb wp : Bool) (pv : Nat) (inc : Bool) (r : Array Int × Bool) (hr : r = partialInsertionSort ltInt d a b) (h : (wb && wp && inc) = true) (h2 : r.2 = true) :
    F2 d a b l wb wp pv inc = r.1 := by
  subst hr; unfold F2; rw [if_pos h, if_pos h2]
theorem F2_on (d : Array Int) (a b l : Nat) (wb wp : Bool) (pv : Nat) (inc : Bool) (r : Array Int × Bool) (hr : r = partialInsertionSort ltInt d a b) (h : (wb && wp && inc) = true) (h2 : ¬ r.2 = true) :
    F2 d a b l wb wp pv inc = F3 r.1 a b l wb wp pv := by
  subst hr; unfold F2; rw [if_pos h, if_neg h2]
theorem F2_no (d : Array Int) (a b l : Nat) (wb wp : Bool) (pv : Nat) (inc : Bool) (h : ¬ (wb && wp && inc) = true) :
    F2 d a b l wb wp pv inc = F3 d a b l wb wp pv := by
  unfold F2; rw [if_neg h]
theorem F3_equal (d : Array Int) (a b l : Nat) (wb wp : Bool) (pv : Nat) (r : Nat × Array Int) (hr : r = partitionEqual ltInt d a b pv) (h : 0 < a ∧ ¬ d[a - 1]! < d[pv]!) :
    F3 d a b l wb wp pv = pdq ltInt r.2 r.1 b l wb wp := by
  subst hr; unfold F3; rw [if_pos h]
theorem F3_left (d : Array Int) (a b l : Nat) (wb wp : Bool) (pv : Nat) (r : Nat × Bool × Array Int) (hr : r = partition ltInt d a b pv) (h : ¬ (0 < a ∧ ¬ d[a - 1]! < d[pv]!)) (h2 : r.1 - a < b - r.1) :
    F3 d a b l wb wp pv = pdq ltInt (pdq ltInt r.2.2 a r.1 l true true) (r.1 + 1) b l (decide ((b - a) / 8 ≤ r.1 - a)) r.2.1 := by
  subst hr; unfold F3; rw [if_neg h, if_pos h2]
theorem F3_right (d : Array Int) (a b l : Nat) (wb wp : Bool) (pv : Nat) (r : Nat × Bool × Array Int) (hr : r = partition ltInt d a b pv) (h : ¬ (0 < a ∧ ¬ d[a - 1]! < d[pv]!)) (h2 : ¬ r.1 - a < b - r.1) :
    F3 d a b l wb wp pv = pdq ltInt (pdq ltInt r.2.2 (r.1 + 1) b l true true) a r.1 l (decide ((b - a) / 8 ≤ b - r.1)) r.2.1 := by
  subst hr; unfold F3; rw [if_neg h, if_neg h2]

/-- what the hint is worth behind the pivot's choice -/
def hv : Bool → Int
  | true => 1
  | false => 0

set_option maxRecDepth 100000 in
set_option maxHeartbeats 16000000 in
theorem pdq_step (blk off cap N : Nat) (hsz : N ≤ 1048576) (m : Nat)
    (ih : ∀ (a b l : Nat) (d : Array Int) (w : World), b - a < m → Holds (Value.int .u64) w blk off d → d.size = N → a ≤ b → b ≤ N → l ≤ 100 →
      Calls Try.prog 32 #[.slice (some ⟨blk, off, none⟩) N cap, .int .i64 a, .int .i64 b, .int .i64 l] w fun e w' => e = .returned (.tuple #[]) ∧ Done blk off N w w' (pdq ltInt d a b l true true))
    (a b l : Nat) (d : Array Int) (w : World) (hm : b - a < m + 1) (hD : Holds (Value.int .u64) w blk off d) (hN : d.size = N) (hab : a ≤ b) (hb : b ≤ N) (hl : l ≤ 100) :
      Calls Try.prog 32 #[.slice (some ⟨blk, off, none⟩) N cap, .int .i64 a, .int .i64 b, .int .i64 l] w fun e w' => e = .returned (.tuple #[]) ∧ Done blk off N w w' (pdq ltInt d a b l true true) := by
  have H0 : Hid (Done blk off N w w d) := by subst hN; exact Done.start hD
  have IH := hid ih
  clear hD hN ih
  obtain ⟨P, hP⟩ : ∃ P, P = pdq ltInt d a b l true true := ⟨_, rfl⟩
  rw [← hP]
  have HP := hid hP
  clear hP
  go_enter Try.func32, Try.ntmps32
  go_wp2_with fail
  go_loopw [1, 2, 3, 8, 9] (fun v1 v2 v3 v8 v9 wr => ∃ (a' b' l' : Nat) (wb wp : Bool) (dk : Array Int), v1 = .int .i64 a' ∧ v2 = .int .i64 b' ∧ v3 = .int .i64 l' ∧ v8 = .bool wb ∧ v9 = .bool wp ∧ a' ≤ b' ∧ b' ≤ N ∧ l' ≤ 100 ∧ Hid (b' - a' ≤ m) ∧ Hid (Done blk off N w wr dk) ∧ Hid (pdq ltInt dk a' b' l' wb wp = P)) (fun v1 v2 _ _ _ _ => (intOf v2).toNat - (intOf v1).toNat)
  case atStart => exact ⟨a, b, l, true, true, d, rfl, rfl, rfl, rfl, rfl, hab, hb, hl, by rw [Hid]; omega, H0, HP.out.symm⟩
  case round =>
    obtain ⟨x, y, z, wb, wp, dk, rfl, rfl, rfl, rfl, rfl, hxy, hyN, hz, HM, HD, HF⟩ := hrel
    clear H0 HP hm hab hb hl
    obtain ⟨n, hn⟩ : ∃ n : Nat, n = y - x := ⟨_, rfl⟩
    have hnI : (y : Int) - x = n := by omega
    have hnN : n ≤ N := by omega
    have HNq := hid hn
    clear hn
    by_cases h12 : n ≤ 12
    · have h12I : (n : Int) ≤ 12 := by omega
      go_wp2_with fail
      refine (ins_any blk off cap x y N dk wr HD.out.row HD.out.size hxy hyN hsz).mono ?_
      rintro e w2 ⟨rfl, hd2⟩
      have HD2 := hid (HD.out.after hd2)
      clear hd2
      go_wp2_with fail
      refine bodyPost_ret (results_none rfl _ _ _) rfl ?_
      refine ⟨rfl, ?_⟩
      rw [← HF.out, pdq_small dk x y z wb wp (by rw [← HNq.out]; exact h12)]
      exact HD2.out
    have h12I : ¬ (n : Int) ≤ 12 := by omega
    have hx12 : x + 12 < y := by have := HNq.out; omega
    by_cases hz0 : z = 0
    · have hz0I : (z : Int) = 0 := by omega
      have HZ := hid hz0
      clear hz0
      go_wp2_with fail
      refine (heap_any blk off cap x y N dk wr HD.out.row HD.out.size (by omega) hyN hsz).mono ?_
      rintro e w2 ⟨rfl, hd2⟩
      have HD2 := hid (HD.out.after hd2)
      clear hd2
      go_wp2_with fail
      refine bodyPost_ret (results_none rfl _ _ _) rfl ?_
      refine ⟨rfl, ?_⟩
      have hf := HF.out
      rw [HZ.out, pdq_deep dk x y wb wp (by rw [← HNq.out]; exact h12)] at hf
      rw [← hf]
      exact HD2.out
    have hz0I : ¬ (z : Int) = 0 := by omega
    have HF0 : Hid (F1 (if wb then dk else breakPatterns dk x y) x y (if wb then z else z - 1) wb wp = P) := by
      rw [Hid, ← HF.out, pdq_round dk x y z wb wp (by rw [← HNq.out]; exact h12) hz0 (by rw [HD.out.size]; exact hyN)]
    clear HF
    go_upto_if 35 with fail
    go_cut [3] from 19 to 133 (fun v wx => ∃ (l1 : Nat) (d1 : Array Int), v = .int .i64 l1 ∧ l1 ≤ 100 ∧ Hid (Done blk off N w wx d1) ∧ Hid (F1 d1 x y l1 wb wp = P))
    case first =>
      cases wb with
      | false =>
        go_wp2_with fail
        refine (break_any blk off cap x y N dk wr HD.out.row HD.out.size hx12 hyN hsz).mono ?_
        rintro e w2 ⟨rfl, hd2⟩
        have HD2 := hid (HD.out.after hd2)
        clear hd2
        go_wp2_with fail
        go_meet
        exact ⟨z - 1, _, by go_num, by omega, HD2, HF0⟩
      | true =>
        go_wp2_with fail
        go_meet
        exact ⟨z, dk, rfl, hz, HD, HF0⟩
    case rest =>
      obtain ⟨l1, d1, rfl, hl1, HD1, HF1⟩ := hcut
      clear HD HF0 hz0 hz0I hz
      have cc := fun w1 h1 => choose_any blk off cap x y N d1 w1 h1 HD1.out.size hx12 hyN hsz
      obtain ⟨q1, q2⟩ := choosePivot_holds ltInt d1 x y (by omega)
      obtain ⟨c, hc⟩ : ∃ c, c = choosePivot ltInt d1 x y := ⟨_, rfl⟩
      rw [← hc] at cc q1 q2
      have CC := hid cc
      have HC := hid hc
      clear cc hc
      go_wp2_with fail
      refine (CC.out _ HD1.out.row).mono ?_
      rintro e W2 ⟨rfl, hd2⟩
      have HD2 := hid (HD1.out.after hd2)
      clear hd2 HD1
      go_upto_if 50 with fail
      go_cut [11, 12] from 19 to 133 (fun v11 v12 wx => ∃ (pv : Nat) (inc : Bool) (d2 : Array Int), v11 = .int .i64 pv ∧ v12 = .int .i64 (hv inc) ∧ x ≤ pv ∧ pv < y ∧ Hid (Done blk off N w wx d2) ∧ Hid (F2 d2 x y l1 wb wp pv inc = P))
      case first =>
        by_cases hdec : c.2 = .decreasing
        · have eh : hintCode c.2 = 2 := by rw [hdec]; rfl
          have HDEC := hid hdec
          clear hdec
          obtain ⟨pv, hpv⟩ : ∃ pv : Nat, pv = (y - 1) - (c.1 - x) := ⟨_, rfl⟩
          have hpvI : (y : Int) - 1 - ((c.1 : Int) - x) = pv := by omega
          have hpv1 : x ≤ pv := by omega
          have hpv2 : pv < y := by omega
          have HPV := hid hpv
          clear hpv
          go_wp2_with fail
          refine (rev_any blk off cap x y N d1 W2 HD2.out.row HD2.out.size (by omega) hyN hsz).mono ?_
          rintro e w3 ⟨rfl, hd3⟩
          have HD3 := hid (HD2.out.after hd3)
          clear hd3
          go_wp2_with fail
          go_meet
          exact ⟨pv, true, _, rfl, rfl, hpv1, hpv2, HD3, by rw [Hid, ← HF1.out, F1_dec d1 x y l1 wb wp c HC.out HDEC.out, HPV.out]⟩
        · by_cases hinc : c.2 = .increasing
          · have eh : hintCode c.2 = 1 := by rw [hinc]; rfl
            have HI := hid hinc
            have HDEC := hid hdec
            clear hinc hdec
            go_wp2_with fail
            go_meet
            exact ⟨c.1, true, d1, rfl, by rw [eh]; rfl, q1, q2, HD2, by rw [Hid, ← HF1.out, F1_not d1 x y l1 wb wp c HC.out HDEC.out, HI.out]; rfl⟩
          · have eh : hintCode c.2 = 0 := by
              cases hx : c.2 with
              | unknown => rfl
              | increasing => exact absurd hx hinc
              | decreasing => exact absurd hx hdec
            have HI := hid hinc
            have HDEC := hid hdec
            clear hinc hdec
            go_wp2_with fail
            go_meet
            exact ⟨c.1, false, d1, rfl, by rw [eh]; rfl, q1, q2, HD2, by rw [Hid, ← HF1.out, F1_not d1 x y l1 wb wp c HC.out HDEC.out, decide_eq_false HI.out]⟩
      case rest =>
        obtain ⟨pv, inc, d2, rfl, rfl, hpv1, hpv2, HD3, HF2⟩ := hcut
        clear HD2 HF1 HC CC q1 q2
        go_upto_region 15 with fail
        go_cut [12, 68] from 19 to 133 (fun _ v wx => v = .bool (wb && wp && inc) ∧ Hid (Done blk off N w wx d2))
        case first =>
          cases wb <;> cases wp <;> cases inc <;> (first | rw [show hv true = 1 from rfl] | rw [show hv false = 0 from rfl]) <;> (go_wp2_with fail; go_meet; exact ⟨rfl, HD3⟩)
        case rest =>
          obtain ⟨rfl, HD4⟩ := hcut
          clear HD3
          go_upto_if 68 with fail
          go_cut [68] from 19 to 133 (fun v wx => ∃ d3 : Array Int, Hid (Done blk off N w wx d3) ∧ Hid (F3 d3 x y l1 wb wp pv = P))
          case first =>
            by_cases hall : (wb && wp && inc) = true
            · have HA := hid hall
              rw [hall]
              clear hall
              have cc := fun w1 h1 => pi_any blk off cap x y N d2 w1 h1 HD4.out.size (by omega) hyN hsz
              obtain ⟨r, hr⟩ : ∃ r, r = partialInsertionSort ltInt d2 x y := ⟨_, rfl⟩
              rw [← hr] at cc
              have CC := hid cc
              have HR := hid hr
              clear cc hr
              go_wp2_with fail
              refine (CC.out _ HD4.out.row).mono ?_
              rintro e w3 ⟨rfl, hd3⟩
              have HD5 := hid (HD4.out.after hd3)
              clear hd3
              by_cases hr2 : r.2 = true
              · have HR2 := hid hr2
                rw [hr2]
                clear hr2
                go_wp2_with fail
                refine bodyPost_ret (results_none rfl _ _ _) rfl ?_
                refine ⟨rfl, ?_⟩
                rw [← HF2.out, F2_end d2 x y l1 wb wp pv inc r HR.out HA.out HR2.out]
                exact HD5.out
              · have HR2 := hid hr2
                rw [show r.2 = false by simpa using hr2]
                clear hr2
                go_wp2_with fail
                go_meet
                exact ⟨r.1, HD5, by rw [Hid, ← HF2.out, F2_on d2 x y l1 wb wp pv inc r HR.out HA.out HR2.out]⟩
            · have HA := hid hall
              rw [show (wb && wp && inc) = false by simpa using hall]
              clear hall
              go_wp2_with fail
              go_meet
              exact ⟨d2, HD4, by rw [Hid, ← HF2.out, F2_no d2 x y l1 wb wp pv inc HA.out]⟩
          case rest =>
            obtain ⟨d3, HD5, HF3⟩ := hcut
            clear HD4 HF2
            obtain ⟨G, hG, hcw, hfw⟩ := HD5.out.cells
            have HG := hid hG
            clear hG
            go_upto_region 17 with fail
            go_cut [87] from 19 to 133 (fun v wx => v = .bool (decide (0 < x ∧ ¬ d3[x - 1]! < d3[pv]!)) ∧ Hid (Done blk off N w wx d3))
            case first =>
              by_cases hx0 : 0 < x
              · have hx0I : (0 : Int) < x := by omega
                by_cases hl : G (x - 1) < G pv
                · have HL := hid hl
                  go_big_quiet (first | (go_at_call 40; refine Calls.quiet_of_same (less_any _ _ _)))
                  go_wp2_with fail
                  go_meet
                  exact ⟨by rw [decide_eq_false (by rw [← HG.out, ← HG.out]; exact fun h => absurd HL.out (by first | exact h.2 | exact Int.not_lt.2 h.2))], HD5.out.drewN nq⟩
                · have HL := hid hl
                  go_big_quiet (first | (go_at_call 40; refine Calls.quiet_of_same (less_any _ _ _)))
                  go_wp2_with fail
                  go_meet
                  exact ⟨by rw [decide_eq_true (by rw [← HG.out, ← HG.out]; exact ⟨hx0, by first | exact HL.out | exact Int.not_lt.2 HL.out⟩)], HD5.out.drewN nq⟩
              · have hx0I : ¬ (0 : Int) < x := by omega
                go_big_quiet (first | (go_at_call 40; refine Calls.quiet_of_same (less_any _ _ _)))
                go_wp2_with fail
                go_meet
                exact ⟨by rw [decide_eq_false (fun h => hx0 h.1)], HD5.out.drewN nq⟩
            case rest =>
              obtain ⟨rfl, HD6⟩ := hcut
              clear HD5 hcw hfw HG
              have hsz3 : y ≤ d3.size := by rw [HD6.out.size]; exact hyN
              by_cases hpe : 0 < x ∧ ¬ d3[x - 1]! < d3[pv]!
              · rw [decide_eq_true hpe]
                have HPE := hid hpe
                clear hpe
                have cc := fun w1 h1 => partEq_any blk off cap x y pv N d3 w1 h1 HD6.out.size hpv1 hpv2 hyN hsz
                obtain ⟨q1, q2⟩ := partEq_range d3 x y pv hpv1 hpv2 hsz3
                obtain ⟨r, hr⟩ : ∃ r, r = partitionEqual ltInt d3 x y pv := ⟨_, rfl⟩
                rw [← hr] at cc q1 q2
                have CC := hid cc
                have HR := hid hr
                clear cc hr
                go_wp2_with fail
                refine (CC.out _ HD6.out.row).mono ?_
                rintro e w3 ⟨rfl, hd3⟩
                have HD7 := hid (HD6.out.after hd3)
                clear hd3
                go_wp2_with fail
                go_roundw
                case rel => exact ⟨r.1, y, l1, wb, wp, r.2, rfl, rfl, rfl, rfl, rfl, q2, hyN, hl1, by rw [Hid]; have := HM.out; omega, HD7, by rw [Hid, ← HF3.out, F3_equal d3 x y l1 wb wp pv r HR.out (by simpa using HPE.out)]⟩
                case measure => simp [intOf]; omega
              · rw [decide_eq_false hpe]
                have HPE := hid hpe
                clear hpe
                have cc := fun w1 h1 => part_any blk off cap x y pv N d3 w1 h1 HD6.out.size hpv1 hpv2 hyN hsz
                obtain ⟨q1, q2⟩ := part_range d3 x y pv hpv1 hpv2 hsz3
                obtain ⟨r, hr⟩ : ∃ r, r = partition ltInt d3 x y pv := ⟨_, rfl⟩
                rw [← hr] at cc q1 q2
                have CC := hid cc
                have HR := hid hr
                clear cc hr
                obtain ⟨lf, hlf⟩ : ∃ lf : Nat, lf = r.1 - x := ⟨_, rfl⟩
                obtain ⟨rg, hrg⟩ : ∃ rg : Nat, rg = y - r.1 := ⟨_, rfl⟩
                obtain ⟨q8, hq8⟩ : ∃ q8 : Nat, q8 = n / 8 := ⟨_, rfl⟩
                have hlfI : (r.1 : Int) - x = lf := by omega
                have hrgI : (y : Int) - r.1 = rg := by omega
                have hq8I : (n : Int).tdiv 8 = q8 := by rw [hq8]; rfl
                have hq8N : (q8 : Int) ≤ 1048576 := by omega
                have hq80 : (0 : Int) ≤ q8 := by omega
                have HLF := hid hlf
                have HRG := hid hrg
                have HQ8 := hid hq8
                clear hlf hrg hq8
                go_wp2_with fail
                refine (CC.out _ HD6.out.row).mono ?_
                rintro e w3 ⟨rfl, hd3⟩
                have HD7 := hid (HD6.out.after hd3)
                clear hd3 HD6
                by_cases hside : lf < rg
                · have hsideI : (lf : Int) < rg := by omega
                  go_wp2_with fail
                  refine (IH.out x r.1 l1 r.2.2 w3 (by have := HM.out; omega) HD7.out.row HD7.out.size q1 (by omega) hl1).mono ?_
                  rintro e w4 ⟨rfl, hd4⟩
                  have HD8 := hid (HD7.out.after hd4)
                  clear hd4 HD7
                  go_wp2_with fail
                  go_roundw
                  case rel =>
                    refine ⟨r.1 + 1, y, l1, _, _, _, by go_num, rfl, rfl, rfl, rfl, by omega, hyN, hl1, by rw [Hid]; have := HM.out; omega, HD8, ?_⟩
                    rw [Hid, ← HF3.out, F3_left d3 x y l1 wb wp pv r HR.out (by simpa using HPE.out) (by rw [← HLF.out, ← HRG.out]; exact hside)]
                    congr 1
                    rw [decide_eq_decide, ← HNq.out, ← HQ8.out, ← HLF.out]
                  case measure => simp [intOf]; omega
                · have hsideI : ¬ (lf : Int) < rg := by omega
                  go_wp2_with fail
                  rw [show (r.1 : Int) + 1 = ((r.1 + 1 : Nat) : Int) by omega]
                  refine (IH.out (r.1 + 1) y l1 r.2.2 w3 (by have := HM.out; omega) HD7.out.row HD7.out.size (by omega) hyN hl1).mono ?_
                  rintro e w4 ⟨rfl, hd4⟩
                  have HD8 := hid (HD7.out.after hd4)
                  clear hd4 HD7
                  go_wp2_with fail
                  go_roundw
                  case rel =>
                    refine ⟨x, r.1, l1, _, _, _, rfl, rfl, rfl, rfl, rfl, by omega, by omega, hl1, by rw [Hid]; have := HM.out; omega, HD8, ?_⟩
                    rw [Hid, ← HF3.out, F3_right d3 x y l1 wb wp pv r HR.out (by simpa using HPE.out) (by rw [← HLF.out, ← HRG.out]; exact hside)]
                    congr 1
                    rw [decide_eq_decide, ← HNq.out, ← HQ8.out, ← HRG.out]
                  case measure => simp [intOf]; omega

theorem pdq_any (blk off cap N : Nat) (hsz : N ≤ 1048576) : ∀ (m a b l : Nat) (d : Array Int) (w : World), b - a < m → Holds (Value.int .u64) w blk off d → d.size = N → a ≤ b → b ≤ N → l ≤ 100 →
      Calls Try.prog 32 #[.slice (some ⟨blk, off, none⟩) N cap, .int .i64 a, .int .i64 b, .int .i64 l] w fun e w' => e = .returned (.tuple #[]) ∧ Done blk off N w w' (pdq ltInt d a b l true true) := by
  intro m
  induction m with
  | zero => intro a b l d w h; omega
  | succ m ih => exact pdq_step blk off cap N hsz m ih
end Go.Proofs.Qxb6601963a.St
