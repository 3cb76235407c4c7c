import Derived.Test.Qxb6601528aFxRngAll
import Derived.Test.Qxb6601528aFxFix
set_option linter.unusedVariables false
namespace Go.Proofs.Qxb6601528a.Fx
open Go.RowKit

theorem zz_fix (s : Sp) (q : Option Addr) (w : World) (h : Calls Try.prog 22 #[.pointer q] w fun e w' => FixPost s e ∧ Drawn w w') :
    Calls Try.prog 9 #[.pointer q] w fun e w' => FixPost s e ∧ Drawn w w' := by
  have H := hid h
  clear h
  go_enter Try.func9, Try.ntmps9
  go_wp2_with fail
  refine H.out.mono ?_
  rintro e w' ⟨⟨l, ok, rfl, hok, hl⟩, ⟨n, rfl⟩⟩
  have HOK := hid hok
  have HL := hid hl
  clear hok hl
  go_wp2_with fail
  go_ret2
  exact ⟨⟨l, ok, rfl, HOK.out, HL.out⟩, n, rfl⟩

set_option maxHeartbeats 4000000 in
set_option maxRecDepth 100000 in
theorem walk (G : Addr → Nd Addr) (S : Option Addr → Prop) (p : Option Addr) (w : World) (hC : Closed w G S) (hS : S p) :
    Calls Try.prog 3 #[.pointer p] w fun e w' => e = .returned (.bool true) ∧ Below w.heap.size w w' := by
  have HSP := hid (spend_any G S 65537 p 65536 w hC hS (by omega) (by omega) (by omega))
  have HC := hid hC
  have HS := hid hS
  clear hC hS
  obtain ⟨f, hf⟩ : ∃ f : Nat, f = 65537 := ⟨_, rfl⟩
  have HF := hid hf
  clear hf
  go_enter Try.func3, Try.ntmps3
  go_wp2_with fail
  refine HSP.out.mono ?_
  rintro e w0 ⟨⟨r, rfl, hr1, hr2, hr3⟩, rfl⟩
  by_cases hneg : r < 0
  · clear hr3
    go_wp2_with fail
    go_ret
    exact ⟨rfl, Below.refl _ _⟩
  · have HFew := hid (hr3 (by omega))
    clear hr3 HSP
    have HC2 : Hid (Closed w G (fun q => S q ∧ Few G q)) := ⟨fun a ha => HC.out.at_ a ha.1, fun a ha => ⟨HC.out.sub a ha.1, ha.2.sub⟩, fun a ha i hi => ⟨HC.out.els a ha.1 i hi, ha.2.els i hi⟩⟩
    have HS2 : Hid ((fun q => S q ∧ Few G q) p) := ⟨HS.out, HFew.out⟩
    have HK0 : Hid (∀ a, S (some a) → 0 ≤ (G a).kind) := fun a ha => by
      obtain ⟨b, off, _, hN⟩ := HC.out.at_ a ha
      exact hN.k0
    clear HC HS HFew
    go_wp2_with fail
    refine (wf_any G _ f p 65537 w HC2.out HS2.out (by have := HF.out; omega) (by have := HF.out; omega)).mono ?_
    rintro e w1 ⟨⟨r7, rfl, hw7⟩, ⟨n1, rfl⟩⟩
    cases r7
    · clear hw7
      go_wp2_with fail
      go_ret
      exact ⟨rfl, ((Below.refl _ _).trans ⟨rfl, rfl, rfl, Nat.le_refl _, fun _ _ => rfl⟩)⟩
    · have HW := hid (hw7 rfl)
      clear hw7
      go_wp2_with fail
      refine (rng_any G _ f p 65537 (w.drewN n1) (HC2.out.drewN n1) HS2.out (by have := HF.out; omega) (by have := HF.out; omega) HW.out).mono ?_
      rintro e w2 ⟨rfl, hb2⟩
      have HB2 : Hid (Below w.heap.size w w2) := (show Below w.heap.size w (w.drewN n1) from ⟨rfl, rfl, rfl, Nat.le_refl _, fun _ _ => rfl⟩).trans hb2
      clear hb2
      generalize hs : rngF G f p = s
      have HSE := hid hs
      clear hs
      obtain ⟨slo, shi, sinf, sbig, sdeg⟩ := s
      cases sbig
      · cases sdeg
        · go_wp2_with fail
          have HBA : Hid (Below w.heap.size w (w2.alloc (.cells #[Value.int IntKind.i64 slo, Value.int IntKind.i64 shi, Value.bool sinf, Value.bool false, Value.bool false] 26))) := HB2.out.alloc HB2.out.size _
          have HBX : Hid ((w2.alloc (.cells #[Value.int IntKind.i64 slo, Value.int IntKind.i64 shi, Value.bool sinf, Value.bool false, Value.bool false] 26)).heap[w2.heap.size]? = some (boxO ⟨slo, shi, sinf, false, false⟩)) := heap_alloc_new w2 _
          generalize (w2.alloc (.cells #[Value.int IntKind.i64 slo, Value.int IntKind.i64 shi, Value.bool sinf, Value.bool false, Value.bool false] 26)) = w3 at *
          generalize w2.heap.size = gg at *
          refine (copy_any G _ (fun q hq => hq.2) f p 65537 w3 (HC2.out.below HBA.out) HS2.out (by have := HF.out; omega) (by have := HF.out; omega)).mono ?_
          rintro e w4 ⟨⟨q, rfl, hcp⟩, hb4⟩
          have HCP := hid hcp
          have HB4 := hid hb4
          clear hcp hb4
          have HFIX := hid (fun (n : Nat) => fix_any G (fun q => S q ∧ Few G q) (fun a ha => HC2.out.sub a ha) (fun a ha i hi => HC2.out.els a ha i hi) (fun q hq => hq.2) (fun a ha => HK0.out a ha.1) w3.heap.size f p q w4 HS2.out HW.out HCP.out (by rw [HSE.out]) (by rw [HSE.out]))
          go_wp2_with fail
          refine (zz_fix _ q w4 (HFIX.out 0)).mono ?_
          rintro e w5 ⟨⟨l, ok, rfl, hok, hl⟩, ⟨n5, rfl⟩⟩
          rw [HSE.out] at hok hl
          simp only [fixedS] at hok hl
          obtain ⟨t0, t1, t2, t3, t4, _⟩ := box_cells (box_later HB4.out HBX.out)
          simp only at t0 t1 t2 t3 t4
          have HBE : Hid (Below w.heap.size w (w4.drewN n5)) := (HBA.out.trans (HB4.out.mono HBA.out.size)).trans ⟨rfl, rfl, rfl, Nat.le_refl _, fun _ _ => rfl⟩
          clear HFIX HCP HW HSE HK0 HC2 HS2
          cases sinf
          · simp only [Bool.not_false, Bool.true_and] at hok
            by_cases heq : slo = shi
            · have hq' : (slo == shi) = true := by simp [heq]
              have hok' : ok = true := by rw [hok]; exact hq'
              obtain rfl : l = slo := hl hok'
              subst hok'
              clear hok hl heq
              go_wp2_with fail
              go_ret
              exact ⟨rfl, HBE.out⟩
            · have hq' : (slo == shi) = false := by simp [heq]
              have hok' : ok = false := by rw [hok]; exact hq'
              subst hok'
              clear hok hl heq
              go_wp2_with fail
              go_ret
              exact ⟨rfl, HBE.out⟩
          · simp only [Bool.not_true, Bool.false_and] at hok
            subst hok
            clear hl
            go_wp2_with fail
            go_ret
            exact ⟨rfl, HBE.out⟩
        · go_wp2_with fail
          go_ret
          exact ⟨rfl, HB2.out.alloc HB2.out.size _⟩
      · go_wp2_with fail
        go_ret
        exact ⟨rfl, HB2.out.alloc HB2.out.size _⟩
end Go.Proofs.Qxb6601528a.Fx
