import Derived.Test.Qxb6601963aStPdq
set_option linter.unusedVariables false
namespace Go.Proofs.Qxb6601963a.St
open Go.RowKit Go.Sort

set_option maxRecDepth 100000 in
set_option maxHeartbeats 2000000 in
/-- slices.Sort at []uint64: a permutation of what the row held, ascending -/
theorem sort_any (blk off cap N : Nat) (d : Array Int) (w : World) (hD : Holds (Value.int .u64) w blk off d) (hN : d.size = N) (hsz : N ≤ 1048576) :
    Calls Try.prog 30 #[.slice (some ⟨blk, off, none⟩) N cap] w fun e w' => e = .returned (.tuple #[]) ∧ ∃ d' : Array Int, Done blk off N w w' d' ∧ d'.toList.Perm d.toList ∧ SortedIn ltInt 0 N d' := by
  have hl : bitsLen N ≤ 21 := (bitsLen_le_iff N 21).2 (by omega)
  have hp := pdq_any blk off cap N hsz (N + 1) 0 N (bitsLen N) d w (by omega) hD hN (by omega) (by omega) (by omega)
  obtain ⟨s1, s2⟩ := pdq_sorts ltInt swo_ltInt d 0 N (bitsLen N) true true (by omega) (by omega) (Or.inl rfl)
  have hlen := fun w => len_any N w hsz
  obtain ⟨L, hL⟩ : ∃ L, L = bitsLen N := ⟨_, rfl⟩
  rw [← hL] at hp s1 s2 hlen
  have HP := hid hp
  have HL := hid hlen
  have hperm : (pdq ltInt d 0 N L true true).toList.Perm d.toList := by
    have h := s1.2.2
    have e1 : (d.extract 0 N) = d := by rw [← hN]; simp
    have e2 : ((pdq ltInt d 0 N L true true).extract 0 N) = pdq ltInt d 0 N L true true := by
      have hs : (pdq ltInt d 0 N L true true).size = N := by rw [s1.1, hN]
      generalize pdq ltInt d 0 N L true true = D at hs
      subst hs
      simp
    rw [e1, e2] at h
    exact h
  have HS := hid (And.intro hperm s2)
  clear hp hlen hL hperm s1 s2 hl hD hN
  go_enter Try.func30, Try.ntmps30
  go_wp2_with fail
  refine (HL.out _).mono ?_
  rintro e w1 ⟨rfl, rfl⟩
  go_wp2_with fail
  refine HP.out.mono ?_
  rintro e w2 ⟨rfl, hd⟩
  have HD := hid hd
  clear hd
  go_wp2_with fail
  go_end0
  exact ⟨rfl, _, HD.out, HS.out.1, HS.out.2⟩
end Go.Proofs.Qxb6601963a.St
