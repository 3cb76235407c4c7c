import Derived.Test.Qxb6601782aChCopy
namespace Go.Proofs.Qxb6601782a.ChW
open Go.RowKit

theorem data_cut (s : ByteArray) (a b : Nat) : (s.extract a b).data.toList = (s.data.toList.drop a).take (b - a) := by
  rw [ByteArray.data_extract, Array.toList_extract]

set_option maxHeartbeats 4000000 in
theorem walk_far (m t b r s l : ByteArray) (want id : Int) (ad : Option Addr) (len cap : Nat) (ss : Nat → ByteArray) (w : World) (h : IsStrs w ad len cap ss)
    (hm : m.size ≤ maxLen) (ht : t.size ≤ maxLen) (hb : b.size ≤ maxLen) (hr : r.size ≤ maxLen) (hs : s.size ≤ maxLen) (hl : l.size ≤ maxLen)
    (hfar : ¬ (m.size ≤ 65536 ∧ t.size ≤ 65536 ∧ b.size ≤ 65536 ∧ r.size ≤ 65536 ∧ s.size ≤ 65536 ∧ l.size ≤ 65536 ∧ len ≤ 4096)) :
    Calls Try.prog 3 #[.string m, .string t, .string b, .int .i64 want, .int .u64 id, .string r, .string s, .string l, .slice ad len cap] w fun e w' => e = .returned (.bool true) ∧ Below w.heap.size w w' := by
  have H5 := hid (bytes_any m t b r s l want id ad len cap ss w h hm ht hb hr hs hl)
  have hcap := Nat.le_trans h.1 h.2.1
  have HF := hid hfar
  clear h hfar
  unfold maxLen at hm ht hb hr hs hl hcap
  go_enter Try.func3, Try.ntmps3
  go_wp2_with fail
  refine H5.out.mono ?_
  rintro e w1 ⟨⟨r5, rfl⟩, rfl⟩
  cases r5
  · go_wp2_with fail
    go_ret
    exact ⟨rfl, Below.refl _ _⟩
  go_wp2_with fail
  all_goals first | (go_ret; exact ⟨rfl, Below.refl _ _⟩) | (exfalso; exact HF.out (by omega))

theorem size_data (s : ByteArray) : s.data.toList.length = s.size := by simp
theorem out_short (m t : ByteArray) : (m ++ sp ++ t).data.toList = m.data.toList ++ 32 :: t.data.toList := by simp [sp]
theorem out_long (m t b : ByteArray) : (m ++ sp ++ t ++ sp ++ b).data.toList = m.data.toList ++ 32 :: (t.data.toList ++ 32 :: b.data.toList) := by simp [sp]

theorem cut_head (out m : ByteArray) (R : List UInt8) (h : out.data.toList = m.data.toList ++ 32 :: R) : ((out.extract 0 m.size).toList == m.toList) = true := by
  rw [ByteArray.toList_eq, ByteArray.toList_eq, data_cut, h, ← size_data]
  simp
theorem cut_rest (out m : ByteArray) (R : List UInt8) (h : out.data.toList = m.data.toList ++ 32 :: R) : (out.extract (m.size + 1) out.size).data.toList = R := by
  have hl : out.size = m.data.toList.length + (R.length + 1) := by rw [← size_data, h]; simp
  rw [data_cut, h, hl, ← size_data]
  have e : m.data.toList ++ 32 :: R = (m.data.toList ++ [32]) ++ R := by simp
  rw [e, show m.data.toList.length + 1 = (m.data.toList ++ [32]).length from by simp, List.drop_left]
  exact List.take_of_length_le (by simp; omega)

theorem grown3 {a b c d : World} (h1 : Below a.heap.size a b) (h2 : Below b.heap.size b c) (h3 : Below c.heap.size c d) : Below a.heap.size a d :=
  (h1.trans (h2.mono h1.size)).trans (h3.mono (Nat.le_trans h1.size h2.size))

set_option maxHeartbeats 4000000 in
theorem walk_near (m t b r s l : ByteArray) (want id : Int) (ad : Option Addr) (len cap : Nat) (ss : Nat → ByteArray) (w : World) (h : IsStrs w ad len cap ss)
    (hm : m.size ≤ maxLen) (ht : t.size ≤ maxLen) (hb : b.size ≤ maxLen) (hr : r.size ≤ maxLen) (hs : s.size ≤ maxLen) (hl : l.size ≤ maxLen)
    (hm6 : m.size ≤ 65536) (ht6 : t.size ≤ 65536) (hb6 : b.size ≤ 65536) (hr6 : r.size ≤ 65536) (hs6 : s.size ≤ 65536) (hl6 : l.size ≤ 65536) (hlen : len ≤ 4096) :
    Calls Try.prog 3 #[.string m, .string t, .string b, .int .i64 want, .int .u64 id, .string r, .string s, .string l, .slice ad len cap] w fun e w' => e = .returned (.bool true) ∧ Below w.heap.size w w' := by
  have H5 := hid (bytes_any m t b r s l want id ad len cap ss w h hm ht hb hr hs hl)
  have H6 := hid (sum_any ad len cap ss w h)
  have H7m := hid (index_any m w hm)
  have H7t := hid (index_any t w ht)
  have H8 := hid (copy_any ad len cap ss w h hlen)
  have hcap := Nat.le_trans h.1 h.2.1
  clear h
  unfold maxLen at hm ht hb hr hs hl hcap
  go_enter Try.func3, Try.ntmps3
  go_wp2_with fail
  refine H5.out.mono ?_
  rintro e w1 ⟨⟨r5, rfl⟩, rfl⟩
  clear H5
  cases r5
  · go_wp2_with fail
    go_ret
    exact ⟨rfl, Below.refl _ _⟩
  go_wp2_with fail
  refine H6.out.mono ?_
  rintro e w ⟨⟨r6, rfl⟩, rfl⟩
  clear H6
  by_cases hr6 : 262144 < r6
  · go_wp2_with fail
    go_ret
    exact ⟨rfl, Below.refl _ _⟩
  go_wp2_with fail
  refine H7m.out.mono ?_
  rintro e w2 ⟨rfl, rfl⟩
  clear H7m
  by_cases hm0 : 0 ≤ spI m.data.toList
  · go_wp2_with fail
    go_ret
    exact ⟨rfl, Below.refl _ _⟩
  go_wp2_with fail
  refine H7t.out.mono ?_
  rintro e w2 ⟨rfl, rfl⟩
  clear H7t
  by_cases ht0 : 0 ≤ spI t.data.toList
  · go_wp2_with fail
    go_ret
    exact ⟨rfl, Below.refl _ _⟩
  go_wp2_with fail
  refine H8.out.mono ?_
  rintro e w3 ⟨⟨a3, l3, c3, rfl⟩, hb3⟩
  have HB3 := hid hb3
  clear H8 hb3
  go_wp2_with fail
  refine (new_any _ _ _ _ _ _ _ _ _ _ _ _).mono ?_
  rintro e w4 ⟨rfl, hb4⟩
  have HB4 := hid hb4
  clear hb4
  go_wp2_with fail
  refine (string_any _ _ _ _ _ _ _ _ _ _ _ _ hm6 ht6 hb6).mono ?_
  rintro e w5 ⟨rfl, hb5⟩
  have HB5 := hid hb5
  clear hb5
  have hmr : runL m.data.toList = m.data.toList.length := spI_neg _ (by omega)
  have htr : runL t.data.toList = t.data.toList.length := spI_neg _ (by omega)
  have HMR := hid hmr
  have HTR := hid htr
  clear hmr htr
  generalize hout : (if b.size = 0 then m ++ sp ++ t else m ++ sp ++ t ++ sp ++ b) = out
  by_cases hb0 : b.size = 0
  · rw [if_pos hb0] at hout
    have ho : out.data.toList = m.data.toList ++ 32 :: t.data.toList := by rw [← hout]; exact out_short m t
    have hsz : out.size = m.size + 1 + t.size := by
      have := congrArg List.length ho
      simp at this
      omega
    have h7o : ∀ w : World, Calls Try.prog 7 #[.string out] w fun e w' => e = .returned (.int .i64 (m.size : Int)) ∧ w' = w := by
      intro w
      have h := index_any out w (by unfold maxLen; omega)
      rw [ho, spI_cut _ _ HMR.out, size_data] at h
      exact h
    have hrest := cut_rest out m _ ho
    have h7r : ∀ w : World, Calls Try.prog 7 #[.string (out.extract (m.size + 1) out.size)] w fun e w' => e = .returned (.int .i64 (-1)) ∧ w' = w := by
      intro w
      have h := index_any (out.extract (m.size + 1) out.size) w (by rw [← size_data, hrest]; simp; unfold maxLen; omega)
      rw [hrest, spI_full _ HTR.out] at h
      exact h
    have e1 := cut_head out m _ ho
    have e2 : ((out.extract (m.size + 1) out.size).toList == t.toList) = true := by
      rw [ByteArray.toList_eq, ByteArray.toList_eq, hrest]; simp
    have e3 : b.toList.isEmpty = true := by rw [empty_iff]; simp [hb0]
    have H7O := hid h7o
    have H7R := hid h7r
    have hsz1 : m.size + 1 ≤ out.size := by omega
    have hsz2 : out.size ≤ 200000 := by omega
    clear h7o h7r hout ho hrest HMR HTR hsz
    go_wp2_with fail
    refine (H7O.out _).mono ?_
    rintro e w6 ⟨rfl, rfl⟩
    go_wp2_with fail
    refine (H7R.out _).mono ?_
    rintro e w6 ⟨rfl, rfl⟩
    go_wp2_with fail
    go_ret
    exact ⟨rfl, (grown3 HB3.out HB4.out ((Below.refl _ _).alloc (Nat.le_refl _) _)).trans (HB5.out.mono (by have h3 := HB3.out.size; have h4 := HB4.out.size; simp; omega))⟩
  · rw [if_neg hb0] at hout
    have ho : out.data.toList = m.data.toList ++ 32 :: (t.data.toList ++ 32 :: b.data.toList) := by rw [← hout]; exact out_long m t b
    have hsz : out.size = m.size + 1 + (t.size + 1 + b.size) := by
      have := congrArg List.length ho
      simp at this
      omega
    have h7o : ∀ w : World, Calls Try.prog 7 #[.string out] w fun e w' => e = .returned (.int .i64 (m.size : Int)) ∧ w' = w := by
      intro w
      have h := index_any out w (by unfold maxLen; omega)
      rw [ho, spI_cut _ _ HMR.out, size_data] at h
      exact h
    have hrest := cut_rest out m _ ho
    have h7r : ∀ w : World, Calls Try.prog 7 #[.string (out.extract (m.size + 1) out.size)] w fun e w' => e = .returned (.int .i64 (t.size : Int)) ∧ w' = w := by
      intro w
      have h := index_any (out.extract (m.size + 1) out.size) w (by rw [← size_data, hrest]; simp; unfold maxLen; omega)
      rw [hrest, spI_cut _ _ HTR.out, size_data] at h
      exact h
    have e1 := cut_head out m _ ho
    generalize hrr : out.extract (m.size + 1) out.size = rr at hrest h7r
    have hrsz : rr.size = t.size + 1 + b.size := by rw [← size_data, hrest]; simp; omega
    have e2 := cut_head rr t _ hrest
    have e3 : ((rr.extract (t.size + 1) rr.size).toList == b.toList) = true := by
      rw [ByteArray.toList_eq, ByteArray.toList_eq, cut_rest rr t _ hrest]; simp
    have H7O := hid h7o
    have H7R := hid h7r
    have HRR := hid hrr
    have hsz1 : m.size + 1 ≤ out.size := by omega
    have hsz2 : out.size ≤ 200000 := by omega
    have hsz3 : t.size + 1 ≤ rr.size := by omega
    have hsz4 : rr.size ≤ 200000 := by omega
    clear h7o h7r hout ho hrest HMR HTR hrr hsz hrsz
    go_wp2_with fail
    refine (H7O.out _).mono ?_
    rintro e w6 ⟨rfl, rfl⟩
    go_wp2_with fail
    rw [HRR.out]
    refine (H7R.out _).mono ?_
    rintro e w6 ⟨rfl, rfl⟩
    go_wp2_with fail
    go_ret
    exact ⟨rfl, (grown3 HB3.out HB4.out ((Below.refl _ _).alloc (Nat.le_refl _) _)).trans (HB5.out.mono (by have h3 := HB3.out.size; have h4 := HB4.out.size; simp; omega))⟩

theorem walk (m t b r s l : ByteArray) (want id : Int) (ad : Option Addr) (len cap : Nat) (ss : Nat → ByteArray) (w : World) (h : IsStrs w ad len cap ss)
    (hm : m.size ≤ maxLen) (ht : t.size ≤ maxLen) (hb : b.size ≤ maxLen) (hr : r.size ≤ maxLen) (hs : s.size ≤ maxLen) (hl : l.size ≤ maxLen) :
    Calls Try.prog 3 #[.string m, .string t, .string b, .int .i64 want, .int .u64 id, .string r, .string s, .string l, .slice ad len cap] w fun e w' => e = .returned (.bool true) ∧ Below w.heap.size w w' := by
  by_cases hn : m.size ≤ 65536 ∧ t.size ≤ 65536 ∧ b.size ≤ 65536 ∧ r.size ≤ 65536 ∧ s.size ≤ 65536 ∧ l.size ≤ 65536 ∧ len ≤ 4096
  · obtain ⟨h1, h2, h3, h4, h5, h6, h7⟩ := hn
    exact walk_near m t b r s l want id ad len cap ss w h hm ht hb hr hs hl h1 h2 h3 h4 h5 h6 h7
  · exact walk_far m t b r s l want id ad len cap ss w h hm ht hb hr hs hl hn
end Go.Proofs.Qxb6601782a.ChW
