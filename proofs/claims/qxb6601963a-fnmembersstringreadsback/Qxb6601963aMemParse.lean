import Derived.Test.Qxb6601963aMemWalks
namespace Go.Proofs.Qxb6601963a.MemW
open Go.RowKit Go.Lib

theorem name_any (k : Nat) (hk : k < 6) (w : World) :
    Calls Try.prog 22 #[.int .i64 k] w fun e w' => e = .returned (.string (nm k)) ∧ w' = w := by
  match k, hk with
  | 0, _ => go_enter Try.func22, Try.ntmps22; go_wp2; go_ret; exact ⟨rfl, rfl⟩
  | 1, _ => go_enter Try.func22, Try.ntmps22; go_wp2; go_ret; exact ⟨rfl, rfl⟩
  | 2, _ => go_enter Try.func22, Try.ntmps22; go_wp2; go_ret; exact ⟨rfl, rfl⟩
  | 3, _ => go_enter Try.func22, Try.ntmps22; go_wp2; go_ret; exact ⟨rfl, rfl⟩
  | 4, _ => go_enter Try.func22, Try.ntmps22; go_wp2; go_ret; exact ⟨rfl, rfl⟩
  | 5, _ => go_enter Try.func22, Try.ntmps22; go_wp2; go_ret; exact ⟨rfl, rfl⟩

def falses : List Bool := [false, false, false, false, false, false]
def arr (b0 b1 b2 b3 b4 b5 : Bool) : Obj := .cells #[.bool b0, .bool b1, .bool b2, .bool b3, .bool b4, .bool b5] 39

theorem byte_at (o : ByteArray) (k : Nat) (h : k < o.size) : o.data.toList[k]? = some o[k] := by
  rw [List.getElem?_eq_getElem (by simpa using h)]; rfl

theorem data_cut (s : ByteArray) (a b : Nat) : (s.extract a b).data.toList = (s.data.toList.drop a).take (b - a) := by
  rw [ByteArray.data_extract, Array.toList_extract]

theorem tok_eq (s : ByteArray) (a b m : Nat) : ((s.extract a b).toList == (nm m).toList) = decide (tokOf s.data.toList a b = nmL m) := by
  rw [ByteArray.toList_eq, ByteArray.toList_eq, data_cut]
  show (tokOf s.data.toList a b == nmL m) = _
  rw [Bool.eq_iff_iff, beq_iff_eq, decide_eq_true_iff]

theorem rest_go (l : List UInt8) (k g q : Nat) (got F : List Bool) (h : (k = l.length ∧ got.set q true = F) ∨ (k ≠ l.length ∧ parse l g (k + 1) (q + 1) (got.set q true) = (true, F))) (hk : k ≠ l.length) :
    parse l g (k + 1) (q + 1) (got.set q true) = (true, F) := by
  rcases h with h | h
  · exact absurd h.1 hk
  · exact h.2
theorem rest_end (l : List UInt8) (k g q : Nat) (got F : List Bool) (h : (k = l.length ∧ got.set q true = F) ∨ (k ≠ l.length ∧ parse l g (k + 1) (q + 1) (got.set q true) = (true, F))) (hk : k = l.length) :
    got.set q true = F := by
  rcases h with h | h
  · exact h.2
  · exact absurd hk h.1

set_option maxHeartbeats 1000000 in
theorem parse_none (s : ByteArray) (w : World) (hs : s.data.toList = noneL) :
    Calls Try.prog 16 #[.string s] w fun e w' => e = .returned (.tuple #[.bool true, .agg #[.bool false, .bool false, .bool false, .bool false, .bool false, .bool false]]) ∧ Below w.heap.size w w' := by
  have h1 : s = ⟨noneL.toArray⟩ := by
    cases s; simp at hs; simp [hs.symm]
  subst h1
  go_enter Try.func16, Try.ntmps16
  go_wp2
  go_region
  go_wp2
  exact bodyPost_ret (v := .tuple #[.bool true, .agg #[.bool false, .bool false, .bool false, .bool false, .bool false, .bool false]]) (by simp [results, Try.results16, go_sem]) rfl ⟨rfl, (((Below.refl _ _).alloc (Nat.le_refl _) _).alloc (by simp) _).drew⟩

set_option maxHeartbeats 4000000 in
theorem parse_some (s : ByteArray) (w : World) (hs : s.data.toList ≠ noneL) (hz : s.size ≤ maxLen) (c0 c1 c2 c3 c4 c5 : Bool) (f0 : Nat) (hp : parse s.data.toList f0 0 0 falses = (true, [c0, c1, c2, c3, c4, c5])) :
    Calls Try.prog 16 #[.string s] w fun e w' => e = .returned (.tuple #[.bool true, .agg #[.bool c0, .bool c1, .bool c2, .bool c3, .bool c4, .bool c5]]) ∧ Below w.heap.size w w' := by
  unfold maxLen at hz
  have hne : (s.toList == noneL) = false := by rw [beq_eq_false_iff_ne, ByteArray.toList_eq]; exact hs
  have HP := hid hp
  clear hp hs
  unfold noneL at hne
  go_enter Try.func16, Try.ntmps16
  go_wp2
  go_loopw [5, 6] (fun nx st wr => ∃ (n a f : Nat) (b0 b1 b2 b3 b4 b5 : Bool), nx = .int .i64 n ∧ st = .int .i64 a ∧ n ≤ 6 ∧ a ≤ s.size ∧
      wr = (w.alloc (.cells #[.bool false, .bool false, .bool false, .bool false, .bool false, .bool false] 39)).alloc (.cells #[.bool b0, .bool b1, .bool b2, .bool b3, .bool b4, .bool b5] 39) ∧
      Hid (parse s.data.toList f a n [b0, b1, b2, b3, b4, b5] = (true, [c0, c1, c2, c3, c4, c5])))
    (fun _ st _ => s.size + 1 - (intOf st).toNat)
  case atStart => exact ⟨0, 0, f0, false, false, false, false, false, false, rfl, rfl, by omega, by omega, rfl, HP⟩
  case round =>
    obtain ⟨n, a, f, b0, b1, b2, b3, b4, b5, rfl, rfl, hn, ha, rfl, HR⟩ := hrel
    obtain ⟨g, q, hq, hrest⟩ := parse_step _ _ _ _ _ _ HR.out
    have HQ := hid hq
    have HRest := hid hrest
    clear hq hrest HR
    go_wp2_with fail
    go_loop [7] (fun e => ∃ k : Nat, a ≤ k ∧ k ≤ s.size ∧ e = .int .i64 k ∧ Hid (∀ j, a ≤ j → j < k → s.data.toList[j]? ≠ some 32)) (fun e => s.size - (intOf e).toNat)
    case atStart => exact ⟨a, Nat.le_refl _, ha, rfl, fun j h1 h2 => absurd h1 (by omega)⟩
    case round =>
      obtain ⟨k, hak, hks, rfl, HJ⟩ := hrel
      by_cases hcont : ∃ h : k < s.size, s[k] ≠ 32
      · obtain ⟨hlt, hc⟩ := hcont
        have hb : ((s[k].toNat : Int) != 32) = true := by
          rw [bne_iff_ne]; intro e; exact hc (UInt8.toNat_inj.1 (by simp; omega))
        have HJ' : Hid (∀ j, a ≤ j → j < k + 1 → s.data.toList[j]? ≠ some 32) := by
          intro j h1 h2
          by_cases hjk : j = k
          · subst hjk; rw [byte_at s _ hlt]; simpa using hc
          · exact HJ.out j h1 (by omega)
        have hlt' : (k : Int) < s.size := by omega
        clear hc
        go_wp2_with fail
        go_round
        case rel => exact ⟨k + 1, by omega, by omega, by go_num, HJ'⟩
        case measure => simp [intOf]; omega
      · have he : endOf s.data.toList a = k := by
          refine endOf_unique _ _ _ hak (by simpa using hks) HJ.out ?_
          by_cases hlt : k < s.size
          · right; rw [byte_at s _ hlt]
            have : ¬ s[k] ≠ 32 := fun h => hcont ⟨hlt, h⟩
            simpa using this
          · left; simp; omega
        rw [he] at HQ HRest
        have hsub : (∃ h : k < s.size, s[k] = 32) ∨ k = s.size := by
          by_cases hlt : k < s.size
          · left; exact ⟨hlt, by
              have : ¬ s[k] ≠ 32 := fun h => hcont ⟨hlt, h⟩
              simpa using this⟩
          · right; omega
        have HE := hid he
        clear he hcont
        rcases hsub with ⟨hlt, hc⟩ | hkk
        · have hb : ((s[k].toNat : Int) != 32) = false := by rw [hc]; rfl
          have hlt' : (k : Int) < s.size := by omega
          have hne2 : ((k : Int) == (s.size : Int)) = false := by rw [beq_eq_false_iff_ne]; omega
          clear hc
          go_wp2_with fail
          go_loop [9, 10] (fun ix i => ∃ m : Nat, m ≤ 6 ∧ ix = .int .i64 (-1) ∧ i = .int .i64 m ∧ Hid (idxOf (tokOf s.data.toList a k) m (6 - m) = some q)) (fun _ i => 6 - (intOf i).toNat)
          case atStart => exact ⟨n, hn, rfl, rfl, HQ⟩
          case round =>
            obtain ⟨m, hm, rfl, rfl, HM⟩ := hrel
            obtain ⟨hm6, hM⟩ := idxOf_step _ _ _ HM.out
            have hm6' : (m : Int) < 6 := by omega
            have ht := tok_eq s a k m
            rcases hM with ⟨h1, rfl⟩ | ⟨h1, h2⟩
            · rw [h1, decide_eq_true rfl] at ht
              clear h1
              have hm7 : q = 0 ∨ q = 1 ∨ q = 2 ∨ q = 3 ∨ q = 4 ∨ q = 5 := by omega
              clear HM
              have HN := hid (rest_go _ _ _ _ _ _ HRest.out (by simp; omega))
              clear HRest HQ
              rcases hm7 with rfl | rfl | rfl | rfl | rfl | rfl
              · go_wp2_with (go_at_call 22; refine (name_any _ (by omega) _).mono ?_; rintro e w' ⟨rfl, rfl⟩)
                go_roundw
                case rel => exact ⟨1, k + 1, g, true, b1, b2, b3, b4, b5, by go_num, by go_num, by omega, by omega, rfl, HN⟩
                case measure => simp [intOf]; omega
              · go_wp2_with (go_at_call 22; refine (name_any _ (by omega) _).mono ?_; rintro e w' ⟨rfl, rfl⟩)
                go_roundw
                case rel => exact ⟨2, k + 1, g, b0, true, b2, b3, b4, b5, by go_num, by go_num, by omega, by omega, rfl, HN⟩
                case measure => simp [intOf]; omega
              · go_wp2_with (go_at_call 22; refine (name_any _ (by omega) _).mono ?_; rintro e w' ⟨rfl, rfl⟩)
                go_roundw
                case rel => exact ⟨3, k + 1, g, b0, b1, true, b3, b4, b5, by go_num, by go_num, by omega, by omega, rfl, HN⟩
                case measure => simp [intOf]; omega
              · go_wp2_with (go_at_call 22; refine (name_any _ (by omega) _).mono ?_; rintro e w' ⟨rfl, rfl⟩)
                go_roundw
                case rel => exact ⟨4, k + 1, g, b0, b1, b2, true, b4, b5, by go_num, by go_num, by omega, by omega, rfl, HN⟩
                case measure => simp [intOf]; omega
              · go_wp2_with (go_at_call 22; refine (name_any _ (by omega) _).mono ?_; rintro e w' ⟨rfl, rfl⟩)
                go_roundw
                case rel => exact ⟨5, k + 1, g, b0, b1, b2, b3, true, b5, by go_num, by go_num, by omega, by omega, rfl, HN⟩
                case measure => simp [intOf]; omega
              · go_wp2_with (go_at_call 22; refine (name_any _ (by omega) _).mono ?_; rintro e w' ⟨rfl, rfl⟩)
                go_roundw
                case rel => exact ⟨6, k + 1, g, b0, b1, b2, b3, b4, true, by go_num, by go_num, by omega, by omega, rfl, HN⟩
                case measure => simp [intOf]; omega
            · rw [decide_eq_false h1] at ht
              have HM' := hid h2
              clear h1 h2
              go_wp2_with (go_at_call 22; refine (name_any m (by omega) _).mono ?_; rintro e w' ⟨rfl, rfl⟩)
              go_round
              case rel => exact ⟨m + 1, by omega, rfl, by go_num, HM'⟩
              case measure => simp [intOf]; omega
        · have hkk' : ¬ k < s.size := by omega
          have hne2 : ((k : Int) == (s.size : Int)) = true := by rw [beq_iff_eq]; omega
          have HKK := hid hkk
          clear hkk
          go_wp2_with fail
          go_loop [9, 10] (fun ix i => ∃ m : Nat, m ≤ 6 ∧ ix = .int .i64 (-1) ∧ i = .int .i64 m ∧ Hid (idxOf (tokOf s.data.toList a k) m (6 - m) = some q)) (fun _ i => 6 - (intOf i).toNat)
          case atStart => exact ⟨n, hn, rfl, rfl, HQ⟩
          case round =>
            obtain ⟨m, hm, rfl, rfl, HM⟩ := hrel
            obtain ⟨hm6, hM⟩ := idxOf_step _ _ _ HM.out
            have hm6' : (m : Int) < 6 := by omega
            have ht := tok_eq s a k m
            rcases hM with ⟨h1, rfl⟩ | ⟨h1, h2⟩
            · rw [h1, decide_eq_true rfl] at ht
              clear h1
              have hm7 : q = 0 ∨ q = 1 ∨ q = 2 ∨ q = 3 ∨ q = 4 ∨ q = 5 := by omega
              clear HM
              have HN := hid (rest_end _ _ _ _ _ _ HRest.out (by simp; exact HKK.out))
              clear HRest HQ
              rcases hm7 with rfl | rfl | rfl | rfl | rfl | rfl
              · go_wp2_with (go_at_call 22; refine (name_any _ (by omega) _).mono ?_; rintro e w' ⟨rfl, rfl⟩)
                have hn := HN.out
                simp only [List.set, List.cons.injEq, and_true] at hn
                obtain ⟨rfl, rfl, rfl, rfl, rfl, rfl⟩ := hn
                go_region
                go_wp2
                exact bodyPost_ret (v := .tuple #[.bool true, .agg #[.bool true, .bool b1, .bool b2, .bool b3, .bool b4, .bool b5]]) (by simp [results, Try.results16, go_sem]) rfl ⟨rfl, (((Below.refl _ _).alloc (Nat.le_refl _) _).alloc (by simp) _).drew⟩
              · go_wp2_with (go_at_call 22; refine (name_any _ (by omega) _).mono ?_; rintro e w' ⟨rfl, rfl⟩)
                have hn := HN.out
                simp only [List.set, List.cons.injEq, and_true] at hn
                obtain ⟨rfl, rfl, rfl, rfl, rfl, rfl⟩ := hn
                go_region
                go_wp2
                exact bodyPost_ret (v := .tuple #[.bool true, .agg #[.bool b0, .bool true, .bool b2, .bool b3, .bool b4, .bool b5]]) (by simp [results, Try.results16, go_sem]) rfl ⟨rfl, (((Below.refl _ _).alloc (Nat.le_refl _) _).alloc (by simp) _).drew⟩
              · go_wp2_with (go_at_call 22; refine (name_any _ (by omega) _).mono ?_; rintro e w' ⟨rfl, rfl⟩)
                have hn := HN.out
                simp only [List.set, List.cons.injEq, and_true] at hn
                obtain ⟨rfl, rfl, rfl, rfl, rfl, rfl⟩ := hn
                go_region
                go_wp2
                exact bodyPost_ret (v := .tuple #[.bool true, .agg #[.bool b0, .bool b1, .bool true, .bool b3, .bool b4, .bool b5]]) (by simp [results, Try.results16, go_sem]) rfl ⟨rfl, (((Below.refl _ _).alloc (Nat.le_refl _) _).alloc (by simp) _).drew⟩
              · go_wp2_with (go_at_call 22; refine (name_any _ (by omega) _).mono ?_; rintro e w' ⟨rfl, rfl⟩)
                have hn := HN.out
                simp only [List.set, List.cons.injEq, and_true] at hn
                obtain ⟨rfl, rfl, rfl, rfl, rfl, rfl⟩ := hn
                go_region
                go_wp2
                exact bodyPost_ret (v := .tuple #[.bool true, .agg #[.bool b0, .bool b1, .bool b2, .bool true, .bool b4, .bool b5]]) (by simp [results, Try.results16, go_sem]) rfl ⟨rfl, (((Below.refl _ _).alloc (Nat.le_refl _) _).alloc (by simp) _).drew⟩
              · go_wp2_with (go_at_call 22; refine (name_any _ (by omega) _).mono ?_; rintro e w' ⟨rfl, rfl⟩)
                have hn := HN.out
                simp only [List.set, List.cons.injEq, and_true] at hn
                obtain ⟨rfl, rfl, rfl, rfl, rfl, rfl⟩ := hn
                go_region
                go_wp2
                exact bodyPost_ret (v := .tuple #[.bool true, .agg #[.bool b0, .bool b1, .bool b2, .bool b3, .bool true, .bool b5]]) (by simp [results, Try.results16, go_sem]) rfl ⟨rfl, (((Below.refl _ _).alloc (Nat.le_refl _) _).alloc (by simp) _).drew⟩
              · go_wp2_with (go_at_call 22; refine (name_any _ (by omega) _).mono ?_; rintro e w' ⟨rfl, rfl⟩)
                have hn := HN.out
                simp only [List.set, List.cons.injEq, and_true] at hn
                obtain ⟨rfl, rfl, rfl, rfl, rfl, rfl⟩ := hn
                go_region
                go_wp2
                exact bodyPost_ret (v := .tuple #[.bool true, .agg #[.bool b0, .bool b1, .bool b2, .bool b3, .bool b4, .bool true]]) (by simp [results, Try.results16, go_sem]) rfl ⟨rfl, (((Below.refl _ _).alloc (Nat.le_refl _) _).alloc (by simp) _).drew⟩
            · rw [decide_eq_false h1] at ht
              have HM' := hid h2
              clear h1 h2
              go_wp2_with (go_at_call 22; refine (name_any m (by omega) _).mono ?_; rintro e w' ⟨rfl, rfl⟩)
              go_round
              case rel => exact ⟨m + 1, by omega, rfl, by go_num, HM'⟩
              case measure => simp [intOf]; omega
end Go.Proofs.Qxb6601963a.MemW
