/-
  THE WALKS of seat b6625458a: the second law.
-/
import Derived.Test.Qxb6625458aWalksB
namespace Go.Proofs.Qxb6625458a
open Go.ChangeShapes Go.WideShapes Go.ChangeAt Go.RowKit Plain
set_option linter.unusedVariables false

set_option maxHeartbeats 1000000 in
theorem law2_great (s : ByteArray) (w : World) (hs : s.size ≤ maxLen) (h : ¬ s.size ≤ 1048576) :
    Calls Try.prog 4 #[.string s] w fun e w' => e = .returned (.bool true) ∧ w' = w := by
  have HS : Hid (s.size ≤ maxLen) := hs
  clear hs
  go_enter Try.func4, Try.ntmps4
  go_wp2_with (go_at_call 7; refine (bytes7_no _ _ HS.out h).mono ?_; rintro e w' ⟨rfl, rfl⟩)
  go_ret
  exact ⟨rfl, rfl⟩

set_option maxHeartbeats 2000000 in
theorem law2_n (s : ByteArray) (w : World) (hs : s.size ≤ 1048576) (n : Nat) (hn : n ≤ s.size) (h1 : ∀ i (h : i < s.size), i < n → isS s[i] = true) (h2 : ∀ h : n < s.size, isS s[n] = false) :
    Calls Try.prog 4 #[.string s] w fun e w' => e = .returned (.bool true) ∧ w' = w := by
  have H1 : Hid (∀ i (h : i < s.size), i < n → isS s[i] = true) := h1
  have H2 : Hid (∀ h : n < s.size, isS s[n] = false) := h2
  clear h1 h2
  go_enter Try.func4, Try.ntmps4
  go_wp2_with fail
  refine (bytes7_yes _ _ hs).mono ?_
  rintro e w' ⟨rfl, rfl⟩
  go_wp2_with fail
  go_loop [3] (fun i => ∃ k : Nat, k ≤ n ∧ i = .int .i64 k) (fun i => n - (intOf i).toNat)
  case atStart => exact ⟨0, Nat.zero_le _, rfl⟩
  case round =>
    obtain ⟨k, hk, rfl⟩ := hrel
    by_cases hlt : k < n
    · have hks : k < s.size := by omega
      have hks' : (k : Int) < (s.size : Int) := by omega
      have hc := isS_int _ (H1.out k hks hlt)
      have HC : Hid ((s[k].toNat : Int) = 43 ∨ (s[k].toNat : Int) = 45) := hc
      clear hc
      go_wp2_with (go_at_call 8; refine (isSign_yes _ _ HC.out).mono ?_; rintro e w' ⟨rfl, rfl⟩)
      go_round
      case rel => exact ⟨k + 1, by omega, by go_num⟩
      case measure => simp [intOf]; omega
    · obtain rfl : k = n := by omega
      have HT : Hid (ts (tl s k) = tl s k ∧ (tl s k).size ≤ maxLen) := ⟨ts_tl_same s k H2.out, by rw [tl_size]; unfold maxLen; omega⟩
      have htl : s.extract k s.size = tl s k := rfl
      have HTL : Hid (s.extract k s.size = tl s k) := rfl
      clear htl
      by_cases hend : k < s.size
      · have hks' : (k : Int) < (s.size : Int) := by omega
        have HC : Hid ((s[k].toNat : Int) ≠ 43 ∧ (s[k].toNat : Int) ≠ 45) := isS_not _ (H2.out hend)
        go_wp2_with (go_at_call 8; refine (isSign_no _ _ HC.out).mono ?_; rintro e w' ⟨rfl, rfl⟩)
        clear HC
        go_loop [4, 5] (fun c i => ∃ j : Nat, j ≤ k ∧ i = .int .i64 j ∧ c = .string (tl s j)) (fun _ i => k - (intOf i).toNat)
        case atStart => exact ⟨0, Nat.zero_le _, rfl, by rw [tl_zero]⟩
        case round =>
          obtain ⟨j, hj, rfl, rfl⟩ := hrel
          by_cases hjk : j < k
          · have hjs : j < s.size := by omega
            have HR : Hid (ts (tl s j) = tl s (j + 1) ∧ (tl s j).size ≤ maxLen) := ⟨ts_tl_cut s j hjs (H1.out j hjs hjk), by rw [tl_size]; unfold maxLen; omega⟩
            have hsz : ((tl s (j + 1)).size : Int) = (s.size : Int) - (j : Int) - 1 := by rw [tl_size]; omega
            obtain ⟨r, HQ⟩ : ∃ r, Hid (tl s (j + 1) = r) := ⟨_, rfl⟩
            rw [HQ.out] at HR hsz
            go_wp2_with (go_at_call 6; refine (zz_as _ r _ HR.out.2 HR.out.1).mono ?_; rintro e w' ⟨rfl, rfl⟩)
            go_round
            case rel => exact ⟨j + 1, by omega, by go_num, by rw [HQ.out]⟩
            case measure => simp [intOf]; omega
          · obtain rfl : j = k := by omega
            have htl := HTL.out
            go_wp2_with (go_at_call 6; refine (zz_as _ _ _ HT.out.2 HT.out.1).mono ?_; rintro e w' ⟨rfl, rfl⟩)
            go_ret
            exact ⟨rfl, rfl⟩
      · have hend' : k = s.size := by omega
        have hks' : ¬ (k : Int) < (s.size : Int) := by omega
        go_wp2_with fail
        go_loop [4, 5] (fun c i => ∃ j : Nat, j ≤ k ∧ i = .int .i64 j ∧ c = .string (tl s j)) (fun _ i => k - (intOf i).toNat)
        case atStart => exact ⟨0, Nat.zero_le _, rfl, by rw [tl_zero]⟩
        case round =>
          obtain ⟨j, hj, rfl, rfl⟩ := hrel
          by_cases hjk : j < k
          · have hjs : j < s.size := by omega
            have HR : Hid (ts (tl s j) = tl s (j + 1) ∧ (tl s j).size ≤ maxLen) := ⟨ts_tl_cut s j hjs (H1.out j hjs hjk), by rw [tl_size]; unfold maxLen; omega⟩
            have hsz : ((tl s (j + 1)).size : Int) = (s.size : Int) - (j : Int) - 1 := by rw [tl_size]; omega
            obtain ⟨r, HQ⟩ : ∃ r, Hid (tl s (j + 1) = r) := ⟨_, rfl⟩
            rw [HQ.out] at HR hsz
            go_wp2_with (go_at_call 6; refine (zz_as _ r _ HR.out.2 HR.out.1).mono ?_; rintro e w' ⟨rfl, rfl⟩)
            go_round
            case rel => exact ⟨j + 1, by omega, by go_num, by rw [HQ.out]⟩
            case measure => simp [intOf]; omega
          · obtain rfl : j = k := by omega
            have he : tl s j = ByteArray.empty := ext_list (by rw [tl_list, hend']; simp)
            rw [he] at HT ⊢
            clear HTL he
            go_wp2_with (go_at_call 6; refine (zz_as _ _ _ HT.out.2 HT.out.1).mono ?_; rintro e w' ⟨rfl, rfl⟩)
            go_ret
            exact ⟨rfl, rfl⟩

theorem law2 (s : ByteArray) (w : World) (hs : s.size ≤ maxLen) : Calls Try.prog 4 #[.string s] w fun e w' => e = .returned (.bool true) ∧ w' = w := by
  by_cases h : s.size ≤ 1048576
  · obtain ⟨n, h1, h2, h3⟩ := lead s.data.toList
    exact law2_n s w h n (by simpa using h1) (fun i hi hn => h2 i (by simpa using hi) hn) (fun hi => h3 (by simpa using hi))
  · exact law2_great s w hs h
end Go.Proofs.Qxb6625458a
