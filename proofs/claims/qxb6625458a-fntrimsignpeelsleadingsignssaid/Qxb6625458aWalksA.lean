/-
  THE WALKS of seat b6625458a: trimSign, ZZtrimSign, isSign, the bounds.
-/
import Derived.Test.Qxb6625458aRows
import Derived.Test.Qxb6625458aPlain
import Derived.WalkKit
import Derived.ProofKit
import Derived.WalkSpells
import Derived.Below
namespace Go.Proofs.Qxb6625458a
open Go.ChangeShapes Go.WideShapes Go.ChangeAt Go.RowKit Plain
set_option linter.unusedVariables false

set_option maxHeartbeats 400000 in
theorem trim_any (s : ByteArray) (w : World) (hs : s.size ≤ maxLen) :
    Calls Try.prog 9 #[.string s] w fun e w' => e = .returned (.string (ts s)) ∧ w' = w := by
  unfold maxLen at hs
  by_cases hp : 0 < s.size
  · have hd := head_sg s hp
    by_cases h : isS s[0] = true
    · have e := ts_cut s (by rw [hd]; exact h)
      rw [e]
      rcases isS_int _ h with h1 | h1
      · clear e hd h
        go_enter Try.func9, Try.ntmps9
        go_wp2
        go_ret
        exact ⟨rfl, rfl⟩
      · have h2 : ((s[0].toNat : Int) == 43) = false := by rw [h1]; decide
        clear e hd h
        go_enter Try.func9, Try.ntmps9
        go_wp2
        go_ret
        exact ⟨rfl, rfl⟩
    · have h0 : isS s[0] = false := by simpa using h
      have e := ts_same s (by rw [hd]; exact h0)
      rw [e]
      obtain ⟨h1, h2⟩ := isS_not _ h0
      have h1' : ((s[0].toNat : Int) == 43) = false := by simpa using h1
      have h2' : ((s[0].toNat : Int) == 45) = false := by simpa using h2
      clear e hd h h0 h1 h2
      go_enter Try.func9, Try.ntmps9
      go_wp2
      go_ret
      exact ⟨rfl, rfl⟩
  · have h0 : s.size = 0 := by omega
    have hl : s.data.toList = [] := List.eq_nil_of_length_eq_zero (by simpa using h0)
    have e := ts_same s (by rw [hl]; rfl)
    rw [e]
    clear e hl
    go_enter Try.func9, Try.ntmps9
    go_wp2
    go_ret
    exact ⟨rfl, rfl⟩

set_option maxHeartbeats 400000 in
theorem zz_as (s r : ByteArray) (w : World) (hs : s.size ≤ maxLen) (hr : ts s = r) :
    Calls Try.prog 6 #[.string s] w fun e w' => e = .returned (.string r) ∧ w' = w := by
  subst hr
  have HS : Hid (s.size ≤ maxLen) := hs
  clear hs
  go_enter Try.func6, Try.ntmps6
  go_wp2_with (go_at_call 9; refine (trim_any _ _ HS.out).mono ?_; rintro e w' ⟨rfl, rfl⟩)
  go_ret
  exact ⟨rfl, rfl⟩

set_option maxHeartbeats 400000 in
theorem isSign_yes (c : Int) (w : World) (h : c = 43 ∨ c = 45) : Calls Try.prog 8 #[.int .u8 c] w fun e w' => e = .returned (.bool true) ∧ w' = w := by
  rcases h with rfl | rfl
  · go_enter Try.func8, Try.ntmps8
    go_wp2
    go_ret
    exact ⟨rfl, rfl⟩
  · go_enter Try.func8, Try.ntmps8
    go_wp2
    go_ret
    exact ⟨rfl, rfl⟩
set_option maxHeartbeats 400000 in
theorem isSign_no (c : Int) (w : World) (h : c ≠ 43 ∧ c ≠ 45) : Calls Try.prog 8 #[.int .u8 c] w fun e w' => e = .returned (.bool false) ∧ w' = w := by
  have h1 : (c == 43) = false := by simpa using h.1
  have h2 : (c == 45) = false := by simpa using h.2
  clear h
  go_enter Try.func8, Try.ntmps8
  go_wp2
  go_ret
  exact ⟨rfl, rfl⟩

set_option maxHeartbeats 400000 in
theorem bytes7_any (s : ByteArray) (w : World) (hs : s.size ≤ maxLen) :
    Calls Try.prog 7 #[.string s] w fun e w' => e = .returned (.bool (decide (s.size ≤ 1048576))) ∧ w' = w := by
  unfold maxLen at hs
  by_cases h : s.size ≤ 1048576
  · rw [decide_eq_true h]
    go_enter Try.func7, Try.ntmps7
    go_wp2
    go_ret
    exact ⟨rfl, rfl⟩
  · rw [decide_eq_false h]
    go_enter Try.func7, Try.ntmps7
    go_wp2
    go_ret
    exact ⟨rfl, rfl⟩

set_option maxHeartbeats 400000 in
theorem bytes5_any (a b : ByteArray) (q : Bool) (w : World) (ha : a.size ≤ maxLen) (hb : b.size ≤ maxLen) :
    Calls Try.prog 5 #[.string a, .string b, .bool q] w fun e w' => e = .returned (.bool (decide (a.size + b.size ≤ 1048576))) ∧ w' = w := by
  unfold maxLen at ha hb
  by_cases h : a.size + b.size ≤ 1048576
  · rw [decide_eq_true h]
    go_enter Try.func5, Try.ntmps5
    go_wp2
    go_ret
    exact ⟨rfl, rfl⟩
  · rw [decide_eq_false h]
    by_cases h1 : 1048576 < a.size
    · go_enter Try.func5, Try.ntmps5
      go_wp2
      go_ret
      exact ⟨rfl, rfl⟩
    · by_cases h2 : 1048576 < b.size
      · go_enter Try.func5, Try.ntmps5
        go_wp2
        go_ret
        exact ⟨rfl, rfl⟩
      · go_enter Try.func5, Try.ntmps5
        go_wp2
        go_ret
        exact ⟨rfl, rfl⟩
end Go.Proofs.Qxb6625458a
