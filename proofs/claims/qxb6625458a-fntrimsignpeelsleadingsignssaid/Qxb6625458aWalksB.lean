/-
  THE WALKS of seat b6625458a: the two laws.
-/
import Derived.Test.Qxb6625458aWalksA
namespace Go.Proofs.Qxb6625458a
open Go.ChangeShapes Go.WideShapes Go.ChangeAt Go.RowKit Plain
set_option linter.unusedVariables false

theorem bytes5_yes (a b : ByteArray) (q : Bool) (w : World) (h : a.size + b.size ≤ 1048576) :
    Calls Try.prog 5 #[.string a, .string b, .bool q] w fun e w' => e = .returned (.bool true) ∧ w' = w := by
  have := bytes5_any a b q w (by unfold maxLen; omega) (by unfold maxLen; omega)
  rwa [decide_eq_true h] at this
theorem bytes5_no (a b : ByteArray) (q : Bool) (w : World) (ha : a.size ≤ maxLen) (hb : b.size ≤ maxLen) (h : ¬ a.size + b.size ≤ 1048576) :
    Calls Try.prog 5 #[.string a, .string b, .bool q] w fun e w' => e = .returned (.bool false) ∧ w' = w := by
  have := bytes5_any a b q w ha hb
  rwa [decide_eq_false h] at this
theorem bytes7_yes (s : ByteArray) (w : World) (h : s.size ≤ 1048576) : Calls Try.prog 7 #[.string s] w fun e w' => e = .returned (.bool true) ∧ w' = w := by
  have := bytes7_any s w (by unfold maxLen; omega)
  rwa [decide_eq_true h] at this
theorem bytes7_no (s : ByteArray) (w : World) (hs : s.size ≤ maxLen) (h : ¬ s.size ≤ 1048576) : Calls Try.prog 7 #[.string s] w fun e w' => e = .returned (.bool false) ∧ w' = w := by
  have := bytes7_any s w hs
  rwa [decide_eq_false h] at this

set_option maxHeartbeats 1000000 in
theorem law1_great (a b : ByteArray) (m : Bool) (w : World) (ha : a.size ≤ maxLen) (hb : b.size ≤ maxLen) (h : 524288 < a.size ∨ 524288 < b.size) :
    Calls Try.prog 3 #[.string a, .string b, .bool m] w fun e w' => e = .returned (.bool true) ∧ w' = w := by
  by_cases hs : a.size + b.size ≤ 1048576
  · by_cases h1 : 524288 < a.size
    · clear ha hb h
      go_enter Try.func3, Try.ntmps3
      go_wp2_with (go_at_call 5; refine (bytes5_yes _ _ _ _ hs).mono ?_; rintro e w' ⟨rfl, rfl⟩)
      go_ret
      exact ⟨rfl, rfl⟩
    · have h2 : 524288 < b.size := by omega
      clear ha hb h
      go_enter Try.func3, Try.ntmps3
      go_wp2_with (go_at_call 5; refine (bytes5_yes _ _ _ _ hs).mono ?_; rintro e w' ⟨rfl, rfl⟩)
      go_ret
      exact ⟨rfl, rfl⟩
  · have HA : Hid (a.size ≤ maxLen) := ha
    have HB : Hid (b.size ≤ maxLen) := hb
    clear ha hb
    go_enter Try.func3, Try.ntmps3
    go_wp2_with (go_at_call 5; refine (bytes5_no _ _ _ _ HA.out HB.out hs).mono ?_; rintro e w' ⟨rfl, rfl⟩)
    go_ret
    exact ⟨rfl, rfl⟩

set_option maxHeartbeats 2000000 in
/-- a is not empty. 'q' = a + b; 'r' = trimSign(q); 'p' = trimSign(a); 'u' = the sign and a. -/
theorem law1_some (a b q r p u1 u2 : ByteArray) (m : Bool) (w : World) (ha : a.size ≤ 524288) (hb : b.size ≤ 524288) (h0 : 0 < a.size)
    (hadd : (Op.stringOp .add a b).run Try.prog w = .ok (.string q) w) (hadd2 : (Op.stringOp .add p b).run Try.prog w = .ok (.string r) w)
    (hu1 : (Op.stringOp .add ⟨#[43]⟩ a).run Try.prog w = .ok (.string u1) w) (hu2 : (Op.stringOp .add ⟨#[45]⟩ a).run Try.prog w = .ok (.string u2) w)
    (HQ : Hid (ts q = r ∧ q.size ≤ maxLen)) (HP : Hid (ts a = p ∧ a.size ≤ maxLen)) (HU1 : Hid (ts u1 = a ∧ u1.size ≤ maxLen)) (HU2 : Hid (ts u2 = a ∧ u2.size ≤ maxLen)) :
    Calls Try.prog 3 #[.string a, .string b, .bool m] w fun e w' => e = .returned (.bool true) ∧ w' = w := by
  cases m
  · go_enter Try.func3, Try.ntmps3
    go_wp2_with fail
    refine (bytes5_yes _ _ _ _ (by omega)).mono ?_
    rintro e w' ⟨rfl, rfl⟩
    go_wp2_with fail
    refine (zz_as q r _ HQ.out.2 HQ.out.1).mono ?_
    rintro e w' ⟨rfl, rfl⟩
    go_wp2_with fail
    refine (zz_as a p _ HP.out.2 HP.out.1).mono ?_
    rintro e w' ⟨rfl, rfl⟩
    go_wp2_with fail
    refine (zz_as u1 a _ HU1.out.2 HU1.out.1).mono ?_
    rintro e w' ⟨rfl, rfl⟩
    go_wp2
    go_ret
    exact ⟨rfl, rfl⟩
  · go_enter Try.func3, Try.ntmps3
    go_wp2_with fail
    refine (bytes5_yes _ _ _ _ (by omega)).mono ?_
    rintro e w' ⟨rfl, rfl⟩
    go_wp2_with fail
    refine (zz_as q r _ HQ.out.2 HQ.out.1).mono ?_
    rintro e w' ⟨rfl, rfl⟩
    go_wp2_with fail
    refine (zz_as a p _ HP.out.2 HP.out.1).mono ?_
    rintro e w' ⟨rfl, rfl⟩
    go_wp2_with fail
    refine (zz_as u2 a _ HU2.out.2 HU2.out.1).mono ?_
    rintro e w' ⟨rfl, rfl⟩
    go_wp2
    go_ret
    exact ⟨rfl, rfl⟩

set_option maxHeartbeats 2000000 in
/-- a is empty. -/
theorem law1_none (a b q r u1 u2 : ByteArray) (m : Bool) (w : World) (hb : b.size ≤ 524288) (h0 : a.size = 0)
    (hadd : (Op.stringOp .add a b).run Try.prog w = .ok (.string q) w)
    (hu1 : (Op.stringOp .add ⟨#[43]⟩ a).run Try.prog w = .ok (.string u1) w) (hu2 : (Op.stringOp .add ⟨#[45]⟩ a).run Try.prog w = .ok (.string u2) w)
    (HQ : Hid (ts q = r ∧ q.size ≤ maxLen)) (HP : Hid (ts b = r ∧ b.size ≤ maxLen)) (HU1 : Hid (ts u1 = a ∧ u1.size ≤ maxLen)) (HU2 : Hid (ts u2 = a ∧ u2.size ≤ maxLen)) :
    Calls Try.prog 3 #[.string a, .string b, .bool m] w fun e w' => e = .returned (.bool true) ∧ w' = w := by
  cases m
  · go_enter Try.func3, Try.ntmps3
    go_wp2_with fail
    refine (bytes5_yes _ _ _ _ (by omega)).mono ?_
    rintro e w' ⟨rfl, rfl⟩
    go_wp2_with fail
    refine (zz_as q r _ HQ.out.2 HQ.out.1).mono ?_
    rintro e w' ⟨rfl, rfl⟩
    go_wp2_with fail
    refine (zz_as b r _ HP.out.2 HP.out.1).mono ?_
    rintro e w' ⟨rfl, rfl⟩
    go_wp2_with fail
    refine (zz_as u1 a _ HU1.out.2 HU1.out.1).mono ?_
    rintro e w' ⟨rfl, rfl⟩
    go_wp2
    go_ret
    exact ⟨rfl, rfl⟩
  · go_enter Try.func3, Try.ntmps3
    go_wp2_with fail
    refine (bytes5_yes _ _ _ _ (by omega)).mono ?_
    rintro e w' ⟨rfl, rfl⟩
    go_wp2_with fail
    refine (zz_as q r _ HQ.out.2 HQ.out.1).mono ?_
    rintro e w' ⟨rfl, rfl⟩
    go_wp2_with fail
    refine (zz_as b r _ HP.out.2 HP.out.1).mono ?_
    rintro e w' ⟨rfl, rfl⟩
    go_wp2_with fail
    refine (zz_as u2 a _ HU2.out.2 HU2.out.1).mono ?_
    rintro e w' ⟨rfl, rfl⟩
    go_wp2
    go_ret
    exact ⟨rfl, rfl⟩

theorem app_size (a b : ByteArray) : (a ++ b).size = a.size + b.size := ByteArray.size_append' a b
theorem ts_size (s : ByteArray) : (ts s).size ≤ s.size := by
  unfold ts
  split
  · simp
  · exact Nat.le_refl _

theorem law1 (a b : ByteArray) (m : Bool) (w : World) (ha : a.size ≤ maxLen) (hb : b.size ≤ maxLen) :
    Calls Try.prog 3 #[.string a, .string b, .bool m] w fun e w' => e = .returned (.bool true) ∧ w' = w := by
  by_cases hg : 524288 < a.size ∨ 524288 < b.size
  · exact law1_great a b m w ha hb hg
  · have e43 : (ByteArray.mk #[43]).size = 1 := rfl
    have e45 : (ByteArray.mk #[45]).size = 1 := rfl
    have hu1 := run_string_add_sum (P := Try.prog) w ⟨#[43]⟩ a (by rw [e43]; omega)
    have hu2 := run_string_add_sum (P := Try.prog) w ⟨#[45]⟩ a (by rw [e45]; omega)
    have HU1 : ts (⟨#[43]⟩ ++ a) = a ∧ (⟨#[43]⟩ ++ a : ByteArray).size ≤ maxLen := ⟨ts_sign 43 (by decide) a, by rw [app_size, e43]; unfold maxLen; omega⟩
    have HU2 : ts (⟨#[45]⟩ ++ a) = a ∧ (⟨#[45]⟩ ++ a : ByteArray).size ≤ maxLen := ⟨ts_sign 45 (by decide) a, by rw [app_size, e45]; unfold maxLen; omega⟩
    have hadd := run_string_add_sum (P := Try.prog) w a b (by omega)
    have hq : (a ++ b).size ≤ maxLen := by rw [app_size]; unfold maxLen; omega
    by_cases h0 : 0 < a.size
    · have hp := ts_size a
      have hadd2 := run_string_add_sum (P := Try.prog) w (ts a) b (by omega)
      exact law1_some a b (a ++ b) (ts a ++ b) (ts a) _ _ m w (by omega) (by omega) h0 hadd hadd2 hu1 hu2 ⟨ts_app a b h0, hq⟩ ⟨rfl, ha⟩ HU1 HU2
    · exact law1_none a b (a ++ b) (ts b) _ _ m w (by omega) (by omega) hadd hu1 hu2 ⟨by rw [app_none a b (by omega)], hq⟩ ⟨rfl, hb⟩ HU1 HU2
end Go.Proofs.Qxb6625458a
