/-
  THE WALKS of seat b6625649a, first part: zzIsWS, skipSpace, zzFirstNonWS, zzAllWS, OpenJSON.
-/
import Derived.Test.Qxb6625649aRows
import Derived.Test.Qxb6625649aPlain
import Derived.WalkKit
import Derived.ProofKit
import Derived.WalkSpells
import Derived.Below
import Derived.OpenShut
namespace Go.Proofs.Qxb6625649a
open Go.ChangeShapes Go.WideShapes Go.ChangeAt Go.RowKit Plain
set_option linter.unusedVariables false

/-- What the walks are told of a slice of bytes: its elements are 'zs'. -/
def Seg (w : World) (a : Option Addr) (n : Nat) (zs : List Int) : Prop :=
  zs.length = n ∧ n ≤ 4194304 ∧ (∀ i, 0 ≤ zs.getD i 0 ∧ zs.getD i 0 ≤ 255) ∧ (n = 0 ∨ ∃ b o, a = some ⟨b, o, none⟩ ∧ ∀ i, i < n → w.cell? ⟨b, o + i, none⟩ = some (.int .u8 (zs.getD i 0)))

theorem not_ws_beq {z : Int} (h : ¬ WS z) : (z == 32) = false ∧ (z == 9) = false ∧ (z == 10) = false ∧ (z == 13) = false := by
  unfold WS at h
  refine ⟨?_, ?_, ?_, ?_⟩ <;> (apply beq_false_of_ne; intro e; apply h; omega)

set_option maxHeartbeats 400000 in
theorem isWS_yes (z : Int) (w : World) (h : WS z) : Calls Try.prog 6 #[.int .u8 z] w fun e w' => e = .returned (.bool true) ∧ w' = w := by
  rcases h with rfl | rfl | rfl | rfl
  all_goals
    go_enter Try.func6, Try.ntmps6
    go_wp2
    go_ret
    exact ⟨rfl, rfl⟩
set_option maxHeartbeats 400000 in
theorem isWS_no (z : Int) (w : World) (h : ¬ WS z) : Calls Try.prog 6 #[.int .u8 z] w fun e w' => e = .returned (.bool false) ∧ w' = w := by
  obtain ⟨h1, h2, h3, h4⟩ := not_ws_beq h
  clear h
  go_enter Try.func6, Try.ntmps6
  go_wp2
  go_ret
  exact ⟨rfl, rfl⟩

set_option maxHeartbeats 1000000 in
theorem skip_as (a : Option Addr) (n c : Nat) (zs : List Int) (w : World) (hs : Seg w a n zs) (i j : Nat) (h : SS zs n i j) :
    Calls Try.prog 12 #[.slice a n c, .int .i64 i] w fun e w' => e = .returned (.int .i64 j) ∧ w' = w := by
  obtain ⟨hij, hjn, h3, h4⟩ := h
  have H3 : Hid (∀ k, i ≤ k → k < j → WS (zs.getD k 0)) := h3
  have H4 : Hid (j < n → ¬ WS (zs.getD j 0)) := h4
  clear h3 h4
  obtain ⟨hl, hn, hz, rfl | ⟨b, o, rfl, hc⟩⟩ := hs
  · obtain rfl : j = 0 := by omega
    obtain rfl : i = 0 := by omega
    clear hz H3 H4
    go_enter Try.func12, Try.ntmps12
    go_wp2
    refine wp_loop_rounds 1 ?_; rw [rounds_succ]
    go_wp2
    go_ret
    exact ⟨rfl, rfl⟩
  · have HC : Hid (∀ i, i < n → w.cell? ⟨b, o + i, none⟩ = some (.int .u8 (zs.getD i 0))) := hc
    clear hc hz hl
    go_enter Try.func12, Try.ntmps12
    go_wp2
    go_loop [1] (fun q => ∃ k : Nat, i ≤ k ∧ k ≤ j ∧ q = .int .i64 k) (fun q => n - (intOf q).toNat)
    case atStart => exact ⟨i, Nat.le_refl _, hij, rfl⟩
    case round =>
      obtain ⟨k, hik, hkj, rfl⟩ := hrel
      by_cases hlt : k < j
      · have hkn : k < n := by omega
        have hck := HC.out k hkn
        have HW : Hid (WS (zs.getD k 0)) := H3.out k hik hlt
        generalize zs.getD k 0 = z at hck HW
        rcases HW.out with rfl | rfl | rfl | rfl
        all_goals
          go_wp2
          go_round
          case rel => exact ⟨k + 1, by omega, by omega, by go_num⟩
          case measure => simp [intOf]; omega
      · obtain rfl : k = j := by omega
        by_cases hkn : k < n
        · have hck := HC.out k hkn
          obtain ⟨h1, h2, h5, h6⟩ := not_ws_beq (H4.out hkn)
          generalize zs.getD k 0 = z at hck h1 h2 h5 h6
          go_wp2
          go_ret
          exact ⟨rfl, rfl⟩
        · obtain rfl : k = n := by omega
          go_wp2
          go_ret
          exact ⟨rfl, rfl⟩

set_option maxHeartbeats 1000000 in
theorem first_none (a : Option Addr) (n c : Nat) (zs : List Int) (w : World) (hs : Seg w a n zs) (h : SS zs n 0 n) :
    Calls Try.prog 11 #[.slice a n c] w fun e w' => e = .returned (.int .i64 (-1)) ∧ w' = w := by
  have H3 : Hid (∀ k, 0 ≤ k → k < n → WS (zs.getD k 0)) := h.2.2.1
  clear h
  obtain ⟨hl, hn, hz, rfl | ⟨b, o, rfl, hc⟩⟩ := hs
  · clear hz H3
    go_enter Try.func11, Try.ntmps11
    go_wp2
    refine wp_loop_rounds 1 ?_; rw [rounds_succ]
    go_wp2
    go_ret
    exact ⟨rfl, rfl⟩
  · have HC : Hid (∀ i, i < n → w.cell? ⟨b, o + i, none⟩ = some (.int .u8 (zs.getD i 0))) := hc
    clear hc hz hl
    go_enter Try.func11, Try.ntmps11
    go_wp2
    go_loop [3] (fun q => ∃ k : Nat, k ≤ n ∧ q = .int .i64 k) (fun q => n - (intOf q).toNat)
    case atStart => exact ⟨0, Nat.zero_le _, rfl⟩
    case round =>
      obtain ⟨k, hkn, rfl⟩ := hrel
      by_cases hlt : k < n
      · have hck := HC.out k hlt
        have HW : Hid (WS (zs.getD k 0)) := H3.out k (by omega) hlt
        generalize zs.getD k 0 = z at hck HW
        go_wp2_with (go_at_call 6; refine (isWS_yes _ _ HW.out).mono ?_; rintro e w' ⟨rfl, rfl⟩)
        go_round
        case rel => exact ⟨k + 1, by omega, by go_num⟩
        case measure => simp [intOf]; omega
      · go_wp2
        go_ret
        exact ⟨rfl, rfl⟩

set_option maxHeartbeats 1000000 in
theorem first_some (a : Option Addr) (n c : Nat) (zs : List Int) (w : World) (hs : Seg w a n zs) (j : Nat) (h : SS zs n 0 j) (hj : j < n) :
    Calls Try.prog 11 #[.slice a n c] w fun e w' => e = .returned (.int .i64 j) ∧ w' = w := by
  have H3 : Hid (∀ k, 0 ≤ k → k < j → WS (zs.getD k 0)) := h.2.2.1
  have H4 : Hid (¬ WS (zs.getD j 0)) := h.2.2.2 hj
  clear h
  obtain ⟨hl, hn, hz, rfl | ⟨b, o, rfl, hc⟩⟩ := hs
  · omega
  · have HC : Hid (∀ i, i < n → w.cell? ⟨b, o + i, none⟩ = some (.int .u8 (zs.getD i 0))) := hc
    clear hc hz hl
    go_enter Try.func11, Try.ntmps11
    go_wp2
    go_loop [3] (fun q => ∃ k : Nat, k ≤ j ∧ q = .int .i64 k) (fun q => n - (intOf q).toNat)
    case atStart => exact ⟨0, Nat.zero_le _, rfl⟩
    case round =>
      obtain ⟨k, hkj, rfl⟩ := hrel
      have hkn : k < n := by omega
      have hck := HC.out k hkn
      by_cases hlt : k < j
      · have HW : Hid (WS (zs.getD k 0)) := H3.out k (by omega) hlt
        generalize zs.getD k 0 = z at hck HW
        go_wp2_with (go_at_call 6; refine (isWS_yes _ _ HW.out).mono ?_; rintro e w' ⟨rfl, rfl⟩)
        go_round
        case rel => exact ⟨k + 1, by omega, by go_num⟩
        case measure => simp [intOf]; omega
      · obtain rfl : k = j := by omega
        generalize zs.getD k 0 = z at hck H4
        go_wp2_with (go_at_call 6; refine (isWS_no _ _ H4.out).mono ?_; rintro e w' ⟨rfl, rfl⟩)
        go_ret
        exact ⟨rfl, rfl⟩

set_option maxHeartbeats 1000000 in
/-- White space alone from lo on. -/
theorem all_yes (b o : Nat) (n c : Nat) (zs : List Int) (w : World) (hn : n ≤ 4194304) (hc : ∀ i, i < n → w.cell? ⟨b, o + i, none⟩ = some (.int .u8 (zs.getD i 0))) (lo hi : Nat) (hlo : lo ≤ hi) (hhi : hi ≤ n) (h : ∀ k, lo ≤ k → k < hi → WS (zs.getD k 0)) :
    Calls Try.prog 13 #[.slice (some ⟨b, o, none⟩) n c, .int .i64 lo, .int .i64 hi] w fun e w' => e = .returned (.bool true) ∧ w' = w := by
  have H3 : Hid (∀ k, lo ≤ k → k < hi → WS (zs.getD k 0)) := h
  have HC : Hid (∀ i, i < n → w.cell? ⟨b, o + i, none⟩ = some (.int .u8 (zs.getD i 0))) := hc
  clear h hc
  go_enter Try.func13, Try.ntmps13
  go_wp2
  go_loop [7] (fun q => ∃ k : Nat, lo ≤ k ∧ k ≤ hi ∧ q = .int .i64 k) (fun q => n - (intOf q).toNat)
  case atStart => exact ⟨lo, Nat.le_refl _, hlo, rfl⟩
  case round =>
    obtain ⟨k, hlk, hkh, rfl⟩ := hrel
    by_cases hlt : k < hi
    · have hkn : k < n := by omega
      have hck := HC.out k hkn
      have HW : Hid (WS (zs.getD k 0)) := H3.out k hlk hlt
      generalize zs.getD k 0 = z at hck HW
      go_wp2_with (go_at_call 6; refine (isWS_yes _ _ HW.out).mono ?_; rintro e w' ⟨rfl, rfl⟩)
      go_round
      case rel => exact ⟨k + 1, by omega, by omega, by go_num⟩
      case measure => simp [intOf]; omega
    · go_wp2
      go_ret
      exact ⟨rfl, rfl⟩
end Go.Proofs.Qxb6625649a
