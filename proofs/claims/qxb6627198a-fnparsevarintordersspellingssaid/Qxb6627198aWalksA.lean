/-
  THE WALKS of seat b6627198a, first part: zzFirstEnd, ParseVarint.
-/
import Derived.Test.Qxb6627198aRows
import Derived.Test.Qxb6627198aPlain
import Derived.WalkKit
import Derived.ProofKit
import Derived.WalkSpells
import Derived.Below
import Derived.Lib.VarintBits
namespace Go.Proofs.Qxb6627198a
open Go.ChangeShapes Go.WideShapes Go.ChangeAt Go.RowKit
set_option linter.unusedVariables false

/-- What the walks are told of a slice of bytes: its elements are 'zs'. -/
def Seg (w : World) (a : Option Addr) (n : Nat) (zs : List Int) : Prop :=
  zs.length = n ∧ n ≤ 65536 ∧ (∀ i, 0 ≤ zs.getD i 0 ∧ zs.getD i 0 ≤ 255) ∧ ((a = none ∧ n = 0) ∨ ∃ b o, a = some ⟨b, o, none⟩ ∧ ∀ i, i < n → w.cell? ⟨b, o + i, none⟩ = some (.int .u8 (zs.getD i 0)))

theorem ret_int {k : IntKind} {a b : Int} (h : a = b) : Ending.returned (.int k a) = .returned (.int k b) := by rw [h]

set_option maxHeartbeats 400000 in
theorem fe_none (a : Option Addr) (n c : Nat) (zs : List Int) (w : World) (hs : Seg w a n zs) (h : ∀ i, i < n → 128 ≤ zs.getD i 0) :
    Calls Try.prog 11 #[.slice a n c] w fun e w' => e = .returned (.int .i64 (-1)) ∧ w' = w := by
  obtain ⟨hl, hn, hz, ⟨rfl, rfl⟩ | ⟨b, o, rfl, hc⟩⟩ := hs
  · go_enter Try.func11, Try.ntmps11
    go_wp2
    refine wp_loop_rounds 1 ?_; rw [rounds_succ]
    go_wp2
    go_ret
    exact ⟨rfl, rfl⟩
  · go_enter Try.func11, Try.ntmps11
    go_wp2
    go_loop [3] (fun i => ∃ k : Nat, k ≤ n ∧ i = .int .i64 k) (fun i => n - (intOf i).toNat)
    case atStart => exact ⟨0, Nat.zero_le _, rfl⟩
    case round =>
      obtain ⟨k, hk, rfl⟩ := hrel
      by_cases hlt : k < n
      · have hck := hc k hlt
        have h1 := h k hlt
        clear hc h hz
        generalize zs.getD k 0 = z at hck h1
        go_wp2
        go_round
        case rel => exact ⟨k + 1, by omega, by go_num⟩
        case measure => simp [intOf]; omega
      · go_wp2
        go_ret
        exact ⟨rfl, rfl⟩

set_option maxHeartbeats 400000 in
theorem fe_some (a : Option Addr) (n c : Nat) (zs : List Int) (w : World) (hs : Seg w a n zs) (t : Nat) (ht : t < n) (h1 : zs.getD t 0 < 128) (h : ∀ i, i < t → 128 ≤ zs.getD i 0) :
    Calls Try.prog 11 #[.slice a n c] w fun e w' => e = .returned (.int .i64 t) ∧ w' = w := by
  obtain ⟨hl, hn, hz, ⟨rfl, rfl⟩ | ⟨b, o, rfl, hc⟩⟩ := hs
  · omega
  · go_enter Try.func11, Try.ntmps11
    go_wp2
    go_loop [3] (fun i => ∃ k : Nat, k ≤ t ∧ i = .int .i64 k) (fun i => n - (intOf i).toNat)
    case atStart => exact ⟨0, Nat.zero_le _, rfl⟩
    case round =>
      obtain ⟨k, hk, rfl⟩ := hrel
      have hlt : k < n := by omega
      have hck := hc k hlt
      by_cases he : k < t
      · have h2 := h k he
        clear hc h hz h1
        generalize zs.getD k 0 = z at hck h2
        go_wp2
        go_round
        case rel => exact ⟨k + 1, by omega, by go_num⟩
        case measure => simp [intOf]; omega
      · obtain rfl : k = t := by omega
        clear hc h hz
        generalize zs.getD k 0 = z at hck h1
        go_wp2
        go_ret
        exact ⟨rfl, rfl⟩
end Go.Proofs.Qxb6627198a
