/-
  THE WALKS of seat b6627198a, second part: ParseVarint.
-/
import Derived.Test.Qxb6627198aWalksA
namespace Go.Proofs.Qxb6627198a
open Go.ChangeShapes Go.WideShapes Go.ChangeAt Go.RowKit Plain
set_option linter.unusedVariables false

theorem and128_all : ∀ n : Fin 256, (n.val &&& 128) = if n.val < 128 then 0 else 128 := by decide +kernel
theorem and128_lo (z : Int) (h0 : 0 ≤ z) (h1 : z < 128) : bits .and .u8 z 128 = 0 := by
  rw [u8_and z 128 h0 (by omega) (by decide) (by decide)]
  have := and128_all ⟨z.toNat, by omega⟩
  rw [if_pos (by show z.toNat < 128; omega)] at this
  show ((z.toNat &&& 128 : Nat) : Int) = 0
  exact congrArg Int.ofNat this
theorem and128_hi (z : Int) (h0 : 128 ≤ z) (h1 : z ≤ 255) : bits .and .u8 z 128 = 128 := by
  rw [u8_and z 128 (by omega) (by omega) (by decide) (by decide)]
  have := and128_all ⟨z.toNat, by omega⟩
  rw [if_neg (by show ¬ z.toNat < 128; omega)] at this
  show ((z.toNat &&& 128 : Nat) : Int) = 128
  exact congrArg Int.ofNat this
theorem or_low (x y : Int) (hx₀ : 0 ≤ x) (hx : x % 128 = 0) (hx₁ : x < 18446744073709551616) (hy₀ : 0 ≤ y) (hy : y < 128) : bits .or .u64 x y = x + y :=
  bits_join .u64 64 (by decide) wraps_u64 7 x y hx₀ hx hx₁ hy₀ hy (by omega)

/-- What ParseVarint answers. -/
def PV (zs : List Int) (n : Nat) (v s : Int) (ok : Bool) : Prop :=
  ((∀ i, i < n → 128 ≤ zs.getD i 0) ∧ v = 0 ∧ s = 0 ∧ ok = false) ∨
  ∃ t : Nat, t < n ∧ zs.getD t 0 < 128 ∧ (∀ i, i < t → 128 ≤ zs.getD i 0) ∧
    ((M zs (t + 1) ≤ 9223372036854775807 ∧ v = M zs (t + 1) ∧ s = t + 1 ∧ ok = true) ∨ (9223372036854775807 < M zs (t + 1) ∧ v = 0 ∧ s = 0 ∧ ok = false))

theorem first_end (zs : List Int) (n : Nat) : (∀ i, i < n → 128 ≤ zs.getD i 0) ∨ ∃ t : Nat, t < n ∧ zs.getD t 0 < 128 ∧ ∀ i, i < t → 128 ≤ zs.getD i 0 := by
  induction n with
  | zero => exact .inl fun i hi => by omega
  | succ n ih =>
    rcases ih with h | ⟨t, ht, h1, h2⟩
    · by_cases hz : zs.getD n 0 < 128
      · exact .inr ⟨n, by omega, hz, h⟩
      · refine .inl fun i hi => ?_
        by_cases e : i = n
        · subst e; omega
        · exact h i (by omega)
    · exact .inr ⟨t, by omega, h1, h2⟩

theorem pv_refuse (zs : List Int) (n k : Nat) (hk : k + 1 < n) (h : ∀ i, i < k + 1 → 128 ≤ zs.getD i 0) (hm : 72057594037927935 ≤ M zs (k + 1)) : PV zs n 0 0 false := by
  rcases first_end zs n with h' | ⟨t, ht, h1, h2⟩
  · exact .inl ⟨h', rfl, rfl, rfl⟩
  · have : k + 1 ≤ t := by
      refine Nat.le_of_not_lt fun hlt => ?_
      have := h t hlt
      omega
    exact .inr ⟨t, ht, h1, h2, .inr ⟨M_over zs k t this hm, rfl, rfl, rfl⟩⟩

/-- The ending, behind a name of its own. -/
def PVEnd (zs : List Int) (n : Nat) (e : Ending) : Prop := ∃ v s ok, e = .returned (.tuple #[.int .u64 v, .int .i64 s, .bool ok]) ∧ PV zs n v s ok

theorem ret_pv {v v' s s' : Int} {o : Bool} (h : v = v') (h' : s = s') : Ending.returned (.tuple #[.int .u64 v, .int .i64 s, .bool o]) = .returned (.tuple #[.int .u64 v', .int .i64 s', .bool o]) := by rw [h, h']

theorem pvend_none {zs : List Int} {n : Nat} (h : ∀ i, i < n → 128 ≤ zs.getD i 0) : PVEnd zs n (.returned (.tuple #[.int .u64 0, .int .i64 0, .bool false])) :=
  ⟨_, _, _, rfl, .inl ⟨h, rfl, rfl, rfl⟩⟩
theorem pvend_refuse {zs : List Int} {n k : Nat} (hk : k + 1 < n) (h : ∀ i, i < k + 1 → 128 ≤ zs.getD i 0) (hm : 72057594037927935 ≤ M zs (k + 1)) : PVEnd zs n (.returned (.tuple #[.int .u64 0, .int .i64 0, .bool false])) :=
  ⟨_, _, _, rfl, pv_refuse zs n k hk h hm⟩
theorem pvend_found {zs : List Int} {n t : Nat} {v s : Int} (ht : t < n) (h1 : zs.getD t 0 < 128) (h : ∀ i, i < t → 128 ≤ zs.getD i 0) (hm : M zs (t + 1) ≤ 9223372036854775807) (hv : v = M zs (t + 1)) (hs : s = t + 1) :
    PVEnd zs n (.returned (.tuple #[.int .u64 v, .int .i64 s, .bool true])) :=
  ⟨_, _, _, rfl, .inr ⟨t, ht, h1, h, .inl ⟨hm, hv, hs, rfl⟩⟩⟩
theorem more {zs : List Int} {k : Nat} (h : ∀ i, i < k → 128 ≤ zs.getD i 0) (h1 : 128 ≤ zs.getD k 0) : ∀ i, i < k + 1 → 128 ≤ zs.getD i 0 := by
  intro i hi
  by_cases e : i = k
  · subst e; exact h1
  · exact h i (by omega)

set_option maxHeartbeats 1000000 in
theorem pv_any (a : Option Addr) (n c : Nat) (zs : List Int) (w : World) (hs : Seg w a n zs) :
    Calls Try.prog 7 #[.slice a n c] w fun e w' => PVEnd zs n e ∧ w' = w := by
  obtain ⟨hl, hn, hz, ⟨rfl, rfl⟩ | ⟨b, o, rfl, hc⟩⟩ := hs
  · go_enter Try.func7, Try.ntmps7
    go_wp2
    refine wp_loop_rounds 1 ?_; rw [rounds_succ]
    go_wp2
    go_ret3
    exact ⟨pvend_none fun i hi => by omega, rfl⟩
  · go_enter Try.func7, Try.ntmps7
    go_wp2
    go_loop [2, 9] (fun v i => ∃ k : Nat, k ≤ n ∧ i = .int .i64 k ∧ v = .int .u64 (M zs k) ∧ Hid (∀ i, i < k → 128 ≤ zs.getD i 0) ∧ Hid (M zs k ≤ 9223372036854775807)) (fun _ i => n - (intOf i).toNat)
    case atStart => exact ⟨0, Nat.zero_le _, rfl, rfl, fun i hi => by omega, by show (0 : Int) ≤ _; decide⟩
    case round =>
      obtain ⟨k, hk, rfl, rfl, hb, hM⟩ := hrel
      by_cases hlt : k < n
      · have hck := hc k hlt
        have hzk := hz k
        obtain ⟨z, HZ⟩ : ∃ z, Hid (zs.getD k 0 = z) := ⟨_, rfl⟩
        rw [HZ.out] at hck hzk
        obtain ⟨hz0, hz1⟩ := hzk
        have e1 : bits .and .u8 z 127 = z % 128 := u8_and127 z hz0 (by omega)
        have e2 : IntKind.u64.wrap (z % 128) = z % 128 := by rw [IntKind.wrap_u64]; omega
        clear hc hz
        match k, hk, hb, hM, hlt, hck, HZ with
        | 0, hk, hb, hM, hlt, hck, HZ =>
          rw [Nat.add_zero] at hck
          have e3 : bits .or .u64 0 (z % 128) = z % 128 := by rw [or_low 0 (z % 128) (by decide) (by decide) (by decide) (by omega) (by omega)]; omega
          have EM : Hid (z % 128 = M zs 1) := by show _ = _; rw [M_one, HZ.out]
          have e0 : M zs 0 = 0 := rfl
          by_cases hlo : z < 128
          · have e4 := and128_lo z hz0 hlo
            go_wp2
            go_ret3
            exact ⟨pvend_found (t := 0) hlt (by rw [HZ.out]; exact hlo) (fun i hi => by omega) (by rw [← EM.out]; omega) EM.out rfl, rfl⟩
          · have e4 := and128_hi z (by omega) hz1
            go_wp2
            go_round
            case rel => exact ⟨1, by omega, by go_num, by rw [EM.out], more hb.out (by rw [HZ.out]; omega), by show _ ≤ _; rw [← EM.out]; omega⟩
            case measure => simp [intOf]; omega
        | k + 1, hk, hb, hM, hlt, hck, HZ =>
          obtain ⟨m, HM⟩ : ∃ m, Hid (M zs (k + 1) = m) := ⟨_, rfl⟩
          have hm0 := M_nonneg zs (k + 1)
          rw [HM.out] at hm0 ⊢
          by_cases hbig : 72057594037927935 ≤ m
          · go_wp2
            go_ret3
            exact ⟨pvend_refuse hlt hb.out (by rw [HM.out]; exact hbig), rfl⟩
          · have hbig' : m < 72057594037927935 := by omega
            have f1 : IntKind.u64.wrap (m + 1) = m + 1 := by rw [IntKind.wrap_u64]; omega
            have f2 : IntKind.u64.wrap ((m + 1) * 128) = (m + 1) * 128 := by rw [IntKind.wrap_u64]; omega
            have f3 : bits .or .u64 ((m + 1) * 128) (z % 128) = (m + 1) * 128 + z % 128 := or_low _ _ (by omega) (by omega) (by omega) (by omega) (by omega)
            have EM : Hid ((m + 1) * 128 + z % 128 = M zs (k + 1 + 1)) := by show _ = _; rw [M_two, HM.out, HZ.out]
            by_cases hlo : z < 128
            · have e4 := and128_lo z hz0 hlo
              go_wp2
              go_ret3
              exact ⟨pvend_found (t := k + 1) hlt (by rw [HZ.out]; exact hlo) hb.out (by rw [← EM.out]; omega) EM.out (by omega), rfl⟩
            · have e4 := and128_hi z (by omega) hz1
              go_wp2
              go_round
              case rel => exact ⟨k + 1 + 1, by omega, by go_num, by rw [EM.out], more hb.out (by rw [HZ.out]; omega), by show _ ≤ _; rw [← EM.out]; omega⟩
              case measure => simp [intOf]; omega
      · go_wp2
        go_ret3
        exact ⟨pvend_none fun i hi => hb.out i (by omega), rfl⟩
end Go.Proofs.Qxb6627198a
