/-
  THE WALKS of seat b6625842a, first part: math/bits.Mul64 by 1e9 and Add64; nanoseconds, signedNanoseconds, unitsToNS, signedUnitsToNS: all four are the same floor.
-/
import Derived.Test.Qxb6625842aRows
import Derived.WalkKit
import Derived.ProofKit
import Derived.WalkSpells
import Derived.Below
import Derived.Lib.VarintBits
import Derived.Laws.Externs
import Derived.Laws.BitsAllLaws
namespace Go.Proofs.Qxb6625842a
open Go.ChangeShapes Go.WideShapes Go.ChangeAt Go.RowKit
set_option linter.unusedVariables false

theorem ret_int {k : IntKind} {a b : Int} (h : a = b) : Ending.returned (.int k a) = .returned (.int k b) := by rw [h]
theorem ret_int2 {k k' : IntKind} {a b c d : Int} (h : a = b) (h' : c = d) : Ending.returned (.tuple #[.int k a, .int k' c]) = .returned (.tuple #[.int k b, .int k' d]) := by rw [h, h']

theorem mask32 (x : Int) (h0 : 0 ≤ x) (h1 : x < 18446744073709551616) : bits .and .u64 x 4294967295 = x % 4294967296 := bits_mask .u64 64 (by decide) wraps_u64 32 (by decide) x h0 h1
theorem or_low32 (x y : Int) (hx₀ : 0 ≤ x) (hx : x % 4294967296 = 0) (hx₁ : x < 18446744073709551616) (hy₀ : 0 ≤ y) (hy : y < 4294967296) : bits .or .u64 x y = x + y :=
  bits_join .u64 64 (by decide) wraps_u64 32 x y hx₀ hx hx₁ hy₀ hy (by omega)

theorem mul_q (a b g q : Int) (h1 : 0 ≤ a * 1000000000 - 4294967296 * g) (h2 : a * 1000000000 - 4294967296 * g < 4294967296) (h3 : 0 ≤ b * 1000000000 + g - 4294967296 * q) (h4 : b * 1000000000 + g - 4294967296 * q < 4294967296) :
    (b * 4294967296 + a) * 1000000000 / 18446744073709551616 = q := by omega
theorem mul_hi (x : Int) (h0 : 0 ≤ x) (h1 : x < 18446744073709551616) :
    ((x / 4294967296 * 1000000000 + x % 4294967296 * 1000000000 / 4294967296) / 4294967296 + (x / 4294967296 * 1000000000 + x % 4294967296 * 1000000000 / 4294967296) % 4294967296 % 18446744073709551616 / 4294967296) % 18446744073709551616 = x * 1000000000 / 18446744073709551616 := by
  have hx : x = x / 4294967296 * 4294967296 + x % 4294967296 := by omega
  have ha : 0 ≤ x % 4294967296 ∧ x % 4294967296 < 4294967296 := by omega
  have hb : 0 ≤ x / 4294967296 ∧ x / 4294967296 < 4294967296 := by omega
  generalize x / 4294967296 = b at *
  generalize x % 4294967296 = a at *
  subst hx
  have hg : 0 ≤ a * 1000000000 - 4294967296 * (a * 1000000000 / 4294967296) ∧ a * 1000000000 - 4294967296 * (a * 1000000000 / 4294967296) < 4294967296 := by omega
  generalize a * 1000000000 / 4294967296 = g at *
  have hq : 0 ≤ b * 1000000000 + g - 4294967296 * ((b * 1000000000 + g) / 4294967296) ∧ b * 1000000000 + g - 4294967296 * ((b * 1000000000 + g) / 4294967296) < 4294967296 := by omega
  have hz : (b * 1000000000 + g) % 4294967296 % 18446744073709551616 / 4294967296 = 0 := by
    have hr : 0 ≤ (b * 1000000000 + g) % 4294967296 ∧ (b * 1000000000 + g) % 4294967296 < 4294967296 := by omega
    rw [Int.emod_eq_of_lt hr.1 (by omega)]
    exact Int.ediv_eq_zero_of_lt hr.1 hr.2
  rw [hz, mul_q a b g _ hg.1 hg.2 hq.1 hq.2]
  omega

set_option maxHeartbeats 1000000 in
theorem mul64 (x : Int) (w : World) (h0 : 0 ≤ x) (h1 : x < 18446744073709551616) :
    Calls Try.prog 20 #[.int .u64 x, .int .u64 1000000000] w fun e w' => e = .returned (.tuple #[.int .u64 (x * 1000000000 / 18446744073709551616), .int .u64 (x * 1000000000 % 18446744073709551616)]) ∧ w' = w := by
  have a0 := mask32 x h0 h1
  have a1 := mask32 1000000000 (by decide) (by decide)
  go_enter Try.func20, Try.ntmps20
  go_wp2
  go_ret2
  refine ⟨ret_int2 ?_ ?_, rfl⟩
  · rw [mask32 _ (by omega) (by omega)]
    rw [IntKind.wrap_u64, IntKind.wrap_u64]
    exact mul_hi x h0 h1
  · rw [IntKind.wrap_u64]

theorem add64_0 (x y : Int) (hx : 0 ≤ x) (hy : 0 ≤ y) (w : World) : (callFunc 21 #[.int .u64 x, .int .u64 y, .int .u64 0]).run Try.prog w =
    .ok (.value (.tuple #[.int .u64 ((x + y) % 18446744073709551616), .int .u64 ((x + y) / 18446744073709551616)])) w := by
  rw [run_callFunc_extern Try.func21 (by kernel_rfl) (by kernel_rfl) (by kernel_rfl) (e := add64Entry) (by kernel_rfl), run_add64 x y 0 hx hy (by omega) (by omega)]
  simp [Result.andThen]

/-- u units of 2^-32 s in nanoseconds, nearest, halves up. -/
def ns (u : Int) : Int := (u * 1000000000 + 2147483648) / 4294967296
theorem ns_bd (u : Int) (h0 : 0 ≤ u) (h1 : u < 18446744073709551616) : 0 ≤ ns u ∧ ns u ≤ 4294967296000000000 := by unfold ns; omega

theorem nano_sum (u hi lo c l : Int) (h1 : u * 1000000000 = hi * 18446744073709551616 + lo) (h2 : lo + 2147483648 = c * 18446744073709551616 + l) :
    (hi + c) * 4294967296 + l / 4294967296 = ns u := by unfold ns; omega

set_option maxHeartbeats 1000000 in
theorem nano_any (u : Int) (w : World) (h0 : 0 ≤ u) (h1 : u < 18446744073709551616) :
    Calls Try.prog 17 #[.int .u64 u] w fun e w' => e = .returned (.int .i64 (ns u)) ∧ w' = w := by
  have hm := fun wx => mul64 u wx h0 h1
  have HE : Hid (u * 1000000000 = u * 1000000000 / 18446744073709551616 * 18446744073709551616 + u * 1000000000 % 18446744073709551616) := by show _ = _; omega
  have b1 : 0 ≤ u * 1000000000 / 18446744073709551616 ∧ u * 1000000000 / 18446744073709551616 ≤ 1000000000 := by omega
  have b2 : 0 ≤ u * 1000000000 % 18446744073709551616 ∧ u * 1000000000 % 18446744073709551616 < 18446744073709551616 := by omega
  generalize u * 1000000000 / 18446744073709551616 = hi at hm HE b1
  generalize u * 1000000000 % 18446744073709551616 = lo at hm HE b2
  have hadd := fun wx => add64_0 lo 2147483648 b2.1 (by decide) wx
  have HE2 : Hid (lo + 2147483648 = (lo + 2147483648) / 18446744073709551616 * 18446744073709551616 + (lo + 2147483648) % 18446744073709551616) := by show _ = _; omega
  have b3 : 0 ≤ (lo + 2147483648) / 18446744073709551616 ∧ (lo + 2147483648) / 18446744073709551616 ≤ 1 := by omega
  have b4 : 0 ≤ (lo + 2147483648) % 18446744073709551616 ∧ (lo + 2147483648) % 18446744073709551616 < 18446744073709551616 := by omega
  generalize (lo + 2147483648) / 18446744073709551616 = c at hadd HE2 b3
  generalize (lo + 2147483648) % 18446744073709551616 = l at hadd HE2 b4
  have f1 : IntKind.u64.wrap (hi + c) = hi + c := by rw [IntKind.wrap_u64]; omega
  have f2 : IntKind.u64.wrap ((hi + c) * 4294967296) = (hi + c) * 4294967296 := by rw [IntKind.wrap_u64]; omega
  have f3 := or_low32 ((hi + c) * 4294967296) (l / 4294967296) (by omega) (by omega) (by omega) (by omega) (by omega)
  have HF := nano_sum u hi lo c l HE.out HE2.out
  have HF' : Hid ((hi + c) * 4294967296 + l / 4294967296 = ns u) := HF
  clear HF
  have HM : Hid (∀ wx, Calls Try.prog 20 #[.int .u64 u, .int .u64 1000000000] wx fun e w' => e = .returned (.tuple #[.int .u64 hi, .int .u64 lo]) ∧ w' = wx) := hm
  clear hm
  obtain ⟨b10, b11⟩ := b1
  obtain ⟨b30, b31⟩ := b3
  obtain ⟨b40, b41⟩ := b4
  clear b2 h0 h1
  go_enter Try.func17, Try.ntmps17
  go_wp2_with (go_at_call 20; refine (HM.out _).mono ?_; rintro e w' ⟨rfl, rfl⟩)
  go_ret
  exact ⟨ret_int (by rw [← HF'.out]), rfl⟩

/-- The same floor of a signed count, by way of its negative. -/
theorem nano_neg (d hi lo c l : Int) (h1 : -d * 1000000000 = hi * 18446744073709551616 + lo) (h2 : lo + 2147483647 = c * 18446744073709551616 + l) :
    -((hi + c) * 4294967296 + l / 4294967296) = ns d := by unfold ns; omega

set_option maxHeartbeats 1000000 in
theorem snano_any (d : Int) (w : World) (h0 : -9223372036854775808 ≤ d) (h1 : d ≤ 9223372036854775807) :
    Calls Try.prog 18 #[.int .i64 d] w fun e w' => e = .returned (.int .i64 (ns d)) ∧ w' = w := by
  by_cases hd : 0 ≤ d
  · have f0 : IntKind.u64.wrap d = d := by rw [IntKind.wrap_u64]; omega
    have HM : Hid (∀ wx, Calls Try.prog 17 #[.int .u64 d] wx fun e w' => e = .returned (.int .i64 (ns d)) ∧ w' = wx) := fun wx => nano_any d wx hd (by omega)
    go_enter Try.func18, Try.ntmps18
    go_wp2_with (go_at_call 17; refine (HM.out _).mono ?_; rintro e w' ⟨rfl, rfl⟩)
    go_ret
    exact ⟨rfl, rfl⟩
  · obtain ⟨u, HU⟩ : ∃ u, Hid (-d = u) := ⟨_, rfl⟩
    have bu : 0 ≤ u ∧ u ≤ 9223372036854775808 := by have := HU.out; omega
    have f0 : IntKind.u64.wrap (wrap64 (-d)) = u := by
      have := HU.out
      rw [IntKind.wrap_u64]; unfold wrap64; omega
    have hm := fun wx => mul64 u wx bu.1 (by omega)
    have HE : Hid (u * 1000000000 = u * 1000000000 / 18446744073709551616 * 18446744073709551616 + u * 1000000000 % 18446744073709551616) := by show _ = _; omega
    have b1 : 0 ≤ u * 1000000000 / 18446744073709551616 ∧ u * 1000000000 / 18446744073709551616 ≤ 1000000000 := by omega
    have b2 : 0 ≤ u * 1000000000 % 18446744073709551616 ∧ u * 1000000000 % 18446744073709551616 < 18446744073709551616 := by omega
    generalize u * 1000000000 / 18446744073709551616 = hi at hm HE b1
    generalize u * 1000000000 % 18446744073709551616 = lo at hm HE b2
    have hadd := fun wx => add64_0 lo 2147483647 b2.1 (by decide) wx
    have HE2 : Hid (lo + 2147483647 = (lo + 2147483647) / 18446744073709551616 * 18446744073709551616 + (lo + 2147483647) % 18446744073709551616) := by show _ = _; omega
    have b3 : 0 ≤ (lo + 2147483647) / 18446744073709551616 ∧ (lo + 2147483647) / 18446744073709551616 ≤ 1 := by omega
    have b4 : 0 ≤ (lo + 2147483647) % 18446744073709551616 ∧ (lo + 2147483647) % 18446744073709551616 < 18446744073709551616 := by omega
    generalize (lo + 2147483647) / 18446744073709551616 = c at hadd HE2 b3
    generalize (lo + 2147483647) % 18446744073709551616 = l at hadd HE2 b4
    have f1 : IntKind.u64.wrap (hi + c) = hi + c := by rw [IntKind.wrap_u64]; omega
    have f2 : IntKind.u64.wrap ((hi + c) * 4294967296) = (hi + c) * 4294967296 := by rw [IntKind.wrap_u64]; omega
    have f3 := or_low32 ((hi + c) * 4294967296) (l / 4294967296) (by omega) (by omega) (by omega) (by omega) (by omega)
    have HF : Hid (-((hi + c) * 4294967296 + l / 4294967296) = ns d) := nano_neg d hi lo c l (by rw [HU.out]; exact HE.out) HE2.out
    have HM : Hid (∀ wx, Calls Try.prog 20 #[.int .u64 u, .int .u64 1000000000] wx fun e w' => e = .returned (.tuple #[.int .u64 hi, .int .u64 lo]) ∧ w' = wx) := hm
    clear hm
    obtain ⟨b10, b11⟩ := b1
    obtain ⟨b30, b31⟩ := b3
    obtain ⟨b40, b41⟩ := b4
    clear b2 bu
    go_enter Try.func18, Try.ntmps18
    go_wp2_with (go_at_call 20; refine (HM.out _).mono ?_; rintro e w' ⟨rfl, rfl⟩)
    go_ret
    refine ⟨ret_int ?_, rfl⟩
    rw [← HF.out]

theorem units_sum (u : Int) : u / 4294967296 * 1000000000 + (u % 4294967296 * 1000000000 + 2147483648) / 4294967296 = ns u := by
  unfold ns
  have hx : u = u / 4294967296 * 4294967296 + u % 4294967296 := by omega
  generalize u / 4294967296 = b at *
  generalize u % 4294967296 = a at *
  subst hx
  omega

set_option maxHeartbeats 1000000 in
theorem units_any (u : Int) (w : World) (h0 : 0 ≤ u) (h1 : u < 18446744073709551616) :
    Calls Try.prog 7 #[.int .u64 u] w fun e w' => e = .returned (.int .i64 (ns u)) ∧ w' = w := by
  have a0 := mask32 u h0 h1
  go_enter Try.func7, Try.ntmps7
  go_wp2
  go_ret
  exact ⟨ret_int (units_sum u), rfl⟩

set_option maxHeartbeats 1000000 in
theorem sunits_any (d : Int) (w : World) (h0 : -9223372036854775808 ≤ d) (h1 : d ≤ 9223372036854775807) :
    Calls Try.prog 8 #[.int .i64 d] w fun e w' => e = .returned (.int .i64 (ns d)) ∧ w' = w := by
  have a0 := mask32 (IntKind.u64.wrap d) (by rw [IntKind.wrap_u64]; omega) (by rw [IntKind.wrap_u64]; omega)
  go_enter Try.func8, Try.ntmps8
  go_wp2
  go_ret
  refine ⟨ret_int ?_, rfl⟩
  have e : IntKind.u64.wrap d % 4294967296 = d % 4294967296 := by
    rw [IntKind.wrap_u64]
    exact Int.emod_emod_of_dvd d (by decide)
  rw [e]
  exact units_sum d
end Go.Proofs.Qxb6625842a
