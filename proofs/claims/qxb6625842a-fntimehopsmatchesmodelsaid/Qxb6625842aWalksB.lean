/-
  THE WALKS of seat b6625842a, second part: fullTime at every template, nextTime; they are one where the template is at most 56.
-/
import Derived.Test.Qxb6625842aWalksA
namespace Go.Proofs.Qxb6625842a
open Go.ChangeShapes Go.WideShapes Go.ChangeAt Go.RowKit
set_option linter.unusedVariables false

/-- fullTime, as the text reckons it. -/
def ftWin (k : Int) : Int := IntKind.u64.wrap (2 ^ min ((k + 8) % 256).toNat 64)
def ftNow (p t k : Int) : Int := bits BinOp.or IntKind.u64 (bits BinOp.andNot IntKind.u64 p (IntKind.u64.wrap (ftWin k - 1))) (IntKind.u64.wrap (IntKind.u64.wrap t * 2 ^ min k.toNat 64))
def ft (p t k : Int) : Int := if p / 2 ^ min k.toNat 64 % 256 = t then p else if ftNow p t k < p then IntKind.u64.wrap (ftNow p t k + ftWin k) else ftNow p t k
/-- nextTime, as the text reckons it. -/
def ntD (p t k : Int) : Int := (t - p / 2 ^ min k.toNat 64) % 256
def nt (p t k : Int) : Int := if ntD p t k = 0 then p else IntKind.u64.wrap (bits BinOp.andNot IntKind.u64 p (IntKind.u64.wrap (IntKind.u64.wrap (2 ^ min k.toNat 64) - 1)) + IntKind.u64.wrap (ntD p t k * 2 ^ min k.toNat 64))

set_option maxHeartbeats 1000000 in
theorem ft_any (p t k : Int) (w : World) (hk0 : 0 ≤ k) :
    Calls Try.prog 16 #[.int .u64 p, .int .u8 t, .int .u8 k] w fun e w' => e = .returned (.int .u64 (ft p t k)) ∧ w' = w := by
  have hk8 : 0 ≤ (k + 8) % 256 := by omega
  by_cases h : p / 2 ^ min k.toNat 64 % 256 = t
  · have e : ft p t k = p := if_pos h
    rw [e]
    have hb : (p / 2 ^ min k.toNat 64 % 256 == t) = true := by rw [h]; exact beq_self_eq_true _
    clear h e
    go_enter Try.func16, Try.ntmps16
    go_wp2
    go_ret
    exact ⟨rfl, rfl⟩
  · have hb : (p / 2 ^ min k.toNat 64 % 256 == t) = false := beq_false_of_ne h
    by_cases hlt : ftNow p t k < p
    · have e : ft p t k = IntKind.u64.wrap (ftNow p t k + ftWin k) := by unfold ft; rw [if_neg h, if_pos hlt]
      rw [e]
      have hlt' : bits BinOp.or IntKind.u64 (bits BinOp.andNot IntKind.u64 p (IntKind.u64.wrap (IntKind.u64.wrap (2 ^ min ((k + 8) % 256).toNat 64) - 1))) (IntKind.u64.wrap (IntKind.u64.wrap t * 2 ^ min k.toNat 64)) < p := hlt
      clear h e hlt
      go_enter Try.func16, Try.ntmps16
      go_wp2
      go_ret
      exact ⟨rfl, rfl⟩
    · have e : ft p t k = ftNow p t k := by unfold ft; rw [if_neg h, if_neg hlt]
      rw [e]
      have hlt' : ¬ bits BinOp.or IntKind.u64 (bits BinOp.andNot IntKind.u64 p (IntKind.u64.wrap (IntKind.u64.wrap (2 ^ min ((k + 8) % 256).toNat 64) - 1))) (IntKind.u64.wrap (IntKind.u64.wrap t * 2 ^ min k.toNat 64)) < p := hlt
      clear h e hlt
      go_enter Try.func16, Try.ntmps16
      go_wp2
      go_ret
      exact ⟨rfl, rfl⟩

set_option maxHeartbeats 1000000 in
theorem nt_any (p t k : Int) (w : World) (hk0 : 0 ≤ k) :
    Calls Try.prog 6 #[.int .u64 p, .int .u8 t, .int .u8 k] w fun e w' => e = .returned (.int .u64 (nt p t k)) ∧ w' = w := by
  by_cases h : ntD p t k = 0
  · have e : nt p t k = p := if_pos h
    rw [e]
    have hb : ((t - p / 2 ^ min k.toNat 64) % 256 == 0) = true := by rw [show (t - p / 2 ^ min k.toNat 64) % 256 = 0 from h]; rfl
    clear h e
    go_enter Try.func6, Try.ntmps6
    go_wp2
    go_ret
    exact ⟨rfl, rfl⟩
  · have e : nt p t k = _ := if_neg h
    rw [e]
    have hb : ((t - p / 2 ^ min k.toNat 64) % 256 == 0) = false := beq_false_of_ne h
    clear h e
    go_enter Try.func6, Try.ntmps6
    go_wp2
    go_ret
    exact ⟨rfl, rfl⟩

theorem wrap_u64_bd (n : Int) : 0 ≤ IntKind.u64.wrap n ∧ IntKind.u64.wrap n < 18446744073709551616 := by rw [IntKind.wrap_u64]; omega
theorem bits_u64_bd (o : BinOp) (a b : Int) : 0 ≤ bits o .u64 a b ∧ bits o .u64 a b < 18446744073709551616 := by
  unfold bits
  exact wrap_u64_bd _
theorem ft_bd (p t k : Int) (h0 : 0 ≤ p) (h1 : p < 18446744073709551616) : 0 ≤ ft p t k ∧ ft p t k < 18446744073709551616 := by
  unfold ft
  split
  · exact ⟨h0, h1⟩
  · split
    · exact wrap_u64_bd _
    · exact bits_u64_bd _ _ _

/-! ### the two are one -/
theorem and_high (a j : Nat) (hj : j ≤ 64) (ha : a < 2 ^ 64) : a &&& (18446744073709551615 - (2 ^ j - 1)) = a - a % 2 ^ j := by
  have e : 18446744073709551615 - (2 ^ j - 1) = (2 ^ (64 - j) - 1) * 2 ^ j := by
    have h1 : 2 ^ (64 - j) * 2 ^ j = 18446744073709551616 := by rw [← Nat.pow_add, show 64 - j + j = 64 by omega]
    have h2 : 0 < 2 ^ j := Nat.two_pow_pos j
    rw [Nat.sub_mul, h1]; omega
  rw [e]
  have e2 : a - a % 2 ^ j = a / 2 ^ j * 2 ^ j := by
    have := Nat.div_add_mod' a (2 ^ j); omega
  rw [e2]
  apply Nat.eq_of_testBit_eq
  intro i
  rw [Nat.testBit_and, Nat.mul_comm (2 ^ (64 - j) - 1), Nat.mul_comm (a / 2 ^ j), Nat.testBit_two_pow_mul, Nat.testBit_two_pow_mul, Nat.testBit_two_pow_sub_one, Nat.testBit_div_two_pow]
  by_cases hi : j ≤ i
  · have hij : j + (i - j) = i := by omega
    by_cases h64 : i < 64
    · have : i - j < 64 - j := by omega
      simp [hi, this]
    · have : a.testBit i = false := Nat.testBit_lt_two_pow (Nat.lt_of_lt_of_le ha (Nat.pow_le_pow_right (by decide) (by omega)))
      simp [hi, this]
  · simp [hi]

theorem andNot_mask (p m : Int) (j : Nat) (hj : j ≤ 64) (hm : m = 2 ^ j - 1) (h0 : 0 ≤ p) (h1 : p < 18446744073709551616) : bits .andNot .u64 p m = p - p % 2 ^ j := by
  obtain ⟨a, rfl⟩ := Int.eq_ofNat_of_zero_le h0
  have h2 : 0 < 2 ^ j := Nat.two_pow_pos j
  have h3 : 2 ^ j ≤ 2 ^ 64 := Nat.pow_le_pow_right (by decide) hj
  have hm' : m = ((2 ^ j - 1 : Nat) : Int) := by rw [hm, Int.natCast_sub h2]; simp
  rw [hm', u64_andNot_nat a (2 ^ j - 1) (by omega) (by omega), and_high a j hj (by omega), Int.natCast_sub (Nat.mod_le _ _)]
  simp

theorem pow_nat (n : Nat) : ((2 : Int) ^ n) = ((2 ^ n : Nat) : Int) := by simp

/-- The arithmetic, the powers under names: 'A' the template's unit, 'p = h * 256 * A + c * A + L'. -/
theorem turn_arith (p t A q L h c X cA tA dA d : Int) (hp1 : p < 18446744073709551616) (ht0 : 0 ≤ t) (ht1 : t ≤ 255) (hA : 1 ≤ A) (hA2 : 256 * A ≤ 18446744073709551616)
    (hq : q = 256 * h + c) (hc0 : 0 ≤ c) (hc1 : c ≤ 255) (hp : p = X + cA + L) (hL0 : 0 ≤ L) (hL1 : L < A) (hX0 : 0 ≤ X) (hX1 : X + 256 * A ≤ 18446744073709551616)
    (hcA0 : 0 ≤ cA) (hcA1 : cA + A ≤ 256 * A) (htA0 : 0 ≤ tA) (htA1 : tA + A ≤ 256 * A) (hlt : t < c → tA + A ≤ cA) (hgt : c < t → cA + A ≤ tA)
    (hd : d = (t - q) % 256) (hdA1 : c ≤ t → dA = tA - cA) (hdA2 : t < c → dA = tA - cA + 256 * A) :
    (if d = 0 then p else (X + cA + dA % 18446744073709551616) % 18446744073709551616) =
      if c = t then p else if X + tA < p then (X + tA + 256 * A % 18446744073709551616) % 18446744073709551616 else X + tA := by
  by_cases e : c = t
  · rw [if_pos e, if_pos (by omega)]
  · rw [if_neg e, if_neg (by omega)]
    by_cases hl : t < c
    · have h1 := hlt hl
      have h2 := hdA2 hl
      rw [if_pos (by omega)]
      subst h2
      omega
    · have h1 := hgt (by omega)
      have h2 := hdA1 (by omega)
      rw [if_neg (by omega)]
      subst h2
      omega

theorem turn_same (p t k : Int) (h0 : 0 ≤ p) (h1 : p < 18446744073709551616) (ht0 : 0 ≤ t) (ht1 : t ≤ 255) (hk0 : 0 ≤ k) (hk1 : k ≤ 56) : nt p t k = ft p t k := by
  obtain ⟨K, rfl⟩ := Int.eq_ofNat_of_zero_le hk0
  have hK : K ≤ 56 := by omega
  have e1 : min ((K : Int)).toNat 64 = K := by simp; omega
  have e2 : min (((K : Int) + 8) % 256).toNat 64 = K + 8 := by
    have : (((K : Int) + 8) % 256).toNat = K + 8 := by omega
    rw [this]; omega
  -- the powers
  have hA0 : (1 : Int) ≤ 2 ^ K := by
    rw [pow_nat]; have := Nat.two_pow_pos K; omega
  have hB : (2 : Int) ^ (K + 8) = 256 * 2 ^ K := by rw [Int.pow_add]; omega
  have hA2 : (256 : Int) * 2 ^ K * 2 ^ (56 - K) = 18446744073709551616 := by
    rw [← hB, ← Int.pow_add, show K + 8 + (56 - K) = 64 by omega]; rfl
  have hD0 : (1 : Int) ≤ 2 ^ (56 - K) := by
    rw [pow_nat]; have := Nat.two_pow_pos (56 - K); omega
  have hA3 : (256 : Int) * 2 ^ K ≤ 18446744073709551616 := by
    rw [← hA2]
    have := Int.mul_le_mul_of_nonneg_left hD0 (show (0 : Int) ≤ 256 * 2 ^ K by omega)
    omega
  have hw1 : IntKind.u64.wrap (IntKind.u64.wrap (2 ^ K) - 1) = 2 ^ K - 1 := by
    rw [IntKind.wrap_u64, IntKind.wrap_u64]; omega
  have hw2 : IntKind.u64.wrap (ftWin K - 1) = 2 ^ (K + 8) - 1 := by
    unfold ftWin
    rw [e2, IntKind.wrap_u64, IntKind.wrap_u64, hB]; omega
  have hn1 := andNot_mask p (2 ^ K - 1) K (by omega) rfl h0 h1
  have hn2 := andNot_mask p (2 ^ (K + 8) - 1) (K + 8) (by omega) rfl h0 h1
  -- the parts of p
  have hq0 : 0 ≤ p / 2 ^ K := Int.ediv_nonneg h0 (by omega)
  have hpq : p = p / 2 ^ K * 2 ^ K + p % 2 ^ K := by have := Int.mul_ediv_add_emod p (2 ^ K); rw [Int.mul_comm] at this; omega
  have hL : 0 ≤ p % 2 ^ K ∧ p % 2 ^ K < 2 ^ K := ⟨Int.emod_nonneg _ (by omega), Int.emod_lt_of_pos _ (by omega)⟩
  have hqq : p / 2 ^ K = 256 * (p / 2 ^ K / 256) + p / 2 ^ K % 256 := by omega
  have hc : 0 ≤ p / 2 ^ K % 256 ∧ p / 2 ^ K % 256 ≤ 255 := by omega
  have hh0 : 0 ≤ p / 2 ^ K / 256 := by omega
  unfold nt ft ftNow ntD
  rw [e1, hw1, hw2, hn1, hn2]
  have hwt : IntKind.u64.wrap t = t := by rw [IntKind.wrap_u64]; omega
  rw [hwt]
  unfold ftWin
  rw [e2, hB]
  generalize hA : (2 : Int) ^ K = A at *
  generalize hqd : p / A = q at *
  generalize hLd : p % A = L at *
  generalize hcd : q % 256 = c at *
  generalize hhd : q / 256 = h at *
  -- products
  have hX : q * A = h * (256 * A) + c * A := by
    have e : q = h * 256 + c := by omega
    rw [e, Int.add_mul, Int.mul_assoc]
  have hcA0 : 0 ≤ c * A := Int.mul_nonneg hc.1 (by omega)
  have hcA1 : c * A + A ≤ 256 * A := by
    have := Int.mul_le_mul_of_nonneg_right (show c + 1 ≤ 256 by omega) (show 0 ≤ A by omega)
    rw [Int.add_mul] at this; omega
  have htA0 : 0 ≤ t * A := Int.mul_nonneg ht0 (by omega)
  have htA1 : t * A + A ≤ 256 * A := by
    have := Int.mul_le_mul_of_nonneg_right (show t + 1 ≤ 256 by omega) (show 0 ≤ A by omega)
    rw [Int.add_mul] at this; omega
  have hX0 : 0 ≤ h * (256 * A) := Int.mul_nonneg hh0 (by omega)
  have hhlt : h < 2 ^ (56 - K) := by
    refine Int.not_le.1 fun hge => ?_
    have := Int.mul_le_mul_of_nonneg_left hge (show (0 : Int) ≤ 256 * A by omega)
    rw [hA2, Int.mul_comm] at this
    omega
  have hX1 : h * (256 * A) + 256 * A ≤ 18446744073709551616 := by
    have := Int.mul_le_mul_of_nonneg_left (show h + 1 ≤ 2 ^ (56 - K) by omega) (show (0 : Int) ≤ 256 * A by omega)
    rw [hA2, Int.mul_add, Int.mul_comm] at this
    omega
  have hm : p % (256 * A) = c * A + L := by
    have e : p = c * A + L + h * (256 * A) := by omega
    rw [e, Int.add_mul_emod_self_right]
    exact Int.emod_eq_of_lt (by omega) (by omega)
  rw [hm]
  have hwtA : IntKind.u64.wrap (t * A) = t * A := by rw [IntKind.wrap_u64]; omega
  rw [hwtA]
  have hpm : p - (c * A + L) = h * (256 * A) := by omega
  have hpL : p - L = h * (256 * A) + c * A := by omega
  rw [hpm, hpL]
  have hor : bits BinOp.or IntKind.u64 (h * (256 * A)) (t * A) = h * (256 * A) + t * A := by
    refine bits_join .u64 64 (by decide) wraps_u64 (K + 8) _ _ hX0 ?_ (by omega) htA0 ?_ (by omega)
    · rw [hB]; exact Int.mul_emod_left _ _
    · rw [hB]; omega
  rw [hor]
  simp only [IntKind.wrap_u64]
  have hlt : t < c → t * A + A ≤ c * A := fun hl => by
    have := Int.mul_le_mul_of_nonneg_right (show t + 1 ≤ c by omega) (show 0 ≤ A by omega)
    rw [Int.add_mul] at this; omega
  have hgt : c < t → c * A + A ≤ t * A := fun hl => by
    have := Int.mul_le_mul_of_nonneg_right (show c + 1 ≤ t by omega) (show 0 ≤ A by omega)
    rw [Int.add_mul] at this; omega
  exact turn_arith p t A q L h c (h * (256 * A)) (c * A) (t * A) ((t - q) % 256 * A) ((t - q) % 256) h1 ht0 ht1 hA0 hA3 (by omega) hc.1 hc.2 (by omega) hL.1 hL.2 hX0 hX1 hcA0 hcA1 htA0 htA1 hlt hgt rfl
    (fun hl => by rw [show (t - q) % 256 = t - c by omega, Int.sub_mul]) (fun hl => by rw [show (t - q) % 256 = t - c + 256 by omega, Int.add_mul, Int.sub_mul])
end Go.Proofs.Qxb6625842a
