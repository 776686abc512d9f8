/-
  THE WALKS of seat b6627198a, third part: zzModelVarint.
-/
import Derived.Test.Qxb6627198aWalksB
namespace Go.Proofs.Qxb6627198a
open Go.ChangeShapes Go.WideShapes Go.ChangeAt Go.RowKit Plain
set_option linter.unusedVariables false

theorem pv_det {zs : List Int} {n : Nat} {v v' s s' : Int} {o o' : Bool} (h : PV zs n v s o) (h' : PV zs n v' s' o') : v = v' ∧ s = s' ∧ o = o' := by
  rcases h with ⟨ha, rfl, rfl, rfl⟩ | ⟨t, ht, h1, h2, hx⟩
  · rcases h' with ⟨_, rfl, rfl, rfl⟩ | ⟨t', ht', h1', _, _⟩
    · exact ⟨rfl, rfl, rfl⟩
    · have := ha t' ht'; omega
  · rcases h' with ⟨ha, _, _, _⟩ | ⟨t', ht', h1', h2', hy⟩
    · have := ha t ht; omega
    · have e : t = t' := by
        refine Nat.le_antisymm (Nat.le_of_not_lt fun h => ?_) (Nat.le_of_not_lt fun h => ?_)
        · have := h2 t' h; omega
        · have := h2' t h; omega
      subst e
      rcases hx with ⟨b, rfl, rfl, rfl⟩ | ⟨b, rfl, rfl, rfl⟩ <;> rcases hy with ⟨b', rfl, rfl, rfl⟩ | ⟨b', rfl, rfl, rfl⟩
      · exact ⟨rfl, rfl, rfl⟩
      · omega
      · omega
      · exact ⟨rfl, rfl, rfl⟩

theorem pvend_over {zs : List Int} {n t : Nat} (ht : t < n) (h1 : zs.getD t 0 < 128) (h : ∀ i, i < t → 128 ≤ zs.getD i 0) (hm : 9223372036854775807 < M zs (t + 1)) :
    PVEnd zs n (.returned (.tuple #[.int .u64 0, .int .i64 0, .bool false])) :=
  ⟨_, _, _, rfl, .inr ⟨t, ht, h1, h, .inr ⟨hm, rfl, rfl, rfl⟩⟩⟩

set_option maxHeartbeats 1000000 in
theorem model_none (a : Option Addr) (n c : Nat) (zs : List Int) (w : World) (hs : Seg w a n zs) (h : ∀ i, i < n → 128 ≤ zs.getD i 0) :
    Calls Try.prog 6 #[.slice a n c] w fun e w' => PVEnd zs n e ∧ w' = w := by
  have HS : Hid (Seg w a n zs) := hs
  have HB : Hid (∀ i, i < n → 128 ≤ zs.getD i 0) := h
  clear hs h
  go_enter Try.func6, Try.ntmps6
  go_wp2_with (go_at_call 11; refine (fe_none a n c zs w HS.out HB.out).mono ?_; rintro e w' ⟨rfl, rfl⟩)
  go_ret3
  exact ⟨pvend_none HB.out, rfl⟩

set_option maxHeartbeats 1000000 in
theorem model_long (a : Option Addr) (n c : Nat) (zs : List Int) (w : World) (hs : Seg w a n zs) (t : Nat) (ht : t < n) (h1 : zs.getD t 0 < 128) (h : ∀ i, i < t → 128 ≤ zs.getD i 0) (h9 : 9 ≤ t) :
    Calls Try.prog 6 #[.slice a n c] w fun e w' => PVEnd zs n e ∧ w' = w := by
  have hn := hs.2.1
  have HS : Hid (Seg w a n zs) := hs
  have HB : Hid (∀ i, i < t → 128 ≤ zs.getD i 0) := h
  have H1 : Hid (zs.getD t 0 < 128) := h1
  clear hs h h1
  go_enter Try.func6, Try.ntmps6
  go_wp2_with (go_at_call 11; refine (fe_some a n c zs w HS.out t ht H1.out HB.out).mono ?_; rintro e w' ⟨rfl, rfl⟩)
  go_ret3
  exact ⟨pvend_over ht H1.out HB.out (M_long zs t h9), rfl⟩

set_option maxHeartbeats 2000000 in
theorem model_short (b o : Nat) (n c : Nat) (zs : List Int) (w : World) (hs : Seg w (some ⟨b, o, none⟩) n zs) (hc : ∀ i, i < n → w.cell? ⟨b, o + i, none⟩ = some (.int .u8 (zs.getD i 0))) (t : Nat) (ht : t < n) (h1 : zs.getD t 0 < 128) (h : ∀ i, i < t → 128 ≤ zs.getD i 0) (h9 : t ≤ 8) :
    Calls Try.prog 6 #[.slice (some ⟨b, o, none⟩) n c] w fun e w' => PVEnd zs n e ∧ w' = w := by
  have hn := hs.2.1
  have hz := hs.2.2.1
  have HS : Hid (Seg w (some ⟨b, o, none⟩) n zs) := hs
  have HB : Hid (∀ i, i < t → 128 ≤ zs.getD i 0) := h
  have H1 : Hid (zs.getD t 0 < 128) := h1
  have HZ : Hid (∀ i, 0 ≤ zs.getD i 0 ∧ zs.getD i 0 ≤ 255) := hz
  have HC : Hid (∀ i, i < n → w.cell? ⟨b, o + i, none⟩ = some (.int .u8 (zs.getD i 0))) := hc
  clear hs h h1 hz hc
  go_enter Try.func6, Try.ntmps6
  go_wp2_with (go_at_call 11; refine (fe_some _ n c zs w HS.out t ht H1.out HB.out).mono ?_; rintro e w' ⟨rfl, rfl⟩)
  go_loop [7, 8, 9] (fun f p i => ∃ k : Nat, k ≤ t ∧ i = .int .i64 ((k : Int) + 1) ∧ f = .int .u64 (O k) ∧ p = .int .u64 (128 ^ k)) (fun _ _ i => t + 1 - (intOf i).toNat)
  case atStart => exact ⟨0, Nat.zero_le _, rfl, rfl, rfl⟩
  case round =>
    obtain ⟨k, hk, rfl, rfl, rfl⟩ := hrel
    by_cases hlt : k < t
    · have b1 := O_bd k (by omega)
      have b2 := pow_bd k (by omega)
      have b3 := pow_bd (k + 1) (by omega)
      have e1 : (128 : Int) ^ (k + 1) = 128 ^ k * 128 := Int.pow_succ _ _
      have E2 : Hid (O (k + 1) = O k + 128 ^ (k + 1)) := rfl
      obtain ⟨f, HF⟩ : ∃ f, Hid (O k = f) := ⟨_, rfl⟩
      obtain ⟨p, HP⟩ : ∃ p : Int, Hid (128 ^ k = p) := ⟨_, rfl⟩
      rw [HP.out] at e1 b2 ⊢
      rw [HF.out] at b1 ⊢
      rw [e1] at b3
      have E1 : Hid ((128 : Int) ^ (k + 1) = p * 128) := e1
      clear e1
      have f1 : IntKind.u64.wrap (p * 128) = p * 128 := by rw [IntKind.wrap_u64]; omega
      have f2 : IntKind.u64.wrap (f + p * 128) = f + p * 128 := by rw [IntKind.wrap_u64]; omega
      go_wp2
      go_round
      case rel => exact ⟨k + 1, by omega, by go_num, by rw [E2.out, HF.out, E1.out], by rw [E1.out]⟩
      case measure => simp [intOf]; omega
    · obtain rfl : k = t := by omega
      go_wp2
      go_loop [10, 11] (fun d i => ∃ j : Nat, j ≤ k + 1 ∧ i = .int .i64 j ∧ d = .int .u64 (E zs j)) (fun _ i => k + 1 - (intOf i).toNat)
      case atStart => exact ⟨0, Nat.zero_le _, rfl, rfl⟩
      case round =>
        obtain ⟨j, hj, rfl, rfl⟩ := hrel
        by_cases hjt : j < k + 1
        · have b1 := E_bd zs j (by omega)
          have hck := HC.out j (by omega)
          have hzj := HZ.out j
          have E2 : Hid (E zs (j + 1) = E zs j * 128 + zs.getD j 0 % 128) := rfl
          obtain ⟨d, HD⟩ : ∃ d, Hid (E zs j = d) := ⟨_, rfl⟩
          obtain ⟨z, HZ⟩ : ∃ z, Hid (zs.getD j 0 = z) := ⟨_, rfl⟩
          rw [HZ.out] at hck hzj
          rw [HD.out] at b1 ⊢
          obtain ⟨hz0, hz1⟩ := hzj
          have e1 : bits .and .u8 z 127 = z % 128 := u8_and127 z hz0 (by omega)
          have e2 : IntKind.u64.wrap (z % 128) = z % 128 := by rw [IntKind.wrap_u64]; omega
          have f1 : IntKind.u64.wrap (d * 128) = d * 128 := by rw [IntKind.wrap_u64]; omega
          have f2 : IntKind.u64.wrap (d * 128 + z % 128) = d * 128 + z % 128 := by rw [IntKind.wrap_u64]; omega
          have hjn : (j : Int) < (n : Int) := by omega
          go_wp2
          go_round
          case rel => exact ⟨j + 1, by omega, by go_num, by rw [E2.out, HD.out, HZ.out]⟩
          case measure => simp [intOf]; omega
        · obtain rfl : j = k + 1 := by omega
          have b1 := E_bd9 zs (k + 1) (by omega)
          have b2 := O_bd k h9
          have EM := M_eq zs k
          obtain ⟨d, HD⟩ : ∃ d, Hid (E zs (k + 1) = d) := ⟨_, rfl⟩
          obtain ⟨f, HF⟩ : ∃ f, Hid (O k = f) := ⟨_, rfl⟩
          rw [HD.out] at b1 EM ⊢
          rw [HF.out] at b2 EM ⊢
          have HE : Hid (M zs (k + 1) = f + d) := EM
          clear EM
          have f2 : IntKind.u64.wrap (f + d) = f + d := by rw [IntKind.wrap_u64]; omega
          by_cases hbig : 9223372036854775807 < f + d
          · go_wp2
            go_ret3
            exact ⟨pvend_over ht H1.out HB.out (by rw [HE.out]; exact hbig), rfl⟩
          · go_wp2
            go_ret3
            exact ⟨pvend_found ht H1.out HB.out (by rw [HE.out]; omega) HE.out.symm rfl, rfl⟩

theorem model_any (a : Option Addr) (n c : Nat) (zs : List Int) (w : World) (hs : Seg w a n zs) :
    Calls Try.prog 6 #[.slice a n c] w fun e w' => PVEnd zs n e ∧ w' = w := by
  rcases first_end zs n with h | ⟨t, ht, h1, h⟩
  · exact model_none a n c zs w hs h
  · by_cases h9 : 9 ≤ t
    · exact model_long a n c zs w hs t ht h1 h h9
    · have hs' := hs
      obtain ⟨_, _, _, ⟨rfl, rfl⟩ | ⟨b, o, rfl, hc⟩⟩ := hs'
      · omega
      · exact model_short b o n c zs w hs hc t ht h1 h (by omega)

theorem pv_as (a : Option Addr) (n c : Nat) (zs : List Int) (w : World) (hs : Seg w a n zs) {v s : Int} {ok : Bool} (h : PV zs n v s ok) :
    Calls Try.prog 7 #[.slice a n c] w fun e w' => e = .returned (.tuple #[.int .u64 v, .int .i64 s, .bool ok]) ∧ w' = w :=
  (pv_any a n c zs w hs).mono fun e w' ⟨⟨v', s', o', he, hp⟩, hw⟩ => by
    obtain ⟨rfl, rfl, rfl⟩ := pv_det h hp
    exact ⟨he, hw⟩
end Go.Proofs.Qxb6627198a
