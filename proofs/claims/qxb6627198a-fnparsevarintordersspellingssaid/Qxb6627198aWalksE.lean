/-
  THE WALKS of seat b6627198a, fifth part: zzShapeRight, zzCompareSpellings, the bound on two lengths.
-/
import Derived.Test.Qxb6627198aWalksD
import Derived.Deep.QuietTactic
import Derived.BigQuiet
namespace Go.Proofs.Qxb6627198a
open Go.ChangeShapes Go.WideShapes Go.ChangeAt Go.RowKit Plain
set_option linter.unusedVariables false

set_option maxHeartbeats 1000000 in
theorem shape_any (a : Option Addr) (n c : Nat) (zs : List Int) (w : World) (hs : Seg w a n zs) (v s : Int) (ok : Bool) (h : PV zs n v s ok) :
    Calls Try.prog 9 #[.slice a n c, .int .u64 v, .int .i64 s, .bool ok] w fun e w' => e = .returned (.bool true) ∧ w' = w := by
  have hn := hs.2.1
  have HS : Hid (Seg w a n zs) := hs
  clear hs
  rcases h with ⟨ha, rfl, rfl, rfl⟩ | ⟨t, ht, h1, h2, ⟨hM, rfl, rfl, rfl⟩ | ⟨hM, rfl, rfl, rfl⟩⟩
  · have HA : Hid (∀ i, i < n → 128 ≤ zs.getD i 0) := ha
    clear ha
    go_enter Try.func9, Try.ntmps9
    go_wp2_with (go_at_call 11; refine (fe_none _ _ _ zs _ HS.out HA.out).mono ?_; rintro e w' ⟨rfl, rfl⟩)
    go_ret
    exact ⟨rfl, rfl⟩
  · have H1 : Hid (zs.getD t 0 < 128) := h1
    have H2 : Hid (∀ i, i < t → 128 ≤ zs.getD i 0) := h2
    clear h1 h2 hM
    generalize M zs (t + 1) = m
    go_enter Try.func9, Try.ntmps9
    go_wp2_with (go_at_call 11; refine (fe_some _ _ _ zs _ HS.out t ht H1.out H2.out).mono ?_; rintro e w' ⟨rfl, rfl⟩)
    go_ret
    exact ⟨rfl, rfl⟩
  · have ht8 : 8 ≤ t := by
      refine Nat.le_of_not_lt fun hlt => ?_
      have := M_short zs t (by omega)
      omega
    have H1 : Hid (zs.getD t 0 < 128) := h1
    have H2 : Hid (∀ i, i < t → 128 ≤ zs.getD i 0) := h2
    clear h1 h2 hM
    have h8 : (8 : Int) ≤ (t : Int) := by omega
    go_enter Try.func9, Try.ntmps9
    go_wp2_with (go_at_call 11; refine (fe_some _ _ _ zs _ HS.out t ht H1.out H2.out).mono ?_; rintro e w' ⟨rfl, rfl⟩)
    go_ret
    exact ⟨rfl, rfl⟩

set_option maxHeartbeats 1000000 in
theorem cmp_shorter (a b : Option Addr) (n c m d : Nat) (w : World) (h : n < m) :
    Calls Try.prog 10 #[.slice a n c, .slice b m d] w fun e w' => e = .returned (.int .i64 (-1)) ∧ w' = w := by
  have h1 : (n : Int) < (m : Int) := by omega
  go_enter Try.func10, Try.ntmps10
  go_wp2
  go_ret
  exact ⟨rfl, rfl⟩
set_option maxHeartbeats 1000000 in
theorem cmp_longer (a b : Option Addr) (n c m d : Nat) (w : World) (h : m < n) :
    Calls Try.prog 10 #[.slice a n c, .slice b m d] w fun e w' => e = .returned (.int .i64 1) ∧ w' = w := by
  have h1 : (m : Int) < (n : Int) := by omega
  have h2 : ¬ (n : Int) < (m : Int) := by omega
  go_enter Try.func10, Try.ntmps10
  go_wp2
  go_ret
  exact ⟨rfl, rfl⟩

/-- How two rows of n bytes compare. -/
def CMP (xs ys : List Int) (n : Nat) (r : Int) : Prop :=
  ((∀ j, j < n → xs.getD j 0 = ys.getD j 0) ∧ r = 0) ∨ ∃ k, k < n ∧ (∀ j, j < k → xs.getD j 0 = ys.getD j 0) ∧ ((xs.getD k 0 < ys.getD k 0 ∧ r = -1) ∨ (ys.getD k 0 < xs.getD k 0 ∧ r = 1))

theorem cmp_exists (xs ys : List Int) (n : Nat) : ∃ r, CMP xs ys n r := by
  have : (∀ j, j < n → xs.getD j 0 = ys.getD j 0) ∨ ∃ k, k < n ∧ (∀ j, j < k → xs.getD j 0 = ys.getD j 0) ∧ xs.getD k 0 ≠ ys.getD k 0 := by
    induction n with
    | zero => exact .inl fun j hj => by omega
    | succ n ih =>
      rcases ih with h | ⟨k, hk, h1, h2⟩
      · by_cases e : xs.getD n 0 = ys.getD n 0
        · refine .inl fun j hj => ?_
          by_cases hj' : j = n
          · subst hj'; exact e
          · exact h j (by omega)
        · exact .inr ⟨n, by omega, h, e⟩
      · exact .inr ⟨k, by omega, h1, h2⟩
  rcases this with h | ⟨k, hk, h1, h2⟩
  · exact ⟨0, .inl ⟨h, rfl⟩⟩
  · by_cases hlt : xs.getD k 0 < ys.getD k 0
    · exact ⟨-1, .inr ⟨k, hk, h1, .inl ⟨hlt, rfl⟩⟩⟩
    · exact ⟨1, .inr ⟨k, hk, h1, .inr ⟨by omega, rfl⟩⟩⟩

set_option maxHeartbeats 2000000 in
theorem cmp_same (b o b' o' : Nat) (n c d : Nat) (xs ys : List Int) (w : World) (hn : n ≤ 65536)
    (hx : ∀ i, i < n → w.cell? ⟨b, o + i, none⟩ = some (.int .u8 (xs.getD i 0))) (hy : ∀ i, i < n → w.cell? ⟨b', o' + i, none⟩ = some (.int .u8 (ys.getD i 0)))
    (r : Int) (h : CMP xs ys n r) :
    Calls Try.prog 10 #[.slice (some ⟨b, o, none⟩) n c, .slice (some ⟨b', o', none⟩) n d] w fun e w' => e = .returned (.int .i64 r) ∧ ∃ q, w' = w.drewN q := by
  have HX : Hid (∀ i, i < n → w.cell? ⟨b, o + i, none⟩ = some (.int .u8 (xs.getD i 0))) := hx
  have HY : Hid (∀ i, i < n → w.cell? ⟨b', o' + i, none⟩ = some (.int .u8 (ys.getD i 0))) := hy
  have HC : Hid (CMP xs ys n r) := h
  clear hx hy h
  go_enter Try.func10, Try.ntmps10
  go_wp2
  go_loopw [5] (fun i wr => ∃ k q : Nat, k ≤ n ∧ wr = w.drewN q ∧ i = .int .i64 k ∧ Hid (∀ j, j < k → xs.getD j 0 = ys.getD j 0)) (fun i _ => n - (intOf i).toNat)
  case atStart => exact ⟨0, 0, Nat.zero_le _, rfl, rfl, fun j hj => by omega⟩
  case round =>
    obtain ⟨k, q, hk, rfl, rfl, HE⟩ := hrel
    by_cases hlt : k < n
    · have hlt' : (k : Int) < (n : Int) := by omega
      have hx := HX.out k hlt
      have hy := HY.out k hlt
      obtain ⟨x, HXK⟩ : ∃ x, Hid (xs.getD k 0 = x) := ⟨_, rfl⟩
      obtain ⟨y, HYK⟩ : ∃ y, Hid (ys.getD k 0 = y) := ⟨_, rfl⟩
      rw [HXK.out] at hx
      rw [HYK.out] at hy
      by_cases h1 : x < y
      · have hr : r = -1 := by
          rcases HC.out with ⟨h, rfl⟩ | ⟨k', hk', hb, ⟨hl, rfl⟩ | ⟨hg, rfl⟩⟩
          · have := h k hlt; rw [HXK.out, HYK.out] at this; omega
          · rfl
          · have e : k' = k := by
              refine Nat.le_antisymm (Nat.le_of_not_lt fun h => ?_) (Nat.le_of_not_lt fun h => ?_)
              · have := hb k h; rw [HXK.out, HYK.out] at this; omega
              · have := HE.out k' h; omega
            subst e; rw [HXK.out, HYK.out] at hg; omega
        subst hr
        go_wp2
        go_quiet (fail)
        go_wp2
        go_ret
        refine ⟨rfl, ?_⟩
        simp only [World.drewN_drewN]
        exact ⟨_, rfl⟩
      · by_cases h2 : y < x
        · have hr : r = 1 := by
            rcases HC.out with ⟨h, rfl⟩ | ⟨k', hk', hb, ⟨hl, rfl⟩ | ⟨hg, rfl⟩⟩
            · have := h k hlt; rw [HXK.out, HYK.out] at this; omega
            · have e : k' = k := by
                refine Nat.le_antisymm (Nat.le_of_not_lt fun h => ?_) (Nat.le_of_not_lt fun h => ?_)
                · have := hb k h; rw [HXK.out, HYK.out] at this; omega
                · have := HE.out k' h; omega
              subst e; rw [HXK.out, HYK.out] at hl; omega
            · rfl
          subst hr
          go_wp2
          go_quiet (fail)
          go_wp2
          go_quiet (fail)
          go_wp2
          go_ret
          refine ⟨rfl, ?_⟩
          simp only [World.drewN_drewN]
          exact ⟨_, rfl⟩
        · have HN : Hid (∀ j, j < k + 1 → xs.getD j 0 = ys.getD j 0) := by
            intro j hj
            by_cases e : j = k
            · subst e; rw [HXK.out, HYK.out]; omega
            · exact HE.out j (by omega)
          go_wp2
          go_quiet (fail)
          go_wp2
          go_quiet (fail)
          go_wp2
          go_roundw
          case rel => exact ⟨k + 1, _, by omega, rfl, by go_num, HN⟩
          case measure => simp [intOf]; omega
    · have hr : r = 0 := by
        rcases HC.out with ⟨h, rfl⟩ | ⟨k', hk', hb, hc⟩
        · rfl
        · have := HE.out k' (by omega); omega
      subst hr
      go_wp2
      go_ret
      exact ⟨rfl, _, rfl⟩

set_option maxHeartbeats 1000000 in
theorem bytes8_any (a b : Option Addr) (n c m d : Nat) (w : World) (hn : n ≤ maxLen) (hm : m ≤ maxLen) :
    Calls Try.prog 8 #[.slice a n c, .slice b m d] w fun e w' => e = .returned (.bool (decide (n + m ≤ 1048576))) ∧ w' = w := by
  unfold maxLen at hn hm
  by_cases h : n + m ≤ 1048576
  · rw [decide_eq_true h]
    go_enter Try.func8, Try.ntmps8
    go_wp2
    go_ret
    exact ⟨rfl, rfl⟩
  · rw [decide_eq_false h]
    by_cases h1 : 1048576 < n
    · have h1' : (1048576 : Int) < (n : Int) := by omega
      go_enter Try.func8, Try.ntmps8
      go_wp2
      go_ret
      exact ⟨rfl, rfl⟩
    · by_cases h2 : 1048576 < m
      · go_enter Try.func8, Try.ntmps8
        go_wp2
        go_ret
        exact ⟨rfl, rfl⟩
      · go_enter Try.func8, Try.ntmps8
        go_wp2
        go_ret
        exact ⟨rfl, rfl⟩
end Go.Proofs.Qxb6627198a
