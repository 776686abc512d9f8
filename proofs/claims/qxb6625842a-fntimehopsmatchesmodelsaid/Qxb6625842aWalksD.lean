/-
  THE WALKS of seat b6625842a, fourth part: (*Templates).Of, ZZnewTemplates, usedSlots.
-/
import Derived.Test.Qxb6625842aWalksC
namespace Go.Proofs.Qxb6625842a
open Go.ChangeShapes Go.WideShapes Go.ChangeAt Go.RowKit
set_option linter.unusedVariables false

/-- The map, as a function: what 'v, ok := m[k]' gives. -/
def MV (m : Option Nat) (f : Int → Int × Bool) (w : World) : Prop :=
  ∀ k, 0 ≤ k → k ≤ 65535 → (Instr.lookup 24 (.map m) (.int .u16 k) true).run Try.prog w = .ok (.tuple #[.int .u8 (f k).1, .bool (f k).2]) w

/-- The template of an interface. -/
def T (f : Int → Int × Bool) (all : Int) (hasAll : Bool) (k : Int) : Int × Bool := if (f k).2 then ((f k).1, true) else (all, hasAll)

set_option maxHeartbeats 1000000 in
theorem of_any (tb : Nat) (m : Option Nat) (f : Int → Int × Bool) (all : Int) (hasAll : Bool) (k : Int) (w : World) (hk0 : 0 ≤ k) (hk1 : k ≤ 65535) (hm : MV m f w)
    (h0 : w.cell? ⟨tb, 0, none⟩ = some (.int .u8 all)) (h1 : w.cell? ⟨tb, 1, none⟩ = some (.bool hasAll)) (h2 : w.cell? ⟨tb, 2, none⟩ = some (.map m)) :
    Calls Try.prog 15 #[.pointer (some ⟨tb, 0, none⟩), .int .u16 k] w fun e w' => e = .returned (.tuple #[.int .u8 (T f all hasAll k).1, .bool (T f all hasAll k).2]) ∧ Below w.heap.size w w' := by
  have hl := hm k hk0 hk1
  have hT : T f all hasAll k = if (f k).2 then ((f k).1, true) else (all, hasAll) := rfl
  clear hm
  generalize T f all hasAll k = tk at hT ⊢
  generalize f k = v at hl hT
  obtain ⟨v, ok⟩ := v
  cases ok
  · rw [if_neg (by simp)] at hT
    subst hT
    go_enter Try.func15, Try.ntmps15
    go_wp2
    go_quiet (fail)
    go_wp2
    go_ret2
    exact ⟨rfl, below_draws (Below.refl _ _) _⟩
  · rw [if_pos rfl] at hT
    subst hT
    go_enter Try.func15, Try.ntmps15
    go_wp2
    go_ret2
    exact ⟨rfl, Below.refl _ _⟩

set_option maxHeartbeats 1000000 in
theorem newT_any (all : Int) (hasAll : Bool) (m : Option Nat) (w : World) :
    Calls Try.prog 9 #[.int .u8 all, .bool hasAll, .map m] w fun e w' => e = .returned (.pointer (some ⟨w.heap.size, 0, none⟩)) ∧ w' = w.alloc (.cells #[.int .u8 all, .bool hasAll, .map m] 53) := by
  go_enter Try.func9, Try.ntmps9
  go_wp2
  go_ret
  exact ⟨rfl, rfl⟩

/-! ### the slots -/
def SZ (zs : List Int) (j : Nat) : Prop := zs.getD (3 * j) 0 = 0 ∧ zs.getD (3 * j + 1) 0 = 0 ∧ zs.getD (3 * j + 2) 0 = 0
/-- Of the first N slots, u is the number up to the last that is not all zero. -/
def US (zs : List Int) (N u : Nat) : Prop := u ≤ N ∧ (∀ j, u ≤ j → j < N → SZ zs j) ∧ (0 < u → ¬ SZ zs (u - 1))
theorem us_unique {zs : List Int} {N u v : Nat} (h : US zs N u) (h' : US zs N v) : u = v := by
  obtain ⟨h1, h2, h3⟩ := h
  obtain ⟨k1, k2, k3⟩ := h'
  refine Nat.le_antisymm (Nat.le_of_not_lt fun hlt => ?_) (Nat.le_of_not_lt fun hlt => ?_)
  · exact h3 (by omega) (k2 (u - 1) (by omega) (by omega))
  · exact k3 (by omega) (h2 (v - 1) (by omega) (by omega))
theorem us_zero (zs : List Int) : US zs 0 0 := ⟨by omega, fun j _ h => by omega, fun h => by omega⟩
theorem us_hit {zs : List Int} {k : Nat} (h : ¬ SZ zs k) : US zs (k + 1) (k + 1) := ⟨by omega, fun j h1 h2 => by omega, fun _ => h⟩
theorem us_miss {zs : List Int} {k v : Nat} (hu : US zs k v) (h : SZ zs k) : US zs (k + 1) v := by
  obtain ⟨h1, h2, h3⟩ := hu
  refine ⟨by omega, fun j hj1 hj2 => ?_, h3⟩
  by_cases e : j = k
  · subst e; exact h
  · exact h2 j hj1 (by omega)
theorem us_exists (zs : List Int) (N : Nat) : ∃ u, US zs N u := by
  induction N with
  | zero => exact ⟨0, us_zero zs⟩
  | succ N ih =>
    obtain ⟨v, hv⟩ := ih
    by_cases h : SZ zs N
    · exact ⟨v, us_miss hv h⟩
    · exact ⟨N + 1, us_hit h⟩

/-- What the walks are told of the data: its elements are 'zs'. -/
def Seg (w : World) (a : Option Addr) (n : Nat) (zs : List Int) : Prop :=
  zs.length = n ∧ n ≤ 1048576 ∧ (∀ i, 0 ≤ zs.getD i 0 ∧ zs.getD i 0 ≤ 255) ∧ (n = 0 ∨ ∃ b o, a = some ⟨b, o, none⟩ ∧ ∀ i, i < n → w.cell? ⟨b, o + i, none⟩ = some (.int .u8 (zs.getD i 0)))

/-- The number of used slots. -/
def UO (decoded : Bool) (kind : Int) (zs : List Int) (n u : Nat) : Prop := (decoded = true ∧ kind = 1 ∧ US zs (n / 3) u) ∨ ((decoded = false ∨ kind ≠ 1) ∧ u = 0)

set_option maxHeartbeats 4000000 in
set_option maxRecDepth 100000 in
theorem slots_yes (a : Option Addr) (n c : Nat) (zs : List Int) (w : World) (hs : Seg w a n zs) (u : Nat) (hu : US zs (n / 3) u) :
    Calls Try.prog 5 #[.int .u8 1, .bool true, .slice a n c] w fun e w' => e = .returned (.int .i64 u) ∧ w' = w := by
  obtain ⟨hl, hn, hz, hc⟩ := hs
  have HU : Hid (US zs (n / 3) u) := hu
  have HC : Hid _ := hc
  clear hc hu hz hl
  have hN : (n : Int) / 3 = ((n / 3 : Nat) : Int) := by omega
  have hN3 : 3 * (n / 3) ≤ n := by omega
  rcases HC.out with h0 | ⟨b, o, rfl, hc⟩
  · have H0 : n / 3 = 0 := by omega
    have hu0 : u = 0 := us_unique HU.out (by rw [H0]; exact us_zero zs)
    subst hu0
    subst h0
    clear HC HU H0 hN hN3
    go_enter Try.func5, Try.ntmps5
    go_wp2
    refine wp_loop_rounds 1 ?_; rw [rounds_succ]
    go_wp2
    go_ret
    exact ⟨rfl, rfl⟩
  · clear HC
    have HC : Hid (∀ i, i < n → w.cell? ⟨b, o + i, none⟩ = some (.int .u8 (zs.getD i 0))) := hc
    clear hc
    generalize n / 3 = N at hN hN3 HU
    go_enter Try.func5, Try.ntmps5
    go_wp2
    go_loop [8, 9] (fun q i => ∃ k v : Nat, k ≤ N ∧ v ≤ k ∧ i = .int .i64 k ∧ q = .int .i64 v ∧ Hid (US zs k v)) (fun _ i => N - (intOf i).toNat)
    case atStart => exact ⟨0, 0, Nat.zero_le _, Nat.le_refl _, rfl, rfl, us_zero zs⟩
    case round =>
      obtain ⟨k, v, hk, hvk, rfl, rfl, HV⟩ := hrel
      by_cases hlt : k < N
      · have c0 := HC.out (3 * k) (by omega)
        have c1 := HC.out (3 * k + 1) (by omega)
        have c2 := HC.out (3 * k + 2) (by omega)
        obtain ⟨x, HX⟩ : ∃ x, Hid (zs.getD (3 * k) 0 = x) := ⟨_, rfl⟩
        obtain ⟨y, HY⟩ : ∃ x, Hid (zs.getD (3 * k + 1) 0 = x) := ⟨_, rfl⟩
        obtain ⟨z, HZ⟩ : ∃ x, Hid (zs.getD (3 * k + 2) 0 = x) := ⟨_, rfl⟩
        rw [HX.out] at c0
        rw [HY.out] at c1
        rw [HZ.out] at c2
        by_cases hx : x = 0
        · by_cases hy : y = 0
          · by_cases hzz : z = 0
            · subst hx hy hzz
              go_wp2
              go_round
              case rel => exact ⟨k + 1, v, by omega, by omega, by go_num, rfl, us_miss HV.out ⟨HX.out, HY.out, HZ.out⟩⟩
              case measure => simp [intOf]; omega
            · subst hx hy
              have hb : (z != 0) = true := bne_iff_ne.2 hzz
              go_wp2
              go_round
              case rel => exact ⟨k + 1, k + 1, by omega, by omega, by go_num, by go_num, us_hit (fun h => hzz (HZ.out ▸ h.2.2))⟩
              case measure => simp [intOf]; omega
          · subst hx
            have hb : (y != 0) = true := bne_iff_ne.2 hy
            go_wp2
            go_round
            case rel => exact ⟨k + 1, k + 1, by omega, by omega, by go_num, by go_num, us_hit (fun h => hy (HY.out ▸ h.2.1))⟩
            case measure => simp [intOf]; omega
        · have hb : (x != 0) = true := bne_iff_ne.2 hx
          go_wp2
          go_round
          case rel => exact ⟨k + 1, k + 1, by omega, by omega, by go_num, by go_num, us_hit (fun h => hx (HX.out ▸ h.1))⟩
          case measure => simp [intOf]; omega
      · obtain rfl : k = N := by omega
        obtain rfl : v = u := us_unique HV.out HU.out
        go_wp2
        go_ret
        exact ⟨rfl, rfl⟩

set_option maxHeartbeats 1000000 in
theorem slots_no (a : Option Addr) (n c : Nat) (kind : Int) (decoded : Bool) (w : World) (h : decoded = false ∨ kind ≠ 1) :
    Calls Try.prog 5 #[.int .u8 kind, .bool decoded, .slice a n c] w fun e w' => e = .returned (.int .i64 0) ∧ w' = w := by
  cases decoded
  · go_enter Try.func5, Try.ntmps5
    go_wp2
    go_ret
    exact ⟨rfl, rfl⟩
  · have hk : kind ≠ 1 := h.resolve_left (by decide)
    have hb : (kind != 1) = true := bne_iff_ne.2 hk
    clear h
    go_enter Try.func5, Try.ntmps5
    go_wp2
    go_ret
    exact ⟨rfl, rfl⟩

theorem slots_any (a : Option Addr) (n c : Nat) (zs : List Int) (kind : Int) (decoded : Bool) (w : World) (hs : Seg w a n zs) (u : Nat) (hu : UO decoded kind zs n u) :
    Calls Try.prog 5 #[.int .u8 kind, .bool decoded, .slice a n c] w fun e w' => e = .returned (.int .i64 u) ∧ w' = w := by
  rcases hu with ⟨rfl, rfl, hu⟩ | ⟨h, rfl⟩
  · exact slots_yes a n c zs w hs u hu
  · exact slots_no a n c kind decoded w h
end Go.Proofs.Qxb6625842a
