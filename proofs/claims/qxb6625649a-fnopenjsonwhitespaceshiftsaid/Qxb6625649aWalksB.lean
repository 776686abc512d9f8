/-
  THE WALKS of seat b6625649a, second part: OpenJSON, zzOpenSpec.
-/
import Derived.Test.Qxb6625649aWalksA
namespace Go.Proofs.Qxb6625649a
open Go.ChangeShapes Go.WideShapes Go.ChangeAt Go.RowKit Plain
set_option linter.unusedVariables false

theorem skip0_as (a : Option Addr) (n c : Nat) (zs : List Int) (w : World) (hs : Seg w a n zs) (j : Nat) (h : SS zs n 0 j) :
    Calls Try.prog 12 #[.slice a n c, .int .i64 0] w fun e w' => e = .returned (.int .i64 j) ∧ w' = w := by
  have := skip_as a n c zs w hs 0 j h
  have e : ((0 : Nat) : Int) = 0 := rfl
  rwa [e] at this
theorem skip1_as (a : Option Addr) (n c : Nat) (zs : List Int) (w : World) (hs : Seg w a n zs) (o j : Nat) (h : SS zs n (o + 1) j) :
    Calls Try.prog 12 #[.slice a n c, .int .i64 ((o : Int) + 1)] w fun e w' => e = .returned (.int .i64 j) ∧ w' = w := by
  have := skip_as a n c zs w hs (o + 1) j h
  have e : ((o + 1 : Nat) : Int) = (o : Int) + 1 := by omega
  rwa [e] at this

set_option maxHeartbeats 1000000 in
theorem open_end (a : Option Addr) (n c : Nat) (zs : List Int) (w : World) (hs : Seg w a n zs) (h : SS zs n 0 n) :
    Calls Try.prog 7 #[.slice a n c] w fun e w' => e = .returned (.tuple #[.int .i64 (-1), .int .u8 0, .bool false]) ∧ w' = w := by
  have HS : Hid (Seg w a n zs) := hs
  have HH : Hid (SS zs n 0 n) := h
  clear hs h
  go_enter Try.func7, Try.ntmps7
  go_wp2_with fail
  refine (skip0_as _ _ _ zs _ HS.out n HH.out).mono ?_
  rintro e w' ⟨rfl, rfl⟩
  go_wp2
  go_ret3
  exact ⟨rfl, rfl⟩

set_option maxHeartbeats 1000000 in
theorem open_bad (b o : Nat) (n c : Nat) (zs : List Int) (w : World) (hs : Seg w (some ⟨b, o, none⟩) n zs) (hc : ∀ i, i < n → w.cell? ⟨b, o + i, none⟩ = some (.int .u8 (zs.getD i 0))) (k : Nat) (h : SS zs n 0 k) (hk : k < n) (h1 : zs.getD k 0 ≠ 91) (h2 : zs.getD k 0 ≠ 123) :
    Calls Try.prog 7 #[.slice (some ⟨b, o, none⟩) n c] w fun e w' => e = .returned (.tuple #[.int .i64 (-1), .int .u8 0, .bool false]) ∧ w' = w := by
  have HS : Hid (Seg w (some ⟨b, o, none⟩) n zs) := hs
  have HH : Hid (SS zs n 0 k) := h
  have hck := hc k hk
  have hn := hs.2.1
  clear hs h hc
  generalize zs.getD k 0 = z at hck h1 h2
  have e1 : (z != 91) = true := by simpa using h1
  have e2 : (z != 123) = true := by simpa using h2
  have e0 : ((k : Int) == (n : Int)) = false := by simp; omega
  go_enter Try.func7, Try.ntmps7
  go_wp2_with fail
  refine (skip0_as _ _ _ zs _ HS.out k HH.out).mono ?_
  rintro e w' ⟨rfl, rfl⟩
  go_wp2
  go_ret3
  exact ⟨rfl, rfl⟩

set_option maxHeartbeats 2000000 in
theorem open_good (b o : Nat) (n c : Nat) (zs : List Int) (w : World) (hs : Seg w (some ⟨b, o, none⟩) n zs) (hc : ∀ i, i < n → w.cell? ⟨b, o + i, none⟩ = some (.int .u8 (zs.getD i 0))) (k : Nat) (h : SS zs n 0 k) (hk : k < n) (h1 : zs.getD k 0 = 91 ∨ zs.getD k 0 = 123)
    (j : Nat) (hj : SS zs n (k + 1) j) (p : Int) (more : Bool) (hx : (j < n ∧ zs.getD j 0 = zs.getD k 0 + 2 ∧ p = (j : Int) + 1 ∧ more = false) ∨ ((j = n ∨ zs.getD j 0 ≠ zs.getD k 0 + 2) ∧ p = j ∧ more = true)) :
    Calls Try.prog 7 #[.slice (some ⟨b, o, none⟩) n c] w fun e w' => e = .returned (.tuple #[.int .i64 p, .int .u8 (zs.getD k 0 + 2), .bool more]) ∧ w' = w := by
  have HS : Hid (Seg w (some ⟨b, o, none⟩) n zs) := hs
  have HH : Hid (SS zs n 0 k) := h
  have HJ : Hid (SS zs n (k + 1) j) := hj
  have hck := hc k hk
  have hn := hs.2.1
  have hjn := hj.2.1
  have hkj := hj.1
  have HC : Hid (∀ i, i < n → w.cell? ⟨b, o + i, none⟩ = some (.int .u8 (zs.getD i 0))) := hc
  clear hs h hc hj
  have e0 : ((k : Int) == (n : Int)) = false := by simp; omega
  obtain ⟨z, HZ⟩ : ∃ z, Hid (zs.getD k 0 = z) := ⟨_, rfl⟩
  rw [HZ.out] at hck h1 hx ⊢
  rcases h1 with rfl | rfl
  all_goals
    rcases hx with ⟨hjl, hjc, rfl, rfl⟩ | ⟨hjc, rfl, rfl⟩
    · have hcj := HC.out j hjl
      rw [hjc] at hcj
      clear hjc
      have hjl' : (j : Int) < (n : Int) := by omega
      go_enter Try.func7, Try.ntmps7
      go_wp2_with fail
      refine (skip0_as _ _ _ zs _ HS.out k HH.out).mono ?_
      rintro e w' ⟨rfl, rfl⟩
      go_wp2_with fail
      refine (skip1_as _ _ _ zs _ HS.out k j HJ.out).mono ?_
      rintro e w' ⟨rfl, rfl⟩
      go_wp2
      go_ret3
      exact ⟨rfl, rfl⟩
    · by_cases hjl : j < n
      · have hcj := HC.out j hjl
        have hjl' : (j : Int) < (n : Int) := by omega
        have hne : zs.getD j 0 ≠ _ := hjc.resolve_left (by omega)
        clear hjc
        generalize zs.getD j 0 = y at hcj hne
        have hb := beq_false_of_ne hne
        simp only [Int.reduceAdd] at hb
        clear hne
        go_enter Try.func7, Try.ntmps7
        go_wp2_with fail
        refine (skip0_as _ _ _ zs _ HS.out k HH.out).mono ?_
        rintro e w' ⟨rfl, rfl⟩
        go_wp2_with fail
        refine (skip1_as _ _ _ zs _ HS.out k j HJ.out).mono ?_
        rintro e w' ⟨rfl, rfl⟩
        go_wp2
        go_ret3
        exact ⟨rfl, rfl⟩
      · have hjl' : ¬ (j : Int) < (n : Int) := by omega
        clear hjc
        go_enter Try.func7, Try.ntmps7
        go_wp2_with fail
        refine (skip0_as _ _ _ zs _ HS.out k HH.out).mono ?_
        rintro e w' ⟨rfl, rfl⟩
        go_wp2_with fail
        refine (skip1_as _ _ _ zs _ HS.out k j HJ.out).mono ?_
        rintro e w' ⟨rfl, rfl⟩
        go_wp2
        go_ret3
        exact ⟨rfl, rfl⟩

theorem open_as (a : Option Addr) (n c : Nat) (zs : List Int) (w : World) (hs : Seg w a n zs) (p cl : Int) (more : Bool) (h : OJ zs n p cl more) :
    Calls Try.prog 7 #[.slice a n c] w fun e w' => e = .returned (.tuple #[.int .i64 p, .int .u8 cl, .bool more]) ∧ w' = w := by
  obtain ⟨k, hk, ⟨hr, rfl, rfl, rfl⟩ | ⟨hlt, hop, rfl, j, hj, hx⟩⟩ := h
  · by_cases hkn : k = n
    · subst hkn; exact open_end a k c zs w hs hk
    · have hle := hk.2.1
      have hs' := hs
      obtain ⟨_, _, _, rfl | ⟨b, o, rfl, hc⟩⟩ := hs'
      · omega
      · obtain ⟨h1, h2⟩ := hr.resolve_left hkn
        exact open_bad b o n c zs w hs hc k hk (by omega) h1 h2
  · have hs' := hs
    obtain ⟨_, _, _, rfl | ⟨b, o, rfl, hc⟩⟩ := hs'
    · omega
    · exact open_good b o n c zs w hs hc k hk hlt hop j hj p more hx
end Go.Proofs.Qxb6625649a
