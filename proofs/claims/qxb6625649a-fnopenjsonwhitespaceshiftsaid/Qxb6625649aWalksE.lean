/-
  THE WALKS of seat b6625649a, fifth part: zzOpenSpec; the bound on two lengths.
-/
import Derived.Test.Qxb6625649aWalksD
namespace Go.Proofs.Qxb6625649a
open Go.ChangeShapes Go.WideShapes Go.ChangeAt Go.RowKit Plain
set_option linter.unusedVariables false

theorem all_as (b o : Nat) (n c : Nat) (zs : List Int) (w : World) (hn : n ≤ 4194304) (hc : ∀ i, i < n → w.cell? ⟨b, o + i, none⟩ = some (.int .u8 (zs.getD i 0))) (L H : Int) (lo hi : Nat) (hL : L = lo) (hH : H = hi) (hlo : lo ≤ hi) (hhi : hi ≤ n) (h : ∀ k, lo ≤ k → k < hi → WS (zs.getD k 0)) :
    Calls Try.prog 13 #[.slice (some ⟨b, o, none⟩) n c, .int .i64 L, .int .i64 H] w fun e w' => e = .returned (.bool true) ∧ w' = w := by
  subst hL hH
  exact all_yes b o n c zs w hn hc lo hi hlo hhi h

set_option maxHeartbeats 1000000 in
theorem spec_blank (a : Option Addr) (n c : Nat) (zs : List Int) (w : World) (hs : Seg w a n zs) (h : SS zs n 0 n) :
    Calls Try.prog 9 #[.slice a n c, .int .i64 (-1), .int .u8 0, .bool false] w fun e w' => e = .returned (.bool true) ∧ w' = w := by
  have HS : Hid (Seg w a n zs) := hs
  have HH : Hid (SS zs n 0 n) := h
  clear hs h
  go_enter Try.func9, Try.ntmps9
  go_wp2_with fail
  refine (first_none _ _ _ zs _ HS.out HH.out).mono ?_
  rintro e w' ⟨rfl, rfl⟩
  go_wp2
  go_ret
  exact ⟨rfl, rfl⟩

set_option maxHeartbeats 1000000 in
theorem spec_bad (b o : Nat) (n c : Nat) (zs : List Int) (w : World) (hs : Seg w (some ⟨b, o, none⟩) n zs) (hc : ∀ i, i < n → w.cell? ⟨b, o + i, none⟩ = some (.int .u8 (zs.getD i 0))) (k : Nat) (h : SS zs n 0 k) (hk : k < n) (h1 : zs.getD k 0 ≠ 91) (h2 : zs.getD k 0 ≠ 123) :
    Calls Try.prog 9 #[.slice (some ⟨b, o, none⟩) n c, .int .i64 (-1), .int .u8 0, .bool false] w fun e w' => e = .returned (.bool true) ∧ w' = w := by
  have HS : Hid (Seg w (some ⟨b, o, none⟩) n zs) := hs
  have HH : Hid (SS zs n 0 k) := h
  have hck := hc k hk
  have hn := hs.2.1
  clear hs h hc
  generalize zs.getD k 0 = z at hck h1 h2
  have e1 : (z != 91) = true := by simpa using h1
  have e2 : (z != 123) = true := by simpa using h2
  have e0 : ¬ (k : Int) < 0 := by omega
  have hkn : (k : Int) < (n : Int) := by omega
  go_enter Try.func9, Try.ntmps9
  go_wp2_with fail
  refine (first_some _ _ _ zs _ HS.out k HH.out hk).mono ?_
  rintro e w' ⟨rfl, rfl⟩
  go_wp2
  go_ret
  exact ⟨rfl, rfl⟩

set_option maxHeartbeats 4000000 in
set_option maxRecDepth 100000 in
theorem spec_more_end (b o : Nat) (n c : Nat) (zs : List Int) (w : World) (hs : Seg w (some ⟨b, o, none⟩) n zs) (hc : ∀ i, i < n → w.cell? ⟨b, o + i, none⟩ = some (.int .u8 (zs.getD i 0))) (k : Nat) (h : SS zs n 0 k) (hk : k < n) (z : Int) (HZ : Hid (zs.getD k 0 = z)) (h1 : z = 91 ∨ z = 123)
    (hj : SS zs n (k + 1) n) :
    Calls Try.prog 9 #[.slice (some ⟨b, o, none⟩) n c, .int .i64 n, .int .u8 (z + 2), .bool true] w fun e w' => e = .returned (.bool true) ∧ w' = w := by
  have HS : Hid (Seg w (some ⟨b, o, none⟩) n zs) := hs
  have HH : Hid (SS zs n 0 k) := h
  have HJ : Hid (SS zs n (k + 1) n) := hj
  have HC : Hid (∀ i, i < n → w.cell? ⟨b, o + i, none⟩ = some (.int .u8 (zs.getD i 0))) := hc
  have hck := hc k hk
  rw [HZ.out] at hck
  have hn := hs.2.1
  clear hs h hc hj
  have e0 : ¬ (k : Int) < 0 := by omega
  have hkn : (k : Int) < (n : Int) := by omega
  rcases h1 with rfl | rfl
  all_goals
    go_enter Try.func9, Try.ntmps9
    go_wp2_with fail
    refine (first_some _ _ _ zs _ HS.out k HH.out hk).mono ?_
    rintro e w' ⟨rfl, rfl⟩
    go_wp2_with fail
    refine (all_as b o n c zs _ hn HC.out _ _ (k + 1) n (by omega) rfl (by omega) (by omega) HJ.out.2.2.1).mono ?_
    rintro e w' ⟨rfl, rfl⟩
    go_wp2
    go_ret
    exact ⟨rfl, rfl⟩

set_option maxHeartbeats 4000000 in
set_option maxRecDepth 100000 in
theorem spec_more_at (b o : Nat) (n c : Nat) (zs : List Int) (w : World) (hs : Seg w (some ⟨b, o, none⟩) n zs) (hc : ∀ i, i < n → w.cell? ⟨b, o + i, none⟩ = some (.int .u8 (zs.getD i 0))) (k : Nat) (h : SS zs n 0 k) (hk : k < n) (z : Int) (HZ : Hid (zs.getD k 0 = z)) (h1 : z = 91 ∨ z = 123)
    (j : Nat) (hj : SS zs n (k + 1) j) (hjn : j < n) (hne : zs.getD j 0 ≠ z + 2) :
    Calls Try.prog 9 #[.slice (some ⟨b, o, none⟩) n c, .int .i64 j, .int .u8 (z + 2), .bool true] w fun e w' => e = .returned (.bool true) ∧ w' = w := by
  have HS : Hid (Seg w (some ⟨b, o, none⟩) n zs) := hs
  have HH : Hid (SS zs n 0 k) := h
  have HJ : Hid (SS zs n (k + 1) j) := hj
  have HC : Hid (∀ i, i < n → w.cell? ⟨b, o + i, none⟩ = some (.int .u8 (zs.getD i 0))) := hc
  have hck := hc k hk
  rw [HZ.out] at hck
  have hcj := hc j hjn
  have HW : Hid (¬ WS (zs.getD j 0)) := hj.2.2.2 hjn
  have hn := hs.2.1
  have hkj := hj.1
  clear hs h hc hj
  generalize zs.getD j 0 = y at hcj HW hne
  have e0 : ¬ (k : Int) < 0 := by omega
  have hkn : (k : Int) < (n : Int) := by omega
  have hjn' : (j : Int) < (n : Int) := by omega
  have hkj' : (k : Int) + 1 ≤ (j : Int) := by omega
  have hje : ((j : Int) == (n : Int)) = false := by simp; omega
  rcases h1 with rfl | rfl
  all_goals
    have hb : (y != _) = true := bne_iff_ne.2 hne
    simp only [Int.reduceAdd] at hb
    clear hne
    go_enter Try.func9, Try.ntmps9
    go_wp2_with fail
    refine (first_some _ _ _ zs _ HS.out k HH.out hk).mono ?_
    rintro e w' ⟨rfl, rfl⟩
    go_wp2_with fail
    refine (all_as b o n c zs _ hn HC.out _ _ (k + 1) j (by omega) rfl (by omega) (by omega) HJ.out.2.2.1).mono ?_
    rintro e w' ⟨rfl, rfl⟩
    go_wp2_with fail
    refine (isWS_no _ _ HW.out).mono ?_
    rintro e w' ⟨rfl, rfl⟩
    go_wp2
    go_ret
    exact ⟨rfl, rfl⟩

set_option maxHeartbeats 4000000 in
set_option maxRecDepth 100000 in
theorem spec_shut (b o : Nat) (n c : Nat) (zs : List Int) (w : World) (hs : Seg w (some ⟨b, o, none⟩) n zs) (hc : ∀ i, i < n → w.cell? ⟨b, o + i, none⟩ = some (.int .u8 (zs.getD i 0))) (k : Nat) (h : SS zs n 0 k) (hk : k < n) (z : Int) (HZ : Hid (zs.getD k 0 = z)) (h1 : z = 91 ∨ z = 123)
    (j : Nat) (hj : SS zs n (k + 1) j) (hjn : j < n) (hne : zs.getD j 0 = z + 2) :
    Calls Try.prog 9 #[.slice (some ⟨b, o, none⟩) n c, .int .i64 ((j : Int) + 1), .int .u8 (z + 2), .bool false] w fun e w' => e = .returned (.bool true) ∧ w' = w := by
  have HS : Hid (Seg w (some ⟨b, o, none⟩) n zs) := hs
  have HH : Hid (SS zs n 0 k) := h
  have HJ : Hid (SS zs n (k + 1) j) := hj
  have HC : Hid (∀ i, i < n → w.cell? ⟨b, o + i, none⟩ = some (.int .u8 (zs.getD i 0))) := hc
  have hck := hc k hk
  rw [HZ.out] at hck
  have hcj := hc j hjn
  rw [hne] at hcj
  have hn := hs.2.1
  have hkj := hj.1
  clear hs h hc hj hne
  have e0 : ¬ (k : Int) < 0 := by omega
  have hkn : (k : Int) < (n : Int) := by omega
  have hjn' : (j : Int) < (n : Int) := by omega
  have hkj' : (k : Int) + 1 ≤ (j : Int) := by omega
  rcases h1 with rfl | rfl
  all_goals
    go_enter Try.func9, Try.ntmps9
    go_wp2_with fail
    refine (first_some _ _ _ zs _ HS.out k HH.out hk).mono ?_
    rintro e w' ⟨rfl, rfl⟩
    go_wp2_with fail
    refine (all_as b o n c zs _ hn HC.out _ _ (k + 1) j (by omega) (by omega) (by omega) (by omega) HJ.out.2.2.1).mono ?_
    rintro e w' ⟨rfl, rfl⟩
    go_wp2
    go_ret
    exact ⟨rfl, rfl⟩

theorem spec_as (a : Option Addr) (n c : Nat) (zs : List Int) (w : World) (hs : Seg w a n zs) (p cl : Int) (more : Bool) (h : OJ zs n p cl more) :
    Calls Try.prog 9 #[.slice a n c, .int .i64 p, .int .u8 cl, .bool more] w fun e w' => e = .returned (.bool true) ∧ w' = w := by
  obtain ⟨k, hk, ⟨hr, rfl, rfl, rfl⟩ | ⟨hlt, hop, rfl, j, hj, hx⟩⟩ := h
  · by_cases hkn : k = n
    · subst hkn; exact spec_blank a k c zs w hs hk
    · have hle := hk.2.1
      have hs' := hs
      obtain ⟨_, _, _, rfl | ⟨b, o, rfl, hc⟩⟩ := hs'
      · omega
      · obtain ⟨h1, h2⟩ := hr.resolve_left hkn
        exact spec_bad b o n c zs w hs hc k hk (by omega) h1 h2
  · have hs' := hs
    have hjn := hj.2.1
    obtain ⟨_, _, _, rfl | ⟨b, o, rfl, hc⟩⟩ := hs'
    · omega
    · rcases hx with ⟨hjl, hjc, rfl, rfl⟩ | ⟨hjc, rfl, rfl⟩
      · exact spec_shut b o n c zs w hs hc k hk hlt _ rfl hop j hj hjl hjc
      · by_cases hje : j = n
        · subst hje; exact spec_more_end b o j c zs w hs hc k hk hlt _ rfl hop hj
        · exact spec_more_at b o n c zs w hs hc k hk hlt _ rfl hop j hj (by omega) (hjc.resolve_left hje)

set_option maxHeartbeats 1000000 in
theorem bytes5_any (a b : Option Addr) (n c m d : Nat) (w : World) (hn : n ≤ maxLen) (hm : m ≤ maxLen) :
    Calls Try.prog 5 #[.slice a n c, .slice b m d] w fun e w' => e = .returned (.bool (decide (n + m ≤ 1048576))) ∧ w' = w := by
  unfold maxLen at hn hm
  by_cases h : n + m ≤ 1048576
  · rw [decide_eq_true h]
    go_enter Try.func5, Try.ntmps5
    go_wp2
    go_ret
    exact ⟨rfl, rfl⟩
  · rw [decide_eq_false h]
    by_cases h1 : 1048576 < n
    · have h1' : (1048576 : Int) < (n : Int) := by omega
      go_enter Try.func5, Try.ntmps5
      go_wp2
      go_ret
      exact ⟨rfl, rfl⟩
    · by_cases h2 : 1048576 < m
      · go_enter Try.func5, Try.ntmps5
        go_wp2
        go_ret
        exact ⟨rfl, rfl⟩
      · go_enter Try.func5, Try.ntmps5
        go_wp2
        go_ret
        exact ⟨rfl, rfl⟩
theorem bytes5_yes (a b : Option Addr) (n c m d : Nat) (w : World) (h : n + m ≤ 1048576) :
    Calls Try.prog 5 #[.slice a n c, .slice b m d] w fun e w' => e = .returned (.bool true) ∧ w' = w := by
  have := bytes5_any a b n c m d w (by unfold maxLen; omega) (by unfold maxLen; omega)
  rwa [decide_eq_true h] at this
theorem bytes5_no (a b : Option Addr) (n c m d : Nat) (w : World) (hn : n ≤ maxLen) (hm : m ≤ maxLen) (h : ¬ n + m ≤ 1048576) :
    Calls Try.prog 5 #[.slice a n c, .slice b m d] w fun e w' => e = .returned (.bool false) ∧ w' = w := by
  have := bytes5_any a b n c m d w hn hm
  rwa [decide_eq_false h] at this
end Go.Proofs.Qxb6625649a
