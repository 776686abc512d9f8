/-
  THE WALKS of seat b6627198a, sixth part: the second law.
-/
import Derived.Test.Qxb6627198aWalksE
namespace Go.Proofs.Qxb6627198a
open Go.ChangeShapes Go.WideShapes Go.ChangeAt Go.RowKit Plain
set_option linter.unusedVariables false

theorem bytes8_yes (a b : Option Addr) (n c m d : Nat) (w : World) (h : n + m ≤ 1048576) :
    Calls Try.prog 8 #[.slice a n c, .slice b m d] w fun e w' => e = .returned (.bool true) ∧ w' = w := by
  have := bytes8_any a b n c m d w (by unfold maxLen; omega) (by unfold maxLen; omega)
  rwa [decide_eq_true h] at this
theorem bytes8_no (a b : Option Addr) (n c m d : Nat) (w : World) (hn : n ≤ maxLen) (hm : m ≤ maxLen) (h : ¬ n + m ≤ 1048576) :
    Calls Try.prog 8 #[.slice a n c, .slice b m d] w fun e w' => e = .returned (.bool false) ∧ w' = w := by
  have := bytes8_any a b n c m d w hn hm
  rwa [decide_eq_false h] at this

theorem pv_exists (zs : List Int) (n : Nat) : ∃ v s ok, PV zs n v s ok := by
  rcases first_end zs n with h | ⟨t, ht, h1, h2⟩
  · exact ⟨0, 0, false, .inl ⟨h, rfl, rfl, rfl⟩⟩
  · by_cases hm : M zs (t + 1) ≤ 9223372036854775807
    · exact ⟨_, _, true, .inr ⟨t, ht, h1, h2, .inl ⟨hm, rfl, rfl, rfl⟩⟩⟩
    · exact ⟨0, 0, false, .inr ⟨t, ht, h1, h2, .inr ⟨by omega, rfl, rfl, rfl⟩⟩⟩

theorem cell_lt {w : World} {p : Addr} {v : Value} (h : w.cell? p = some v) : p.block < w.heap.size := by
  refine Nat.lt_of_not_le fun hge => ?_
  have hnone : w.heap[p.block]? = none := Array.getElem?_eq_none hge
  unfold World.cell? at h
  rw [hnone] at h
  simp at h

theorem seg_keep {w w' : World} {b o n B : Nat} {zs : List Int} (h : Seg w (some ⟨b, o, none⟩) n zs) (hb : Below B w w') (hlt : b < B) : Seg w' (some ⟨b, o, none⟩) n zs := by
  obtain ⟨h1, h2, h3, ⟨h, _⟩ | ⟨b', o', he, hc⟩⟩ := h
  · cases h
  · simp only [Option.some.injEq, Addr.mk.injEq] at he
    obtain ⟨rfl, rfl, _⟩ := he
    exact ⟨h1, h2, h3, .inr ⟨b, o, rfl, fun i hi => by rw [hb.cell (p := ⟨b, o + i, none⟩) hlt]; exact hc i hi⟩⟩
theorem seg_cells {w : World} {b o n : Nat} {zs : List Int} (h : Seg w (some ⟨b, o, none⟩) n zs) : ∀ i, i < n → w.cell? ⟨b, o + i, none⟩ = some (.int .u8 (zs.getD i 0)) := by
  obtain ⟨h1, h2, h3, ⟨h, _⟩ | ⟨b', o', he, hc⟩⟩ := h
  · cases h
  · simp only [Option.some.injEq, Addr.mk.injEq] at he
    obtain ⟨rfl, rfl, _⟩ := he
    exact hc

set_option maxHeartbeats 2000000 in
theorem law2_great (a b : Option Addr) (n c m d : Nat) (w : World) (hn : n ≤ maxLen) (hm : m ≤ maxLen) (h : 65536 < n ∨ 65536 < m) :
    Calls Try.prog 4 #[.slice a n c, .slice b m d] w fun e w' => e = .returned (.bool true) ∧ Below w.heap.size w w' := by
  by_cases hs : n + m ≤ 1048576
  · by_cases h1 : 65536 < n
    · have h1' : (65536 : Int) < (n : Int) := by omega
      clear hn hm h
      go_enter Try.func4, Try.ntmps4
      go_wp2_with (go_at_call 8; refine (bytes8_yes _ _ _ _ _ _ _ hs).mono ?_; rintro e w' ⟨rfl, rfl⟩)
      go_ret
      exact ⟨rfl, Below.refl _ _⟩
    · have h2 : 65536 < m := by omega
      have h1' : ¬ (65536 : Int) < (n : Int) := by omega
      have h2' : (65536 : Int) < (m : Int) := by omega
      clear hn hm h
      go_enter Try.func4, Try.ntmps4
      go_wp2_with (go_at_call 8; refine (bytes8_yes _ _ _ _ _ _ _ hs).mono ?_; rintro e w' ⟨rfl, rfl⟩)
      go_ret
      exact ⟨rfl, Below.refl _ _⟩
  · go_enter Try.func4, Try.ntmps4
    go_wp2_with (go_at_call 8; refine (bytes8_no _ _ _ _ _ _ _ hn hm hs).mono ?_; rintro e w' ⟨rfl, rfl⟩)
    go_ret
    exact ⟨rfl, Below.refl _ _⟩

set_option maxHeartbeats 4000000 in
/-- Neither slice is nil, and one of the two readings is refused. -/
theorem law2_some_no (x y : Addr) (n c m d : Nat) (w w2 w3 : World) (xs ys : List Int) (hn : n ≤ 65536) (hm : m ≤ 65536)
    (hc1 : ∀ ty, (Builtin.copy_ #[22, 22] ty #[.slice (some ⟨w.heap.size, 0, none⟩) n n, .slice (some x) n c]).run Try.prog (w.alloc (mk0 n)) = .ok (.int .i64 (n : Int)) w2)
    (hc2 : ∀ ty, (Builtin.copy_ #[22, 22] ty #[.slice (some ⟨w2.heap.size, 0, none⟩) m m, .slice (some y) m d]).run Try.prog (w2.alloc (mk0 m)) = .ok (.int .i64 (m : Int)) w3)
    (hsa : Seg w3 (some ⟨w.heap.size, 0, none⟩) n xs) (hsb : Seg w3 (some ⟨w2.heap.size, 0, none⟩) m ys) (HB : Hid (Below w.heap.size w w3))
    (va sa vb sb : Int) (oka okb : Bool) (hpa : PV xs n va sa oka) (hpb : PV ys m vb sb okb) (hno : (oka && okb) = false) :
    Calls Try.prog 4 #[.slice (some x) n c, .slice (some y) m d] w fun e w' => e = .returned (.bool true) ∧ Below w.heap.size w w' := by
  have hq := q22
  have hmk1 := make_run n hn
  have hmk2 := make_run m hm
  have hn' : ¬ (65536 : Int) < (n : Int) := by omega
  have hm' : ¬ (65536 : Int) < (m : Int) := by omega
  cases oka <;> cases okb <;> simp only [Bool.and_self, Bool.and_false, Bool.false_and, reduceCtorEq] at hno
  all_goals
    go_enter Try.func4, Try.ntmps4
    go_wp2_with fail
    refine (bytes8_yes _ _ _ _ _ _ _ (by omega)).mono ?_
    rintro e w' ⟨rfl, rfl⟩
    go_wp2_with fail
    refine (pv_as _ _ _ xs _ hsa hpa).mono ?_
    rintro e w' ⟨rfl, rfl⟩
    go_wp2_with fail
    refine (pv_as _ _ _ ys _ hsb hpb).mono ?_
    rintro e w' ⟨rfl, rfl⟩
    go_wp2_with fail
    refine (shape_any _ _ _ xs _ hsa _ _ _ hpa).mono ?_
    rintro e w' ⟨rfl, rfl⟩
    go_wp2_with fail
    refine (shape_any _ _ _ ys _ hsb _ _ _ hpb).mono ?_
    rintro e w' ⟨rfl, rfl⟩
    go_wp2
    go_ret
    exact ⟨rfl, HB.out⟩
end Go.Proofs.Qxb6627198a
