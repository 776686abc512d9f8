/-
  THE WALKS of seat b6627198a, fourth part: 'zzc := make([]byte, len(b)); copy(zzc, b)'; the bound on the length; the first law.
-/
import Derived.Test.Qxb6627198aWalksC
import Derived.Laws.CopyOwn
import Derived.OpenShut
import Derived.ShutString
import Derived.ChangeOld
namespace Go.Proofs.Qxb6627198a
open Go.ChangeShapes Go.WideShapes Go.ChangeAt Go.RowKit Plain
set_option linter.unusedVariables false

theorem Try.info5 : (Try.prog.info? 5).map (fun i => (i.zero, i.size, i.bytes)) = some (some (.int .u8 0), 1, 1) := by kernel_rfl
theorem Try.size5 : (Try.prog.info? 5).map (·.size) = some 1 := by kernel_rfl

/-- The new block, behind a name of its own. -/
def mk0 (n : Nat) : Obj := .cells (madeCells #[.int .u8 0] n) 5

theorem make_run (n : Nat) (hn : n ≤ 65536) (w : World) :
    (Instr.makeSlice 22 (.int .i64 (n : Int)) (.int .i64 (n : Int))).run Try.prog w = .ok (.slice (some ⟨w.heap.size, 0, none⟩) n n) (w.alloc (mk0 n)) := by
  obtain ⟨i, hi, hz0, hz1, hz2⟩ := info_parts Try.info5
  have h := run_make (P := Try.prog) w 22 5 i (.int .u8 0) Try.underlying22 hi hz0 .i64 .i64 (n : Int) (n : Int) (by omega) (by omega) (by rw [hz2]; omega) (by omega)
  rw [h, hz1]
  simp [mk0, Value.cells]

theorem getD_take_lt (zs : List Int) (n i : Nat) (h : i < n) : (zs.take n).getD i 0 = zs.getD i 0 := by
  simp only [List.getD_eq_getElem?_getD, List.getElem?_take, if_pos h]

theorem copy_run (w : World) (x : Addr) (n c : Nat) (zs : List Int) (hn : n ≤ 65536) (hlen : n ≤ zs.length)
    (hc : ∀ i, i < zs.length → w.cell? (x.add i) = some (.int .u8 (zs.getD i 0))) (hwf : ∀ m ∈ zs, (Lit.int .u8 m).wf = true) :
    ∃ w2, (∀ ty, (Builtin.copy_ #[22, 22] ty #[.slice (some ⟨w.heap.size, 0, none⟩) n n, .slice (some x) n c]).run Try.prog (w.alloc (mk0 n)) = .ok (.int .i64 (n : Int)) w2) ∧
      Seg w2 (some ⟨w.heap.size, 0, none⟩) n (zs.take n) ∧ Below w.heap.size w w2 ∧ w2.heap.size = w.heap.size + 1 := by
  have hcl : ((zs.take n).map (Value.int .u8)).length = n := by simp; omega
  have hblk : (w.alloc (mk0 n)).heap[w.heap.size]? = some (.cells (madeCells #[.int .u8 0] n) 5 (0, 0)) := by
    show (w.heap.push _)[w.heap.size]? = _
    rw [Array.getElem?_push, if_pos rfl]; rfl
  have hsrc : ∀ j v, ((zs.take n).map (Value.int .u8))[j]? = some v → (w.alloc (mk0 n)).cell? (x.add j) = some v := by
    intro j v hj
    have hjn : j < n := by
      have := (List.getElem?_eq_some_iff.1 hj).1
      omega
    have hcj := hc j (by omega)
    have hv : v = .int .u8 (zs.getD j 0) := by
      rw [List.getElem?_map, List.getElem?_take, if_pos hjn] at hj
      rw [List.getD_eq_getElem?_getD]
      cases hq : zs[j]? with
      | none => rw [hq] at hj; simp at hj
      | some q => rw [hq] at hj; simp at hj; simp [hj]
    rw [hv, ← hcj]
    have hlt : (x.add j).block < w.heap.size := by
      refine Nat.lt_of_not_le fun hge => ?_
      have hnone : w.heap[(x.add j).block]? = none := Array.getElem?_eq_none hge
      unfold World.cell? at hcj
      rw [hnone] at hcj
      simp at hcj
    exact (((Below.refl w.heap.size w).alloc (Nat.le_refl _) (mk0 n)).cell hlt)
  have hrun := fun ty => run_copy_row (P := Try.prog) (w.alloc (mk0 n)) 22 22 ty 5 w.heap.size 0 n n x n c (madeCells #[.int .u8 0] n) 5 ((zs.take n).map (Value.int .u8))
    Try.underlying22 Try.size5 hblk (by rw [hcl]; exact (Nat.min_self n).symm) hsrc (by rw [hcl, size_madeCells]; omega) (by intro v hv; obtain ⟨m, _, rfl⟩ := List.mem_map.1 hv; rfl)
  rw [hcl] at hrun
  have hrow : ((madeCells #[.int .u8 0] n).toList.take 0 ++ (zs.take n).map (Value.int .u8) ++ (madeCells #[.int .u8 0] n).toList.drop (0 + n)) = (zs.take n).map (Value.int .u8) := by
    have : (madeCells #[.int .u8 0] n).toList.drop (0 + n) = [] := List.drop_eq_nil_of_le (by rw [Array.length_toList, size_madeCells]; omega)
    rw [this]; simp
  rw [hrow] at hrun
  have hB : Below w.heap.size w ((w.alloc (mk0 n)).setRow w.heap.size ((zs.take n).map (Value.int .u8)).toArray) :=
    below_setRow ((Below.refl w.heap.size w).alloc (Nat.le_refl _) (mk0 n)) (Nat.le_refl _) _
  have hH := setRow_heap (w.alloc (mk0 n)) w.heap.size _ ((zs.take n).map (Value.int .u8)).toArray 5 (0, 0) hblk
  have hsz : ((w.alloc (mk0 n)).setRow w.heap.size ((zs.take n).map (Value.int .u8)).toArray).heap.size = w.heap.size + 1 := by
    simp [World.setRow]
  refine ⟨_, fun ty => hrun ty, ⟨by simp; omega, hn, ?_, .inr ⟨w.heap.size, 0, rfl, ?_⟩⟩, hB, hsz⟩
  · intro i
    by_cases hi : i < n
    · rw [getD_take_lt _ _ _ hi]
      have hm : zs.getD i 0 ∈ zs := by
        rw [List.getD_eq_getElem?_getD, List.getElem?_eq_getElem (by omega)]
        exact List.getElem_mem _
      have := bounds_u8 (hwf _ hm)
      omega
    · rw [List.getD_eq_getElem?_getD, List.getElem?_eq_none (by simp; omega)]
      decide
  · intro i hi
    unfold World.cell?
    simp only [hH]
    rw [getD_take_lt _ _ _ hi]
    simp [hi, List.getElem?_eq_getElem (show i < zs.length by omega)]

set_option maxHeartbeats 400000 in
theorem bytes5_yes (a : Option Addr) (n c : Nat) (w : World) (hn : n ≤ 1048576) :
    Calls Try.prog 5 #[.slice a n c] w fun e w' => e = .returned (.bool true) ∧ w' = w := by
  have h1 : ¬ (1048576 : Int) < (n : Int) := by omega
  go_enter Try.func5, Try.ntmps5
  go_wp2
  go_ret
  exact ⟨rfl, rfl⟩
set_option maxHeartbeats 400000 in
theorem bytes5_no (a : Option Addr) (n c : Nat) (w : World) (hn : 1048576 < n) :
    Calls Try.prog 5 #[.slice a n c] w fun e w' => e = .returned (.bool false) ∧ w' = w := by
  have h1 : (1048576 : Int) < (n : Int) := by omega
  go_enter Try.func5, Try.ntmps5
  go_wp2
  go_ret
  exact ⟨rfl, rfl⟩

theorem q22 (w : World) (a : Option Addr) (n c n' c' : Nat) : (binOp .neq 22 (.slice a n c) (.slice none n' c')).run Try.prog w = .ok (.bool (!a.isNone)) w :=
  run_neq_slice_nil_any w _ _ a n c n' c' Try.underlying22

set_option maxHeartbeats 1000000 in
theorem law1_great (a : Option Addr) (n c : Nat) (w : World) (hn : 65536 < n) (hm : n ≤ maxLen) :
    Calls Try.prog 3 #[.slice a n c] w fun e w' => e = .returned (.bool true) ∧ Below w.heap.size w w' := by
  unfold maxLen at hm
  by_cases h : n ≤ 1048576
  · have h2 : (65536 : Int) < (n : Int) := by omega
    go_enter Try.func3, Try.ntmps3
    go_wp2_with (go_at_call 5; refine (bytes5_yes _ _ _ _ h).mono ?_; rintro e w' ⟨rfl, rfl⟩)
    go_ret
    exact ⟨rfl, Below.refl _ _⟩
  · go_enter Try.func3, Try.ntmps3
    go_wp2_with (go_at_call 5; refine (bytes5_no _ _ _ _ (by omega)).mono ?_; rintro e w' ⟨rfl, rfl⟩)
    go_ret
    exact ⟨rfl, Below.refl _ _⟩

set_option maxHeartbeats 1000000 in
theorem law1_nil (w : World) : Calls Try.prog 3 #[.slice none 0 0] w fun e w' => e = .returned (.bool true) ∧ Below w.heap.size w w' := by
  have hseg : Seg w none 0 [] := ⟨rfl, by omega, fun i => by simp, .inl ⟨rfl, rfl⟩⟩
  have hq := q22
  go_enter Try.func3, Try.ntmps3
  go_wp2_with (first | (go_at_call 5; refine (bytes5_yes _ _ _ _ (by omega)).mono ?_; rintro e w' ⟨rfl, rfl⟩) | (go_at_call 6; refine (model_any _ _ _ [] _ hseg).mono ?_; rintro e w' ⟨⟨v, s, ok, rfl, hpv⟩, rfl⟩) | (go_at_call 7; refine (pv_as _ _ _ [] _ hseg hpv).mono ?_; rintro e w' ⟨rfl, rfl⟩))
  go_ret
  exact ⟨rfl, Below.refl _ _⟩

set_option maxHeartbeats 1000000 in
theorem law1_some (x : Addr) (n c : Nat) (zs : List Int) (w : World) (hn : n ≤ 65536) (hlen : n ≤ zs.length)
    (hc : ∀ i, i < zs.length → w.cell? (x.add i) = some (.int .u8 (zs.getD i 0))) (hwf : ∀ m ∈ zs, (Lit.int .u8 m).wf = true) :
    Calls Try.prog 3 #[.slice (some x) n c] w fun e w' => e = .returned (.bool true) ∧ Below w.heap.size w w' := by
  obtain ⟨w2, hcopy, hseg, hB, hsz⟩ := copy_run w x n c zs hn hlen hc hwf
  have hq := q22
  have hmk := make_run n hn
  have hn' : ¬ (65536 : Int) < (n : Int) := by omega
  generalize zs.take n = ys at hseg
  clear hc hwf hlen hsz
  have HB : Hid (Below w.heap.size w w2) := hB
  clear hB
  go_enter Try.func3, Try.ntmps3
  go_wp2_with (first | (go_at_call 5; refine (bytes5_yes _ _ _ _ (by omega)).mono ?_; rintro e w' ⟨rfl, rfl⟩) | (go_at_call 6; refine (model_any _ _ _ ys _ hseg).mono ?_; rintro e w' ⟨⟨v, s, ok, rfl, hpv⟩, rfl⟩) | (go_at_call 7; refine (pv_as _ _ _ ys _ hseg hpv).mono ?_; rintro e w' ⟨rfl, rfl⟩))
  go_ret
  exact ⟨rfl, HB.out⟩
end Go.Proofs.Qxb6627198a
