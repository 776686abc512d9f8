/-
  THE WALKS of seat b6625649a, fourth part: the law FnOpenJSONFirstPartSwap.
-/
import Derived.Test.Qxb6625649aWalksC
namespace Go.Proofs.Qxb6625649a
open Go.ChangeShapes Go.WideShapes Go.ChangeAt Go.RowKit Plain
set_option linter.unusedVariables false

set_option maxHeartbeats 400000 in
theorem bytes10_yes (a : Option Addr) (n c : Nat) (w : World) (hn : n ≤ 1048576) :
    Calls Try.prog 10 #[.slice a n c] w fun e w' => e = .returned (.bool true) ∧ w' = w := by
  have h1 : ¬ (1048576 : Int) < (n : Int) := by omega
  go_enter Try.func10, Try.ntmps10
  go_wp2
  go_ret
  exact ⟨rfl, rfl⟩
set_option maxHeartbeats 400000 in
theorem bytes10_no (a : Option Addr) (n c : Nat) (w : World) (hn : 1048576 < n) :
    Calls Try.prog 10 #[.slice a n c] w fun e w' => e = .returned (.bool false) ∧ w' = w := by
  have h1 : (1048576 : Int) < (n : Int) := by omega
  go_enter Try.func10, Try.ntmps10
  go_wp2
  go_ret
  exact ⟨rfl, rfl⟩
set_option maxHeartbeats 400000 in
theorem swap_great (a : Option Addr) (n c : Nat) (w : World) (hn : 1048576 < n) :
    Calls Try.prog 4 #[.slice a n c] w fun e w' => e = .returned (.bool true) ∧ Below w.heap.size w w' := by
  go_enter Try.func4, Try.ntmps4
  go_wp2_with (go_at_call 10; refine (bytes10_no _ _ _ _ hn).mono ?_; rintro e w' ⟨rfl, rfl⟩)
  go_ret
  exact ⟨rfl, Below.refl _ _⟩

theorem join_at (a b : Option Addr) (n c m d : Nat) (xs ys : List Int) (w : World) (G : Nat) (hG : w.heap.size = G) (hsa : Seg w a n xs) (hsb : Seg w b m ys) (hnm : n + m ≤ 4194304) :
    Calls Try.prog 8 #[.slice a n c, .slice b m d] w fun e w' => e = .returned (.slice (some ⟨G, 0, none⟩) (n + m) (n + m)) ∧ Hid (Seg w' (some ⟨G, 0, none⟩) (n + m) (xs ++ ys) ∧ Below G w w') := by
  subst hG
  exact (join_any a b n c m d xs ys w hsa hsb hnm).mono fun e w' ⟨he, h⟩ => ⟨he, h.out.1, h.out.2.1⟩

theorem seg_alloc {w : World} {a : Option Addr} {n : Nat} {zs : List Int} (h : Seg w a n zs) (o : Obj) : Seg (w.alloc o) a n zs :=
  seg_keep h ((Below.refl w.heap.size w).alloc (Nat.le_refl _) o) (Nat.le_refl _)

theorem seg_two (w : World) (x y : Int) (hx : 0 ≤ x ∧ x ≤ 255) (hy : 0 ≤ y ∧ y ≤ 255) : Seg (w.alloc (.cells #[.int .u8 x, .int .u8 y] 5)) (some ⟨w.heap.size, 0, none⟩) 2 [x, y] :=
  seg_of_row (row_new w 5 [.int .u8 x, .int .u8 y]) rfl (by omega) (fun i => by
    match i with
    | 0 => exact hx
    | 1 => exact hy
    | i + 2 => simp)
theorem seg_one (w : World) (x : Int) (hx : 0 ≤ x ∧ x ≤ 255) : Seg (w.alloc (.cells #[.int .u8 x] 5)) (some ⟨w.heap.size, 0, none⟩) 1 [x] :=
  seg_of_row (row_new w 5 [.int .u8 x]) rfl (by omega) (fun i => by
    match i with
    | 0 => exact hx
    | i + 1 => simp)

theorem below_chain {w w2 w' : World} {o : Obj} {G : Nat} (h : Below w.heap.size w w2) (hG : w2.heap.size ≤ G) (h' : Below G (w2.alloc o) w') : Below w.heap.size w w' := by
  have := h.size
  exact (h.alloc (by omega) o).trans (h'.mono (by omega))

theorem slice_run (a : Addr) (n c t : Nat) (L : Int) (hL : L = t) (h : t ≤ c) (w : World) :
    (Instr.slice 22 (.slice (some a) n c) none (some (.int .i64 L)) none).run Try.prog w = .ok (.slice (some a) t c) w := by
  subst hL
  have hu : Try.prog.underlying 22 = some (.slice (Try.prog.elem 22)) := by kernel_rfl
  have hsz : (sizeOf (Try.prog.elem 22)).run Try.prog w = .ok 1 w := by kernel_rfl
  rw [run_slice_h w 22 (some a) n c hu .i64 (t : Int) (by omega) (by omega), hsz]
  have e2 : a.add 0 = a := by cases a; simp [Addr.add]
  simp [Result.andThen, sliced, e2]

set_option maxHeartbeats 2000000 in
theorem swap_blank_nil (w : World) (HO : Hid (OJ [] 0 (-1) 0 false)) (HO2 : Hid (OJ [91, 93] 2 2 93 false)) (HN : Hid (SS [] 0 0 0)) :
    Calls Try.prog 4 #[.slice none 0 0] w fun e w' => e = .returned (.bool true) ∧ Below w.heap.size w w' := by
  have hs0 : ∀ wx, Seg wx none 0 [] := fun wx => ⟨rfl, by omega, fun i => by simp, .inl rfl⟩
  have HS : Hid (∀ wx, Seg wx none 0 []) := hs0
  clear hs0
  have hq := q22
  go_enter Try.func4, Try.ntmps4
  go_wp2_with fail
  refine (bytes10_yes _ _ _ _ (by omega)).mono ?_
  rintro e w' ⟨rfl, rfl⟩
  go_wp2_with fail
  refine (open_as _ _ _ [] _ (HS.out _) _ _ _ HO.out).mono ?_
  rintro e w' ⟨rfl, rfl⟩
  go_wp2_with fail
  refine (join_at _ _ _ _ _ _ [] [91, 93] _ (w'.heap.size + 1) (by simp) (HS.out _) (by exact seg_two w' 91 93 (by omega) (by omega)) (by omega)).mono ?_
  rintro e w1 ⟨rfl, HJ⟩
  have HB : Hid (Below w'.heap.size w' w1) := below_chain (Below.refl _ _) (by omega) HJ.out.2
  have HS2 : Hid (Seg w1 (some ⟨w'.heap.size + 1, 0, none⟩) 2 [91, 93]) := HJ.out.1
  clear HJ
  go_wp2_with fail
  refine (open_as _ _ _ [91, 93] _ HS2.out _ _ _ HO2.out).mono ?_
  rintro e w2 ⟨rfl, rfl⟩
  go_wp2_with fail
  refine (first_none _ _ _ [] _ (HS.out _) HN.out).mono ?_
  rintro e w3 ⟨rfl, rfl⟩
  go_wp2
  go_ret
  exact ⟨rfl, HB.out⟩

set_option maxHeartbeats 2000000 in
/-- White space alone. -/
theorem swap_blank (x : Addr) (n c : Nat) (w w2 : World) (zs : List Int) (hn : n ≤ 1048576)
    (hcp : ∀ ty, (Builtin.copy_ #[22, 22] ty #[.slice (some ⟨w.heap.size, 0, none⟩) n n, .slice (some x) n c]).run Try.prog (w.alloc (mk0 n)) = .ok (.int .i64 (n : Int)) w2)
    (HS : Hid (Seg w2 (some ⟨w.heap.size, 0, none⟩) n zs)) (HB : Hid (Below w.heap.size w w2))
    (HO : Hid (OJ zs n (-1) 0 false)) (HO2 : Hid (OJ (zs ++ [91, 93]) (n + 2) ((n : Int) + 2) 93 false)) (HN : Hid (SS zs n 0 n)) :
    Calls Try.prog 4 #[.slice (some x) n c] w fun e w' => e = .returned (.bool true) ∧ Below w.heap.size w w' := by
  have hq := q22
  have hmk := make_run n n rfl (by omega)
  have hn' : ¬ (1048576 : Int) < (n : Int) := by omega
  go_enter Try.func4, Try.ntmps4
  go_wp2_with fail
  refine (bytes10_yes _ _ _ _ hn).mono ?_
  rintro e w' ⟨rfl, rfl⟩
  go_wp2_with fail
  refine (open_as _ _ _ zs _ HS.out _ _ _ HO.out).mono ?_
  rintro e w2 ⟨rfl, rfl⟩
  go_wp2_with fail
  refine (join_at _ _ _ _ _ _ zs [91, 93] _ (w2.heap.size + 1) (by simp) (by exact seg_alloc HS.out _) (by exact seg_two w2 91 93 (by omega) (by omega)) (by omega)).mono ?_
  rintro e w3 ⟨rfl, HJ⟩
  have HB3 : Hid (Below w'.heap.size w' w3) := below_chain HB.out (by omega) HJ.out.2
  have HS1 : Hid (Seg w3 (some ⟨w'.heap.size, 0, none⟩) n zs) := seg_keep (seg_alloc HS.out _) HJ.out.2 (by simp)
  have HS2 : Hid (Seg w3 (some ⟨w2.heap.size + 1, 0, none⟩) (n + 2) (zs ++ [91, 93])) := HJ.out.1
  clear HJ
  go_wp2_with fail
  refine (open_as _ _ _ (zs ++ [91, 93]) _ HS2.out _ _ _ HO2.out).mono ?_
  rintro e w4 ⟨rfl, rfl⟩
  go_wp2_with fail
  refine (first_none _ _ _ zs _ HS1.out HN.out).mono ?_
  rintro e w5 ⟨rfl, rfl⟩
  go_wp2
  go_ret
  exact ⟨rfl, HB3.out⟩

set_option maxHeartbeats 2000000 in
/-- The first byte that is no white space opens nothing. -/
theorem swap_bad (x : Addr) (n c : Nat) (w w2 : World) (zs : List Int) (hn : n ≤ 1048576)
    (hcp : ∀ ty, (Builtin.copy_ #[22, 22] ty #[.slice (some ⟨w.heap.size, 0, none⟩) n n, .slice (some x) n c]).run Try.prog (w.alloc (mk0 n)) = .ok (.int .i64 (n : Int)) w2)
    (HS : Hid (Seg w2 (some ⟨w.heap.size, 0, none⟩) n zs)) (HB : Hid (Below w.heap.size w w2))
    (HO : Hid (OJ zs n (-1) 0 false)) (HO2 : Hid (OJ (zs ++ [91, 93]) (n + 2) (-1) 0 false)) (k : Nat) (HN : Hid (SS zs n 0 k ∧ k < n)) :
    Calls Try.prog 4 #[.slice (some x) n c] w fun e w' => e = .returned (.bool true) ∧ Below w.heap.size w w' := by
  have hq := q22
  have hmk := make_run n n rfl (by omega)
  have hn' : ¬ (1048576 : Int) < (n : Int) := by omega
  go_enter Try.func4, Try.ntmps4
  go_wp2_with fail
  refine (bytes10_yes _ _ _ _ hn).mono ?_
  rintro e w' ⟨rfl, rfl⟩
  go_wp2_with fail
  refine (open_as _ _ _ zs _ HS.out _ _ _ HO.out).mono ?_
  rintro e w2 ⟨rfl, rfl⟩
  go_wp2_with fail
  refine (join_at _ _ _ _ _ _ zs [91, 93] _ (w2.heap.size + 1) (by simp) (by exact seg_alloc HS.out _) (by exact seg_two w2 91 93 (by omega) (by omega)) (by omega)).mono ?_
  rintro e w3 ⟨rfl, HJ⟩
  have HB3 : Hid (Below w'.heap.size w' w3) := below_chain HB.out (by omega) HJ.out.2
  have HS1 : Hid (Seg w3 (some ⟨w'.heap.size, 0, none⟩) n zs) := seg_keep (seg_alloc HS.out _) HJ.out.2 (by simp)
  have HS2 : Hid (Seg w3 (some ⟨w2.heap.size + 1, 0, none⟩) (n + 2) (zs ++ [91, 93])) := HJ.out.1
  clear HJ
  go_wp2_with fail
  refine (open_as _ _ _ (zs ++ [91, 93]) _ HS2.out _ _ _ HO2.out).mono ?_
  rintro e w4 ⟨rfl, rfl⟩
  go_wp2_with fail
  refine (first_some _ _ _ zs _ HS1.out k HN.out.1 HN.out.2).mono ?_
  rintro e w5 ⟨rfl, rfl⟩
  go_wp2
  go_ret
  exact ⟨rfl, HB3.out⟩

set_option maxHeartbeats 4000000 in
set_option maxRecDepth 100000 in
/-- A first part starts at j. -/
theorem swap_more (x : Addr) (n c : Nat) (w w2 : World) (zs : List Int) (hn : n ≤ 1048576)
    (hcp : ∀ ty, (Builtin.copy_ #[22, 22] ty #[.slice (some ⟨w.heap.size, 0, none⟩) n n, .slice (some x) n c]).run Try.prog (w.alloc (mk0 n)) = .ok (.int .i64 (n : Int)) w2)
    (HS : Hid (Seg w2 (some ⟨w.heap.size, 0, none⟩) n zs)) (HB : Hid (Below w.heap.size w w2))
    (j : Nat) (hj1 : 1 ≤ j) (hjn : j ≤ n) (cl : Int) (hcl : cl = 93 ∨ cl = 125) (HO : Hid (OJ zs n j cl true)) (HO2 : Hid (OJ (zs.take j ++ [cl]) (j + 1) ((j : Int) + 1) cl false)) :
    Calls Try.prog 4 #[.slice (some x) n c] w fun e w' => e = .returned (.bool true) ∧ Below w.heap.size w w' := by
  have hq := q22
  have hmk := make_run n n rfl (by omega)
  have hn' : ¬ (1048576 : Int) < (n : Int) := by omega
  have hsl := slice_run ⟨w.heap.size, 0, none⟩ n n j j rfl hjn
  have hj0 : ¬ (j : Int) < 0 := by omega
  have hj1' : ¬ (j : Int) < 1 := by omega
  have hjn' : ¬ (n : Int) < (j : Int) := by omega
  rcases hcl with rfl | rfl
  all_goals
    go_enter Try.func4, Try.ntmps4
    go_wp2_with fail
    refine (bytes10_yes _ _ _ _ hn).mono ?_
    rintro e w' ⟨rfl, rfl⟩
    go_wp2_with fail
    refine (open_as _ _ _ zs _ HS.out _ _ _ HO.out).mono ?_
    rintro e w2 ⟨rfl, rfl⟩
    go_wp2_with fail
    refine (join_at _ _ _ _ _ _ (zs.take j) [_] _ (w2.heap.size + 1) (by simp) (by exact seg_alloc (seg_take HS.out hjn) _) (by exact seg_one w2 _ (by omega)) (by omega)).mono ?_
    rintro e w3 ⟨rfl, HJ⟩
    have HB3 : Hid (Below w'.heap.size w' w3) := below_chain HB.out (by omega) HJ.out.2
    have HS2 : Hid (Seg w3 (some ⟨w2.heap.size + 1, 0, none⟩) (j + 1) (zs.take j ++ [_])) := HJ.out.1
    clear HJ
    go_wp2_with fail
    refine (open_as _ _ _ _ _ HS2.out _ _ _ HO2.out).mono ?_
    rintro e w4 ⟨rfl, rfl⟩
    go_wp2
    go_ret
    exact ⟨rfl, HB3.out⟩

set_option maxHeartbeats 4000000 in
set_option maxRecDepth 100000 in
/-- It is empty: its closer stands at j. -/
theorem swap_shut (x : Addr) (n c : Nat) (w w2 : World) (zs : List Int) (hn : n ≤ 1048576)
    (hcp : ∀ ty, (Builtin.copy_ #[22, 22] ty #[.slice (some ⟨w.heap.size, 0, none⟩) n n, .slice (some x) n c]).run Try.prog (w.alloc (mk0 n)) = .ok (.int .i64 (n : Int)) w2)
    (HS : Hid (Seg w2 (some ⟨w.heap.size, 0, none⟩) n zs)) (HB : Hid (Below w.heap.size w w2))
    (j : Nat) (hj1 : 1 ≤ j) (hjn : j < n) (cl : Int) (hcl : cl = 93 ∨ cl = 125) (HO : Hid (OJ zs n ((j : Int) + 1) cl false)) (HO2 : Hid (OJ (zs.take j ++ [48]) (j + 1) j cl true)) :
    Calls Try.prog 4 #[.slice (some x) n c] w fun e w' => e = .returned (.bool true) ∧ Below w.heap.size w w' := by
  have hq := q22
  have hmk := make_run n n rfl (by omega)
  have hn' : ¬ (1048576 : Int) < (n : Int) := by omega
  have hsl := slice_run ⟨w.heap.size, 0, none⟩ n n j j rfl (by omega)
  have hsl' := slice_run ⟨w.heap.size, 0, none⟩ n n j ((j : Int) + 1 - 1) (by omega) (by omega)
  have hj0 : ¬ (j : Int) + 1 < 0 := by omega
  have hj1' : ¬ (j : Int) + 1 < 2 := by omega
  have hjn' : ¬ (n : Int) < (j : Int) + 1 := by omega
  rcases hcl with rfl | rfl
  all_goals
    go_enter Try.func4, Try.ntmps4
    go_wp2_with fail
    refine (bytes10_yes _ _ _ _ hn).mono ?_
    rintro e w' ⟨rfl, rfl⟩
    go_wp2_with fail
    refine (open_as _ _ _ zs _ HS.out _ _ _ HO.out).mono ?_
    rintro e w2 ⟨rfl, rfl⟩
    go_wp2_with fail
    refine (join_at _ _ _ _ _ _ (zs.take j) [48] _ (w2.heap.size + 1) (by simp) (by exact seg_alloc (seg_take HS.out (by omega)) _) (by exact seg_one w2 48 (by omega)) (by omega)).mono ?_
    rintro e w3 ⟨rfl, HJ⟩
    have HB3 : Hid (Below w'.heap.size w' w3) := below_chain HB.out (by omega) HJ.out.2
    have HS2 : Hid (Seg w3 (some ⟨w2.heap.size + 1, 0, none⟩) (j + 1) (zs.take j ++ [48])) := HJ.out.1
    clear HJ
    go_wp2_with fail
    refine (open_as _ _ _ _ _ HS2.out _ _ _ HO2.out).mono ?_
    rintro e w4 ⟨rfl, rfl⟩
    go_wp2
    go_ret
    exact ⟨rfl, HB3.out⟩

theorem oj_nil : OJ [] 0 (-1) 0 false := ⟨0, ⟨by omega, by omega, fun k _ h => by omega, fun h => by omega⟩, .inl ⟨.inl rfl, rfl, rfl, rfl⟩⟩

theorem swap_some (x : Addr) (n c : Nat) (zs : List Int) (w : World) (hn : n ≤ 1048576) (hlen : n ≤ zs.length)
    (hc : ∀ i, i < zs.length → w.cell? (x.add i) = some (.int .u8 (zs.getD i 0))) (hwf : ∀ m ∈ zs, (Lit.int .u8 m).wf = true) :
    Calls Try.prog 4 #[.slice (some x) n c] w fun e w' => e = .returned (.bool true) ∧ Below w.heap.size w w' := by
  obtain ⟨w2, hcp, hs, hB, _⟩ := copy_run w x n c zs (by omega) hlen hc hwf
  have hyl := hs.1
  generalize zs.take n = ys at hs hyl
  obtain ⟨p, cl, more, hoj⟩ := oj_exists ys n
  have hoj' := hoj
  obtain ⟨o, ho, ⟨hr, rfl, rfl, rfl⟩ | ⟨hlt, hop, rfl, j, hj, hx⟩⟩ := hoj'
  · by_cases hon : o = n
    · subst hon
      exact swap_blank x o c w w2 ys hn hcp hs hB hoj (oj_blank ys o hyl ho) ho
    · have := ho.2.1
      exact swap_bad x n c w w2 ys hn hcp hs hB hoj (oj_refused ys [91, 93] n 2 o hyl ho (by omega) (hr.resolve_left hon)) o ⟨ho, by omega⟩
  · have h1 := hj.1
    have h2 := hj.2.1
    rcases hx with ⟨hjn, hjc, rfl, rfl⟩ | ⟨hjc, rfl, rfl⟩
    · exact swap_shut x n c w w2 ys hn hcp hs hB j (by omega) hjn _ (by omega) hoj ((oj_cut ys n o j 48 hyl ho hop hj not_ws_48).2 (by omega))
    · exact swap_more x n c w w2 ys hn hcp hs hB j (by omega) h2 _ (by omega) hoj ((oj_cut ys n o j _ hyl ho hop hj (not_ws_close hop)).1 rfl)

theorem swap_nil (w : World) : Calls Try.prog 4 #[.slice none 0 0] w fun e w' => e = .returned (.bool true) ∧ Below w.heap.size w w' := by
  have h : SS [] 0 0 0 := ⟨by omega, by omega, fun k _ h => by omega, fun h => by omega⟩
  exact swap_blank_nil w oj_nil (show OJ [91, 93] 2 2 93 false by simpa using oj_blank [] 0 rfl h) h
end Go.Proofs.Qxb6625649a
