/-
  THE WALKS of seat b6625649a, sixth part: the law FnOpenJSONWhitespaceShift.
-/
import Derived.Test.Qxb6625649aWalksE
namespace Go.Proofs.Qxb6625649a
open Go.ChangeShapes Go.WideShapes Go.ChangeAt Go.RowKit Plain
set_option linter.unusedVariables false

set_option maxHeartbeats 400000 in
theorem shift_great (a b : Option Addr) (n c m d : Nat) (w : World) (hn : n ≤ maxLen) (hm : m ≤ maxLen) (h : ¬ n + m ≤ 1048576) :
    Calls Try.prog 3 #[.slice a n c, .slice b m d] w fun e w' => e = .returned (.bool true) ∧ Below w.heap.size w w' := by
  go_enter Try.func3, Try.ntmps3
  go_wp2_with (go_at_call 5; refine (bytes5_no _ _ _ _ _ _ _ hn hm h).mono ?_; rintro e w' ⟨rfl, rfl⟩)
  go_ret
  exact ⟨rfl, Below.refl _ _⟩

set_option maxHeartbeats 4000000 in
set_option maxRecDepth 100000 in
/-- The pad's byte k is no white space. -/
theorem shift_bad_some (x : Addr) (n c : Nat) (b : Option Addr) (m d : Nat) (w w2 : World) (zs ps : List Int) (hnm : n + m ≤ 1048576)
    (hcp : ∀ ty, (Builtin.copy_ #[22, 22] ty #[.slice (some ⟨w.heap.size, 0, none⟩) n n, .slice (some x) n c]).run Try.prog (w.alloc (mk0 n)) = .ok (.int .i64 (n : Int)) w2)
    (HS : Hid (Seg w2 (some ⟨w.heap.size, 0, none⟩) n zs)) (HB : Hid (Below w.heap.size w w2)) (hsp : Seg w2 b m ps)
    (k : Nat) (HN : Hid (SS ps m 0 k ∧ k < m)) :
    Calls Try.prog 3 #[.slice (some x) n c, .slice b m d] w fun e w' => e = .returned (.bool true) ∧ Below w.heap.size w w' := by
  have hq := q22
  have hmk := make_run n n rfl (by omega)
  have hn' : ¬ (1048576 : Int) < (n : Int) := by omega
  have hm' : ¬ (1048576 : Int) - (n : Int) < (m : Int) := by omega
  have HP : Hid (Seg w2 b m ps) := hsp
  obtain ⟨_, _, _, hsp | ⟨b1, o1, rfl, hsp⟩⟩ := hsp
  all_goals
    have HA : Hid _ := hsp
    clear hsp
    go_enter Try.func3, Try.ntmps3
    go_wp2_with fail
    refine (bytes5_yes _ _ _ _ _ _ _ hnm).mono ?_
    rintro e w' ⟨rfl, rfl⟩
    go_wp2_with fail
    go_loop [6] (fun i => ∃ q : Nat, q ≤ k ∧ i = .int .i64 q) (fun i => m - (intOf i).toNat)
    case atStart => exact ⟨0, Nat.zero_le _, rfl⟩
    case round =>
      obtain ⟨q, hqk, rfl⟩ := hrel
      have hkm := HN.out.2
      first
        | (exfalso; have h0 := HA.out; omega)
        | (have hck := HA.out q (by omega)
           have hqm : (q : Int) < (m : Int) := by omega
           by_cases hlt : q < k
           · have HW : Hid (WS (ps.getD q 0)) := HN.out.1.2.2.1 q (by omega) hlt
             generalize ps.getD q 0 = z at hck HW
             go_wp2_with (go_at_call 6; refine (isWS_yes _ _ HW.out).mono ?_; rintro e w' ⟨rfl, rfl⟩)
             go_round
             case rel => exact ⟨q + 1, by omega, by go_num⟩
             case measure => simp [intOf]; omega
           · obtain rfl : q = k := by omega
             have HW : Hid (¬ WS (ps.getD q 0)) := HN.out.1.2.2.2 hkm
             generalize ps.getD q 0 = z at hck HW
             go_wp2_with (go_at_call 6; refine (isWS_no _ _ HW.out).mono ?_; rintro e w' ⟨rfl, rfl⟩)
             go_ret
             exact ⟨rfl, HB.out⟩)

set_option maxHeartbeats 4000000 in
set_option maxRecDepth 100000 in
/-- The pad is white space alone; data is refused. -/
theorem shift_refused_some (x : Addr) (n c : Nat) (b : Option Addr) (m d : Nat) (w w2 : World) (zs ps : List Int) (hnm : n + m ≤ 1048576)
    (hcp : ∀ ty, (Builtin.copy_ #[22, 22] ty #[.slice (some ⟨w.heap.size, 0, none⟩) n n, .slice (some x) n c]).run Try.prog (w.alloc (mk0 n)) = .ok (.int .i64 (n : Int)) w2)
    (HS : Hid (Seg w2 (some ⟨w.heap.size, 0, none⟩) n zs)) (HB : Hid (Below w.heap.size w w2)) (hsp : Seg w2 b m ps)
    (HN : Hid (SS ps m 0 m)) (HO : Hid (OJ zs n (-1) 0 false)) (HO2 : Hid (OJ (ps ++ zs) (m + n) (-1) 0 false)) :
    Calls Try.prog 3 #[.slice (some x) n c, .slice b m d] w fun e w' => e = .returned (.bool true) ∧ Below w.heap.size w w' := by
  have hq := q22
  have hmk := make_run n n rfl (by omega)
  have hn' : ¬ (1048576 : Int) < (n : Int) := by omega
  have hm' : ¬ (1048576 : Int) - (n : Int) < (m : Int) := by omega
  have HP : Hid (Seg w2 b m ps) := hsp
  obtain ⟨_, _, _, hsp | ⟨b1, o1, rfl, hsp⟩⟩ := hsp
  all_goals
    have HA : Hid _ := hsp
    clear hsp
    go_enter Try.func3, Try.ntmps3
    go_wp2_with fail
    refine (bytes5_yes _ _ _ _ _ _ _ hnm).mono ?_
    rintro e w' ⟨rfl, rfl⟩
    go_wp2_with fail
    go_loop [6] (fun i => ∃ q : Nat, q ≤ m ∧ i = .int .i64 q) (fun i => m - (intOf i).toNat)
    case atStart => exact ⟨0, Nat.zero_le _, rfl⟩
    case round =>
      obtain ⟨q, hqm, rfl⟩ := hrel
      by_cases hlt : q < m
      · first
          | (exfalso; have h0 := HA.out; omega)
          | (have hck := HA.out q (by omega)
             have hqm : (q : Int) < (m : Int) := by omega
             have HW : Hid (WS (ps.getD q 0)) := HN.out.2.2.1 q (by omega) hlt
             generalize ps.getD q 0 = z at hck HW
             go_wp2_with (go_at_call 6; refine (isWS_yes _ _ HW.out).mono ?_; rintro e w' ⟨rfl, rfl⟩)
             go_round
             case rel => exact ⟨q + 1, by omega, by go_num⟩
             case measure => simp [intOf]; omega)
      · clear HA
        have hlt' : ¬ (q : Int) < (m : Int) := by omega
        go_wp2_with fail
        refine (open_as _ _ _ zs _ HS.out _ _ _ HO.out).mono ?_
        rintro e w4 ⟨rfl, rfl⟩
        go_wp2_with fail
        refine (join_at _ _ _ _ _ _ ps zs _ w4.heap.size rfl HP.out HS.out (by omega)).mono ?_
        rintro e w5 ⟨rfl, HJ⟩
        have HS5 : Hid (Seg w5 _ n zs) := seg_keep HS.out HJ.out.2 (Nat.le_refl _)
        have HS6 : Hid (Seg w5 (some ⟨w4.heap.size, 0, none⟩) (m + n) (ps ++ zs)) := HJ.out.1
        have HBE : Hid (Below _ _ w5) := HB.out.trans (HJ.out.2.mono HB.out.size)
        clear HJ
        go_wp2_with fail
        refine (open_as _ _ _ (ps ++ zs) _ HS6.out _ _ _ HO2.out).mono ?_
        rintro e w6 ⟨rfl, rfl⟩
        go_wp2_with fail
        refine (spec_as _ _ _ zs _ HS5.out _ _ _ HO.out).mono ?_
        rintro e w7 ⟨rfl, rfl⟩
        go_wp2
        go_ret
        exact ⟨rfl, HBE.out⟩

set_option maxHeartbeats 4000000 in
set_option maxRecDepth 100000 in
/-- The pad is white space alone; data is taken. -/
theorem shift_taken_some (x : Addr) (n c : Nat) (b : Option Addr) (m d : Nat) (w w2 : World) (zs ps : List Int) (hnm : n + m ≤ 1048576)
    (hcp : ∀ ty, (Builtin.copy_ #[22, 22] ty #[.slice (some ⟨w.heap.size, 0, none⟩) n n, .slice (some x) n c]).run Try.prog (w.alloc (mk0 n)) = .ok (.int .i64 (n : Int)) w2)
    (HS : Hid (Seg w2 (some ⟨w.heap.size, 0, none⟩) n zs)) (HB : Hid (Below w.heap.size w w2)) (hsp : Seg w2 b m ps)
    (HN : Hid (SS ps m 0 m)) (p cl : Int) (more : Bool) (hp0 : 0 ≤ p) (hpn : p ≤ n) (HO : Hid (OJ zs n p cl more)) (HO2 : Hid (OJ (ps ++ zs) (m + n) (p + m) cl more)) :
    Calls Try.prog 3 #[.slice (some x) n c, .slice b m d] w fun e w' => e = .returned (.bool true) ∧ Below w.heap.size w w' := by
  have hp0' : ¬ p < 0 := by omega
  have hq := q22
  have hmk := make_run n n rfl (by omega)
  have hn' : ¬ (1048576 : Int) < (n : Int) := by omega
  have hm' : ¬ (1048576 : Int) - (n : Int) < (m : Int) := by omega
  have HP : Hid (Seg w2 b m ps) := hsp
  obtain ⟨_, _, _, hsp | ⟨b1, o1, rfl, hsp⟩⟩ := hsp
  all_goals
    have HA : Hid _ := hsp
    clear hsp
    go_enter Try.func3, Try.ntmps3
    go_wp2_with fail
    refine (bytes5_yes _ _ _ _ _ _ _ hnm).mono ?_
    rintro e w' ⟨rfl, rfl⟩
    go_wp2_with fail
    go_loop [6] (fun i => ∃ q : Nat, q ≤ m ∧ i = .int .i64 q) (fun i => m - (intOf i).toNat)
    case atStart => exact ⟨0, Nat.zero_le _, rfl⟩
    case round =>
      obtain ⟨q, hqm, rfl⟩ := hrel
      by_cases hlt : q < m
      · first
          | (exfalso; have h0 := HA.out; omega)
          | (have hck := HA.out q (by omega)
             have hqm : (q : Int) < (m : Int) := by omega
             have HW : Hid (WS (ps.getD q 0)) := HN.out.2.2.1 q (by omega) hlt
             generalize ps.getD q 0 = z at hck HW
             go_wp2_with (go_at_call 6; refine (isWS_yes _ _ HW.out).mono ?_; rintro e w' ⟨rfl, rfl⟩)
             go_round
             case rel => exact ⟨q + 1, by omega, by go_num⟩
             case measure => simp [intOf]; omega)
      · clear HA
        have hlt' : ¬ (q : Int) < (m : Int) := by omega
        go_wp2_with fail
        refine (open_as _ _ _ zs _ HS.out _ _ _ HO.out).mono ?_
        rintro e w4 ⟨rfl, rfl⟩
        go_wp2_with fail
        refine (join_at _ _ _ _ _ _ ps zs _ w4.heap.size rfl HP.out HS.out (by omega)).mono ?_
        rintro e w5 ⟨rfl, HJ⟩
        have HS5 : Hid (Seg w5 _ n zs) := seg_keep HS.out HJ.out.2 (Nat.le_refl _)
        have HS6 : Hid (Seg w5 (some ⟨w4.heap.size, 0, none⟩) (m + n) (ps ++ zs)) := HJ.out.1
        have HBE : Hid (Below _ _ w5) := HB.out.trans (HJ.out.2.mono HB.out.size)
        clear HJ
        go_wp2_with fail
        refine (open_as _ _ _ (ps ++ zs) _ HS6.out _ _ _ HO2.out).mono ?_
        rintro e w6 ⟨rfl, rfl⟩
        go_wp2_with fail
        refine (spec_as _ _ _ zs _ HS5.out _ _ _ HO.out).mono ?_
        rintro e w7 ⟨rfl, rfl⟩
        go_wp2
        go_ret
        exact ⟨rfl, HBE.out⟩

set_option maxHeartbeats 4000000 in
set_option maxRecDepth 100000 in
/-- The pad's byte k is no white space. -/
theorem shift_bad_nil (n c : Nat) (b : Option Addr) (m d : Nat) (w : World) (zs ps : List Int) (hnm : n + m ≤ 1048576)
    (HS : Hid (Seg w none n zs)) (HB : Hid (Below w.heap.size w w)) (hsp : Seg w b m ps)
    (k : Nat) (HN : Hid (SS ps m 0 k ∧ k < m)) :
    Calls Try.prog 3 #[.slice none n c, .slice b m d] w fun e w' => e = .returned (.bool true) ∧ Below w.heap.size w w' := by
  have hq := q22
  have hn' : ¬ (1048576 : Int) < (n : Int) := by omega
  have hm' : ¬ (1048576 : Int) - (n : Int) < (m : Int) := by omega
  have HP : Hid (Seg w b m ps) := hsp
  obtain ⟨_, _, _, hsp | ⟨b1, o1, rfl, hsp⟩⟩ := hsp
  all_goals
    have HA : Hid _ := hsp
    clear hsp
    go_enter Try.func3, Try.ntmps3
    go_wp2_with fail
    refine (bytes5_yes _ _ _ _ _ _ _ hnm).mono ?_
    rintro e w' ⟨rfl, rfl⟩
    go_wp2_with fail
    go_loop [6] (fun i => ∃ q : Nat, q ≤ k ∧ i = .int .i64 q) (fun i => m - (intOf i).toNat)
    case atStart => exact ⟨0, Nat.zero_le _, rfl⟩
    case round =>
      obtain ⟨q, hqk, rfl⟩ := hrel
      have hkm := HN.out.2
      first
        | (exfalso; have h0 := HA.out; omega)
        | (have hck := HA.out q (by omega)
           have hqm : (q : Int) < (m : Int) := by omega
           by_cases hlt : q < k
           · have HW : Hid (WS (ps.getD q 0)) := HN.out.1.2.2.1 q (by omega) hlt
             generalize ps.getD q 0 = z at hck HW
             go_wp2_with (go_at_call 6; refine (isWS_yes _ _ HW.out).mono ?_; rintro e w' ⟨rfl, rfl⟩)
             go_round
             case rel => exact ⟨q + 1, by omega, by go_num⟩
             case measure => simp [intOf]; omega
           · obtain rfl : q = k := by omega
             have HW : Hid (¬ WS (ps.getD q 0)) := HN.out.1.2.2.2 hkm
             generalize ps.getD q 0 = z at hck HW
             go_wp2_with (go_at_call 6; refine (isWS_no _ _ HW.out).mono ?_; rintro e w' ⟨rfl, rfl⟩)
             go_ret
             exact ⟨rfl, HB.out⟩)

set_option maxHeartbeats 4000000 in
set_option maxRecDepth 100000 in
/-- The pad is white space alone; data is refused. -/
theorem shift_refused_nil (n c : Nat) (b : Option Addr) (m d : Nat) (w : World) (zs ps : List Int) (hnm : n + m ≤ 1048576)
    (HS : Hid (Seg w none n zs)) (HB : Hid (Below w.heap.size w w)) (hsp : Seg w b m ps)
    (HN : Hid (SS ps m 0 m)) (HO : Hid (OJ zs n (-1) 0 false)) (HO2 : Hid (OJ (ps ++ zs) (m + n) (-1) 0 false)) :
    Calls Try.prog 3 #[.slice none n c, .slice b m d] w fun e w' => e = .returned (.bool true) ∧ Below w.heap.size w w' := by
  have hq := q22
  have hn' : ¬ (1048576 : Int) < (n : Int) := by omega
  have hm' : ¬ (1048576 : Int) - (n : Int) < (m : Int) := by omega
  have HP : Hid (Seg w b m ps) := hsp
  obtain ⟨_, _, _, hsp | ⟨b1, o1, rfl, hsp⟩⟩ := hsp
  all_goals
    have HA : Hid _ := hsp
    clear hsp
    go_enter Try.func3, Try.ntmps3
    go_wp2_with fail
    refine (bytes5_yes _ _ _ _ _ _ _ hnm).mono ?_
    rintro e w' ⟨rfl, rfl⟩
    go_wp2_with fail
    go_loop [6] (fun i => ∃ q : Nat, q ≤ m ∧ i = .int .i64 q) (fun i => m - (intOf i).toNat)
    case atStart => exact ⟨0, Nat.zero_le _, rfl⟩
    case round =>
      obtain ⟨q, hqm, rfl⟩ := hrel
      by_cases hlt : q < m
      · first
          | (exfalso; have h0 := HA.out; omega)
          | (have hck := HA.out q (by omega)
             have hqm : (q : Int) < (m : Int) := by omega
             have HW : Hid (WS (ps.getD q 0)) := HN.out.2.2.1 q (by omega) hlt
             generalize ps.getD q 0 = z at hck HW
             go_wp2_with (go_at_call 6; refine (isWS_yes _ _ HW.out).mono ?_; rintro e w' ⟨rfl, rfl⟩)
             go_round
             case rel => exact ⟨q + 1, by omega, by go_num⟩
             case measure => simp [intOf]; omega)
      · clear HA
        have hlt' : ¬ (q : Int) < (m : Int) := by omega
        go_wp2_with fail
        refine (open_as _ _ _ zs _ HS.out _ _ _ HO.out).mono ?_
        rintro e w4 ⟨rfl, rfl⟩
        go_wp2_with fail
        refine (join_at _ _ _ _ _ _ ps zs _ w4.heap.size rfl HP.out HS.out (by omega)).mono ?_
        rintro e w5 ⟨rfl, HJ⟩
        have HS5 : Hid (Seg w5 _ n zs) := seg_keep HS.out HJ.out.2 (Nat.le_refl _)
        have HS6 : Hid (Seg w5 (some ⟨w4.heap.size, 0, none⟩) (m + n) (ps ++ zs)) := HJ.out.1
        have HBE : Hid (Below _ _ w5) := HB.out.trans (HJ.out.2.mono HB.out.size)
        clear HJ
        go_wp2_with fail
        refine (open_as _ _ _ (ps ++ zs) _ HS6.out _ _ _ HO2.out).mono ?_
        rintro e w6 ⟨rfl, rfl⟩
        go_wp2_with fail
        refine (spec_as _ _ _ zs _ HS5.out _ _ _ HO.out).mono ?_
        rintro e w7 ⟨rfl, rfl⟩
        go_wp2
        go_ret
        exact ⟨rfl, HBE.out⟩

set_option maxHeartbeats 4000000 in
set_option maxRecDepth 100000 in
/-- The pad is white space alone; data is taken. -/
theorem shift_taken_nil (n c : Nat) (b : Option Addr) (m d : Nat) (w : World) (zs ps : List Int) (hnm : n + m ≤ 1048576)
    (HS : Hid (Seg w none n zs)) (HB : Hid (Below w.heap.size w w)) (hsp : Seg w b m ps)
    (HN : Hid (SS ps m 0 m)) (p cl : Int) (more : Bool) (hp0 : 0 ≤ p) (hpn : p ≤ n) (HO : Hid (OJ zs n p cl more)) (HO2 : Hid (OJ (ps ++ zs) (m + n) (p + m) cl more)) :
    Calls Try.prog 3 #[.slice none n c, .slice b m d] w fun e w' => e = .returned (.bool true) ∧ Below w.heap.size w w' := by
  have hp0' : ¬ p < 0 := by omega
  have hq := q22
  have hn' : ¬ (1048576 : Int) < (n : Int) := by omega
  have hm' : ¬ (1048576 : Int) - (n : Int) < (m : Int) := by omega
  have HP : Hid (Seg w b m ps) := hsp
  obtain ⟨_, _, _, hsp | ⟨b1, o1, rfl, hsp⟩⟩ := hsp
  all_goals
    have HA : Hid _ := hsp
    clear hsp
    go_enter Try.func3, Try.ntmps3
    go_wp2_with fail
    refine (bytes5_yes _ _ _ _ _ _ _ hnm).mono ?_
    rintro e w' ⟨rfl, rfl⟩
    go_wp2_with fail
    go_loop [6] (fun i => ∃ q : Nat, q ≤ m ∧ i = .int .i64 q) (fun i => m - (intOf i).toNat)
    case atStart => exact ⟨0, Nat.zero_le _, rfl⟩
    case round =>
      obtain ⟨q, hqm, rfl⟩ := hrel
      by_cases hlt : q < m
      · first
          | (exfalso; have h0 := HA.out; omega)
          | (have hck := HA.out q (by omega)
             have hqm : (q : Int) < (m : Int) := by omega
             have HW : Hid (WS (ps.getD q 0)) := HN.out.2.2.1 q (by omega) hlt
             generalize ps.getD q 0 = z at hck HW
             go_wp2_with (go_at_call 6; refine (isWS_yes _ _ HW.out).mono ?_; rintro e w' ⟨rfl, rfl⟩)
             go_round
             case rel => exact ⟨q + 1, by omega, by go_num⟩
             case measure => simp [intOf]; omega)
      · clear HA
        have hlt' : ¬ (q : Int) < (m : Int) := by omega
        go_wp2_with fail
        refine (open_as _ _ _ zs _ HS.out _ _ _ HO.out).mono ?_
        rintro e w4 ⟨rfl, rfl⟩
        go_wp2_with fail
        refine (join_at _ _ _ _ _ _ ps zs _ w4.heap.size rfl HP.out HS.out (by omega)).mono ?_
        rintro e w5 ⟨rfl, HJ⟩
        have HS5 : Hid (Seg w5 _ n zs) := seg_keep HS.out HJ.out.2 (Nat.le_refl _)
        have HS6 : Hid (Seg w5 (some ⟨w4.heap.size, 0, none⟩) (m + n) (ps ++ zs)) := HJ.out.1
        have HBE : Hid (Below _ _ w5) := HB.out.trans (HJ.out.2.mono HB.out.size)
        clear HJ
        go_wp2_with fail
        refine (open_as _ _ _ (ps ++ zs) _ HS6.out _ _ _ HO2.out).mono ?_
        rintro e w6 ⟨rfl, rfl⟩
        go_wp2_with fail
        refine (spec_as _ _ _ zs _ HS5.out _ _ _ HO.out).mono ?_
        rintro e w7 ⟨rfl, rfl⟩
        go_wp2
        go_ret
        exact ⟨rfl, HBE.out⟩

/-- A slice that came in, as the walks are told of it. -/
theorem seg_in (w : World) (y : Addr) (m d : Nat) (zs : List Int) (hm : m ≤ 1048576) (hl : m ≤ zs.length) (hc : ∀ i, i < zs.length → w.cell? (y.add i) = some (.int .u8 (zs.getD i 0))) (hwf : ∀ n ∈ zs, (Lit.int .u8 n).wf = true) :
    Seg w (some y) m (zs.take m) := by
  refine ⟨by simp; omega, by omega, fun i => ?_, ?_⟩
  · by_cases hi : i < m
    · rw [take_lo _ _ _ hi, List.getD_eq_getElem?_getD]; exact range_u8 hwf i
    · rw [List.getD_eq_getElem?_getD, List.getElem?_eq_none (by simp; omega)]; decide
  · by_cases h0 : m = 0
    · exact .inl h0
    · obtain ⟨b, o, sp⟩ := y
      have hsp : sp = none := by simpa [Addr.add] using World.cell?_spot (hc 0 (by omega))
      subst hsp
      exact .inr ⟨b, o, rfl, fun i hi => by rw [take_lo _ _ _ hi]; rw [← add_plain]; exact hc i (by omega)⟩

theorem shift_some (x : Addr) (n c : Nat) (b : Option Addr) (m d : Nat) (zs ps : List Int) (w : World) (hnm : n + m ≤ 1048576) (hlen : n ≤ zs.length)
    (hc : ∀ i, i < zs.length → w.cell? (x.add i) = some (.int .u8 (zs.getD i 0))) (hwf : ∀ m ∈ zs, (Lit.int .u8 m).wf = true) (hp : Seg w b m ps) :
    Calls Try.prog 3 #[.slice (some x) n c, .slice b m d] w fun e w' => e = .returned (.bool true) ∧ Below w.heap.size w w' := by
  obtain ⟨w2, hcp, hs, hB, _⟩ := copy_run w x n c zs (by omega) hlen hc hwf
  have hp2 := seg_keep hp hB (Nat.le_refl _)
  generalize zs.take n = ys at hs
  obtain ⟨k, hk⟩ := ss_any ps m 0 (by omega)
  by_cases hkm : k < m
  · exact shift_bad_some x n c b m d w w2 ys ps hnm hcp hs hB hp2 k ⟨hk, hkm⟩
  · have := hk.2.1
    obtain rfl : k = m := by omega
    have hpl := hp.1
    obtain ⟨p, cl, more, hoj⟩ := oj_exists ys n
    rcases oj_shift ps ys n (fun i hi => hk.2.2.1 i (by omega) (by omega)) p cl more hoj with ⟨rfl, rfl, rfl, h2⟩ | ⟨h0, h1, h2⟩
    · rw [hpl] at h2
      exact shift_refused_some x n c b k d w w2 ys ps hnm hcp hs hB hp2 hk hoj h2
    · rw [hpl] at h2
      exact shift_taken_some x n c b k d w w2 ys ps hnm hcp hs hB hp2 hk p cl more h0 h1 hoj h2

theorem shift_nil (b : Option Addr) (m d : Nat) (ps : List Int) (w : World) (hm : m ≤ 1048576) (hp : Seg w b m ps) :
    Calls Try.prog 3 #[.slice none 0 0, .slice b m d] w fun e w' => e = .returned (.bool true) ∧ Below w.heap.size w w' := by
  have hs : Seg w none 0 [] := ⟨rfl, by omega, fun i => by simp, .inl rfl⟩
  obtain ⟨k, hk⟩ := ss_any ps m 0 (by omega)
  by_cases hkm : k < m
  · exact shift_bad_nil 0 0 b m d w [] ps (by omega) hs (Below.refl _ _) hp k ⟨hk, hkm⟩
  · have := hk.2.1
    obtain rfl : k = m := by omega
    have hpl := hp.1
    obtain ⟨p, cl, more, hoj⟩ := oj_exists [] 0
    rcases oj_shift ps [] 0 (fun i hi => hk.2.2.1 i (by omega) (by omega)) p cl more hoj with ⟨rfl, rfl, rfl, h2⟩ | ⟨h0, h1, h2⟩
    · rw [hpl] at h2
      exact shift_refused_nil 0 0 b k d w [] ps (by omega) hs (Below.refl _ _) hp hk hoj h2
    · rw [hpl] at h2
      exact shift_taken_nil 0 0 b k d w [] ps (by omega) hs (Below.refl _ _) hp hk p cl more h0 h1 hoj h2
end Go.Proofs.Qxb6625649a
