/-
  THE WALKS of seat b6625842a, sixth part: timeHops.
-/
import Derived.Test.Qxb6625842aWalksE
namespace Go.Proofs.Qxb6625842a
open Go.ChangeShapes Go.WideShapes Go.ChangeAt Go.RowKit
set_option linter.unusedVariables false

theorem hif_bd (zs : List Int) (hz : ∀ i, 0 ≤ zs.getD i 0 ∧ zs.getD i 0 ≤ 255) (j : Nat) : 0 ≤ hif zs j ∧ hif zs j ≤ 65535 := by
  have h1 := hz (3 * j); have h2 := hz (3 * j + 1)
  unfold hif; omega
theorem hop_cells {zs : List Int} {u : Nat} {Tk : Int → Int × Bool} {src : Int} {j : Nat} (hd : DL zs u Tk src j = (0, false)) : ∀ r, r < 5 →
    (fun r => if r = 2 then Value.int .u8 (hts zs (u - 1 - j)) else (fun r => if r = 1 then Value.int .u8 (hld zs (u - 1 - j)) else (fun r => if r = 0 then Value.int .u16 (hif zs (u - 1 - j)) else zc r) r) r) r = hc zs u Tk src j r := by
  intro r hr
  match r, hr with
  | 0, _ => rfl
  | 1, _ => rfl
  | 2, _ => rfl
  | 3, _ => simp [hc, hd, zc]
  | 4, _ => simp [hc, hd, zc]
theorem hop_cells2 {zs : List Int} {u : Nat} {Tk : Int → Int × Bool} {src : Int} {j : Nat} {x : Int} (hd : DL zs u Tk src j = (x, true)) : ∀ r, r < 5 →
    (fun r => if r = 4 then Value.bool true else (fun r => if r = 3 then Value.int .i64 x else (fun r => if r = 2 then Value.int .u8 (hts zs (u - 1 - j)) else (fun r => if r = 1 then Value.int .u8 (hld zs (u - 1 - j)) else (fun r => if r = 0 then Value.int .u16 (hif zs (u - 1 - j)) else zc r) r) r) r) r) r = hc zs u Tk src j r := by
  intro r hr
  match r, hr with
  | 0, _ => rfl
  | 1, _ => rfl
  | 2, _ => rfl
  | 3, _ => simp [hc, hd]
  | 4, _ => simp [hc, hd]
theorem wrap64_eq (d : Int) : wrap64 d = IntKind.i64.wrap d := by rw [IntKind.wrap_i64]; unfold wrap64; omega
theorem sk_on {zs : List Int} {u : Nat} {Tk : Int → Int × Bool} {src snk p : Int} (h : ST zs u Tk src u = (p, true)) : SK zs u Tk src snk = (ns (IntKind.i64.wrap (IntKind.u64.wrap (snk - p))), true) := by
  unfold SK; rw [h]; rfl
theorem sk_off {zs : List Int} {u : Nat} {Tk : Int → Int × Bool} {src snk p : Int} (h : ST zs u Tk src u = (p, false)) : SK zs u Tk src snk = (0, false) := by
  unfold SK; rw [h]; rfl
theorem li_end {w wr : World} {G u : Nat} {h : Nat → Nat → Value} (H : LI w wr G u h u) (x y : Value) :
    HR ((wr.setCell ⟨w.heap.size, 0, none⟩ x).setCell ⟨w.heap.size, 1, none⟩ y) G u h u ∧ Below w.heap.size w ((wr.setCell ⟨w.heap.size, 0, none⟩ x).setCell ⟨w.heap.size, 1, none⟩ y) := by
  obtain ⟨⟨L, h1, h2, h3⟩, h4, h5, h6⟩ := H
  exact ⟨⟨L, h1, row_other (row_other h2 _ (by show w.heap.size ≠ G; omega) _) _ (by show w.heap.size ≠ G; omega) _, h3⟩, (h5.setCell (Nat.le_refl _) _).setCell (Nat.le_refl _) _⟩
set_option maxHeartbeats 16000000 in
set_option maxRecDepth 100000 in
theorem th_any (ob tb n N u : Nat) (src snk : Int) (zs : List Int) (Tk : Int → Int × Bool) (w : World) (hn : n ≤ 1048576) (hN : 3 * N ≤ n) (huN : u ≤ N)
    (HZ : Hid (∀ i, 0 ≤ zs.getD i 0 ∧ zs.getD i 0 ≤ 255)) (HU : Hid (US zs N u)) (hsrc : Hid (0 ≤ src ∧ src < 18446744073709551616)) (HTK : Hid (∀ k, 0 ≤ (Tk k).1))
    (HCNT : Hid (∀ wx, Below w.heap.size w wx → Calls Try.prog 12 #[.pointer (some ⟨ob, 0, none⟩)] wx fun e w' => e = .returned (.int .i64 N) ∧ w' = wx))
    (HMCD : Hid (∀ wx, Below w.heap.size w wx → ∀ (i : Nat) (I : Int), I = i → i < N → Calls Try.prog 13 #[.pointer (some ⟨ob, 0, none⟩), .int .i64 I] wx fun e w' => e = .returned (.agg #[.int .u16 (hif zs i), .int .u8 (hld zs i), .int .u8 (hts zs i)]) ∧ Below wx.heap.size wx w'))
    (HOF : Hid (∀ wx, Below w.heap.size w wx → ∀ k, 0 ≤ k → k ≤ 65535 → Calls Try.prog 15 #[.pointer (some ⟨tb, 0, none⟩), .int .u16 k] wx fun e w' => e = .returned (.tuple #[.int .u8 (Tk k).1, .bool (Tk k).2]) ∧ Below wx.heap.size wx w')) :
    Calls Try.prog 11 #[.pointer (some ⟨ob, 0, none⟩), .int .u64 src, .int .u64 snk, .pointer (some ⟨tb, 0, none⟩)] w fun e w' => THE w u (hc zs u Tk src) (SK zs u Tk src snk) e w' := by
  go_enter Try.func11, Try.ntmps11
  go_wp2_with fail
  refine (HCNT.out _ ((Below.refl _ _).alloc (Nat.le_refl _) _)).mono ?_
  rintro e w1 ⟨rfl, rfl⟩
  go_wp2_with fail
  go_loopw [10] (fun i wr => ∃ k : Nat, u ≤ k ∧ k ≤ N ∧ i = .int .i64 k ∧ Hid (Below (w.heap.size + 1) (w.alloc (.cells #[.int .i64 0, .bool false] 43)) wr)) (fun i _ => (intOf i).toNat)
  case atStart => exact ⟨N, huN, Nat.le_refl _, rfl, Below.refl _ _⟩
  case round =>
    obtain ⟨k, huk, hkN, rfl, HB⟩ := hrel
    by_cases hlt : u < k
    · have HSZ : Hid (hif zs (k - 1) = 0 ∧ hld zs (k - 1) = 0 ∧ hts zs (k - 1) = 0) := by
        have h := HU.out.2.1 (k - 1) (by omega) (by omega)
        unfold SZ at h
        unfold hif hld hts
        exact ⟨by omega, by omega, by omega⟩
      have HBW : Hid (Below w.heap.size w wr) := ((Below.refl _ _).alloc (Nat.le_refl _) _).trans (HB.out.mono (by omega))
      have hk0 : 0 < (k : Int) := by omega
      go_wp2_with fail
      refine (HMCD.out _ HBW.out (k - 1) _ (by omega) (by omega)).mono ?_
      rintro e w2 ⟨rfl, hb2⟩
      rw [HSZ.out.1, HSZ.out.2.1, HSZ.out.2.2]
      have HB2 : Hid (Below wr.heap.size wr w2) := hb2
      clear hb2
      go_wp2_with fail
      refine (unused_yes _).mono ?_
      rintro e w3 ⟨rfl, hb3⟩
      have HB3 : Hid (Below w2.heap.size w2 w3) := hb3
      clear hb3
      go_wp2
      go_roundw
      case rel => exact ⟨k - 1, by omega, by omega, by go_num, (HB.out.trans (HB2.out.mono (by have := HB.out.size; simp at this; omega))).trans (HB3.out.mono (by have := HB.out.size; have := HB2.out.size; simp at *; omega))⟩
      case measure => simp [intOf]; omega
    · obtain rfl : k = u := by omega
      have hmk := makeH_run k (by omega)
      rcases Nat.eq_zero_or_pos k with h0 | h0
      focus
        have hk0 : ¬ 0 < (k : Int) := by omega
        clear h0
        obtain ⟨w3, rfl⟩ : ∃ w3 : World, w3 = wr := ⟨_, rfl⟩
        have HB3 : Hid (Below (w.heap.size + 1) (w.alloc (.cells #[.int .i64 0, .bool false] 43)) w3) := HB.out
        clear HB
        go_wp2_with fail
      rotate_left
      focus
        have HSZ : Hid (hif zs (k - 1) ≠ 0 ∨ hld zs (k - 1) ≠ 0 ∨ hts zs (k - 1) ≠ 0) := by
          have h := HU.out.2.2 h0
          have z0 := HZ.out (3 * (k - 1))
          have z1 := HZ.out (3 * (k - 1) + 1)
          unfold SZ at h
          unfold hif hld hts
          show _ ∨ _
          generalize zs.getD (3 * (k - 1)) 0 = x at *
          generalize zs.getD (3 * (k - 1) + 1) 0 = y at *
          generalize zs.getD (3 * (k - 1) + 2) 0 = z at *
          omega
        have HBW : Hid (Below w.heap.size w wr) := ((Below.refl _ _).alloc (Nat.le_refl _) _).trans (HB.out.mono (by omega))
        have hk0 : 0 < (k : Int) := by omega
        go_wp2_with fail
        refine (HMCD.out _ HBW.out (k - 1) _ (by omega) (by omega)).mono ?_
        rintro e w2 ⟨rfl, hb2⟩
        have HB2 : Hid (Below wr.heap.size wr w2) := hb2
        clear hb2
        go_wp2_with fail
        refine (unused_no _ _ _ _ HSZ.out).mono ?_
        rintro e w3 ⟨rfl, hb3⟩
        have HB3 : Hid (Below (w.heap.size + 1) (w.alloc (.cells #[.int .i64 0, .bool false] 43)) w3) := (HB.out.trans (HB2.out.mono (by have := HB.out.size; simp at this; omega))).trans (hb3.mono (by have := HB.out.size; have := HB2.out.size; simp at *; omega))
        clear hb3 HB2 HBW HB HSZ
        go_wp2_with fail
      all_goals
        have hG : w.heap.size < w3.heap.size := by have := HB3.out.size; simp at this; omega
        go_loopw [12, 13, 36] (fun p t i wr => ∃ j : Nat, j ≤ k ∧ i = .int .i64 j ∧ p = .int .u64 (ST zs k Tk src j).1 ∧ t = .bool (ST zs k Tk src j).2 ∧ Hid (LI w wr w3.heap.size k (hc zs k Tk src) j)) (fun _ _ i _ => k - (intOf i).toNat)
        case atStart => exact ⟨0, Nat.zero_le _, rfl, rfl, rfl, li_start _ HB3.out⟩
        case round =>
          obtain ⟨j, hj, rfl, rfl, rfl, HL⟩ := hrel
          clear HB3 hmk HCNT
          obtain ⟨⟨p, tm⟩, HST⟩ : ∃ s, Hid (ST zs k Tk src j = s) := ⟨_, rfl⟩
          have HPB : Hid (0 ≤ p ∧ p < 18446744073709551616) := by have := st_bd zs k Tk src hsrc.out j; rw [HST.out] at this; exact this
          rw [HST.out]
          show Code.wp _ _ _ _ _
          by_cases hjk : j < k
          · first
              | (exfalso; omega)
              | (have hjk' : (j : Int) < (k : Int) := by omega
                 have HP : Hid (LP w wr w3.heap.size k (hc zs k Tk src) j zc) := lp_of HL.out
                 clear HL
                 go_wp2_with fail
                 refine (HMCD.out _ (lp_below HP.out) (k - 1 - j) _ (by omega) (by omega)).mono ?_
                 rintro e w4 ⟨rfl, hb4⟩
                 have HP4 : Hid (LP w w4 w3.heap.size k (hc zs k Tk src) j zc) := lp_keep HP.out hb4
                 clear hb4 HP
                 have f0 := lp_cell HP4.out hjk 0 (by omega)
                 have f1 := lp_cell HP4.out hjk 1 (by omega)
                 have f2 := lp_cell HP4.out hjk 2 (by omega)
                 simp only [Nat.add_zero, zc] at f0 f1 f2
                 have hfz := lp_free HP4.out
                 go_wp2_with fail
                 have hkb : 0 ≤ hif zs (k - 1 - j) ∧ hif zs (k - 1 - j) ≤ 65535 := hif_bd zs HZ.out _
                 have HP5 := lp_set (lp_set (lp_set HP4.out hjk 0 (by omega) (.int .u16 (hif zs (k - 1 - j)))) hjk 1 (by omega) (.int .u8 (hld zs (k - 1 - j)))) hjk 2 (by omega) (.int .u8 (hts zs (k - 1 - j)))
                 rw [Nat.add_zero] at HP5
                 refine (HOF.out _ (lp_below HP5) _ hkb.1 hkb.2).mono ?_
                 rintro e w6 ⟨rfl, hb6⟩
                 have HP6 : Hid (LP w w6 w3.heap.size k (hc zs k Tk src) j _) := lp_keep HP5 hb6
                 clear hb6 HP5 HP4 f0 f1 f2 hfz hkb
                 have f2 : w6.cell? ⟨w3.heap.size, j * 5 + 2, none⟩ = some (.int .u8 (hts zs (k - 1 - j))) := lp_cell HP6.out hjk 2 (by omega)
                 have f3 : w6.cell? ⟨w3.heap.size, j * 5 + 3, none⟩ = some (.int .i64 0) := lp_cell HP6.out hjk 3 (by omega)
                 have f4 : w6.cell? ⟨w3.heap.size, j * 5 + 4, none⟩ = some (.bool false) := lp_cell HP6.out hjk 4 (by omega)
                 have f4' : w6.cell? ⟨w3.heap.size, j * 5 + 3 + 1, none⟩ = some (.bool false) := f4
                 have hfz := lp_free HP6.out
                 obtain ⟨⟨tk, tok⟩, HTE⟩ : ∃ s, Hid (Tk (hif zs (k - 1 - j)) = s) := ⟨_, rfl⟩
                 have htk : 0 ≤ tk := by have := HTK.out (hif zs (k - 1 - j)); rw [HTE.out] at this; exact this
                 rw [HTE.out]
                 by_cases hon : (tm && tok) = false
                 · have HS1 : Hid (ST zs k Tk src (j + 1) = (p, false)) := st_off HST.out (by rw [HTE.out]; exact hon)
                   have HD : Hid (DL zs k Tk src j = (0, false)) := dl_off HS1.out
                   cases tm <;> cases tok <;> simp only [Bool.and_self, Bool.and_false, Bool.false_and, reduceCtorEq] at hon
                   all_goals
                     go_wp2
                     go_roundw
                     case rel => exact ⟨j + 1, by omega, by go_num, by rw [HS1.out], by rw [HS1.out], lp_done HP6.out (hop_cells HD.out)⟩
                     case measure => simp [intOf]; omega
                 · have hon2 : tm = true ∧ tok = true := by cases tm <;> cases tok <;> simp at hon ⊢
                   obtain ⟨rfl, rfl⟩ := hon2
                   clear hon
                   have HS1 : Hid (ST zs k Tk src (j + 1) = (ft p (hts zs (k - 1 - j)) tk, true)) := st_on HST.out HTE.out
                   have HFB : Hid (0 ≤ ft p (hts zs (k - 1 - j)) tk ∧ ft p (hts zs (k - 1 - j)) tk < 18446744073709551616) := ft_bd _ _ _ HPB.out.1 HPB.out.2
                   have HFT : Hid (∀ wx, Calls Try.prog 16 #[.int .u64 p, .int .u8 (hts zs (k - 1 - j)), .int .u8 tk] wx fun e w' => e = .returned (.int .u64 (ft p (hts zs (k - 1 - j)) tk)) ∧ w' = wx) := fun wx => ft_any _ _ _ wx htk
                   obtain ⟨now, HNOW⟩ : ∃ q, Hid (ft p (hts zs (k - 1 - j)) tk = q) := ⟨_, rfl⟩
                   rw [HNOW.out] at HS1 HFB HFT
                   obtain ⟨d, hd⟩ : ∃ d, IntKind.u64.wrap (now - p) = d := ⟨_, rfl⟩
                   have HD : Hid (DL zs k Tk src j = (ns d, true)) := by show _ = _; rw [dl_on HST.out HS1.out, hd]
                   have hdb := wrap_u64_bd (now - p)
                   rw [hd] at hdb
                   have HNS : Hid (∀ wx, Calls Try.prog 17 #[.int .u64 d] wx fun e w' => e = .returned (.int .i64 (ns d)) ∧ w' = wx) := fun wx => nano_any d wx hdb.1 hdb.2
                   obtain ⟨x, HX⟩ : ∃ x, Hid (ns d = x) := ⟨_, rfl⟩
                   rw [HX.out] at HNS HD
                   clear hdb
                   go_wp2_with (first | (go_at_call 16; refine (HFT.out _).mono ?_; rintro e w7 ⟨rfl, rfl⟩) | (go_at_call 17; refine (HNS.out _).mono ?_; rintro e w7 ⟨rfl, rfl⟩))
                   go_roundw
                   case rel => exact ⟨j + 1, by omega, by go_num, by rw [HS1.out], by rw [HS1.out], lp_done (lp_set (lp_set HP6.out hjk 3 (by omega) (.int .i64 x)) hjk 4 (by omega) (.bool true)) (hop_cells2 HD.out)⟩
                   case measure => simp [intOf]; omega)
          · obtain rfl : j = k := by omega
            have r0 : wr.cell? ⟨w.heap.size, 0, none⟩ = some (.int .i64 0) := row_cell HL.out.2.1 0
            have r1 : wr.cell? ⟨w.heap.size, 1, none⟩ = some (.bool false) := row_cell HL.out.2.1 1
            have rf := row_free HL.out.2.1
            have hjj : ¬ (j : Int) < (j : Int) := by omega
            cases tm
            · have HK : Hid (SK zs j Tk src snk = (0, false)) := sk_off HST.out
              go_wp2
              rw [HK.out]
              exact bodyPost_ret (v := .tuple #[.slice (some ⟨w3.heap.size, 0, none⟩) j j, .agg #[.int .i64 0, .bool false]]) (by simp [results, Try.results11, go_sem, r0, r1]) rfl ⟨_, rfl, by omega, li_end HL.out _ _⟩
            · obtain ⟨d, hd⟩ : ∃ d, IntKind.u64.wrap (snk - p) = d := ⟨_, rfl⟩
              obtain ⟨d2, hd2⟩ : ∃ d2, IntKind.i64.wrap d = d2 := ⟨_, rfl⟩
              have hd3 : wrap64 d = d2 := by rw [← hd2]; exact wrap64_eq d
              have HK : Hid (SK zs j Tk src snk = (ns d2, true)) := by show _ = _; rw [sk_on HST.out, hd, hd2]
              have HNS : Hid (∀ wx, Calls Try.prog 18 #[.int .i64 d2] wx fun e w' => e = .returned (.int .i64 (ns d2)) ∧ w' = wx) := fun wx => snano_any d2 wx (by rw [← hd2, IntKind.wrap_i64]; omega) (by rw [← hd2, IntKind.wrap_i64]; omega)
              obtain ⟨x, HX⟩ : ∃ x, Hid (ns d2 = x) := ⟨_, rfl⟩
              rw [HX.out] at HNS HK
              go_wp2_with (go_at_call 18; refine (HNS.out _).mono ?_; rintro e w7 ⟨rfl, rfl⟩)
              rw [HK.out]
              exact bodyPost_ret (v := .tuple #[.slice (some ⟨w3.heap.size, 0, none⟩) j j, .agg #[.int .i64 x, .bool true]]) (by simp [results, Try.results11, go_sem, r0, r1]) rfl ⟨_, rfl, by omega, li_end HL.out _ _⟩
end Go.Proofs.Qxb6625842a
