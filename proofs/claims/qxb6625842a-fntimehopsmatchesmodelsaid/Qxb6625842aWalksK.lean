/-
  THE WALKS of seat b6625842a, eleventh part: the law FnTimeHopsMatchesModel.
-/
import Derived.Test.Qxb6625842aWalksJ
namespace Go.Proofs.Qxb6625842a
open Go.ChangeShapes Go.WideShapes Go.ChangeAt Go.RowKit
set_option linter.unusedVariables false

set_option maxHeartbeats 1000000 in
set_option maxRecDepth 100000 in
theorem model_great (typ kind : Int) (decoded : Bool) (ln : Int) (a : Option Addr) (n c : Nat) (src snk all : Int) (hasAll : Bool) (m : Option Nat) (M : Nat) (w : World)
    (hM : ∀ ty, (Builtin.len_ #[24] ty #[.map m]).run Try.prog w = .ok (.int .i64 (M : Int)) w) (hn : n ≤ maxLen) (h : 1048576 < n ∨ 65536 < M) :
    Calls Try.prog 3 #[.int .u8 typ, .int .u8 kind, .bool decoded, .int .i64 ln, .slice a n c, .int .u64 src, .int .u64 snk, .int .u8 all, .bool hasAll, .map m] w fun e w' => e = .returned (.bool true) ∧ Below w.heap.size w w' := by
  unfold maxLen at hn
  by_cases h1 : 1048576 < n
  · have h1' : (1048576 : Int) < (n : Int) := by omega
    clear h hM
    go_enter Try.func3, Try.ntmps3
    go_wp2
    go_ret
    exact ⟨rfl, Below.refl _ _⟩
  · have h1' : ¬ (1048576 : Int) < (n : Int) := by omega
    have h2' : (65536 : Int) < (M : Int) := by omega
    clear h
    go_enter Try.func3, Try.ntmps3
    go_wp2
    go_ret
    exact ⟨rfl, Below.refl _ _⟩

theorem or4 (x y : Int) (hx0 : 0 ≤ x) (hx1 : x ≤ 255) (hy0 : 0 ≤ y) (hy1 : y ≤ 15) : bits .or .u16 (x * 16) y = x * 16 + y :=
  bits_join .u16 16 (by decide) wraps_u16 4 (x * 16) y (by omega) (by omega) (by omega) hy0 (by omega) (by omega)

theorem vv_in (cell : Nat → Value) (z : Value) (k i : Nat) (h : i < k) : VV cell z k i = cell i := if_pos h
/-- The bundle, of an option and templates that have just been made in that order. -/
theorem told_two (w w0 : World) (ob tb : Nat) (typ kind ln : Int) (decoded : Bool) (a : Option Addr) (n c : Nat) (zs : List Int) (f : Int → Int × Bool) (all : Int) (hasAll : Bool) (m : Option Nat)
    (hb : Below w.heap.size w w0) (hob : w0.heap.size = ob) (htb : w0.heap.size + 1 = tb) (hs : Seg w a n zs) (hnc : n ≤ c) (hm : ∀ wx, Below w.heap.size w wx → MV m f wx) (hf : ∀ k, 0 ≤ (f k).1) (ha : 0 ≤ all) :
    Told ((w0.alloc (.cells #[.int .u8 typ, .int .u8 kind, .bool decoded, .int .i64 ln, .slice a n c] 38)).alloc (.cells #[.int .u8 all, .bool hasAll, .map m] 53)) ob tb kind decoded a n c zs f all hasAll m := by
  subst hob htb
  have ht := tpl_new (w0.alloc (.cells #[.int .u8 typ, .int .u8 kind, .bool decoded, .int .i64 ln, .slice a n c] 38)) all hasAll m
  have hb2 := hb.trans ((two_new w0 (.cells #[.int .u8 typ, .int .u8 kind, .bool decoded, .int .i64 ln, .slice a n c] 38) (.cells #[.int .u8 all, .bool hasAll, .map m] 53)).mono hb.size)
  exact ⟨opt_keep (below_one _ _) (Nat.le_refl _) (opt_new w0 typ kind ln decoded a n c), by simpa using ht, seg_keep hb2 (Nat.le_refl _) hs, hnc, fun wx hx => hm wx (hb2.trans (hx.mono hb2.size)), hf, ha⟩
/-- What the second loop finds at place i. -/
theorem mj_five {w wr : World} {zs : List Int} {u : Nat} {Tk : Int → Int × Bool} {src : Int} (h : MJ w wr zs u Tk src u) (i : Nat) (hi : i < u) :
    wr.cell? ⟨w.heap.size, i, none⟩ = some (.int .u16 (hif zs (u - 1 - i))) ∧ wr.cell? ⟨w.heap.size + 1, i, none⟩ = some (.int .u8 (hld zs (u - 1 - i))) ∧ wr.cell? ⟨w.heap.size + 2, i, none⟩ = some (.int .u8 (hts zs (u - 1 - i))) ∧
    wr.cell? ⟨w.heap.size + 3, i, none⟩ = some (.int .i64 (DL zs u Tk src i).1) ∧ wr.cell? ⟨w.heap.size + 4, i, none⟩ = some (.bool (DL zs u Tk src i).2) := by
  refine ⟨?_, ?_, ?_, ?_, ?_⟩
  · rw [rf_cell h.r0 i hi, vv_in _ _ _ _ hi]; rfl
  · rw [rf_cell h.r1 i hi, vv_in _ _ _ _ hi]; rfl
  · rw [rf_cell h.r2 i hi, vv_in _ _ _ _ hi]; rfl
  · rw [rf_cell h.r3 i hi, vv_in _ _ _ _ hi]; rfl
  · rw [rf_cell h.r4 i hi, vv_in _ _ _ _ hi]; rfl
theorem vv_at (cell : Nat → Value) (z : Value) (k : Nat) : VV cell z k k = z := if_neg (by omega)
theorem mj_three {w wr : World} {zs : List Int} {u : Nat} {Tk : Int → Int × Bool} {src : Int} {k : Nat} (h : MJ w wr zs u Tk src k) (X Y Z : Int) (hX : X = hif zs (u - 1 - k)) (hY : Y = hld zs (u - 1 - k)) (hZ : Z = hts zs (u - 1 - k)) :
    MI w (((wr.setCell ⟨w.heap.size, k, none⟩ (.int .u16 X)).setCell ⟨w.heap.size + 1, k, none⟩ (.int .u8 Y)).setCell ⟨w.heap.size + 2, k, none⟩ (.int .u8 Z)) u
      (VV (E0 zs u) (.int .u16 0) (k + 1)) (VV (E1 zs u) (.int .u8 0) (k + 1)) (VV (E2 zs u) (.int .u8 0) (k + 1)) (VV (E3 zs u Tk src) (.int .i64 0) k) (VV (E4 zs u Tk src) (.bool false) k) := by
  have := ((MI.set0 h k (.int .u16 X)).set1 k (.int .u8 Y)).set2 k (.int .u8 Z)
  rw [vv_upd _ _ _ _ (by rw [hX]; rfl), vv_upd _ _ _ _ (by rw [hY]; rfl), vv_upd _ _ _ _ (by rw [hZ]; rfl)] at this
  exact this
theorem mj_off {w W : World} {zs : List Int} {u : Nat} {Tk : Int → Int × Bool} {src : Int} {k : Nat}
    (h : MI w W u (VV (E0 zs u) (.int .u16 0) (k + 1)) (VV (E1 zs u) (.int .u8 0) (k + 1)) (VV (E2 zs u) (.int .u8 0) (k + 1)) (VV (E3 zs u Tk src) (.int .i64 0) k) (VV (E4 zs u Tk src) (.bool false) k)) (hd : DL zs u Tk src k = (0, false)) : MJ w W zs u Tk src (k + 1) := by
  rw [vv_skip (E3 zs u Tk src) _ k (by unfold E3; rw [hd]), vv_skip (E4 zs u Tk src) _ k (by unfold E4; rw [hd])] at h
  exact h
theorem mj_on {w W : World} {zs : List Int} {u : Nat} {Tk : Int → Int × Bool} {src : Int} {k : Nat}
    (h : MI w W u (VV (E0 zs u) (.int .u16 0) (k + 1)) (VV (E1 zs u) (.int .u8 0) (k + 1)) (VV (E2 zs u) (.int .u8 0) (k + 1)) (VV (E3 zs u Tk src) (.int .i64 0) k) (VV (E4 zs u Tk src) (.bool false) k)) (x : Int) (hd : DL zs u Tk src k = (x, true)) :
    MJ w ((W.setCell ⟨w.heap.size + 3, k, none⟩ (.int .i64 x)).setCell ⟨w.heap.size + 4, k, none⟩ (.bool true)) zs u Tk src (k + 1) := by
  have := (h.set3 k (.int .i64 x)).set4 k (.bool true)
  rw [vv_upd _ _ _ _ (by unfold E3; rw [hd]), vv_upd _ _ _ _ (by unfold E4; rw [hd])] at this
  exact this
theorem t_yes {f : Int → Int × Bool} {all : Int} {hasAll : Bool} {X v : Int} (h : f X = (v, true)) : T f all hasAll X = (v, true) := by unfold T; rw [h]; rfl
theorem t_no {f : Int → Int × Bool} {all : Int} {hasAll : Bool} {X v : Int} (h : f X = (v, false)) : T f all hasAll X = (all, hasAll) := by unfold T; rw [h]; rfl

set_option maxHeartbeats 16000000 in
set_option maxRecDepth 100000 in
theorem model_main (typ kind : Int) (decoded : Bool) (ln : Int) (a : Option Addr) (n c : Nat) (src snk all : Int) (hasAll : Bool) (m : Option Nat) (M N u : Nat) (zs : List Int) (f : Int → Int × Bool) (w : World)
    (hM : ∀ ty, (Builtin.len_ #[24] ty #[.map m]).run Try.prog w = .ok (.int .i64 (M : Int)) w) (hn : n ≤ 1048576) (hM1 : M ≤ 65536)
    (HSEG : Hid (Seg w a n zs)) (hnc : n ≤ c) (HMV : Hid (∀ wx, Below w.heap.size w wx → MV m f wx)) (HBD : Hid ((∀ k, 0 ≤ (f k).1) ∧ 0 ≤ all ∧ 0 ≤ src ∧ src < 18446744073709551616))
    (HN : Hid (NO decoded kind n N)) (HU : Hid (US zs N u)) (huN : 3 * u ≤ n) :
    Calls Try.prog 3 #[.int .u8 typ, .int .u8 kind, .bool decoded, .int .i64 ln, .slice a n c, .int .u64 src, .int .u64 snk, .int .u8 all, .bool hasAll, .map m] w fun e w' => e = .returned (.bool true) ∧ Below w.heap.size w w' := by
  have h1' : ¬ (1048576 : Int) < (n : Int) := by omega
  have h2' : ¬ (65536 : Int) < (M : Int) := by omega
  have hm1 := makeV_run Try.underlying26 Try.infoU16 rfl (by omega) u (by omega)
  have hm2 := makeV_run Try.underlying22 Try.infoU8 rfl (by omega) u (by omega)
  have hm3 := makeV_run Try.underlying27 Try.infoI64 rfl (by omega) u (by omega)
  have hm4 := makeV_run Try.underlying28 Try.infoBool rfl (by omega) u (by omega)
  go_enter Try.func3, Try.ntmps3
  go_wp2_with fail
  refine (slots_any _ _ _ zs _ _ _ HSEG.out u (uo_of HN.out HU.out)).mono ?_
  rintro e w' ⟨rfl, rfl⟩
  go_wp2_with fail
  clear hm1 hm2 hm3 hm4 hM
  go_loopw [27, 28, 29] (fun p t i wr => ∃ k : Nat, k ≤ u ∧ i = .int .i64 k ∧ p = .int .u64 (ST zs u (T f all hasAll) src k).1 ∧ t = .bool (ST zs u (T f all hasAll) src k).2 ∧ Hid (MJ w' wr zs u (T f all hasAll) src k)) (fun _ _ i _ => u - (intOf i).toNat)
  case atStart => exact ⟨0, Nat.zero_le _, rfl, rfl, rfl, mj_start _ _ _ _ _⟩
  case round =>
    obtain ⟨k, hk, rfl, rfl, rfl, HMJ⟩ := hrel
    obtain ⟨⟨p, tm⟩, HST⟩ : ∃ s, Hid (ST zs u (T f all hasAll) src k = s) := ⟨_, rfl⟩
    have HPB : Hid (0 ≤ p ∧ p < 18446744073709551616) := by have := st_bd zs u (T f all hasAll) src ⟨HBD.out.2.2.1, HBD.out.2.2.2⟩ k; rw [HST.out] at this; exact this
    rw [HST.out]
    show Code.wp _ _ _ _ _
    by_cases hlt : k < u
    · obtain ⟨J, hJ⟩ : ∃ J : Nat, (u : Int) - 1 - (k : Int) = (J : Int) := ⟨u - 1 - k, by omega⟩
      have HJ : Hid (J = u - 1 - k) := by show _ = _; omega
      have hJ3 : 3 * J + 3 ≤ n := by omega
      have hlt1 : (k : Int) < (u : Int) := by omega
      have hbel := HMJ.out.bel
      obtain ⟨hzl, hzn, hzb, h0 | ⟨b, o, rfl, hcl⟩⟩ := HSEG.out
      · omega
      have c0 := cell_keep hbel (Nat.le_refl _) (hcl (3 * J) (by omega))
      have c1 := cell_keep hbel (Nat.le_refl _) (hcl (3 * J + 1) (by omega))
      have c2 := cell_keep hbel (Nat.le_refl _) (hcl (3 * J + 2) (by omega))
      have hb0 := hzb (3 * J)
      have hb1 := hzb (3 * J + 1)
      have hb2 := hzb (3 * J + 2)
      obtain ⟨x, HX⟩ : ∃ x, Hid (zs.getD (3 * J) 0 = x) := ⟨_, rfl⟩
      obtain ⟨y, HY⟩ : ∃ x, Hid (zs.getD (3 * J + 1) 0 = x) := ⟨_, rfl⟩
      obtain ⟨z, HZ⟩ : ∃ x, Hid (zs.getD (3 * J + 2) 0 = x) := ⟨_, rfl⟩
      rw [HX.out] at c0 hb0
      rw [HY.out] at c1 hb1
      rw [HZ.out] at c2 hb2
      have hblt : b < w'.heap.size := cell_lt (hcl 0 (by omega))
      clear hcl hzl hzn hzb hbel
      have e1 : IntKind.u16.wrap x = x := by rw [IntKind.wrap_u16]; omega
      have e2 : IntKind.u16.wrap (x * 16) = x * 16 := by rw [IntKind.wrap_u16]; omega
      have e3 : IntKind.u16.wrap (y / 16) = y / 16 := by rw [IntKind.wrap_u16]; omega
      obtain ⟨X, HXX⟩ : ∃ X, Hid (x * 16 + y / 16 = X) := ⟨_, rfl⟩
      obtain ⟨Y, HYY⟩ : ∃ Y, Hid (y % 16 = Y) := ⟨_, rfl⟩
      have e4 : bits .or .u16 (x * 16) (y / 16) = X := by rw [or4 x (y / 16) hb0.1 hb0.2 (by omega) (by omega)]; exact HXX.out
      have e5 : bits .and .u8 y 15 = Y := by rw [u8_and15 y hb1.1 (by omega)]; exact HYY.out
      have HXI : Hid (X = hif zs (u - 1 - k)) := by show _ = _; rw [← HJ.out]; unfold hif; rw [HX.out, HY.out, HXX.out]
      have HYI : Hid (Y = hld zs (u - 1 - k)) := by show _ = _; rw [← HJ.out]; unfold hld; rw [HY.out, HYY.out]
      have HZI : Hid (z = hts zs (u - 1 - k)) := by show _ = _; rw [← HJ.out]; unfold hts; rw [HZ.out]
      have hXb : 0 ≤ X ∧ X ≤ 65535 := by have := HXX.out; omega
      have HM3 : Hid _ := mj_three HMJ.out X Y z HXI.out HYI.out HZI.out
      have g0 : wr.cell? ⟨w'.heap.size, k, none⟩ = some (.int .u16 0) := by rw [rf_cell HMJ.out.r0 k hlt, vv_at]
      have g1 : wr.cell? ⟨w'.heap.size + 1, k, none⟩ = some (.int .u8 0) := by rw [rf_cell HMJ.out.r1 k hlt, vv_at]
      have g2 : wr.cell? ⟨w'.heap.size + 2, k, none⟩ = some (.int .u8 0) := by rw [rf_cell HMJ.out.r2 k hlt, vv_at]
      have g3 : wr.cell? ⟨w'.heap.size + 3, k, none⟩ = some (.int .i64 0) := by rw [rf_cell HMJ.out.r3 k hlt, vv_at]
      have g4 : wr.cell? ⟨w'.heap.size + 4, k, none⟩ = some (.bool false) := by rw [rf_cell HMJ.out.r4 k hlt, vv_at]
      have z0 := rf_free HMJ.out.r0
      have z1 := rf_free HMJ.out.r1
      have z2 := rf_free HMJ.out.r2
      have z3 := rf_free HMJ.out.r3
      have z4 := rf_free HMJ.out.r4
      have hl := HMV.out _ (MI.bel HM3.out) X hXb.1 hXb.2
      obtain ⟨⟨v, okm⟩, HF⟩ : ∃ s, Hid (f X = s) := ⟨_, rfl⟩
      have hv0 : 0 ≤ v := by have := HBD.out.1 X; rw [HF.out] at this; exact this
      rw [HF.out] at hl
      clear HSEG
      cases tm
      · have HS1 : Hid (ST zs u (T f all hasAll) src (k + 1) = (p, false)) := st_off HST.out rfl
        have HD : Hid (DL zs u (T f all hasAll) src k = (0, false)) := dl_off HS1.out
        go_wp2
        go_roundw
        case rel => exact ⟨k + 1, by omega, by go_num, by rw [HS1.out], by rw [HS1.out], mj_off HM3.out HD.out⟩
        case measure => simp [intOf]; omega
      · cases okm
        · cases hasAll
          · have HTX : Hid ((T f all false (hif zs (u - 1 - k))).2 = false) := by show _ = _; rw [← HXI.out, t_no HF.out]
            have HS1 : Hid (ST zs u (T f all false) src (k + 1) = (p, false)) := st_off HST.out HTX.out
            have HD : Hid (DL zs u (T f all false) src k = (0, false)) := dl_off HS1.out
            go_wp2
            go_roundw
            case rel => exact ⟨k + 1, by omega, by go_num, by rw [HS1.out], by rw [HS1.out], mj_off HM3.out HD.out⟩
            case measure => simp [intOf]; omega
          · have ha0 := HBD.out.2.1
            by_cases hbig : 56 < all
            · go_wp2
              go_ret
              exact ⟨rfl, MI.bel HM3.out⟩
            · have HTX : Hid (T f all true (hif zs (u - 1 - k)) = (all, true)) := by show _ = _; rw [← HXI.out]; exact t_no HF.out
              obtain ⟨now, HNOW⟩ : ∃ q, Hid (nt p z all = q) := ⟨_, rfl⟩
              have HS1 : Hid (ST zs u (T f all true) src (k + 1) = (now, true)) := by
                show _ = _
                rw [st_on HST.out HTX.out, ← HZI.out, ← turn_same p z all HPB.out.1 HPB.out.2 hb2.1 hb2.2 ha0 (by omega), HNOW.out]
              have HNT : Hid (∀ wx, Calls Try.prog 6 #[.int .u64 p, .int .u8 z, .int .u8 all] wx fun e w' => e = .returned (.int .u64 now) ∧ w' = wx) := fun wx => by rw [← HNOW.out]; exact nt_any p z all wx ha0
              obtain ⟨d, hd⟩ : ∃ d, IntKind.u64.wrap (now - p) = d := ⟨_, rfl⟩
              have HD : Hid (DL zs u (T f all true) src k = (ns d, true)) := by show _ = _; rw [dl_on HST.out HS1.out, hd]
              have hdb := wrap_u64_bd (now - p)
              rw [hd] at hdb
              have HNS : Hid (∀ wx, Calls Try.prog 7 #[.int .u64 d] wx fun e w' => e = .returned (.int .i64 (ns d)) ∧ w' = wx) := fun wx => units_any d wx hdb.1 hdb.2
              obtain ⟨q, HQ⟩ : ∃ x, Hid (ns d = x) := ⟨_, rfl⟩
              rw [HQ.out] at HNS HD
              clear hdb
              go_wp2_with (first | (go_at_call 6; refine (HNT.out _).mono ?_; rintro e w7 ⟨rfl, rfl⟩) | (go_at_call 7; refine (HNS.out _).mono ?_; rintro e w7 ⟨rfl, rfl⟩))
              go_roundw
              case rel => exact ⟨k + 1, by omega, by go_num, by rw [HS1.out], by rw [HS1.out], mj_on HM3.out q HD.out⟩
              case measure => simp [intOf]; omega
        · by_cases hbig : 56 < v
          · go_wp2
            go_ret
            exact ⟨rfl, MI.bel HM3.out⟩
          · have HTX : Hid (T f all hasAll (hif zs (u - 1 - k)) = (v, true)) := by show _ = _; rw [← HXI.out]; exact t_yes HF.out
            obtain ⟨now, HNOW⟩ : ∃ q, Hid (nt p z v = q) := ⟨_, rfl⟩
            have HS1 : Hid (ST zs u (T f all hasAll) src (k + 1) = (now, true)) := by
              show _ = _
              rw [st_on HST.out HTX.out, ← HZI.out, ← turn_same p z v HPB.out.1 HPB.out.2 hb2.1 hb2.2 hv0 (by omega), HNOW.out]
            have HNT : Hid (∀ wx, Calls Try.prog 6 #[.int .u64 p, .int .u8 z, .int .u8 v] wx fun e w' => e = .returned (.int .u64 now) ∧ w' = wx) := fun wx => by rw [← HNOW.out]; exact nt_any p z v wx hv0
            obtain ⟨d, hd⟩ : ∃ d, IntKind.u64.wrap (now - p) = d := ⟨_, rfl⟩
            have HD : Hid (DL zs u (T f all hasAll) src k = (ns d, true)) := by show _ = _; rw [dl_on HST.out HS1.out, hd]
            have hdb := wrap_u64_bd (now - p)
            rw [hd] at hdb
            have HNS : Hid (∀ wx, Calls Try.prog 7 #[.int .u64 d] wx fun e w' => e = .returned (.int .i64 (ns d)) ∧ w' = wx) := fun wx => units_any d wx hdb.1 hdb.2
            obtain ⟨q, HQ⟩ : ∃ x, Hid (ns d = x) := ⟨_, rfl⟩
            rw [HQ.out] at HNS HD
            clear hdb
            go_wp2_with (first | (go_at_call 6; refine (HNT.out _).mono ?_; rintro e w7 ⟨rfl, rfl⟩) | (go_at_call 7; refine (HNS.out _).mono ?_; rintro e w7 ⟨rfl, rfl⟩))
            go_roundw
            case rel => exact ⟨k + 1, by omega, by go_num, by rw [HS1.out], by rw [HS1.out], mj_on HM3.out q HD.out⟩
            case measure => simp [intOf]; omega
    · obtain rfl : k = u := by omega
      have hkk : ¬ (k : Int) < (k : Int) := by omega
      cases tm
      · have HK : Hid (SK zs k (T f all hasAll) src snk = (0, false)) := sk_off HST.out
        go_wp2_with fail
        refine (newT_any _ _ _ _).mono ?_
        rintro e w1 ⟨rfl, rfl⟩
        go_wp2_with fail
        refine (zz_told _ _ _ kind decoded a n c zs f all hasAll m (told_two w' wr _ _ typ kind ln decoded a n c zs f all hasAll m HMJ.out.bel rfl rfl HSEG.out hnc HMV.out HBD.out.1 HBD.out.2.1) N k HN.out HU.out src snk HBD.out.2.2).mono ?_
        rintro e w5 ⟨G, rfl, hG, HH, hb5⟩
        rw [HK.out]
        have HB5 : Hid (Below wr.heap.size wr w5) := (two_new wr _ _).trans (hb5.mono (by simp; omega))
        have HM5 : Hid (MJ w' w5 zs k (T f all hasAll) src k) := MI.keep HMJ.out HB5.out
        have HR5 : Hid (HR w5 G k (hc zs k (T f all hasAll) src) k) := HH
        have hG5 := hr_lt HR5.out
        have hs4 := row_lt HM5.out.r4.choose_spec.2.1
        clear hb5 HH hG HMJ HB5 HSEG HMV HN HU
        go_wp2_with fail
        go_loopw [43] (fun i wx => ∃ q : Nat, q ≤ k ∧ i = .int .i64 q ∧ Hid (Below (w5.heap.size + 1) (w5.alloc (.cells #[.int .i64 0, .bool false] 43)) wx)) (fun i _ => k - (intOf i).toNat)
        case atStart => exact ⟨0, Nat.zero_le _, rfl, Below.refl _ _⟩
        case round =>
          obtain ⟨q, hq, rfl, HBX⟩ := hrel
          have HBW : Hid (Below w5.heap.size w5 wr) := (below_one w5 _).trans (HBX.out.mono (by omega))
          have hsz : w5.heap.size < wr.heap.size := by have := HBX.out.size; simp at this; omega
          by_cases hqk : q < k
          · have hqk' : (q : Int) < (k : Int) := by omega
            obtain ⟨f0, f1, f2, f3, f4⟩ := hr_five (hr_keep HR5.out HBW.out (Nat.le_refl _)) q hqk
            obtain ⟨g0, g1, g2, g3, g4⟩ := mj_five (MI.keep HM5.out HBW.out) q hqk
            have s0 : w'.heap.size < wr.heap.size := by omega
            have s1 : w'.heap.size + 1 < wr.heap.size := by omega
            have s2 : w'.heap.size + 2 < wr.heap.size := by omega
            have s3 : w'.heap.size + 3 < wr.heap.size := by omega
            have s4 : w'.heap.size + 4 < wr.heap.size := by omega
            generalize hif zs (k - 1 - q) = x0 at f0 g0
            generalize hld zs (k - 1 - q) = x1 at f1 g1
            generalize hts zs (k - 1 - q) = x2 at f2 g2
            generalize (DL zs k (T f all hasAll) src q).1 = x3 at f3 g3
            generalize (DL zs k (T f all hasAll) src q).2 = x4 at f4 g4
            go_wp2
            go_quiet (fail)
            go_wp2
            go_quiet (fail)
            go_wp2
            go_roundw
            case rel => exact ⟨q + 1, by omega, by go_num, below_draws (HBX.out.alloc (by omega) _) _⟩
            case measure => simp [intOf]; omega
          · have hqk' : ¬ (q : Int) < (k : Int) := by omega
            have r0 : wr.cell? ⟨w5.heap.size, 0, none⟩ = some (.int .i64 0) := by rw [HBX.out.cell (by simp)]; simp
            have r1 : wr.cell? ⟨w5.heap.size, 1, none⟩ = some (.bool false) := by rw [HBX.out.cell (by simp)]; simp
            go_wp2
            go_ret
            exact ⟨rfl, HM5.out.bel.trans (HBW.out.mono HM5.out.bel.size)⟩
      · obtain ⟨d, hd⟩ : ∃ d, IntKind.u64.wrap (snk - p) = d := ⟨_, rfl⟩
        obtain ⟨d2, hd2⟩ : ∃ d2, IntKind.i64.wrap d = d2 := ⟨_, rfl⟩
        have hd3 : wrap64 d = d2 := by rw [← hd2]; exact wrap64_eq d
        have HNS : Hid (∀ wx, Calls Try.prog 8 #[.int .i64 d2] wx fun e w' => e = .returned (.int .i64 (ns d2)) ∧ w' = wx) := fun wx => sunits_any d2 wx (by rw [← hd2, IntKind.wrap_i64]; omega) (by rw [← hd2, IntKind.wrap_i64]; omega)
        have HK : Hid (SK zs k (T f all hasAll) src snk = (ns d2, true)) := by show _ = _; rw [sk_on HST.out, hd, hd2]
        obtain ⟨x, HX⟩ : ∃ x, Hid (ns d2 = x) := ⟨_, rfl⟩
        rw [HX.out] at HNS HK
        go_wp2_with fail
        refine (HNS.out _).mono ?_
        rintro e w9 ⟨rfl, rfl⟩
        go_wp2_with fail
        refine (newT_any _ _ _ _).mono ?_
        rintro e w1 ⟨rfl, rfl⟩
        go_wp2_with fail
        refine (zz_told _ _ _ kind decoded a n c zs f all hasAll m (told_two w' w9 _ _ typ kind ln decoded a n c zs f all hasAll m HMJ.out.bel rfl rfl HSEG.out hnc HMV.out HBD.out.1 HBD.out.2.1) N k HN.out HU.out src snk HBD.out.2.2).mono ?_
        rintro e w5 ⟨G, rfl, hG, HH, hb5⟩
        rw [HK.out]
        have HB5 : Hid (Below w9.heap.size w9 w5) := (two_new w9 _ _).trans (hb5.mono (by simp; omega))
        have HM5 : Hid (MJ w' w5 zs k (T f all hasAll) src k) := MI.keep HMJ.out HB5.out
        have HR5 : Hid (HR w5 G k (hc zs k (T f all hasAll) src) k) := HH
        have hG5 := hr_lt HR5.out
        have hs4 := row_lt HM5.out.r4.choose_spec.2.1
        clear hb5 HH hG HMJ HB5 HSEG HMV HN HU
        go_wp2_with fail
        go_loopw [43] (fun i wx => ∃ q : Nat, q ≤ k ∧ i = .int .i64 q ∧ Hid (Below (w5.heap.size + 1) (w5.alloc (.cells #[.int .i64 x, .bool true] 43)) wx)) (fun i _ => k - (intOf i).toNat)
        case atStart => exact ⟨0, Nat.zero_le _, rfl, Below.refl _ _⟩
        case round =>
          obtain ⟨q, hq, rfl, HBX⟩ := hrel
          have HBW : Hid (Below w5.heap.size w5 wr) := (below_one w5 _).trans (HBX.out.mono (by omega))
          have hsz : w5.heap.size < wr.heap.size := by have := HBX.out.size; simp at this; omega
          by_cases hqk : q < k
          · have hqk' : (q : Int) < (k : Int) := by omega
            obtain ⟨f0, f1, f2, f3, f4⟩ := hr_five (hr_keep HR5.out HBW.out (Nat.le_refl _)) q hqk
            obtain ⟨g0, g1, g2, g3, g4⟩ := mj_five (MI.keep HM5.out HBW.out) q hqk
            have s0 : w'.heap.size < wr.heap.size := by omega
            have s1 : w'.heap.size + 1 < wr.heap.size := by omega
            have s2 : w'.heap.size + 2 < wr.heap.size := by omega
            have s3 : w'.heap.size + 3 < wr.heap.size := by omega
            have s4 : w'.heap.size + 4 < wr.heap.size := by omega
            generalize hif zs (k - 1 - q) = x0 at f0 g0
            generalize hld zs (k - 1 - q) = x1 at f1 g1
            generalize hts zs (k - 1 - q) = x2 at f2 g2
            generalize (DL zs k (T f all hasAll) src q).1 = x3 at f3 g3
            generalize (DL zs k (T f all hasAll) src q).2 = x4 at f4 g4
            go_wp2
            go_quiet (fail)
            go_wp2
            go_quiet (fail)
            go_wp2
            go_roundw
            case rel => exact ⟨q + 1, by omega, by go_num, below_draws (HBX.out.alloc (by omega) _) _⟩
            case measure => simp [intOf]; omega
          · have hqk' : ¬ (q : Int) < (k : Int) := by omega
            have r0 : wr.cell? ⟨w5.heap.size, 0, none⟩ = some (.int .i64 x) := by rw [HBX.out.cell (by simp)]; simp
            have r1 : wr.cell? ⟨w5.heap.size, 1, none⟩ = some (.bool true) := by rw [HBX.out.cell (by simp)]; simp
            go_wp2
            go_ret
            exact ⟨rfl, HM5.out.bel.trans (HBW.out.mono HM5.out.bel.size)⟩

theorem model_any (typ kind : Int) (decoded : Bool) (ln : Int) (a : Option Addr) (n c : Nat) (src snk all : Int) (hasAll : Bool) (m : Option Nat) (M : Nat) (f : Int → Int × Bool) (w : World)
    (hmap : IsMap w m f M) (hn : n ≤ maxLen) (hnc : n ≤ c) (hs : n ≤ 1048576 → ∃ zs, Seg w a n zs) (hsrc : 0 ≤ src ∧ src < 18446744073709551616) (ha : 0 ≤ all) :
    Calls Try.prog 3 #[.int .u8 typ, .int .u8 kind, .bool decoded, .int .i64 ln, .slice a n c, .int .u64 src, .int .u64 snk, .int .u8 all, .bool hasAll, .map m] w fun e w' => e = .returned (.bool true) ∧ Below w.heap.size w w' := by
  by_cases hg : 1048576 < n ∨ 65536 < M
  · exact model_great typ kind decoded ln a n c src snk all hasAll m M w hmap.2.1 hn hg
  · obtain ⟨zs, hseg⟩ := hs (by omega)
    obtain ⟨N, hN⟩ := no_exists decoded kind n
    obtain ⟨u, hu⟩ := us_exists zs N
    have hN3 : 3 * N ≤ n := by rcases hN with ⟨_, _, rfl⟩ | ⟨_, rfl⟩ <;> omega
    have huN := hu.1
    exact model_main typ kind decoded ln a n c src snk all hasAll m M N u zs f w hmap.2.1 (by omega) (by omega) hseg hnc hmap.1 ⟨hmap.2.2, ha, hsrc.1, hsrc.2⟩ hN hu (by omega)
end Go.Proofs.Qxb6625842a
