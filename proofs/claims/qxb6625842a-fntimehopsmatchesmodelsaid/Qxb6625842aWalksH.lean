/-
  THE WALKS of seat b6625842a, eighth part: the law FnTimeHopsEarlyHopsIgnoreLaterMidpoints.
-/
import Derived.Test.Qxb6625842aWalksG
namespace Go.Proofs.Qxb6625842a
open Go.ChangeShapes Go.WideShapes Go.ChangeAt Go.RowKit
set_option linter.unusedVariables false

theorem hr_five {w : World} {G u : Nat} {zs : List Int} {Tk : Int → Int × Bool} {src : Int} (H : HR w G u (hc zs u Tk src) u) (i : Nat) (hi : i < u) :
    w.cell? ⟨G, i * 5, none⟩ = some (.int .u16 (hif zs (u - 1 - i))) ∧ w.cell? ⟨G, i * 5 + 1, none⟩ = some (.int .u8 (hld zs (u - 1 - i))) ∧ w.cell? ⟨G, i * 5 + 2, none⟩ = some (.int .u8 (hts zs (u - 1 - i))) ∧
    w.cell? ⟨G, i * 5 + 3, none⟩ = some (.int .i64 (DL zs u Tk src i).1) ∧ w.cell? ⟨G, i * 5 + 4, none⟩ = some (.bool (DL zs u Tk src i).2) := by
  obtain ⟨L, h1, h2, h3⟩ := H
  have hx : ∀ r, r < 5 → w.cell? ⟨G, i * 5 + r, none⟩ = some (hc zs u Tk src i r) := fun r hr => by rw [row_cell h2, h3 i hi r hr, if_pos hi]
  exact ⟨hx 0 (by omega), hx 1 (by omega), hx 2 (by omega), hx 3 (by omega), hx 4 (by omega)⟩

theorem hr_keep {w w' : World} {B G u : Nat} {h : Nat → Nat → Value} {k : Nat} (H : HR w G u h k) (hb : Below B w w') (hB : w.heap.size ≤ B) : HR w' G u h k := by
  obtain ⟨L, h1, h2, h3⟩ := H
  exact ⟨L, h1, row_keep h2 hb hB, h3⟩
theorem hr_lt {w : World} {G u : Nat} {h : Nat → Nat → Value} {k : Nat} (H : HR w G u h k) : G < w.heap.size := by
  obtain ⟨L, h1, h2, h3⟩ := H
  exact row_lt h2

/-! ### the cut stack, no Go in sight -/
theorem drop_at (zs : List Int) (j i : Nat) : (zs.drop j).getD i 0 = zs.getD (j + i) 0 := by
  simp only [List.getD_eq_getElem?_getD, List.getElem?_drop]
theorem hif_drop (zs : List Int) (j i : Nat) : hif (zs.drop (3 * j)) i = hif zs (j + i) := by
  unfold hif
  rw [drop_at, drop_at, show 3 * j + 3 * i = 3 * (j + i) by omega, show 3 * j + (3 * i + 1) = 3 * (j + i) + 1 by omega]
theorem hld_drop (zs : List Int) (j i : Nat) : hld (zs.drop (3 * j)) i = hld zs (j + i) := by
  unfold hld
  rw [drop_at, show 3 * j + (3 * i + 1) = 3 * (j + i) + 1 by omega]
theorem hts_drop (zs : List Int) (j i : Nat) : hts (zs.drop (3 * j)) i = hts zs (j + i) := by
  unfold hts
  rw [drop_at, show 3 * j + (3 * i + 2) = 3 * (j + i) + 2 by omega]
theorem st_drop (zs : List Int) (u j : Nat) (Tk : Int → Int × Bool) (src : Int) (i : Nat) (hi : i ≤ u - j) : ST (zs.drop (3 * j)) (u - j) Tk src i = ST zs u Tk src i := by
  induction i with
  | zero => rfl
  | succ i ih =>
    have e := ih (by omega)
    have e2 : j + (u - j - 1 - i) = u - 1 - i := by omega
    unfold ST
    rw [e, hif_drop, hts_drop, e2]
theorem dl_drop (zs : List Int) (u j : Nat) (Tk : Int → Int × Bool) (src : Int) (i : Nat) (hi : i < u - j) : DL (zs.drop (3 * j)) (u - j) Tk src i = DL zs u Tk src i := by
  unfold DL
  rw [st_drop zs u j Tk src i (by omega), st_drop zs u j Tk src (i + 1) (by omega)]
theorem us_drop (zs : List Int) (N u j : Nat) (h : US zs N u) : US (zs.drop (3 * j)) (N - j) (u - j) := by
  obtain ⟨h1, h2, h3⟩ := h
  have hs : ∀ i, SZ (zs.drop (3 * j)) i ↔ SZ zs (j + i) := fun i => by
    unfold SZ
    rw [drop_at, drop_at, drop_at, show 3 * j + 3 * i = 3 * (j + i) by omega, show 3 * j + (3 * i + 1) = 3 * (j + i) + 1 by omega, show 3 * j + (3 * i + 2) = 3 * (j + i) + 2 by omega]
  refine ⟨by omega, fun i hi1 hi2 => (hs i).2 (h2 (j + i) (by omega) (by omega)), fun h0 hz => ?_⟩
  have := (hs _).1 hz
  rw [show j + (u - j - 1) = u - 1 by omega] at this
  exact h3 (by omega) this
theorem no_drop {decoded : Bool} {kind : Int} {n N : Nat} (j : Nat) (hj : 3 * j ≤ n) (h : NO decoded kind n N) : NO decoded kind (n - 3 * j) (N - j) := by
  rcases h with ⟨h1, h2, rfl⟩ | ⟨h, rfl⟩
  · exact .inl ⟨h1, h2, by omega⟩
  · exact .inr ⟨h, by omega⟩

/-- 'data[3*j:]'. -/
theorem cut_run (w : World) (a : Option Addr) (n c : Nat) (zs : List Int) (h : Seg w a n zs) (hnc : n ≤ c) (j : Nat) (hj : 3 * j ≤ n) :
    ∃ A', (∀ wx, (Instr.slice 22 (.slice a n c) (some (.int .i64 (3 * (j : Int)))) none none).run Try.prog wx = .ok (.slice A' (n - 3 * j) (c - 3 * j)) wx) ∧ Seg w A' (n - 3 * j) (zs.drop (3 * j)) := by
  have hu : Try.prog.underlying 22 = some (.slice (Try.prog.elem 22)) := by kernel_rfl
  have hsz : ∀ wx, (sizeOf (Try.prog.elem 22)).run Try.prog wx = .ok 1 wx := fun wx => by kernel_rfl
  have e1 : (3 * (j : Int)).toNat = 3 * j := by omega
  have hrun : ∀ wx, (Instr.slice 22 (.slice a n c) (some (.int .i64 (3 * (j : Int)))) none none).run Try.prog wx = .ok (.slice (if c = 3 * j then a else a.map (·.add (3 * j * 1))) (n - 3 * j) (c - 3 * j)) wx := fun wx => by
    rw [run_slice_l wx 22 a n c hu .i64 (3 * (j : Int)) (by omega) (by omega), hsz, e1]
    simp [Result.andThen, sliced]
  refine ⟨_, hrun, ?_⟩
  obtain ⟨h1, h2, h3, h4⟩ := h
  refine ⟨by simp; omega, by omega, fun i => by rw [drop_at]; exact h3 _, ?_⟩
  by_cases h0 : n - 3 * j = 0
  · exact .inl h0
  · rcases h4 with h4 | ⟨b, o, rfl, hc⟩
    · omega
    · refine .inr ⟨b, o + 3 * j, ?_, fun i hi => ?_⟩
      · rw [if_neg (by omega)]; simp [Addr.add]
      · rw [drop_at, Nat.add_assoc]; exact hc _ (by omega)

set_option maxHeartbeats 1000000 in
theorem early_great (typ kind : Int) (decoded : Bool) (ln : Int) (a : Option Addr) (n c : Nat) (src snk all : Int) (hasAll : Bool) (m : Option Nat) (j : Int) (M : Nat) (w : World)
    (hM : ∀ ty, (Builtin.len_ #[24] ty #[.map m]).run Try.prog w = .ok (.int .i64 (M : Int)) w) (hn : n ≤ maxLen) (h : 1048576 < n ∨ 65536 < M ∨ j < 0 ∨ (n : Int) / 3 < j) :
    Calls Try.prog 4 #[.int .u8 typ, .int .u8 kind, .bool decoded, .int .i64 ln, .slice a n c, .int .u64 src, .int .u64 snk, .int .u8 all, .bool hasAll, .map m, .int .i64 j] w fun e w' => e = .returned (.bool true) ∧ Below w.heap.size w w' := by
  unfold maxLen at hn
  by_cases h1 : 1048576 < n
  · have h1' : (1048576 : Int) < (n : Int) := by omega
    clear h hM
    go_enter Try.func4, Try.ntmps4
    go_wp2
    go_ret
    exact ⟨rfl, Below.refl _ _⟩
  · have h1' : ¬ (1048576 : Int) < (n : Int) := by omega
    by_cases h2 : 65536 < M
    · have h2' : (65536 : Int) < (M : Int) := by omega
      clear h
      go_enter Try.func4, Try.ntmps4
      go_wp2
      go_ret
      exact ⟨rfl, Below.refl _ _⟩
    · have h2' : ¬ (65536 : Int) < (M : Int) := by omega
      by_cases h3 : j < 0
      · clear h
        go_enter Try.func4, Try.ntmps4
        go_wp2
        go_ret
        exact ⟨rfl, Below.refl _ _⟩
      · have h4 : (n : Int) / 3 < j := by omega
        clear h
        go_enter Try.func4, Try.ntmps4
        go_wp2
        go_ret
        exact ⟨rfl, Below.refl _ _⟩

theorem tpl_new (w : World) (all : Int) (hasAll : Bool) (m : Option Nat) : TplAt (w.alloc (.cells #[.int .u8 all, .bool hasAll, .map m] 53)) w.heap.size all hasAll m :=
  ⟨row_cell (row_new w 53 [.int .u8 all, .bool hasAll, .map m]) 0, row_cell (row_new w 53 [.int .u8 all, .bool hasAll, .map m]) 1, row_cell (row_new w 53 [.int .u8 all, .bool hasAll, .map m]) 2⟩
theorem opt_new (w : World) (typ kind ln : Int) (decoded : Bool) (a : Option Addr) (n c : Nat) : OptAt (w.alloc (.cells #[.int .u8 typ, .int .u8 kind, .bool decoded, .int .i64 ln, .slice a n c] 38)) w.heap.size kind decoded a n c :=
  ⟨row_cell (row_new w 38 [.int .u8 typ, .int .u8 kind, .bool decoded, .int .i64 ln, .slice a n c]) 1, row_cell (row_new w 38 [.int .u8 typ, .int .u8 kind, .bool decoded, .int .i64 ln, .slice a n c]) 2, row_cell (row_new w 38 [.int .u8 typ, .int .u8 kind, .bool decoded, .int .i64 ln, .slice a n c]) 4⟩
/-- The bundle, of an option that has just been made. -/
theorem told_new (w w0 : World) (ob tb : Nat) (typ kind ln : Int) (decoded : Bool) (a : Option Addr) (n c : Nat) (zs : List Int) (f : Int → Int × Bool) (all : Int) (hasAll : Bool) (m : Option Nat)
    (hb : Below w.heap.size w w0) (hob : w0.heap.size = ob) (ht : TplAt w0 tb all hasAll m) (hs : Seg w a n zs) (hnc : n ≤ c) (hm : ∀ wx, Below w.heap.size w wx → MV m f wx) (hf : ∀ k, 0 ≤ (f k).1) (ha : 0 ≤ all) :
    Told (w0.alloc (.cells #[.int .u8 typ, .int .u8 kind, .bool decoded, .int .i64 ln, .slice a n c] 38)) ob tb kind decoded a n c zs f all hasAll m := by
  subst hob
  have hb1 : Below w0.heap.size w0 (w0.alloc (.cells #[.int .u8 typ, .int .u8 kind, .bool decoded, .int .i64 ln, .slice a n c] 38)) := (Below.refl _ _).alloc (Nat.le_refl _) _
  have hb2 := hb.trans (hb1.mono hb.size)
  exact ⟨opt_new w0 typ kind ln decoded a n c, tpl_keep hb1 (Nat.le_refl _) ht, seg_keep hb2 (Nat.le_refl _) hs, hnc, fun wx hx => hm wx (hb2.trans (hx.mono hb2.size)), hf, ha⟩

theorem after_zz {w W w3 : World} {tb : Nat} {all : Int} {hasAll : Bool} {m : Option Nat} (hb0 : Below w.heap.size w W) (ht : TplAt W tb all hasAll m) (hb3 : Below W.heap.size W w3) : Below w.heap.size w w3 ∧ TplAt w3 tb all hasAll m :=
  ⟨hb0.trans (hb3.mono hb0.size), tpl_keep hb3 (Nat.le_refl _) ht⟩
theorem two_new (w : World) (A B : Obj) : Below w.heap.size w ((w.alloc A).alloc B) := ((Below.refl _ _).alloc (Nat.le_refl _) _).alloc (by simp) _

set_option maxHeartbeats 8000000 in
set_option maxRecDepth 100000 in
theorem early_main (typ kind : Int) (decoded : Bool) (ln : Int) (a A' : Option Addr) (n c : Nat) (src snk all : Int) (hasAll : Bool) (m : Option Nat) (j M N u : Nat) (zs : List Int) (f : Int → Int × Bool) (w : World)
    (hM : ∀ ty, (Builtin.len_ #[24] ty #[.map m]).run Try.prog w = .ok (.int .i64 (M : Int)) w) (hn : n ≤ 1048576) (hM1 : M ≤ 65536) (hj : 3 * j ≤ n)
    (HSEG : Hid (Seg w a n zs)) (hnc : n ≤ c) (HMV : Hid (∀ wx, Below w.heap.size w wx → MV m f wx)) (HBD : Hid ((∀ k, 0 ≤ (f k).1) ∧ 0 ≤ all ∧ 0 ≤ src ∧ src < 18446744073709551616))
    (HN : Hid (NO decoded kind n N)) (HU : Hid (US zs N u)) (huN : 3 * u ≤ n)
    (hcut : ∀ wx, (Instr.slice 22 (.slice a n c) (some (.int .i64 (3 * (j : Int)))) none none).run Try.prog wx = .ok (.slice A' (n - 3 * j) (c - 3 * j)) wx) (HSEG2 : Hid (Seg w A' (n - 3 * j) (zs.drop (3 * j)))) :
    Calls Try.prog 4 #[.int .u8 typ, .int .u8 kind, .bool decoded, .int .i64 ln, .slice a n c, .int .u64 src, .int .u64 snk, .int .u8 all, .bool hasAll, .map m, .int .i64 (j : Int)] w fun e w' => e = .returned (.bool true) ∧ Below w.heap.size w w' := by
  have h1' : ¬ (1048576 : Int) < (n : Int) := by omega
  have h2' : ¬ (65536 : Int) < (M : Int) := by omega
  have h3' : ¬ (j : Int) < 0 := by omega
  have h4' : ¬ (n : Int) / 3 < (j : Int) := by omega
  obtain ⟨U, HUU⟩ : ∃ U, Hid (U = u - j) := ⟨_, rfl⟩
  have HU2 : Hid (US (zs.drop (3 * j)) (N - j) U) := by have := us_drop zs N u j HU.out; rw [← HUU.out] at this; exact this
  have HN2 : Hid (NO decoded kind (n - 3 * j) (N - j)) := no_drop j hj HN.out
  have huU : U ≤ u := by have := HUU.out; omega
  have hU3 : 3 * U ≤ n := by omega
  have hwant : ((u : Int) - (j : Int) < 0 ∧ U = 0) ∨ (¬ (u : Int) - (j : Int) < 0 ∧ (u : Int) - (j : Int) = (U : Int)) := by have := HUU.out; omega
  rcases hwant with ⟨hw1, rfl⟩ | ⟨hw1, hw2⟩
  · go_enter Try.func4, Try.ntmps4
    go_wp2_with fail
    refine (slots_any _ _ _ zs _ _ _ HSEG.out u (uo_of HN.out HU.out)).mono ?_
    rintro e w' ⟨rfl, rfl⟩
    go_wp2_with fail
    refine (newT_any _ _ _ _).mono ?_
    rintro e w1 ⟨rfl, rfl⟩
    go_wp2_with fail
    refine (zz_told _ _ _ kind decoded a n c zs f all hasAll m (told_new w' (w'.alloc (.cells #[.int .u8 all, .bool hasAll, .map m] 53)) _ _ typ kind ln decoded a n c zs f all hasAll m ((Below.refl _ _).alloc (Nat.le_refl _) _) (by simp) (tpl_new _ _ _ _) HSEG.out hnc HMV.out HBD.out.1 HBD.out.2.1) N u HN.out HU.out src snk HBD.out.2.2).mono ?_
    rintro e w3 ⟨G1, rfl, hG1, HH1, hb3⟩
    generalize SK zs u (T f all hasAll) src snk = sd1
    have HA3 : Hid (Below w'.heap.size w' w3 ∧ TplAt w3 w'.heap.size all hasAll m) := after_zz (two_new _ _ _) (tpl_keep ((Below.refl _ _).alloc (Nat.le_refl _) _) (Nat.le_refl _) (tpl_new _ _ _ _)) hb3
    have HR3 : Hid (HR w3 G1 u (hc zs u (T f all hasAll) src) u) := HH1
    clear hb3 HH1 hG1 hM
    go_wp2_with fail
    refine (zz_told _ _ _ kind decoded A' (n - 3 * j) (c - 3 * j) (zs.drop (3 * j)) f all hasAll m (told_new w' (w3.alloc (.cells #[.int .i64 sd1.1, .bool sd1.2] 43)) _ _ typ kind ln decoded A' (n - 3 * j) (c - 3 * j) (zs.drop (3 * j)) f all hasAll m (HA3.out.1.alloc HA3.out.1.size _) (by simp) (tpl_keep ((Below.refl _ _).alloc (Nat.le_refl _) _) (Nat.le_refl _) HA3.out.2) HSEG2.out (by omega) HMV.out HBD.out.1 HBD.out.2.1) (N - j) _ HN2.out HU2.out src snk HBD.out.2.2).mono ?_
    rintro e w5 ⟨G2, rfl, hG2, HH2, hb5⟩
    generalize SK (zs.drop (3 * j)) _ (T f all hasAll) src snk = sd2
    have HA5 : Hid (Below w'.heap.size w' w5) := HA3.out.1.trans (((two_new w3 _ _).trans (hb5.mono (by simp; omega))).mono HA3.out.1.size)
    have HR5 : Hid (HR w5 G1 u (hc zs u (T f all hasAll) src) u) := hr_keep HR3.out ((two_new w3 _ _).trans (hb5.mono (by simp; omega))) (Nat.le_refl _)
    have HQ5 : Hid (HR w5 G2 _ (hc (zs.drop (3 * j)) _ (T f all hasAll) src) _) := HH2
    have hG1 := hr_lt HR5.out
    have hG2' := hr_lt HQ5.out
    clear hb5 HH2 hG2 HA3 HR3 HSEG HSEG2 hcut
    go_wp2_with fail
    refine wp_loop_rounds 1 ?_
    rw [rounds_succ]
    go_wp2
    go_ret
    exact ⟨rfl, HA5.out.alloc HA5.out.size _⟩
  · go_enter Try.func4, Try.ntmps4
    go_wp2_with fail
    refine (slots_any _ _ _ zs _ _ _ HSEG.out u (uo_of HN.out HU.out)).mono ?_
    rintro e w' ⟨rfl, rfl⟩
    go_wp2_with fail
    refine (newT_any _ _ _ _).mono ?_
    rintro e w1 ⟨rfl, rfl⟩
    go_wp2_with fail
    refine (zz_told _ _ _ kind decoded a n c zs f all hasAll m (told_new w' (w'.alloc (.cells #[.int .u8 all, .bool hasAll, .map m] 53)) _ _ typ kind ln decoded a n c zs f all hasAll m ((Below.refl _ _).alloc (Nat.le_refl _) _) (by simp) (tpl_new _ _ _ _) HSEG.out hnc HMV.out HBD.out.1 HBD.out.2.1) N u HN.out HU.out src snk HBD.out.2.2).mono ?_
    rintro e w3 ⟨G1, rfl, hG1, HH1, hb3⟩
    generalize SK zs u (T f all hasAll) src snk = sd1
    have HA3 : Hid (Below w'.heap.size w' w3 ∧ TplAt w3 w'.heap.size all hasAll m) := after_zz (two_new _ _ _) (tpl_keep ((Below.refl _ _).alloc (Nat.le_refl _) _) (Nat.le_refl _) (tpl_new _ _ _ _)) hb3
    have HR3 : Hid (HR w3 G1 u (hc zs u (T f all hasAll) src) u) := HH1
    clear hb3 HH1 hG1 hM
    go_wp2_with fail
    refine (zz_told _ _ _ kind decoded A' (n - 3 * j) (c - 3 * j) (zs.drop (3 * j)) f all hasAll m (told_new w' (w3.alloc (.cells #[.int .i64 sd1.1, .bool sd1.2] 43)) _ _ typ kind ln decoded A' (n - 3 * j) (c - 3 * j) (zs.drop (3 * j)) f all hasAll m (HA3.out.1.alloc HA3.out.1.size _) (by simp) (tpl_keep ((Below.refl _ _).alloc (Nat.le_refl _) _) (Nat.le_refl _) HA3.out.2) HSEG2.out (by omega) HMV.out HBD.out.1 HBD.out.2.1) (N - j) _ HN2.out HU2.out src snk HBD.out.2.2).mono ?_
    rintro e w5 ⟨G2, rfl, hG2, HH2, hb5⟩
    generalize SK (zs.drop (3 * j)) _ (T f all hasAll) src snk = sd2
    have HA5 : Hid (Below w'.heap.size w' w5) := HA3.out.1.trans (((two_new w3 _ _).trans (hb5.mono (by simp; omega))).mono HA3.out.1.size)
    have HR5 : Hid (HR w5 G1 u (hc zs u (T f all hasAll) src) u) := hr_keep HR3.out ((two_new w3 _ _).trans (hb5.mono (by simp; omega))) (Nat.le_refl _)
    have HQ5 : Hid (HR w5 G2 _ (hc (zs.drop (3 * j)) _ (T f all hasAll) src) _) := HH2
    have hG1 := hr_lt HR5.out
    have hG2' := hr_lt HQ5.out
    clear hb5 HH2 hG2 HA3 HR3 HSEG HSEG2 hcut
    go_wp2_with fail
    go_loopw [32] (fun i wr => ∃ k q : Nat, k ≤ U ∧ i = .int .i64 k ∧ wr = (w5.alloc (.cells #[.int .i64 sd2.1, .bool sd2.2] 43)).drewN q) (fun i _ => U - (intOf i).toNat)
    case atStart => exact ⟨0, 0, Nat.zero_le _, rfl, rfl⟩
    case round =>
      obtain ⟨k, q, hk, rfl, rfl⟩ := hrel
      by_cases hlt : k < U
      · have hlt1 : (k : Int) < (U : Int) := by omega
        have hlt2 : (k : Int) < (u : Int) := by omega
        obtain ⟨f0, f1, f2, f3, f4⟩ := hr_five HR5.out k (by omega)
        obtain ⟨g0, g1, g2, g3, g4⟩ := hr_five HQ5.out k hlt
        have e2 : j + (U - 1 - k) = u - 1 - k := by have := HUU.out; omega
        rw [hif_drop, e2] at g0
        rw [hld_drop, e2] at g1
        rw [hts_drop, e2] at g2
        have e3 : DL (zs.drop (3 * j)) U (T f all hasAll) src k = DL zs u (T f all hasAll) src k := by rw [HUU.out]; exact dl_drop zs u j _ src k (by rw [← HUU.out]; exact hlt)
        rw [e3] at g3 g4
        clear e2 e3
        generalize hif zs (u - 1 - k) = x0 at f0 g0
        generalize hld zs (u - 1 - k) = x1 at f1 g1
        generalize hts zs (u - 1 - k) = x2 at f2 g2
        generalize (DL zs u (T f all hasAll) src k).1 = x3 at f3 g3
        generalize (DL zs u (T f all hasAll) src k).2 = x4 at f4 g4
        go_wp2
        go_quiet (fail)
        go_wp2
        go_roundw
        case rel => exact ⟨k + 1, _, by omega, by go_num, rfl⟩
        case measure => simp [intOf]; omega
      · obtain rfl : k = U := by omega
        go_wp2
        go_ret
        exact ⟨rfl, below_draws (HA5.out.alloc HA5.out.size _) _⟩
end Go.Proofs.Qxb6625842a
