/-
  THE WALKS of seat b6625842a, third part: (bigEndian).Uint16, interfaceWord, (*Option).MCD, MCD.Unused, (*Option).MCDCount.
-/
import Derived.Test.Qxb6625842aWalksB
import Derived.Deep.QuietTactic
import Derived.BigQuiet
import Derived.OneCell
import Derived.Laws.Pointers
namespace Go.Proofs.Qxb6625842a
open Go.ChangeShapes Go.WideShapes Go.ChangeAt Go.RowKit
set_option linter.unusedVariables false

theorem below_draws {B : Nat} {a w : World} (h : Below B a w) (n : Nat) : Below B a (w.drewN n) := ⟨h.os, h.tape, h.output, h.size, h.block⟩
theorem cell_lt {w : World} {p : Addr} {v : Value} (h : w.cell? p = some v) : p.block < w.heap.size := by
  refine Nat.lt_of_not_le fun hge => ?_
  have hnone : w.heap[p.block]? = none := Array.getElem?_eq_none hge
  unfold World.cell? at h
  rw [hnone] at h
  simp at h
theorem cell_keep {w w' : World} {B : Nat} {p : Addr} {v : Value} (hb : Below B w w') (hB : w.heap.size ≤ B) (h : w.cell? p = some v) : w'.cell? p = some v := by
  rw [hb.cell (Nat.lt_of_lt_of_le (cell_lt h) hB)]; exact h
theorem bcell {W w1 : World} (hb : Below W.heap.size W w1) : (∀ b o, b < W.heap.size → w1.cell? ⟨b, o, none⟩ = W.cell? ⟨b, o, none⟩) ∧ (∀ b o, b < W.heap.size → w1.frozen? ⟨b, o, none⟩ = W.frozen? ⟨b, o, none⟩) :=
  ⟨fun b o h => hb.cell (p := ⟨b, o, none⟩) h, fun b o h => hb.frozen (p := ⟨b, o, none⟩) h⟩

theorem or16 (y x : Int) (hy0 : 0 ≤ y) (hy1 : y ≤ 255) (hx0 : 0 ≤ x) (hx1 : x ≤ 255) : bits .or .u16 y (x * 256) = y + x * 256 :=
  bits_join_low .u16 16 (by decide) wraps_u16 8 y (x * 256) hy0 (by omega) (by omega) (by omega) (by omega) (by omega)

set_option maxHeartbeats 1000000 in
theorem u16_any (b o c : Nat) (x y : Int) (w : World) (hx0 : 0 ≤ x) (hx1 : x ≤ 255) (hy0 : 0 ≤ y) (hy1 : y ≤ 255)
    (h0 : w.cell? ⟨b, o, none⟩ = some (.int .u8 x)) (h1 : w.cell? ⟨b, o + 1, none⟩ = some (.int .u8 y)) :
    Calls Try.prog 22 #[.agg #[], .slice (some ⟨b, o, none⟩) 3 c] w fun e w' => e = .returned (.int .u16 (y + x * 256)) ∧ Below w.heap.size w w' := by
  have hlt := cell_lt h0
  have hor := or16 y x hy0 hy1 hx0 hx1
  have f1 : IntKind.u16.wrap x = x := by rw [IntKind.wrap_u16]; omega
  have f2 : IntKind.u16.wrap y = y := by rw [IntKind.wrap_u16]; omega
  have f3 : IntKind.u16.wrap (x * 256) = x * 256 := by rw [IntKind.wrap_u16]; omega
  go_enter Try.func22, Try.ntmps22
  go_wp2
  go_quiet (fail)
  go_wp2
  go_ret
  exact ⟨rfl, below_draws ((Below.refl _ _).alloc (Nat.le_refl _) _) _⟩

set_option maxHeartbeats 1000000 in
theorem word_any (b o c : Nat) (x y : Int) (w : World) (hx0 : 0 ≤ x) (hx1 : x ≤ 255) (hy0 : 0 ≤ y) (hy1 : y ≤ 255)
    (h0 : w.cell? ⟨b, o, none⟩ = some (.int .u8 x)) (h1 : w.cell? ⟨b, o + 1, none⟩ = some (.int .u8 y)) :
    Calls Try.prog 19 #[.slice (some ⟨b, o, none⟩) 3 c] w fun e w' => e = .returned (.tuple #[.int .u16 (x * 16 + y / 16), .int .u8 (y % 16)]) ∧ Below w.heap.size w w' := by
  have HM : Hid (Calls Try.prog 22 #[.agg #[], .slice (some ⟨b, o, none⟩) 3 c] w fun e w' => e = .returned (.int .u16 (y + x * 256)) ∧ Below w.heap.size w w') := u16_any b o c x y w hx0 hx1 hy0 hy1 h0 h1
  clear h0 h1
  have f1 : bits .and .u16 (y + x * 256) 15 = (y + x * 256) % 16 := bits_mask .u16 16 (by decide) wraps_u16 4 (by decide) _ (by omega) (by omega)
  go_enter Try.func19, Try.ntmps19
  go_wp2_with (go_at_call 22; refine HM.out.mono ?_; rintro e w' ⟨rfl, hb⟩)
  go_ret2
  exact ⟨ret_int2 (by omega) (by first | omega | (rw [IntKind.wrap_u8]; omega)), hb⟩

theorem slice_run2 (b o n c i : Nat) (h : 3 * i + 3 ≤ c) (L H : Int) (hL : L = 3 * (i : Int)) (hH : H = 3 * (i : Int) + 3) (w : World) :
    (Instr.slice 22 (.slice (some ⟨b, o, none⟩) n c) (some (.int .i64 L)) (some (.int .i64 H)) none).run Try.prog w = .ok (.slice (some ⟨b, o + 3 * i, none⟩) 3 (c - 3 * i)) w := by
  have hu : Try.prog.underlying 22 = some (.slice (Try.prog.elem 22)) := by kernel_rfl
  have hsz : (sizeOf (Try.prog.elem 22)).run Try.prog w = .ok 1 w := by kernel_rfl
  rw [run_slice_lh w 22 (some ⟨b, o, none⟩) n c hu .i64 .i64 L H (by omega) (by omega) (by omega), hsz]
  have e1 : L.toNat = 3 * i := by omega
  have e2 : H.toNat = 3 * i + 3 := by omega
  have e3 : ¬ c = 3 * i := by omega
  have e4 : 3 * i + 3 - 3 * i = 3 := by omega
  simp [Result.andThen, sliced, e1, e2, e3, e4, Addr.add]

set_option maxHeartbeats 2000000 in
theorem mcd_any (ob b o n c i : Nat) (I : Int) (hI : I = i) (x y z : Int) (w : World) (hi : 3 * i + 3 ≤ n) (hnc : n ≤ c) (hn : n ≤ 1048576) (hx0 : 0 ≤ x) (hx1 : x ≤ 255) (hy0 : 0 ≤ y) (hy1 : y ≤ 255)
    (ho : w.cell? ⟨ob, 4, none⟩ = some (.slice (some ⟨b, o, none⟩) n c))
    (h0 : w.cell? ⟨b, o + 3 * i, none⟩ = some (.int .u8 x)) (h1 : w.cell? ⟨b, o + 3 * i + 1, none⟩ = some (.int .u8 y)) (h2 : w.cell? ⟨b, o + 3 * i + 2, none⟩ = some (.int .u8 z)) :
    Calls Try.prog 13 #[.pointer (some ⟨ob, 0, none⟩), .int .i64 I] w fun e w' => e = .returned (.agg #[.int .u16 (x * 16 + y / 16), .int .u8 (y % 16), .int .u8 z]) ∧ Below w.heap.size w w' := by
  have hlt := cell_lt h0
  have hlto := cell_lt ho
  have hsl := slice_run2 b o n c i (by omega) (I * 3) ((I + 1) * 3) (by omega) (by omega)
  have hI0 : 0 ≤ I := by omega
  have hI1 : I ≤ 1048576 := by omega
  have HW : Hid (∀ wx, Below w.heap.size w wx → Calls Try.prog 19 #[.slice (some ⟨b, o + 3 * i, none⟩) 3 (c - 3 * i)] wx fun e w' => e = .returned (.tuple #[.int .u16 (x * 16 + y / 16), .int .u8 (y % 16)]) ∧ Below wx.heap.size wx w') :=
    fun wx hb => word_any b (o + 3 * i) (c - 3 * i) x y wx hx0 hx1 hy0 hy1 (cell_keep hb (Nat.le_refl _) h0) (cell_keep hb (Nat.le_refl _) h1)
  clear hI h0 h1
  go_enter Try.func13, Try.ntmps13
  go_wp2_with fail
  refine (HW.out _ ((Below.refl _ _).alloc (Nat.le_refl _) _)).mono ?_
  rintro e w1 ⟨rfl, hb⟩
  have hc := hb.cell (p := ⟨b, o + 3 * i + 2, none⟩) (by simp; omega)
  obtain ⟨hc1, hf1⟩ := bcell hb
  go_wp2
  have g0 : w1.cell? ⟨w.heap.size, 0, none⟩ = some (.int .u16 0) := by rw [hc1 _ _ (by simp)]; simp
  have g1 : w1.cell? ⟨w.heap.size, 1, none⟩ = some (.int .u8 0) := by rw [hc1 _ _ (by simp)]; simp
  have g2 : w1.cell? ⟨w.heap.size, 2, none⟩ = some (.int .u8 0) := by rw [hc1 _ _ (by simp)]; simp
  exact bodyPost_ret (v := .agg #[.int .u16 (x * 16 + y / 16), .int .u8 (y % 16), .int .u8 z]) (by simp [results, Try.results13, go_sem, g0, g1, g2]) rfl
    ⟨rfl, (((((Below.refl _ _).alloc (Nat.le_refl _) _).trans (hb.mono (by simp))).setCell (Nat.le_refl _) _).setCell (Nat.le_refl _) _).setCell (Nat.le_refl _) _⟩

set_option maxHeartbeats 1000000 in
theorem unused_yes (w : World) : Calls Try.prog 14 #[.agg #[.int .u16 0, .int .u8 0, .int .u8 0]] w fun e w' => e = .returned (.bool true) ∧ Below w.heap.size w w' := by
  go_enter Try.func14, Try.ntmps14
  go_wp2
  go_ret
  exact ⟨rfl, (Below.refl _ _).alloc (Nat.le_refl _) _⟩
set_option maxHeartbeats 1000000 in
theorem unused_no (x y z : Int) (w : World) (h : x ≠ 0 ∨ y ≠ 0 ∨ z ≠ 0) : Calls Try.prog 14 #[.agg #[.int .u16 x, .int .u8 y, .int .u8 z]] w fun e w' => e = .returned (.bool false) ∧ Below w.heap.size w w' := by
  by_cases hx : x = 0
  · subst hx
    by_cases hy : y = 0
    · subst hy
      have hz : ¬ z = 0 := by omega
      clear h
      go_enter Try.func14, Try.ntmps14
      go_wp2
      go_ret
      exact ⟨rfl, (Below.refl _ _).alloc (Nat.le_refl _) _⟩
    · clear h
      go_enter Try.func14, Try.ntmps14
      go_wp2
      go_ret
      exact ⟨rfl, (Below.refl _ _).alloc (Nat.le_refl _) _⟩
  · clear h
    go_enter Try.func14, Try.ntmps14
    go_wp2
    go_ret
    exact ⟨rfl, (Below.refl _ _).alloc (Nat.le_refl _) _⟩

set_option maxHeartbeats 1000000 in
theorem count_yes (ob n c : Nat) (a : Option Addr) (w : World) (hn : n ≤ 1048576) (h1 : w.cell? ⟨ob, 1, none⟩ = some (.int .u8 1)) (h2 : w.cell? ⟨ob, 2, none⟩ = some (.bool true)) (h4 : w.cell? ⟨ob, 4, none⟩ = some (.slice a n c)) :
    Calls Try.prog 12 #[.pointer (some ⟨ob, 0, none⟩)] w fun e w' => e = .returned (.int .i64 ((n / 3 : Nat) : Int)) ∧ w' = w := by
  go_enter Try.func12, Try.ntmps12
  go_wp2
  go_ret
  exact ⟨ret_int (by omega), rfl⟩
set_option maxHeartbeats 1000000 in
theorem count_no (ob n c : Nat) (a : Option Addr) (d : Bool) (k : Int) (w : World) (h : d = false ∨ k ≠ 1) (h1 : w.cell? ⟨ob, 1, none⟩ = some (.int .u8 k)) (h2 : w.cell? ⟨ob, 2, none⟩ = some (.bool d)) :
    Calls Try.prog 12 #[.pointer (some ⟨ob, 0, none⟩)] w fun e w' => e = .returned (.int .i64 0) ∧ w' = w := by
  cases d
  · go_enter Try.func12, Try.ntmps12
    go_wp2
    go_ret
    exact ⟨rfl, rfl⟩
  · have hk : k ≠ 1 := h.resolve_left (by decide)
    have hb : (k != 1) = true := bne_iff_ne.2 hk
    clear h
    go_enter Try.func12, Try.ntmps12
    go_wp2
    go_ret
    exact ⟨rfl, rfl⟩
end Go.Proofs.Qxb6625842a
