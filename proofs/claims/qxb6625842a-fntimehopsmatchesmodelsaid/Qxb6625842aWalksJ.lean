/-
  THE WALKS of seat b6625842a, tenth part: the model's five rows.
-/
import Derived.Test.Qxb6625842aWalksI
namespace Go.Proofs.Qxb6625842a
open Go.ChangeShapes Go.WideShapes Go.ChangeAt Go.RowKit
set_option linter.unusedVariables false

/-- A row of N one-cell elements. -/
def RF (w : World) (B : Nat) (t : TypeId) (N : Nat) (v : Nat → Value) : Prop := ∃ L : List Value, L.length = N ∧ Row w B t L ∧ ∀ i, i < N → L[i]? = some (v i)
def upd (v : Nat → Value) (k : Nat) (x : Value) : Nat → Value := fun i => if i = k then x else v i
theorem rf_cell {w : World} {B N : Nat} {t : TypeId} {v : Nat → Value} (h : RF w B t N v) (i : Nat) (hi : i < N) : w.cell? ⟨B, i, none⟩ = some (v i) := by
  obtain ⟨L, h1, h2, h3⟩ := h
  rw [row_cell h2]; exact h3 i hi
theorem rf_free {w : World} {B N : Nat} {t : TypeId} {v : Nat → Value} (h : RF w B t N v) (i : Nat) : w.frozen? ⟨B, i, none⟩ = false := by
  obtain ⟨L, h1, h2, h3⟩ := h
  exact row_free h2 i
theorem rf_set {w : World} {B N : Nat} {t : TypeId} {v : Nat → Value} (h : RF w B t N v) (k : Nat) (x : Value) : RF (w.setCell ⟨B, k, none⟩ x) B t N (upd v k x) := by
  obtain ⟨L, h1, h2, h3⟩ := h
  refine ⟨L.set k x, by simp [h1], row_set h2 _ _, fun i hi => ?_⟩
  rw [List.getElem?_set]
  unfold upd
  by_cases e : k = i
  · subst e; rw [if_pos rfl, if_pos (by omega), if_pos rfl]
  · rw [if_neg e, if_neg (fun e' => e e'.symm)]; exact h3 i hi
theorem rf_other {w : World} {B N : Nat} {t : TypeId} {v : Nat → Value} (h : RF w B t N v) (p : Addr) (hp : p.block ≠ B) (x : Value) : RF (w.setCell p x) B t N v := by
  obtain ⟨L, h1, h2, h3⟩ := h
  exact ⟨L, h1, row_other h2 p hp x, h3⟩
theorem rf_keep {w w' : World} {B N : Nat} {t : TypeId} {v : Nat → Value} (h : RF w B t N v) (hb : Below w.heap.size w w') : RF w' B t N v := by
  obtain ⟨L, h1, h2, h3⟩ := h
  exact ⟨L, h1, row_keep h2 hb (Nat.le_refl _), h3⟩

def mkV (z : Value) (t : TypeId) (n : Nat) : Obj := .cells (madeCells #[z] n) t
theorem rf_make (w : World) (z : Value) (t : TypeId) (n B : Nat) (hB : w.heap.size = B) : RF (w.alloc (mkV z t n)) B t n (fun _ => z) := by
  subst hB
  refine ⟨(madeCells #[z] n).toList, by rw [Array.length_toList, size_madeCells], row_new w t _, fun i hi => ?_⟩
  simp [madeCells, hi, Nat.mod_one]

theorem Try.infoU16 : (Try.prog.info? 29).map (fun i => (i.zero, i.size, i.bytes)) = some (some (.int .u16 0), 1, 2) := by kernel_rfl
theorem Try.infoU8 : (Try.prog.info? 5).map (fun i => (i.zero, i.size, i.bytes)) = some (some (.int .u8 0), 1, 1) := by kernel_rfl
theorem Try.infoI64 : (Try.prog.info? 2).map (fun i => (i.zero, i.size, i.bytes)) = some (some (.int .i64 0), 1, 8) := by kernel_rfl
theorem Try.infoBool : (Try.prog.info? 4).map (fun i => (i.zero, i.size, i.bytes)) = some (some (.bool false), 1, 1) := by kernel_rfl
theorem makeV_run {t e : TypeId} {z : Value} {bytes : Nat} (hu : Try.prog.underlying t = some (.slice e)) (hi : (Try.prog.info? e).map (fun i => (i.zero, i.size, i.bytes)) = some (some z, 1, bytes)) (hz : z.cells = #[z]) (hb : bytes ≤ 8) (n : Nat) (hn : n ≤ 1048576) (w : World) :
    (Instr.makeSlice t (.int .i64 (n : Int)) (.int .i64 (n : Int))).run Try.prog w = .ok (.slice (some ⟨w.heap.size, 0, none⟩) n n) (w.alloc (mkV z e n)) := by
  obtain ⟨i, hi, hz0, hz1, hz2⟩ := info_parts hi
  have hbn : (bytes : Int) * (n : Int) ≤ 8388608 := by
    have h1 : bytes * n ≤ 8 * 1048576 := Nat.mul_le_mul hb hn
    have h2 : ((bytes * n : Nat) : Int) ≤ 8388608 := by omega
    rwa [Int.natCast_mul] at h2
  have h := run_make (P := Try.prog) w t e i z hu hi hz0 .i64 .i64 (n : Int) (n : Int) (by omega) (by omega) (by rw [hz2]; omega) (by omega)
  rw [h, hz1]
  simp [mkV, hz]

/-- The first k elements are 'cell', the rest 'z'. -/
def VV (cell : Nat → Value) (z : Value) (k : Nat) : Nat → Value := fun i => if i < k then cell i else z
theorem vv_zero (cell : Nat → Value) (z : Value) : VV cell z 0 = fun _ => z := by funext i; exact if_neg (by omega)
theorem vv_upd (cell : Nat → Value) (z : Value) (k : Nat) (x : Value) (hx : x = cell k) : upd (VV cell z k) k x = VV cell z (k + 1) := by
  funext i
  unfold upd VV
  by_cases e : i = k
  · subst e; rw [if_pos rfl, if_pos (by omega), hx]
  · rw [if_neg e]
    by_cases h : i < k
    · rw [if_pos h, if_pos (by omega)]
    · rw [if_neg h, if_neg (by omega)]
theorem vv_skip (cell : Nat → Value) (z : Value) (k : Nat) (hx : cell k = z) : VV cell z k = VV cell z (k + 1) := by
  funext i
  unfold VV
  by_cases h : i < k
  · rw [if_pos h, if_pos (by omega)]
  · rw [if_neg h]
    by_cases e : i = k
    · subst e; rw [if_pos (by omega), hx]
    · rw [if_neg (by omega)]

/-- The five rows; what was there stands. -/
structure MI (w wr : World) (u : Nat) (v0 v1 v2 v3 v4 : Nat → Value) : Prop where
  r0 : RF wr w.heap.size 29 u v0
  r1 : RF wr (w.heap.size + 1) 5 u v1
  r2 : RF wr (w.heap.size + 2) 5 u v2
  r3 : RF wr (w.heap.size + 3) 2 u v3
  r4 : RF wr (w.heap.size + 4) 4 u v4
  bel : Below w.heap.size w wr
theorem MI.keep {w a b : World} {u : Nat} {v0 v1 v2 v3 v4 : Nat → Value} (h : MI w a u v0 v1 v2 v3 v4) (hb : Below a.heap.size a b) : MI w b u v0 v1 v2 v3 v4 :=
  ⟨rf_keep h.r0 hb, rf_keep h.r1 hb, rf_keep h.r2 hb, rf_keep h.r3 hb, rf_keep h.r4 hb, h.bel.trans (hb.mono h.bel.size)⟩
theorem MI.set0 {w a : World} {u : Nat} {v0 v1 v2 v3 v4 : Nat → Value} (h : MI w a u v0 v1 v2 v3 v4) (k : Nat) (x : Value) : MI w (a.setCell ⟨w.heap.size, k, none⟩ x) u (upd v0 k x) v1 v2 v3 v4 :=
  ⟨rf_set h.r0 k x, rf_other h.r1 _ (by show w.heap.size ≠ _; omega) _, rf_other h.r2 _ (by show w.heap.size ≠ _; omega) _, rf_other h.r3 _ (by show w.heap.size ≠ _; omega) _, rf_other h.r4 _ (by show w.heap.size ≠ _; omega) _, h.bel.setCell (Nat.le_refl _) _⟩
theorem MI.set1 {w a : World} {u : Nat} {v0 v1 v2 v3 v4 : Nat → Value} (h : MI w a u v0 v1 v2 v3 v4) (k : Nat) (x : Value) : MI w (a.setCell ⟨w.heap.size + 1, k, none⟩ x) u v0 (upd v1 k x) v2 v3 v4 :=
  ⟨rf_other h.r0 _ (by show w.heap.size + 1 ≠ _; omega) _, rf_set h.r1 k x, rf_other h.r2 _ (by show w.heap.size + 1 ≠ _; omega) _, rf_other h.r3 _ (by show w.heap.size + 1 ≠ _; omega) _, rf_other h.r4 _ (by show w.heap.size + 1 ≠ _; omega) _, h.bel.setCell (by show _ ≤ w.heap.size + 1; omega) _⟩
theorem MI.set2 {w a : World} {u : Nat} {v0 v1 v2 v3 v4 : Nat → Value} (h : MI w a u v0 v1 v2 v3 v4) (k : Nat) (x : Value) : MI w (a.setCell ⟨w.heap.size + 2, k, none⟩ x) u v0 v1 (upd v2 k x) v3 v4 :=
  ⟨rf_other h.r0 _ (by show w.heap.size + 2 ≠ _; omega) _, rf_other h.r1 _ (by show w.heap.size + 2 ≠ _; omega) _, rf_set h.r2 k x, rf_other h.r3 _ (by show w.heap.size + 2 ≠ _; omega) _, rf_other h.r4 _ (by show w.heap.size + 2 ≠ _; omega) _, h.bel.setCell (by show _ ≤ w.heap.size + 2; omega) _⟩
theorem MI.set3 {w a : World} {u : Nat} {v0 v1 v2 v3 v4 : Nat → Value} (h : MI w a u v0 v1 v2 v3 v4) (k : Nat) (x : Value) : MI w (a.setCell ⟨w.heap.size + 3, k, none⟩ x) u v0 v1 v2 (upd v3 k x) v4 :=
  ⟨rf_other h.r0 _ (by show w.heap.size + 3 ≠ _; omega) _, rf_other h.r1 _ (by show w.heap.size + 3 ≠ _; omega) _, rf_other h.r2 _ (by show w.heap.size + 3 ≠ _; omega) _, rf_set h.r3 k x, rf_other h.r4 _ (by show w.heap.size + 3 ≠ _; omega) _, h.bel.setCell (by show _ ≤ w.heap.size + 3; omega) _⟩
theorem MI.set4 {w a : World} {u : Nat} {v0 v1 v2 v3 v4 : Nat → Value} (h : MI w a u v0 v1 v2 v3 v4) (k : Nat) (x : Value) : MI w (a.setCell ⟨w.heap.size + 4, k, none⟩ x) u v0 v1 v2 v3 (upd v4 k x) :=
  ⟨rf_other h.r0 _ (by show w.heap.size + 4 ≠ _; omega) _, rf_other h.r1 _ (by show w.heap.size + 4 ≠ _; omega) _, rf_other h.r2 _ (by show w.heap.size + 4 ≠ _; omega) _, rf_other h.r3 _ (by show w.heap.size + 4 ≠ _; omega) _, rf_set h.r4 k x, h.bel.setCell (by show _ ≤ w.heap.size + 4; omega) _⟩

theorem below_one (w : World) (o : Obj) : Below w.heap.size w (w.alloc o) := (Below.refl _ _).alloc (Nat.le_refl _) _
theorem mi_start (w : World) (u : Nat) : MI w (((((w.alloc (mkV (.int .u16 0) 29 u)).alloc (mkV (.int .u8 0) 5 u)).alloc (mkV (.int .u8 0) 5 u)).alloc (mkV (.int .i64 0) 2 u)).alloc (mkV (.bool false) 4 u)) u
    (fun _ => .int .u16 0) (fun _ => .int .u8 0) (fun _ => .int .u8 0) (fun _ => .int .i64 0) (fun _ => .bool false) := by
  refine ⟨?_, ?_, ?_, ?_, ?_, ?_⟩
  · exact rf_keep (rf_keep (rf_keep (rf_keep (rf_make w _ 29 u _ rfl) (below_one _ _)) (below_one _ _)) (below_one _ _)) (below_one _ _)
  · exact rf_keep (rf_keep (rf_keep (rf_make _ _ 5 u _ (by simp)) (below_one _ _)) (below_one _ _)) (below_one _ _)
  · exact rf_keep (rf_keep (rf_make _ _ 5 u _ (by simp)) (below_one _ _)) (below_one _ _)
  · exact rf_keep (rf_make _ _ 2 u _ (by simp)) (below_one _ _)
  · exact rf_make _ _ 4 u _ (by simp)
  · exact (((((below_one w _).alloc (by simp) _).alloc (by simp; omega) _).alloc (by simp; omega) _).alloc (by simp; omega) _)

/-- The rows' elements. -/
def E0 (zs : List Int) (u : Nat) (i : Nat) : Value := .int .u16 (hif zs (u - 1 - i))
def E1 (zs : List Int) (u : Nat) (i : Nat) : Value := .int .u8 (hld zs (u - 1 - i))
def E2 (zs : List Int) (u : Nat) (i : Nat) : Value := .int .u8 (hts zs (u - 1 - i))
def E3 (zs : List Int) (u : Nat) (Tk : Int → Int × Bool) (src : Int) (i : Nat) : Value := .int .i64 (DL zs u Tk src i).1
def E4 (zs : List Int) (u : Nat) (Tk : Int → Int × Bool) (src : Int) (i : Nat) : Value := .bool (DL zs u Tk src i).2
/-- The first loop's invariant on memory. -/
def MJ (w wr : World) (zs : List Int) (u : Nat) (Tk : Int → Int × Bool) (src : Int) (k : Nat) : Prop :=
  MI w wr u (VV (E0 zs u) (.int .u16 0) k) (VV (E1 zs u) (.int .u8 0) k) (VV (E2 zs u) (.int .u8 0) k) (VV (E3 zs u Tk src) (.int .i64 0) k) (VV (E4 zs u Tk src) (.bool false) k)
theorem mj_start (w : World) (zs : List Int) (u : Nat) (Tk : Int → Int × Bool) (src : Int) : MJ w (((((w.alloc (mkV (.int .u16 0) 29 u)).alloc (mkV (.int .u8 0) 5 u)).alloc (mkV (.int .u8 0) 5 u)).alloc (mkV (.int .i64 0) 2 u)).alloc (mkV (.bool false) 4 u)) zs u Tk src 0 := by
  unfold MJ
  rw [vv_zero, vv_zero, vv_zero, vv_zero, vv_zero]
  exact mi_start w u
end Go.Proofs.Qxb6625842a
