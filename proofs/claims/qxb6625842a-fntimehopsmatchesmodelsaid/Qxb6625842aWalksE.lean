/-
  THE WALKS of seat b6625842a, fifth part: timeHops.
-/
import Derived.Test.Qxb6625842aWalksD
namespace Go.Proofs.Qxb6625842a
open Go.ChangeShapes Go.WideShapes Go.ChangeAt Go.RowKit
set_option linter.unusedVariables false

/-! ### a row of the call's own -/
def Row (w : World) (g : Nat) (t : TypeId) (L : List Value) : Prop := w.heap[g]? = some (.cells L.toArray t (0, 0))

theorem row_cell {w : World} {g : Nat} {t : TypeId} {L : List Value} (h : Row w g t L) (i : Nat) : w.cell? ⟨g, i, none⟩ = L[i]? := by
  unfold Row at h
  simp [World.cell?, h]
theorem row_free {w : World} {g : Nat} {t : TypeId} {L : List Value} (h : Row w g t L) (i : Nat) : w.frozen? ⟨g, i, none⟩ = false := by
  unfold Row at h
  simp [World.frozen?, h]
theorem row_lt {w : World} {g : Nat} {t : TypeId} {L : List Value} (h : Row w g t L) : g < w.heap.size := lt_of_block h
theorem row_set {w : World} {g : Nat} {t : TypeId} {L : List Value} (h : Row w g t L) (i : Nat) (v : Value) : Row (w.setCell ⟨g, i, none⟩ v) g t (L.set i v) := by
  have hlt := row_lt h
  have h0 : w.heap[g]? = some (.cells L.toArray t (0, 0)) := h
  have h' : w.heap[g] = .cells L.toArray t (0, 0) := by simpa [Array.getElem?_eq_getElem hlt] using h0
  show (w.heap.modify g _)[g]? = _
  rw [Array.getElem?_eq_getElem (by simpa using hlt), Array.getElem_modify_self, h']
  simp
theorem row_new (w : World) (t : TypeId) (L : List Value) : Row (w.alloc (.cells L.toArray t)) w.heap.size t L := by
  show (w.heap.push _)[w.heap.size]? = _
  rw [Array.getElem?_push, if_pos rfl]
theorem row_other {w : World} {g : Nat} {t : TypeId} {L : List Value} (h : Row w g t L) (p : Addr) (hp : p.block ≠ g) (v : Value) : Row (w.setCell p v) g t L := by
  unfold Row at *
  rw [Below.heap_setCell _ _ _ _ (fun e => hp e.symm)]; exact h
theorem row_keep {w w' : World} {B g : Nat} {t : TypeId} {L : List Value} (h : Row w g t L) (hb : Below B w w') (hB : w.heap.size ≤ B) : Row w' g t L := by
  have := row_lt h
  unfold Row at *
  rw [hb.block g (by omega)]; exact h
theorem row_alloc {w : World} {g : Nat} {t : TypeId} {L : List Value} (h : Row w g t L) (o : Obj) : Row (w.alloc o) g t L :=
  row_keep h ((Below.refl w.heap.size w).alloc (Nat.le_refl _) o) (Nat.le_refl _)
theorem size_set (w : World) (a : Addr) (v : Value) : (w.setCell a v).heap.size = w.heap.size := by simp [World.setCell]

/-! ### the hops, no Go in sight -/
def hif (zs : List Int) (j : Nat) : Int := zs.getD (3 * j) 0 * 16 + zs.getD (3 * j + 1) 0 / 16
def hld (zs : List Int) (j : Nat) : Int := zs.getD (3 * j + 1) 0 % 16
def hts (zs : List Int) (j : Nat) : Int := zs.getD (3 * j + 2) 0
/-- The time of the hop before hop i, and whether all before it are timed. -/
def ST (zs : List Int) (u : Nat) (Tk : Int → Int × Bool) (src : Int) : Nat → Int × Bool
  | 0 => (src, true)
  | i + 1 => if (ST zs u Tk src i).2 && (Tk (hif zs (u - 1 - i))).2 then (ft (ST zs u Tk src i).1 (hts zs (u - 1 - i)) (Tk (hif zs (u - 1 - i))).1, true) else ((ST zs u Tk src i).1, false)
/-- The delay of hop i. -/
def DL (zs : List Int) (u : Nat) (Tk : Int → Int × Bool) (src : Int) (i : Nat) : Int × Bool :=
  if (ST zs u Tk src (i + 1)).2 then (ns (IntKind.u64.wrap ((ST zs u Tk src (i + 1)).1 - (ST zs u Tk src i).1)), true) else (0, false)
/-- The delay to the sink. -/
def SK (zs : List Int) (u : Nat) (Tk : Int → Int × Bool) (src snk : Int) : Int × Bool :=
  if (ST zs u Tk src u).2 then (ns (IntKind.i64.wrap (IntKind.u64.wrap (snk - (ST zs u Tk src u).1))), true) else (0, false)
/-- Hop i's five cells. -/
def hc (zs : List Int) (u : Nat) (Tk : Int → Int × Bool) (src : Int) (i : Nat) : Nat → Value
  | 0 => .int .u16 (hif zs (u - 1 - i))
  | 1 => .int .u8 (hld zs (u - 1 - i))
  | 2 => .int .u8 (hts zs (u - 1 - i))
  | 3 => .int .i64 (DL zs u Tk src i).1
  | _ => .bool (DL zs u Tk src i).2
def zc : Nat → Value
  | 0 => .int .u16 0
  | 1 => .int .u8 0
  | 2 => .int .u8 0
  | 3 => .int .i64 0
  | _ => .bool false
/-- The first k hops lie in the row, the rest is zero. -/
def HR (w : World) (G u : Nat) (h : Nat → Nat → Value) (k : Nat) : Prop :=
  ∃ L : List Value, L.length = u * 5 ∧ Row w G 49 L ∧ ∀ i, i < u → ∀ r, r < 5 → L[i * 5 + r]? = some (if i < k then h i r else zc r)

theorem Try.info49 : (Try.prog.info? 49).map (fun i => (i.zero, i.size, i.bytes)) = some (some (.agg #[.int .u16 0, .int .u8 0, .int .u8 0, .int .i64 0, .bool false]), 5, 24) := by kernel_rfl
def mkH (n : Nat) : Obj := .cells (madeCells #[.int .u16 0, .int .u8 0, .int .u8 0, .int .i64 0, .bool false] (n * 5)) 49
theorem makeH_run (n : Nat) (hn : n ≤ 1048576) (w : World) :
    (Instr.makeSlice 41 (.int .i64 (n : Int)) (.int .i64 (n : Int))).run Try.prog w = .ok (.slice (some ⟨w.heap.size, 0, none⟩) n n) (w.alloc (mkH n)) := by
  obtain ⟨i, hi, hz0, hz1, hz2⟩ := info_parts Try.info49
  have h := run_make (P := Try.prog) w 41 49 i _ Try.underlying41 hi hz0 .i64 .i64 (n : Int) (n : Int) (by omega) (by omega) (by rw [hz2]; omega) (by omega)
  rw [h, hz1]
  simp [mkH, Value.cells]
theorem hr_start (w : World) (u : Nat) (h : Nat → Nat → Value) : HR (w.alloc (mkH u)) w.heap.size u h 0 := by
  refine ⟨(madeCells #[.int .u16 0, .int .u8 0, .int .u8 0, .int .i64 0, .bool false] (u * 5)).toList, by rw [Array.length_toList, size_madeCells], row_new w 49 _, fun i hi r hr => ?_⟩
  rw [if_neg (by omega)]
  simp only [madeCells]
  have hlt : i * 5 + r < u * 5 := by omega
  have e : (i * 5 + r) % 5 = r := by omega
  match r, hr with
  | 0, _ =>
    have h0 : i * 5 < u * 5 := by omega
    simp [h0, zc]
  | 1, _ => simp [hlt, e, zc]
  | 2, _ => simp [hlt, e, zc]
  | 3, _ => simp [hlt, e, zc]
  | 4, _ => simp [hlt, e, zc]

/-- What the walks are told of the option and of the templates. -/
def OptAt (w : World) (ob : Nat) (kind : Int) (decoded : Bool) (a : Option Addr) (n c : Nat) : Prop :=
  w.cell? ⟨ob, 1, none⟩ = some (.int .u8 kind) ∧ w.cell? ⟨ob, 2, none⟩ = some (.bool decoded) ∧ w.cell? ⟨ob, 4, none⟩ = some (.slice a n c)
def TplAt (w : World) (tb : Nat) (all : Int) (hasAll : Bool) (m : Option Nat) : Prop :=
  w.cell? ⟨tb, 0, none⟩ = some (.int .u8 all) ∧ w.cell? ⟨tb, 1, none⟩ = some (.bool hasAll) ∧ w.cell? ⟨tb, 2, none⟩ = some (.map m)

/-- The hops before j lie in the row, hop j's cells are 'v', the rest is zero; the result's own cell; what was there stands. -/
def LP (w wr : World) (G u : Nat) (h : Nat → Nat → Value) (j : Nat) (v : Nat → Value) : Prop :=
  (∃ L : List Value, L.length = u * 5 ∧ Row wr G 49 L ∧ ∀ i, i < u → ∀ r, r < 5 → L[i * 5 + r]? = some (if i < j then h i r else if i = j then v r else zc r)) ∧
    Row wr w.heap.size 43 [.int .i64 0, .bool false] ∧ Below w.heap.size w wr ∧ w.heap.size < G
/-- The second loop's invariant on memory. -/
def LI (w wr : World) (G u : Nat) (h : Nat → Nat → Value) (j : Nat) : Prop :=
  HR wr G u h j ∧ Row wr w.heap.size 43 [.int .i64 0, .bool false] ∧ Below w.heap.size w wr ∧ w.heap.size < G

theorem li_start {w w3 : World} {u : Nat} (h : Nat → Nat → Value) (hb : Below (w.heap.size + 1) (w.alloc (.cells #[.int .i64 0, .bool false] 43)) w3) : LI w (w3.alloc (mkH u)) w3.heap.size u h 0 := by
  have hs := hb.size
  simp at hs
  have hR : Row (w.alloc (.cells #[.int .i64 0, .bool false] 43)) w.heap.size 43 [.int .i64 0, .bool false] := row_new w 43 [.int .i64 0, .bool false]
  have hR3 : Row w3 w.heap.size 43 [.int .i64 0, .bool false] := row_keep hR hb (by simp)
  exact ⟨hr_start w3 u h, row_alloc hR3 _, (((Below.refl _ _).alloc (Nat.le_refl _) _).trans (hb.mono (by omega))).alloc (by omega) _, by omega⟩

theorem lp_of {w wr : World} {G u : Nat} {h : Nat → Nat → Value} {j : Nat} (H : LI w wr G u h j) : LP w wr G u h j zc := by
  obtain ⟨⟨L, h1, h2, h3⟩, r⟩ := H
  refine ⟨⟨L, h1, h2, fun i hi r hr => ?_⟩, r⟩
  rw [h3 i hi r hr]
  by_cases e : i < j
  · rw [if_pos e, if_pos e]
  · rw [if_neg e, if_neg e]; split <;> rfl
theorem lp_below {w wr : World} {G u : Nat} {h : Nat → Nat → Value} {j : Nat} {v : Nat → Value} (H : LP w wr G u h j v) : Below w.heap.size w wr := H.2.2.1
theorem lp_keep {w a b : World} {G u : Nat} {h : Nat → Nat → Value} {j : Nat} {v : Nat → Value} (H : LP w a G u h j v) (hb : Below a.heap.size a b) : LP w b G u h j v := by
  obtain ⟨⟨L, h1, h2, h3⟩, h4, h5, h6⟩ := H
  exact ⟨⟨L, h1, row_keep h2 hb (Nat.le_refl _), h3⟩, row_keep h4 hb (Nat.le_refl _), h5.trans (hb.mono h5.size), h6⟩
theorem lp_set {w a : World} {G u : Nat} {h : Nat → Nat → Value} {j : Nat} {v : Nat → Value} (H : LP w a G u h j v) (hj : j < u) (s : Nat) (hs : s < 5) (x : Value) :
    LP w (a.setCell ⟨G, j * 5 + s, none⟩ x) G u h j (fun r => if r = s then x else v r) := by
  obtain ⟨⟨L, h1, h2, h3⟩, h4, h5, h6⟩ := H
  refine ⟨⟨L.set (j * 5 + s) x, by simp [h1], row_set h2 _ _, fun i hi r hr => ?_⟩, row_other h4 _ (by show G ≠ _; omega) _, h5.setCell (by show w.heap.size ≤ G; omega) _, h6⟩
  rw [List.getElem?_set]
  by_cases e : j * 5 + s = i * 5 + r
  · have ei : i = j := by omega
    have er : r = s := by omega
    subst ei er
    rw [if_pos rfl, if_pos (by omega), if_neg (by omega), if_pos rfl]
    exact congrArg some (if_pos rfl).symm
  · rw [if_neg e, h3 i hi r hr]
    by_cases ei : i = j
    · subst ei
      rw [if_neg (by omega), if_pos rfl, if_neg (by omega), if_pos rfl]
      exact congrArg some (if_neg (by omega)).symm
    · rw [if_neg ei, if_neg ei]
theorem lp_cell {w a : World} {G u : Nat} {h : Nat → Nat → Value} {j : Nat} {v : Nat → Value} (H : LP w a G u h j v) (hj : j < u) (r : Nat) (hr : r < 5) : a.cell? ⟨G, j * 5 + r, none⟩ = some (v r) := by
  obtain ⟨⟨L, h1, h2, h3⟩, _⟩ := H
  rw [row_cell h2, h3 j hj r hr, if_neg (by omega), if_pos rfl]
theorem lp_free {w a : World} {G u : Nat} {h : Nat → Nat → Value} {j : Nat} {v : Nat → Value} (H : LP w a G u h j v) : ∀ x, a.frozen? ⟨G, x, none⟩ = false := by
  obtain ⟨⟨L, h1, h2, h3⟩, _⟩ := H
  exact fun x => row_free h2 x
theorem lp_done {w a : World} {G u : Nat} {h : Nat → Nat → Value} {j : Nat} {v : Nat → Value} (H : LP w a G u h j v) (hv : ∀ r, r < 5 → v r = h j r) : LI w a G u h (j + 1) := by
  obtain ⟨⟨L, h1, h2, h3⟩, r⟩ := H
  refine ⟨⟨L, h1, h2, fun i hi r hr => ?_⟩, r⟩
  rw [h3 i hi r hr]
  by_cases e : i < j
  · rw [if_pos e, if_pos (by omega)]
  · rw [if_neg e]
    by_cases e' : i = j
    · subst e'; rw [if_pos rfl, if_pos (by omega), hv r hr]
    · rw [if_neg e', if_neg (by omega)]

/-! ### the state, a step on -/
theorem st_on {zs : List Int} {u : Nat} {Tk : Int → Int × Bool} {src : Int} {j : Nat} {p : Int} {k : Int} (h : ST zs u Tk src j = (p, true)) (hk : Tk (hif zs (u - 1 - j)) = (k, true)) : ST zs u Tk src (j + 1) = (ft p (hts zs (u - 1 - j)) k, true) := by
  unfold ST; rw [h, hk]; rfl
theorem st_off {zs : List Int} {u : Nat} {Tk : Int → Int × Bool} {src : Int} {j : Nat} {p : Int} {t : Bool} (h : ST zs u Tk src j = (p, t)) (hk : (t && (Tk (hif zs (u - 1 - j))).2) = false) : ST zs u Tk src (j + 1) = (p, false) := by
  unfold ST; rw [h]
  show (if (t && _) = true then _ else _) = _
  rw [hk]; rfl
theorem dl_on {zs : List Int} {u : Nat} {Tk : Int → Int × Bool} {src : Int} {j : Nat} {p q : Int} {t : Bool} (h : ST zs u Tk src j = (p, t)) (h' : ST zs u Tk src (j + 1) = (q, true)) : DL zs u Tk src j = (ns (IntKind.u64.wrap (q - p)), true) := by
  unfold DL; rw [h, h']; rfl
theorem dl_off {zs : List Int} {u : Nat} {Tk : Int → Int × Bool} {src : Int} {j : Nat} {q : Int} (h' : ST zs u Tk src (j + 1) = (q, false)) : DL zs u Tk src j = (0, false) := by
  unfold DL; rw [h']; rfl
theorem st_bd (zs : List Int) (u : Nat) (Tk : Int → Int × Bool) (src : Int) (hsrc : 0 ≤ src ∧ src < 18446744073709551616) (j : Nat) : 0 ≤ (ST zs u Tk src j).1 ∧ (ST zs u Tk src j).1 < 18446744073709551616 := by
  induction j with
  | zero => exact hsrc
  | succ j ih =>
    unfold ST
    split
    · exact ft_bd _ _ _ ih.1 ih.2
    · exact ih

/-- What timeHops leaves. -/
def THE (w : World) (u : Nat) (h : Nat → Nat → Value) (sd : Int × Bool) (e : Ending) (w' : World) : Prop :=
  ∃ G, e = .returned (.tuple #[.slice (some ⟨G, 0, none⟩) u u, .agg #[.int .i64 sd.1, .bool sd.2]]) ∧ w.heap.size ≤ G ∧ HR w' G u h u ∧ Below w.heap.size w w'
end Go.Proofs.Qxb6625842a
