/-
  THE WALKS of seat b6625842a, seventh part: ZZtimeHops, over an option and templates as the laws make them.
-/
import Derived.Test.Qxb6625842aWalksF
namespace Go.Proofs.Qxb6625842a
open Go.ChangeShapes Go.WideShapes Go.ChangeAt Go.RowKit
set_option linter.unusedVariables false

theorem opt_keep {w w' : World} {B ob n c : Nat} {kind : Int} {decoded : Bool} {a : Option Addr} (hb : Below B w w') (hB : w.heap.size ≤ B) (h : OptAt w ob kind decoded a n c) : OptAt w' ob kind decoded a n c :=
  ⟨cell_keep hb hB h.1, cell_keep hb hB h.2.1, cell_keep hb hB h.2.2⟩
theorem tpl_keep {w w' : World} {B tb : Nat} {all : Int} {hasAll : Bool} {m : Option Nat} (hb : Below B w w') (hB : w.heap.size ≤ B) (h : TplAt w tb all hasAll m) : TplAt w' tb all hasAll m :=
  ⟨cell_keep hb hB h.1, cell_keep hb hB h.2.1, cell_keep hb hB h.2.2⟩
theorem seg_keep {w w' : World} {B : Nat} {a : Option Addr} {n : Nat} {zs : List Int} (hb : Below B w w') (hB : w.heap.size ≤ B) (h : Seg w a n zs) : Seg w' a n zs := by
  obtain ⟨h1, h2, h3, h | ⟨b, o, rfl, hc⟩⟩ := h
  · exact ⟨h1, h2, h3, .inl h⟩
  · exact ⟨h1, h2, h3, .inr ⟨b, o, rfl, fun i hi => cell_keep hb hB (hc i hi)⟩⟩

/-- All that timeHops is told: one bundle. -/
structure Told (w : World) (ob tb : Nat) (kind : Int) (decoded : Bool) (a : Option Addr) (n c : Nat) (zs : List Int) (f : Int → Int × Bool) (all : Int) (hasAll : Bool) (m : Option Nat) : Prop where
  opt : OptAt w ob kind decoded a n c
  tpl : TplAt w tb all hasAll m
  seg : Seg w a n zs
  cap : n ≤ c
  map : ∀ wx, Below w.heap.size w wx → MV m f wx
  fbd : ∀ k, 0 ≤ (f k).1
  abd : 0 ≤ all

theorem Told.keep {w w' : World} {ob tb : Nat} {kind : Int} {decoded : Bool} {a : Option Addr} {n c : Nat} {zs : List Int} {f : Int → Int × Bool} {all : Int} {hasAll : Bool} {m : Option Nat}
    (h : Told w ob tb kind decoded a n c zs f all hasAll m) (hb : Below w.heap.size w w') : Told w' ob tb kind decoded a n c zs f all hasAll m :=
  ⟨opt_keep hb (Nat.le_refl _) h.opt, tpl_keep hb (Nat.le_refl _) h.tpl, seg_keep hb (Nat.le_refl _) h.seg, h.cap, fun wx hx => h.map wx (hb.trans (hx.mono hb.size)), h.fbd, h.abd⟩

/-- How many slots the option has. -/
def NO (decoded : Bool) (kind : Int) (n N : Nat) : Prop := (decoded = true ∧ kind = 1 ∧ N = n / 3) ∨ ((decoded = false ∨ kind ≠ 1) ∧ N = 0)
theorem no_exists (decoded : Bool) (kind : Int) (n : Nat) : ∃ N, NO decoded kind n N := by
  by_cases h : decoded = true ∧ kind = 1
  · exact ⟨_, .inl ⟨h.1, h.2, rfl⟩⟩
  · refine ⟨0, .inr ⟨?_, rfl⟩⟩
    cases decoded
    · exact .inl rfl
    · exact .inr fun e => h ⟨rfl, e⟩
theorem uo_of {decoded : Bool} {kind : Int} {zs : List Int} {n N u : Nat} (hN : NO decoded kind n N) (hu : US zs N u) : UO decoded kind zs n u := by
  rcases hN with ⟨h1, h2, rfl⟩ | ⟨h, rfl⟩
  · exact .inl ⟨h1, h2, hu⟩
  · exact .inr ⟨h, Nat.le_zero.1 hu.1⟩

theorem th_told (w : World) (ob tb : Nat) (kind : Int) (decoded : Bool) (a : Option Addr) (n c : Nat) (zs : List Int) (f : Int → Int × Bool) (all : Int) (hasAll : Bool) (m : Option Nat)
    (h : Told w ob tb kind decoded a n c zs f all hasAll m) (N u : Nat) (hN : NO decoded kind n N) (hu : US zs N u) (src snk : Int) (hsrc : 0 ≤ src ∧ src < 18446744073709551616) :
    Calls Try.prog 11 #[.pointer (some ⟨ob, 0, none⟩), .int .u64 src, .int .u64 snk, .pointer (some ⟨tb, 0, none⟩)] w fun e w' => THE w u (hc zs u (T f all hasAll) src) (SK zs u (T f all hasAll) src snk) e w' := by
  have hN3 : 3 * N ≤ n := by rcases hN with ⟨_, _, rfl⟩ | ⟨_, rfl⟩ <;> omega
  refine th_any ob tb n N u src snk zs (T f all hasAll) w h.seg.2.1 hN3 hu.1 h.seg.2.2.1 hu hsrc ?_ ?_ ?_ ?_
  · intro k
    unfold T
    split
    · exact h.fbd k
    · exact h.abd
  · intro wx hb
    have ho := (h.keep hb).opt
    rcases hN with ⟨rfl, rfl, rfl⟩ | ⟨hno, rfl⟩
    · exact count_yes ob n c a wx h.seg.2.1 ho.1 ho.2.1 ho.2.2
    · exact count_no ob n c a decoded kind wx hno ho.1 ho.2.1
  · intro wx hb i I hI hi
    have hx := h.keep hb
    obtain ⟨hl, hn, hz, h0 | ⟨b, o, rfl, hcell⟩⟩ := hx.seg
    · omega
    · have z0 := hz (3 * i)
      have z1 := hz (3 * i + 1)
      refine (mcd_any ob b o n c i I hI (zs.getD (3 * i) 0) (zs.getD (3 * i + 1) 0) (zs.getD (3 * i + 2) 0) wx (by omega) hx.cap hn z0.1 z0.2 z1.1 z1.2 hx.opt.2.2 (hcell (3 * i) (by omega)) (hcell (3 * i + 1) (by omega)) (hcell (3 * i + 2) (by omega))).mono fun e w' he => he
  · intro wx hb k hk0 hk1
    have ht := (h.keep hb).tpl
    exact of_any tb m f all hasAll k wx hk0 hk1 (h.map wx hb) ht.1 ht.2.1 ht.2.2

set_option maxHeartbeats 1000000 in
theorem zz_told (w : World) (ob tb : Nat) (kind : Int) (decoded : Bool) (a : Option Addr) (n c : Nat) (zs : List Int) (f : Int → Int × Bool) (all : Int) (hasAll : Bool) (m : Option Nat)
    (h : Told w ob tb kind decoded a n c zs f all hasAll m) (N u : Nat) (hN : NO decoded kind n N) (hu : US zs N u) (src snk : Int) (hsrc : 0 ≤ src ∧ src < 18446744073709551616) :
    Calls Try.prog 10 #[.pointer (some ⟨ob, 0, none⟩), .int .u64 src, .int .u64 snk, .pointer (some ⟨tb, 0, none⟩)] w fun e w' => THE w u (hc zs u (T f all hasAll) src) (SK zs u (T f all hasAll) src snk) e w' := by
  have HM : Hid (Calls Try.prog 11 #[.pointer (some ⟨ob, 0, none⟩), .int .u64 src, .int .u64 snk, .pointer (some ⟨tb, 0, none⟩)] (w.alloc (.cells #[.int .i64 0, .bool false] 43)) fun e w' => THE (w.alloc (.cells #[.int .i64 0, .bool false] 43)) u (hc zs u (T f all hasAll) src) (SK zs u (T f all hasAll) src snk) e w') :=
    th_told (w.alloc (.cells #[.int .i64 0, .bool false] 43)) ob tb kind decoded a n c zs f all hasAll m (h.keep ((Below.refl _ _).alloc (Nat.le_refl _) _)) N u hN hu src snk hsrc
  clear h hN hu hsrc
  generalize hc zs u (T f all hasAll) src = hh at HM ⊢
  generalize SK zs u (T f all hasAll) src snk = sd at HM ⊢
  obtain ⟨sx, sk⟩ := sd
  go_enter Try.func10, Try.ntmps10
  go_wp2_with fail
  refine HM.out.mono ?_
  rintro e w1 ⟨G, rfl, hG, HH, hb⟩
  have hG' : w.heap.size < G := by simp at hG; omega
  have r0 : w1.cell? ⟨w.heap.size, 0, none⟩ = some (.int .i64 0) := by rw [hb.cell (by simp)]; simp
  have r1 : w1.cell? ⟨w.heap.size, 1, none⟩ = some (.bool false) := by rw [hb.cell (by simp)]; simp
  have rf0 : w1.frozen? ⟨w.heap.size, 0, none⟩ = false := by rw [hb.frozen (by simp)]; simp
  have rf1 : w1.frozen? ⟨w.heap.size, 1, none⟩ = false := by rw [hb.frozen (by simp)]; simp
  have HE : Hid (HR w1 G u hh u ∧ Below w.heap.size w w1) := ⟨HH, ((Below.refl _ _).alloc (Nat.le_refl _) _).trans (hb.mono (by simp))⟩
  clear HM hG HH hb
  go_wp2
  refine bodyPost_ret (v := .tuple #[.slice (some ⟨G, 0, none⟩) u u, .agg #[.int .i64 sx, .bool sk]]) (by simp [results, Try.results10, go_sem, r0, r1]) rfl ⟨G, rfl, by omega, ?_⟩
  obtain ⟨⟨L, h1, h2, h3⟩, h5⟩ := HE.out
  exact ⟨⟨L, h1, row_other (row_other h2 _ (by show w.heap.size ≠ G; omega) _) _ (by show w.heap.size ≠ G; omega) _, h3⟩, (h5.setCell (Nat.le_refl _) _).setCell (Nat.le_refl _) _⟩
end Go.Proofs.Qxb6625842a
