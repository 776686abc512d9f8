/-
  THE WALKS of seat b6625649a, third part: memory of the call's own; 'make' and 'copy'; zzJoin.
-/
import Derived.Test.Qxb6625649aWalksB
import Derived.Laws.CopyOwn
import Derived.OneCell
namespace Go.Proofs.Qxb6625649a
open Go.ChangeShapes Go.WideShapes Go.ChangeAt Go.RowKit Plain
set_option linter.unusedVariables false

/-! ### a row of the call's own -/
def Row (w : World) (g : Nat) (t : TypeId) (L : List Value) : Prop := w.heap[g]? = some (.cells L.toArray t (0, 0))

theorem row_cell {w : World} {g : Nat} {t : TypeId} {L : List Value} (h : Row w g t L) (i : Nat) : w.cell? ⟨g, i, none⟩ = L[i]? := by
  unfold Row at h
  simp [World.cell?, h]
theorem row_free {w : World} {g : Nat} {t : TypeId} {L : List Value} (h : Row w g t L) (i : Nat) : w.frozen? ⟨g, i, none⟩ = false := by
  unfold Row at h
  simp [World.frozen?, h]
theorem row_lt {w : World} {g : Nat} {t : TypeId} {L : List Value} (h : Row w g t L) : g < w.heap.size := lt_of_block h
theorem row_set {w : World} {g : Nat} {t : TypeId} {L : List Value} (h : Row w g t L) (i : Nat) (v : Value) : Row (w.setCell ⟨g, i, none⟩ v) g t (L.set i v) := by
  have hlt := row_lt h
  have h0 : w.heap[g]? = some (.cells L.toArray t (0, 0)) := h
  have h' : w.heap[g] = .cells L.toArray t (0, 0) := by simpa [Array.getElem?_eq_getElem hlt] using h0
  show (w.heap.modify g _)[g]? = _
  rw [Array.getElem?_eq_getElem (by simpa using hlt), Array.getElem_modify_self, h']
  simp
theorem row_new (w : World) (t : TypeId) (L : List Value) : Row (w.alloc (.cells L.toArray t)) w.heap.size t L := by
  show (w.heap.push _)[w.heap.size]? = _
  rw [Array.getElem?_push, if_pos rfl]
theorem size_set (w : World) (a : Addr) (v : Value) : (w.setCell a v).heap.size = w.heap.size := by simp [World.setCell]
theorem cell_lt {w : World} {p : Addr} {v : Value} (h : w.cell? p = some v) : p.block < w.heap.size := by
  refine Nat.lt_of_not_le fun hge => ?_
  have hnone : w.heap[p.block]? = none := Array.getElem?_eq_none hge
  unfold World.cell? at h
  rw [hnone] at h
  simp at h

theorem getD_map (L : List Int) (i : Nat) (h : i < L.length) : (L.map (Value.int .u8))[i]? = some (.int .u8 (L.getD i 0)) := by
  simp [List.getElem?_eq_getElem h, List.getD_eq_getElem?_getD]

theorem seg_of_row {w : World} {g : Nat} {L : List Int} {n : Nat} (h : Row w g 5 (L.map (Value.int .u8))) (hl : L.length = n) (hn : n ≤ 4194304) (hb : ∀ i, 0 ≤ L.getD i 0 ∧ L.getD i 0 ≤ 255) : Seg w (some ⟨g, 0, none⟩) n L :=
  ⟨hl, hn, hb, .inr ⟨g, 0, rfl, fun i hi => by rw [Nat.zero_add, row_cell h, getD_map _ _ (by omega)]⟩⟩

theorem seg_keep {w w' : World} {a : Option Addr} {n B : Nat} {zs : List Int} (h : Seg w a n zs) (hb : Below B w w') (hB : w.heap.size ≤ B) : Seg w' a n zs := by
  obtain ⟨h1, h2, h3, h | ⟨b, o, rfl, hc⟩⟩ := h
  · exact ⟨h1, h2, h3, .inl h⟩
  · exact ⟨h1, h2, h3, .inr ⟨b, o, rfl, fun i hi => by
      have := cell_lt (hc i hi)
      rw [hb.cell (p := ⟨b, o + i, none⟩) (Nat.lt_of_lt_of_le this hB)]; exact hc i hi⟩⟩

/-- Its first k elements. -/
theorem seg_take {w : World} {a : Option Addr} {n k : Nat} {zs : List Int} (h : Seg w a n zs) (hk : k ≤ n) : Seg w a k (zs.take k) := by
  obtain ⟨h1, h2, h3, h | ⟨b, o, rfl, hc⟩⟩ := h
  · exact ⟨by simp; omega, by omega, fun i => by
      by_cases hi : i < k
      · rw [take_lo _ _ _ hi]; exact h3 i
      · rw [List.getD_eq_getElem?_getD, List.getElem?_eq_none (by simp; omega)]; decide, .inl (by omega)⟩
  · exact ⟨by simp; omega, by omega, fun i => by
      by_cases hi : i < k
      · rw [take_lo _ _ _ hi]; exact h3 i
      · rw [List.getD_eq_getElem?_getD, List.getElem?_eq_none (by simp; omega)]; decide, .inr ⟨b, o, rfl, fun i hi => by rw [take_lo _ _ _ hi]; exact hc i (by omega)⟩⟩

/-! ### make, copy -/
theorem Try.info5 : (Try.prog.info? 5).map (fun i => (i.zero, i.size, i.bytes)) = some (some (.int .u8 0), 1, 1) := by kernel_rfl
theorem Try.size5 : (Try.prog.info? 5).map (·.size) = some 1 := by kernel_rfl

/-- The new block, behind a name of its own. -/
def mk0 (n : Nat) : Obj := .cells (madeCells #[.int .u8 0] n) 5

theorem made_list (n : Nat) : (madeCells #[.int .u8 0] n) = ((List.replicate n (0 : Int)).map (Value.int .u8)).toArray := by
  apply Array.ext'
  apply List.ext_getElem?
  intro i
  simp only [madeCells]
  by_cases h : i < n
  · simp [h, Nat.mod_one]
  · simp [h]

theorem row_mk0 (w : World) (n : Nat) : Row (w.alloc (mk0 n)) w.heap.size 5 ((List.replicate n (0 : Int)).map (Value.int .u8)) := by
  unfold mk0
  rw [made_list]
  exact row_new w 5 _

theorem make_run (L : Int) (n : Nat) (hL : L = n) (hn : n ≤ 4194304) (w : World) :
    (Instr.makeSlice 22 (.int .i64 L) (.int .i64 L)).run Try.prog w = .ok (.slice (some ⟨w.heap.size, 0, none⟩) n n) (w.alloc (mk0 n)) := by
  subst hL
  obtain ⟨i, hi, hz0, hz1, hz2⟩ := info_parts Try.info5
  have h := run_make (P := Try.prog) w 22 5 i (.int .u8 0) Try.underlying22 hi hz0 .i64 .i64 (n : Int) (n : Int) (by omega) (by omega) (by rw [hz2]; omega) (by omega)
  rw [h, hz1]
  simp [mk0, Value.cells]

theorem copy_run (w : World) (x : Addr) (n c : Nat) (zs : List Int) (hn : n ≤ 4194304) (hlen : n ≤ zs.length)
    (hc : ∀ i, i < zs.length → w.cell? (x.add i) = some (.int .u8 (zs.getD i 0))) (hwf : ∀ m ∈ zs, (Lit.int .u8 m).wf = true) :
    ∃ w2, (∀ ty, (Builtin.copy_ #[22, 22] ty #[.slice (some ⟨w.heap.size, 0, none⟩) n n, .slice (some x) n c]).run Try.prog (w.alloc (mk0 n)) = .ok (.int .i64 (n : Int)) w2) ∧
      Seg w2 (some ⟨w.heap.size, 0, none⟩) n (zs.take n) ∧ Below w.heap.size w w2 ∧ w2.heap.size = w.heap.size + 1 := by
  have hcl : ((zs.take n).map (Value.int .u8)).length = n := by simp; omega
  have hblk : (w.alloc (mk0 n)).heap[w.heap.size]? = some (.cells (madeCells #[.int .u8 0] n) 5 (0, 0)) := by
    show (w.heap.push _)[w.heap.size]? = _
    rw [Array.getElem?_push, if_pos rfl]; rfl
  have hsrc : ∀ j v, ((zs.take n).map (Value.int .u8))[j]? = some v → (w.alloc (mk0 n)).cell? (x.add j) = some v := by
    intro j v hj
    have hjn : j < n := by
      have := (List.getElem?_eq_some_iff.1 hj).1
      omega
    have hcj := hc j (by omega)
    rw [getD_map _ _ (by simp; omega), take_lo _ _ _ hjn] at hj
    have hv := Option.some.inj hj
    rw [← hv, ← hcj]
    exact (((Below.refl w.heap.size w).alloc (Nat.le_refl _) (mk0 n)).cell (cell_lt hcj))
  have hrun := fun ty => run_copy_row (P := Try.prog) (w.alloc (mk0 n)) 22 22 ty 5 w.heap.size 0 n n x n c (madeCells #[.int .u8 0] n) 5 ((zs.take n).map (Value.int .u8))
    Try.underlying22 Try.size5 hblk (by rw [hcl]; exact (Nat.min_self n).symm) hsrc (by rw [hcl, size_madeCells]; omega) (by intro v hv; obtain ⟨m, _, rfl⟩ := List.mem_map.1 hv; rfl)
  rw [hcl] at hrun
  have hrow : ((madeCells #[.int .u8 0] n).toList.take 0 ++ (zs.take n).map (Value.int .u8) ++ (madeCells #[.int .u8 0] n).toList.drop (0 + n)) = (zs.take n).map (Value.int .u8) := by
    have : (madeCells #[.int .u8 0] n).toList.drop (0 + n) = [] := List.drop_eq_nil_of_le (by rw [Array.length_toList, size_madeCells]; omega)
    rw [this]; simp
  rw [hrow] at hrun
  have hB : Below w.heap.size w ((w.alloc (mk0 n)).setRow w.heap.size ((zs.take n).map (Value.int .u8)).toArray) :=
    below_setRow ((Below.refl w.heap.size w).alloc (Nat.le_refl _) (mk0 n)) (Nat.le_refl _) _
  have hH : Row ((w.alloc (mk0 n)).setRow w.heap.size ((zs.take n).map (Value.int .u8)).toArray) w.heap.size 5 _ := setRow_heap (w.alloc (mk0 n)) w.heap.size _ ((zs.take n).map (Value.int .u8)).toArray 5 (0, 0) hblk
  have hsz : ((w.alloc (mk0 n)).setRow w.heap.size ((zs.take n).map (Value.int .u8)).toArray).heap.size = w.heap.size + 1 := by
    simp [World.setRow]
  refine ⟨_, fun ty => hrun ty, seg_of_row hH (by simp; omega) hn ?_, hB, hsz⟩
  intro i
  by_cases hi : i < n
  · rw [take_lo _ _ _ hi, List.getD_eq_getElem?_getD]
    exact range_u8 hwf i
  · rw [List.getD_eq_getElem?_getD, List.getElem?_eq_none (by simp; omega)]
    decide

theorem q22 (w : World) (a : Option Addr) (n c n' c' : Nat) : (binOp .neq 22 (.slice a n c) (.slice none n' c')).run Try.prog w = .ok (.bool (!a.isNone)) w :=
  run_neq_slice_nil_any w _ _ a n c n' c' Try.underlying22

/-! ### zzJoin -/
/-- The round's invariant: of the row's bytes the first k are those of 'zs'. -/
def JI (w wr : World) (N : Nat) (zs : List Int) (k : Nat) : Prop :=
  ∃ L : List Int, L.length = N ∧ (∀ j, j < k → L.getD j 0 = zs.getD j 0) ∧ Row wr w.heap.size 5 (L.map (Value.int .u8)) ∧ Below w.heap.size w wr ∧ wr.heap.size = w.heap.size + 1

theorem ji_start (w : World) (N : Nat) (zs : List Int) : JI w (w.alloc (mk0 N)) N zs 0 :=
  ⟨List.replicate N 0, by simp, fun j hj => by omega, row_mk0 w N, (Below.refl _ w).alloc (Nat.le_refl _) _, by simp⟩
theorem ji_cell {w wr : World} {N k : Nat} {zs : List Int} (h : JI w wr N zs k) (i : Nat) (hi : i < N) : ∃ v, wr.cell? ⟨w.heap.size, i, none⟩ = some v := by
  obtain ⟨L, h1, h2, h3, h4, h5⟩ := h
  exact ⟨_, by rw [row_cell h3, getD_map _ _ (by omega)]⟩
theorem ji_free {w wr : World} {N k : Nat} {zs : List Int} (h : JI w wr N zs k) (i : Nat) : wr.frozen? ⟨w.heap.size, i, none⟩ = false := by
  obtain ⟨L, h1, h2, h3, h4, h5⟩ := h
  exact row_free h3 i
theorem ji_old {w wr : World} {N k : Nat} {zs : List Int} (h : JI w wr N zs k) {p : Addr} {v : Value} (hc : w.cell? p = some v) : wr.cell? p = some v := by
  obtain ⟨L, h1, h2, h3, h4, h5⟩ := h
  rw [h4.cell (cell_lt hc)]; exact hc
theorem ji_step {w wr : World} {N k : Nat} {zs : List Int} (h : JI w wr N zs k) (hk : k < N) (x : Int) (hx : x = zs.getD k 0) : JI w (wr.setCell ⟨w.heap.size, k, none⟩ (.int .u8 x)) N zs (k + 1) := by
  obtain ⟨L, h1, h2, h3, h4, h5⟩ := h
  refine ⟨L.set k x, by simp [h1], fun j hj => ?_, ?_, h4.setCell (Nat.le_refl _) _, by rw [size_set]; exact h5⟩
  · rw [List.getD_eq_getElem?_getD, List.getElem?_set]
    by_cases e : k = j
    · subst e; rw [if_pos rfl, if_pos (by omega)]; exact hx
    · rw [if_neg e, ← List.getD_eq_getElem?_getD]; exact h2 j (by omega)
  · have := row_set h3 k (.int .u8 x)
    rwa [← List.map_set] at this
theorem ji_same {w wr : World} {N k : Nat} {zs zs' : List Int} (h : JI w wr N zs k) (he : ∀ j, j < k → zs.getD j 0 = zs'.getD j 0) : JI w wr N zs' k := by
  obtain ⟨L, h1, h2, h3, h4, h5⟩ := h
  exact ⟨L, h1, fun j hj => (h2 j hj).trans (he j hj), h3, h4, h5⟩
theorem ji_end {w wr : World} {N : Nat} {zs : List Int} (h : JI w wr N zs N) (hl : zs.length = N) (hN : N ≤ 4194304) (hb : ∀ i, 0 ≤ zs.getD i 0 ∧ zs.getD i 0 ≤ 255) :
    Seg wr (some ⟨w.heap.size, 0, none⟩) N zs ∧ Below w.heap.size w wr ∧ wr.heap.size = w.heap.size + 1 := by
  obtain ⟨L, h1, h2, h3, h4, h5⟩ := h
  have e : L = zs := by
    apply List.ext_getElem (by omega)
    intro i hi hi'
    have := h2 i (by omega)
    simpa [List.getD_eq_getElem?_getD, List.getElem?_eq_getElem hi, List.getElem?_eq_getElem hi'] using this
  subst e
  exact ⟨seg_of_row h3 h1 hN hb, h4, h5⟩
theorem app_bd {xs ys : List Int} (hx : ∀ i, 0 ≤ xs.getD i 0 ∧ xs.getD i 0 ≤ 255) (hy : ∀ i, 0 ≤ ys.getD i 0 ∧ ys.getD i 0 ≤ 255) : ∀ i, 0 ≤ (xs ++ ys).getD i 0 ∧ (xs ++ ys).getD i 0 ≤ 255 := by
  intro i
  by_cases h : i < xs.length
  · rw [app_lo _ _ _ h]; exact hx i
  · obtain ⟨d, rfl⟩ := Nat.exists_eq_add_of_le (Nat.le_of_not_lt h)
    rw [app_hi]; exact hy d

set_option maxHeartbeats 4000000 in
theorem join_any (a b : Option Addr) (n c m d : Nat) (xs ys : List Int) (w : World) (hsa : Seg w a n xs) (hsb : Seg w b m ys) (hnm : n + m ≤ 4194304) :
    Calls Try.prog 8 #[.slice a n c, .slice b m d] w fun e w' => e = .returned (.slice (some ⟨w.heap.size, 0, none⟩) (n + m) (n + m)) ∧ Hid (Seg w' (some ⟨w.heap.size, 0, none⟩) (n + m) (xs ++ ys) ∧ Below w.heap.size w w' ∧ w'.heap.size = w.heap.size + 1) := by
  obtain ⟨hl, hn, hz, ha⟩ := hsa
  obtain ⟨hl', hn', hz', hb⟩ := hsb
  have hmk := make_run ((n : Int) + (m : Int)) (n + m) (by omega) hnm
  have FIN : Hid (∀ wr, JI w wr (n + m) (xs ++ ys) (n + m) → Seg wr (some ⟨w.heap.size, 0, none⟩) (n + m) (xs ++ ys) ∧ Below w.heap.size w wr ∧ wr.heap.size = w.heap.size + 1) :=
    fun wr h => ji_end h (by simp; omega) hnm (app_bd hz hz')
  have EX : Hid (∀ j, j < n → (xs ++ ys).getD j 0 = xs.getD j 0) := fun j hj => app_lo _ _ _ (by omega)
  have EY : Hid (∀ j, (xs ++ ys).getD (n + j) 0 = ys.getD j 0) := fun j => by rw [← hl]; exact app_hi _ _ _
  clear hz hz' hl hl'
  rcases ha with ha | ⟨b1, o1, rfl, ha⟩
  all_goals
    rcases hb with hb | ⟨b2, o2, rfl, hb⟩
    all_goals
      have HA : Hid _ := ha
      have HB : Hid _ := hb
      clear ha hb
      go_enter Try.func8, Try.ntmps8
      go_wp2
      go_loopw [6] (fun i wr => ∃ k : Nat, k ≤ n ∧ i = .int .i64 k ∧ JI w wr (n + m) (xs ++ ys) k) (fun i _ => n - (intOf i).toNat)
      case atStart => exact ⟨0, Nat.zero_le _, rfl, ji_start _ _ _⟩
      case round =>
        obtain ⟨k, hk, rfl, hji⟩ := hrel
        have HJ : Hid (JI w wr (n + m) (xs ++ ys) k) := hji
        clear hji
        by_cases hlt : k < n
        · first
            | (exfalso; have h0 := HA.out; omega)
            | (have hck := ji_old HJ.out (HA.out k hlt)
               obtain ⟨v, hcv⟩ := ji_cell HJ.out k (by omega)
               have hf := ji_free HJ.out k
               have HE : Hid (xs.getD k 0 = (xs ++ ys).getD k 0) := (EX.out k hlt).symm
               generalize xs.getD k 0 = z at hck HE
               have hkn : (k : Int) < (n : Int) + (m : Int) := by omega
               go_wp2
               go_roundw
               case rel => exact ⟨k + 1, by omega, by go_num, ji_step HJ.out (by omega) _ HE.out⟩
               case measure => simp [intOf]; omega)
        · obtain rfl : k = n := by omega
          go_wp2
          obtain ⟨wo, rfl⟩ : ∃ wo : World, wo = wr := ⟨_, rfl⟩
          go_loopw [7] (fun i wr => ∃ j : Nat, j ≤ m ∧ i = .int .i64 j ∧ JI w wr (k + m) (xs ++ ys) (k + j)) (fun i _ => m - (intOf i).toNat)
          case atStart => exact ⟨0, Nat.zero_le _, rfl, HJ.out⟩
          case round =>
            clear HJ
            obtain ⟨j, hj, rfl, hji⟩ := hrel
            have HJ : Hid (JI w wr (k + m) (xs ++ ys) (k + j)) := hji
            clear hji
            by_cases hjm : j < m
            · first
                | (exfalso; have h0 := HB.out; omega)
                | (have hck := ji_old HJ.out (HB.out j hjm)
                   obtain ⟨v, hcv⟩ := ji_cell HJ.out (k + j) (by omega)
                   have hf := ji_free HJ.out (k + j)
                   have HE : Hid (ys.getD j 0 = (xs ++ ys).getD (k + j) 0) := (EY.out j).symm
                   generalize ys.getD j 0 = z at hck HE
                   have hkn : (k : Int) + (j : Int) < (k : Int) + (m : Int) := by omega
                   go_wp2
                   go_roundw
                   case rel => exact ⟨j + 1, by omega, by go_num, ji_step HJ.out (by omega) _ HE.out⟩
                   case measure => simp [intOf]; omega)
            · obtain rfl : j = m := by omega
              go_wp2
              go_ret
              exact ⟨rfl, FIN.out _ HJ.out⟩
end Go.Proofs.Qxb6625649a
