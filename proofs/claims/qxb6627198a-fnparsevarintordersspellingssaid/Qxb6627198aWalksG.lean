/-
  THE WALKS of seat b6627198a, seventh part: the second law where a slice is nil; where both readings are taken.
-/
import Derived.Test.Qxb6627198aWalksF
namespace Go.Proofs.Qxb6627198a
open Go.ChangeShapes Go.WideShapes Go.ChangeAt Go.RowKit Plain
set_option linter.unusedVariables false

theorem pv_nil : PV [] 0 0 0 false := .inl ⟨fun i hi => by omega, rfl, rfl, rfl⟩
theorem seg_nil (w : World) : Seg w none 0 [] := ⟨rfl, by omega, fun i => by simp, .inl ⟨rfl, rfl⟩⟩

set_option maxHeartbeats 2000000 in
theorem law2_nil_nil (w : World) : Calls Try.prog 4 #[.slice none 0 0, .slice none 0 0] w fun e w' => e = .returned (.bool true) ∧ Below w.heap.size w w' := by
  have hq := q22
  go_enter Try.func4, Try.ntmps4
  go_wp2_with fail
  refine (bytes8_yes _ _ _ _ _ _ _ (by omega)).mono ?_
  rintro e w' ⟨rfl, rfl⟩
  go_wp2_with fail
  refine (pv_as _ _ _ [] _ (seg_nil _) pv_nil).mono ?_
  rintro e w' ⟨rfl, rfl⟩
  go_wp2_with fail
  refine (pv_as _ _ _ [] _ (seg_nil _) pv_nil).mono ?_
  rintro e w' ⟨rfl, rfl⟩
  go_wp2_with fail
  refine (shape_any _ _ _ [] _ (seg_nil _) _ _ _ pv_nil).mono ?_
  rintro e w' ⟨rfl, rfl⟩
  go_wp2_with fail
  refine (shape_any _ _ _ [] _ (seg_nil _) _ _ _ pv_nil).mono ?_
  rintro e w' ⟨rfl, rfl⟩
  go_wp2
  go_ret
  exact ⟨rfl, Below.refl _ _⟩

set_option maxHeartbeats 2000000 in
theorem law2_nil_some (y : Addr) (m d : Nat) (w w2 : World) (ys : List Int) (hm : m ≤ 65536)
    (hc2 : ∀ ty, (Builtin.copy_ #[22, 22] ty #[.slice (some ⟨w.heap.size, 0, none⟩) m m, .slice (some y) m d]).run Try.prog (w.alloc (mk0 m)) = .ok (.int .i64 (m : Int)) w2)
    (hsb : Seg w2 (some ⟨w.heap.size, 0, none⟩) m ys) (HB : Hid (Below w.heap.size w w2)) (vb sb : Int) (okb : Bool) (hpb : PV ys m vb sb okb) :
    Calls Try.prog 4 #[.slice none 0 0, .slice (some y) m d] w fun e w' => e = .returned (.bool true) ∧ Below w.heap.size w w' := by
  have hq := q22
  have hmk2 := make_run m hm
  have hm' : ¬ (65536 : Int) < (m : Int) := by omega
  go_enter Try.func4, Try.ntmps4
  go_wp2_with fail
  refine (bytes8_yes _ _ _ _ _ _ _ (by omega)).mono ?_
  rintro e w' ⟨rfl, rfl⟩
  go_wp2_with fail
  refine (pv_as _ _ _ [] _ (seg_nil _) pv_nil).mono ?_
  rintro e w' ⟨rfl, rfl⟩
  go_wp2_with fail
  refine (pv_as _ _ _ ys _ hsb hpb).mono ?_
  rintro e w' ⟨rfl, rfl⟩
  go_wp2_with fail
  refine (shape_any _ _ _ [] _ (seg_nil _) _ _ _ pv_nil).mono ?_
  rintro e w' ⟨rfl, rfl⟩
  go_wp2_with fail
  refine (shape_any _ _ _ ys _ hsb _ _ _ hpb).mono ?_
  rintro e w' ⟨rfl, rfl⟩
  go_wp2
  go_ret
  exact ⟨rfl, HB.out⟩

set_option maxHeartbeats 2000000 in
theorem law2_some_nil (x : Addr) (n c : Nat) (w w2 : World) (xs : List Int) (hn : n ≤ 65536)
    (hc1 : ∀ ty, (Builtin.copy_ #[22, 22] ty #[.slice (some ⟨w.heap.size, 0, none⟩) n n, .slice (some x) n c]).run Try.prog (w.alloc (mk0 n)) = .ok (.int .i64 (n : Int)) w2)
    (hsa : Seg w2 (some ⟨w.heap.size, 0, none⟩) n xs) (HB : Hid (Below w.heap.size w w2)) (va sa : Int) (oka : Bool) (hpa : PV xs n va sa oka) :
    Calls Try.prog 4 #[.slice (some x) n c, .slice none 0 0] w fun e w' => e = .returned (.bool true) ∧ Below w.heap.size w w' := by
  have hq := q22
  have hmk1 := make_run n hn
  have hn' : ¬ (65536 : Int) < (n : Int) := by omega
  cases oka
  all_goals
    go_enter Try.func4, Try.ntmps4
    go_wp2_with fail
    refine (bytes8_yes _ _ _ _ _ _ _ (by omega)).mono ?_
    rintro e w' ⟨rfl, rfl⟩
    go_wp2_with fail
    refine (pv_as _ _ _ xs _ hsa hpa).mono ?_
    rintro e w' ⟨rfl, rfl⟩
    go_wp2_with fail
    refine (pv_as _ _ _ [] _ (seg_nil _) pv_nil).mono ?_
    rintro e w' ⟨rfl, rfl⟩
    go_wp2_with fail
    refine (shape_any _ _ _ xs _ hsa _ _ _ hpa).mono ?_
    rintro e w' ⟨rfl, rfl⟩
    go_wp2_with fail
    refine (shape_any _ _ _ [] _ (seg_nil _) _ _ _ pv_nil).mono ?_
    rintro e w' ⟨rfl, rfl⟩
    go_wp2
    go_ret
    exact ⟨rfl, HB.out⟩

/-- What the comparison answers, whatever the two lengths. -/
def CR (xs ys : List Int) (n m : Nat) (r : Int) : Prop := (n < m ∧ r = -1) ∨ (m < n ∧ r = 1) ∨ (n = m ∧ CMP xs ys n r)

theorem cmp_any (b o b' o' : Nat) (n c m d : Nat) (xs ys : List Int) (w : World) (hn : n ≤ 65536)
    (hx : ∀ i, i < n → w.cell? ⟨b, o + i, none⟩ = some (.int .u8 (xs.getD i 0))) (hy : ∀ i, i < m → w.cell? ⟨b', o' + i, none⟩ = some (.int .u8 (ys.getD i 0)))
    (r : Int) (h : CR xs ys n m r) :
    Calls Try.prog 10 #[.slice (some ⟨b, o, none⟩) n c, .slice (some ⟨b', o', none⟩) m d] w fun e w' => e = .returned (.int .i64 r) ∧ ∃ q, w' = w.drewN q := by
  rcases h with ⟨h, rfl⟩ | ⟨h, rfl⟩ | ⟨rfl, h⟩
  · exact (cmp_shorter _ _ _ _ _ _ w h).mono fun e w' ⟨he, hw⟩ => ⟨he, 0, hw⟩
  · exact (cmp_longer _ _ _ _ _ _ w h).mono fun e w' ⟨he, hw⟩ => ⟨he, 0, hw⟩
  · exact cmp_same b o b' o' n c d xs ys w hn hx hy r h

theorem below_draws {B : Nat} {a w : World} (h : Below B a w) (n : Nat) : Below B a (w.drewN n) := ⟨h.os, h.tape, h.output, h.size, h.block⟩

theorem slice_run (a : Addr) (n c t : Nat) (h : t + 1 ≤ c) (w : World) :
    (Instr.slice 22 (.slice (some a) n c) none (some (.int .i64 ((t : Int) + 1))) none).run Try.prog w = .ok (.slice (some a) (t + 1) c) w := by
  have hu : Try.prog.underlying 22 = some (.slice (Try.prog.elem 22)) := by kernel_rfl
  have hsz : (sizeOf (Try.prog.elem 22)).run Try.prog w = .ok 1 w := by kernel_rfl
  rw [run_slice_h w 22 (some a) n c hu .i64 ((t : Int) + 1) (by omega) (by omega), hsz]
  have e : ((t : Int) + 1).toNat = t + 1 := by omega
  have e2 : a.add 0 = a := by cases a; simp [Addr.add]
  simp [Result.andThen, sliced, e, e2]

set_option maxHeartbeats 4000000 in
/-- Neither slice is nil, and both readings are taken. -/
theorem law2_some_yes (x y : Addr) (n c m d : Nat) (w w2 w3 : World) (xs ys : List Int) (hn : n ≤ 65536) (hm : m ≤ 65536)
    (hc1 : ∀ ty, (Builtin.copy_ #[22, 22] ty #[.slice (some ⟨w.heap.size, 0, none⟩) n n, .slice (some x) n c]).run Try.prog (w.alloc (mk0 n)) = .ok (.int .i64 (n : Int)) w2)
    (hc2 : ∀ ty, (Builtin.copy_ #[22, 22] ty #[.slice (some ⟨w2.heap.size, 0, none⟩) m m, .slice (some y) m d]).run Try.prog (w2.alloc (mk0 m)) = .ok (.int .i64 (m : Int)) w3)
    (hsa : Seg w3 (some ⟨w.heap.size, 0, none⟩) n xs) (hsb : Seg w3 (some ⟨w2.heap.size, 0, none⟩) m ys) (HB : Hid (Below w.heap.size w w3))
    (va vb : Int) (t u : Nat) (ht : t < n) (hu : u < m) (hpa : PV xs n va (t + 1) true) (hpb : PV ys m vb (u + 1) true)
    (r : Int) (HR : Hid (CR xs ys (t + 1) (u + 1) r)) (hr : (r < 0 ∧ va < vb) ∨ (0 < r ∧ vb < va) ∨ (r = 0 ∧ va = vb)) :
    Calls Try.prog 4 #[.slice (some x) n c, .slice (some y) m d] w fun e w' => e = .returned (.bool true) ∧ Below w.heap.size w w' := by
  have hq := q22
  have hmk1 := make_run n hn
  have hmk2 := make_run m hm
  have hn' : ¬ (65536 : Int) < (n : Int) := by omega
  have hm' : ¬ (65536 : Int) < (m : Int) := by omega
  have hs1 := slice_run ⟨w.heap.size, 0, none⟩ n n t (by omega)
  have hs2 := slice_run ⟨w2.heap.size, 0, none⟩ m m u (by omega)
  have HSA : Hid (Seg w3 (some ⟨w.heap.size, 0, none⟩) n xs) := hsa
  have HSB : Hid (Seg w3 (some ⟨w2.heap.size, 0, none⟩) m ys) := hsb
  rcases hr with ⟨h1, h2⟩ | ⟨h1, h2⟩ | ⟨rfl, rfl⟩
  all_goals
    go_enter Try.func4, Try.ntmps4
    go_wp2_with fail
    refine (bytes8_yes _ _ _ _ _ _ _ (by omega)).mono ?_
    rintro e w' ⟨rfl, rfl⟩
    go_wp2_with fail
    refine (pv_as _ _ _ xs _ hsa hpa).mono ?_
    rintro e w' ⟨rfl, rfl⟩
    go_wp2_with fail
    refine (pv_as _ _ _ ys _ hsb hpb).mono ?_
    rintro e w' ⟨rfl, rfl⟩
    go_wp2_with fail
    refine (shape_any _ _ _ xs _ hsa _ _ _ hpa).mono ?_
    rintro e w' ⟨rfl, rfl⟩
    go_wp2_with fail
    refine (shape_any _ _ _ ys _ hsb _ _ _ hpb).mono ?_
    rintro e w' ⟨rfl, rfl⟩
    clear hsa hsb
    go_wp2_with fail
    go_quiet ((go_at_call 10; exact Calls.quiet_of (cmp_any _ _ _ _ (t + 1) _ (u + 1) _ xs ys _ (by omega) (by intro i hi; exact seg_cells HSA.out i (by omega)) (by intro i hi; exact seg_cells HSB.out i (by omega)) _ HR.out)))
    go_wp2
    go_ret
    exact ⟨rfl, below_draws HB.out _⟩

/-- THE ORDER: what the comparison of two spellings answers is how the two numbers stand. -/
theorem cr_order (xs ys : List Int) (t u : Nat) (r : Int) (bx : ∀ i, 0 ≤ xs.getD i 0 ∧ xs.getD i 0 ≤ 255) (bY : ∀ i, 0 ≤ ys.getD i 0 ∧ ys.getD i 0 ≤ 255)
    (hx1 : xs.getD t 0 < 128) (hx2 : ∀ i, i < t → 128 ≤ xs.getD i 0) (hy1 : ys.getD u 0 < 128) (hy2 : ∀ i, i < u → 128 ≤ ys.getD i 0) (h : CR xs ys (t + 1) (u + 1) r) :
    (r < 0 ∧ M xs (t + 1) < M ys (u + 1)) ∨ (0 < r ∧ M ys (u + 1) < M xs (t + 1)) ∨ (r = 0 ∧ M xs (t + 1) = M ys (u + 1)) := by
  rcases h with ⟨h, rfl⟩ | ⟨h, rfl⟩ | ⟨h, hc⟩
  · exact .inl ⟨by omega, M_shorter xs ys t u (by omega)⟩
  · exact .inr (.inl ⟨by omega, M_shorter ys xs u t (by omega)⟩)
  · obtain rfl : t = u := by omega
    rcases hc with ⟨he, rfl⟩ | ⟨k, hk, he, hd⟩
    · exact .inr (.inr ⟨rfl, M_same xs ys (t + 1) he⟩)
    · have bxk := bx k
      have byk := bY k
      have hbits : (k < t ∧ 128 ≤ xs.getD k 0 ∧ 128 ≤ ys.getD k 0) ∨ (xs.getD k 0 < 128 ∧ ys.getD k 0 < 128) := by
        by_cases hkt : k < t
        · exact .inl ⟨hkt, hx2 k hkt, hy2 k hkt⟩
        · obtain rfl : k = t := by omega
          exact .inr ⟨hx1, hy1⟩
      rcases hd with ⟨hlt, rfl⟩ | ⟨hgt, rfl⟩
      · exact .inl ⟨by omega, M_lex xs ys k t (by omega) he (by omega)⟩
      · exact .inr (.inl ⟨by omega, M_lex ys xs k t (by omega) (fun j hj => (he j hj).symm) (by omega)⟩)

theorem cr_exists (xs ys : List Int) (n m : Nat) : ∃ r, CR xs ys n m r := by
  by_cases h1 : n < m
  · exact ⟨-1, .inl ⟨h1, rfl⟩⟩
  · by_cases h2 : m < n
    · exact ⟨1, .inr (.inl ⟨h2, rfl⟩)⟩
    · obtain ⟨r, hr⟩ := cmp_exists xs ys n
      exact ⟨r, .inr (.inr ⟨by omega, hr⟩)⟩

/-- Neither slice is nil. -/
theorem law2_some (x y : Addr) (n c m d : Nat) (xs ys : List Int) (w : World) (hn : n ≤ 65536) (hm : m ≤ 65536) (hln : n ≤ xs.length) (hlm : m ≤ ys.length)
    (hx : ∀ i, i < xs.length → w.cell? (x.add i) = some (.int .u8 (xs.getD i 0))) (hwx : ∀ m ∈ xs, (Lit.int .u8 m).wf = true)
    (hy : ∀ i, i < ys.length → w.cell? (y.add i) = some (.int .u8 (ys.getD i 0))) (hwy : ∀ m ∈ ys, (Lit.int .u8 m).wf = true) :
    Calls Try.prog 4 #[.slice (some x) n c, .slice (some y) m d] w fun e w' => e = .returned (.bool true) ∧ Below w.heap.size w w' := by
  obtain ⟨w2, hc1, hsa, hB, hsz⟩ := copy_run w x n c xs hn hln hx hwx
  obtain ⟨w3, hc2, hsb, hB', hsz'⟩ := copy_run w2 y m d ys hm hlm (fun i hi => by rw [hB.cell (cell_lt (hy i hi))]; exact hy i hi) hwy
  have hsa' := seg_keep hsa hB' (by omega)
  have HB : Below w.heap.size w w3 := hB.trans (hB'.mono (by omega))
  generalize xs.take n = as1 at hsa hsa'
  generalize ys.take m = bs at hsb
  obtain ⟨va, sa, oka, hpa⟩ := pv_exists as1 n
  obtain ⟨vb, sb, okb, hpb⟩ := pv_exists bs m
  by_cases hno : (oka && okb) = false
  · exact law2_some_no x y n c m d w w2 w3 as1 bs hn hm hc1 hc2 hsa' hsb HB va sa vb sb oka okb hpa hpb hno
  · have ho : oka = true ∧ okb = true := by cases oka <;> cases okb <;> simp at hno ⊢
    obtain ⟨rfl, rfl⟩ := ho
    have hpa' := hpa
    have hpb' := hpb
    rcases hpa' with ⟨_, _, _, h⟩ | ⟨t, ht, hx1, hx2, ⟨hM, rfl, rfl, _⟩ | ⟨_, _, _, h⟩⟩
    · cases h
    · rcases hpb' with ⟨_, _, _, h⟩ | ⟨u, hu, hy1, hy2, ⟨hM', rfl, rfl, _⟩ | ⟨_, _, _, h⟩⟩
      · cases h
      · obtain ⟨r, hr⟩ := cr_exists as1 bs (t + 1) (u + 1)
        exact law2_some_yes x y n c m d w w2 w3 as1 bs hn hm hc1 hc2 hsa' hsb HB _ _ t u ht hu hpa hpb r hr (cr_order as1 bs t u r hsa.2.2.1 hsb.2.2.1 hx1 hx2 hy1 hy2 hr)
      · cases h
    · cases h
end Go.Proofs.Qxb6627198a
