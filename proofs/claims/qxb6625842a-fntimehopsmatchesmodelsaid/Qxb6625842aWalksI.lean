/-
  THE WALKS of seat b6625842a, ninth part: the map that came in, as a function; the data that came in.
-/
import Derived.Test.Qxb6625842aWalksH
import Derived.Maps.OwnSet
import Derived.OpenShut
namespace Go.Proofs.Qxb6625842a
open Go.ChangeShapes Go.WideShapes Go.ChangeAt Go.RowKit Go.Maps Go.WideElems
set_option linter.unusedVariables false

theorem law29 : Keyed Try.prog 29 := int_keyed Try.underlying29
theorem zero5 (w : World) : (zeroValue 5).run Try.prog w = .ok (.int .u8 0) w := by kernel_rfl

/-- What the walks are told of the map. -/
def IsMap (w : World) (m : Option Nat) (f : Int → Int × Bool) (M : Nat) : Prop :=
  (∀ wx, Below w.heap.size w wx → MV m f wx) ∧ (∀ ty, (Builtin.len_ #[24] ty #[.map m]).run Try.prog w = .ok (.int .i64 (M : Int)) w) ∧ ∀ k, 0 ≤ (f k).1

theorem wf_u16 {k : Int} (h0 : 0 ≤ k) (h1 : k ≤ 65535) : (Lit.int .u16 k).wf = true := by
  simp [Lit.wf, IntKind.min, IntKind.max, IntKind.signed, IntKind.bits]
  omega

theorem map_nil (w : World) : IsMap w none (fun _ => (0, false)) 0 := by
  refine ⟨fun wx _ k h0 h1 => ?_, fun ty => len_nil Try.underlying24 ty, fun k => Int.le_refl _⟩
  exact look_nil (w := wx) true law29 Try.underlying24 (zero5 _) (keyOf_int_mk Try.underlying29 (wf_u16 h0 h1))

theorem map_own {H : Type} {b n : Nat} {D : DataW H} (w : World) (hown : w.ownsMap Try.prog 29 (plainElem Try.prog 5) b n D) : ∃ f M, IsMap w (some b) f M := by
  have hz : plainElem (H := H) Try.prog 5 (.int .u8 0) = some (.lit (.int .u8 0), []) := plainElem_int Try.underlying5 (by decide)
  have hat : ∀ k : Int, ∃ c : Int, 0 ≤ c ∧ (0 ≤ k → k ≤ 65535 → D.atKey (.int .u16 k) (.lit (.int .u8 0)) = .lit (.int .u8 c)) := by
    intro k
    by_cases hk : 0 ≤ k ∧ k ≤ 65535
    · obtain ⟨v, ps, hrun, hv⟩ := hown.look_ok law29 Try.underlying24 (zero5 _) hz (keyOf_int_mk Try.underlying29 (wf_u16 hk.1 hk.2))
      obtain ⟨c, rfl, hc, hwc⟩ := plainElem_int_inv Try.underlying5 hv
      exact ⟨c, (bounds_u8 hwc).1, fun _ _ => congrArg Prod.fst hc⟩
    · exact ⟨0, Int.le_refl _, fun h0 h1 => absurd ⟨h0, h1⟩ hk⟩
  refine ⟨fun k => (Classical.choose (hat k), Maps.has D (.int .u16 k)), Maps.size D, fun wx hb k h0 h1 => ?_, fun ty => hown.len Try.underlying24 ty, fun k => (Classical.choose_spec (hat k)).1⟩
  have hown' : wx.ownsMap Try.prog 29 (plainElem Try.prog 5) b n D := by
    obtain ⟨es, clock, h1, F, hs, hD⟩ := hown
    exact ⟨es, clock, (hb.block b (lt_of_block h1)).trans h1, F, hs, hD⟩
  obtain ⟨v, ps, hrun, hv⟩ := hown'.look_ok law29 Try.underlying24 (zero5 _) hz (keyOf_int_mk Try.underlying29 (wf_u16 h0 h1))
  obtain ⟨c, rfl, hc, hwc⟩ := plainElem_int_inv Try.underlying5 hv
  have e1 := (Classical.choose_spec (hat k)).2 h0 h1
  have e2 : D.atKey (.int .u16 k) (.lit (.int .u8 0)) = .lit (.int .u8 c) := congrArg Prod.fst hc
  rw [e1] at e2
  have e3 : Classical.choose (hat k) = c := by injection e2 with e; injection e
  show _ = Result.ok (Value.tuple #[.int .u8 (Classical.choose (hat k)), .bool (Maps.has D (.int .u16 k))]) wx
  rw [e3]; exact hrun

/-- A slice that came in, as the walks are told of it. -/
theorem seg_in (w : World) (y : Addr) (m : Nat) (zs : List Int) (hm : m ≤ 1048576) (hl : m ≤ zs.length) (hc : ∀ i, i < zs.length → w.cell? (y.add i) = some (.int .u8 (zs.getD i 0))) (hwf : ∀ n ∈ zs, (Lit.int .u8 n).wf = true) :
    Seg w (some y) m (zs.take m) := by
  have htk : ∀ i, i < m → (zs.take m).getD i 0 = zs.getD i 0 := fun i h => by simp only [List.getD_eq_getElem?_getD, List.getElem?_take, if_pos h]
  refine ⟨by simp; omega, by omega, fun i => ?_, ?_⟩
  · by_cases hi : i < m
    · rw [htk i hi, List.getD_eq_getElem?_getD]; exact range_u8 hwf i
    · rw [List.getD_eq_getElem?_getD, List.getElem?_eq_none (by simp; omega)]; decide
  · by_cases h0 : m = 0
    · exact .inl h0
    · obtain ⟨b, o, sp⟩ := y
      have hsp : sp = none := by simpa [Addr.add] using World.cell?_spot (hc 0 (by omega))
      subst hsp
      exact .inr ⟨b, o, rfl, fun i hi => by rw [htk i hi, ← add_plain]; exact hc i (by omega)⟩

theorem early_any (typ kind : Int) (decoded : Bool) (ln : Int) (a : Option Addr) (n c : Nat) (src snk all : Int) (hasAll : Bool) (m : Option Nat) (j : Int) (M : Nat) (f : Int → Int × Bool) (w : World)
    (hmap : IsMap w m f M) (hn : n ≤ maxLen) (hnc : n ≤ c) (hs : n ≤ 1048576 → ∃ zs, Seg w a n zs) (hsrc : 0 ≤ src ∧ src < 18446744073709551616) (ha : 0 ≤ all) :
    Calls Try.prog 4 #[.int .u8 typ, .int .u8 kind, .bool decoded, .int .i64 ln, .slice a n c, .int .u64 src, .int .u64 snk, .int .u8 all, .bool hasAll, .map m, .int .i64 j] w fun e w' => e = .returned (.bool true) ∧ Below w.heap.size w w' := by
  by_cases hg : 1048576 < n ∨ 65536 < M ∨ j < 0 ∨ (n : Int) / 3 < j
  · exact early_great typ kind decoded ln a n c src snk all hasAll m j M w hmap.2.1 hn hg
  · obtain ⟨zs, hseg⟩ := hs (by omega)
    obtain ⟨j, rfl⟩ := Int.eq_ofNat_of_zero_le (show 0 ≤ j by omega)
    obtain ⟨N, hN⟩ := no_exists decoded kind n
    obtain ⟨u, hu⟩ := us_exists zs N
    have hN3 : 3 * N ≤ n := by rcases hN with ⟨_, _, rfl⟩ | ⟨_, rfl⟩ <;> omega
    have huN := hu.1
    obtain ⟨A', hcut, hseg2⟩ := cut_run w a n c zs hseg hnc j (by omega)
    exact early_main typ kind decoded ln a A' n c src snk all hasAll m j M N u zs f w hmap.2.1 (by omega) (by omega) (by omega) hseg hnc hmap.1 ⟨hmap.2.2, ha, hsrc.1, hsrc.2⟩ hN hu (by omega) hcut hseg2
end Go.Proofs.Qxb6625842a
