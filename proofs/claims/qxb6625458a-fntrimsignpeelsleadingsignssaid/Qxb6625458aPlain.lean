/-
  THE PLAIN LAWS of seat b6625458a: no Go in sight. 'ts s': s without the one sign byte that it may start with; 'tl s i': s from its byte i on.
-/
import Derived.Lib.IndexBytes
import Derived.Laws.Concat
namespace Go.Proofs.Qxb6625458a.Plain

def isS (c : UInt8) : Bool := c == 43 || c == 45
def sgL : List UInt8 → Bool
  | c :: _ => isS c
  | [] => false
def tsL (l : List UInt8) : List UInt8 := if sgL l then l.drop 1 else l
def ts (s : ByteArray) : ByteArray := if sgL s.data.toList then s.extract 1 s.size else s
def tl (s : ByteArray) (i : Nat) : ByteArray := s.extract i s.size

theorem ext_list {a b : ByteArray} (h : a.data.toList = b.data.toList) : a = b := by
  cases a; cases b
  congr 1
  exact Array.toList_inj.1 h

theorem ts_list (s : ByteArray) : (ts s).data.toList = tsL s.data.toList := by
  unfold ts tsL
  by_cases h : sgL s.data.toList = true
  · rw [if_pos h, if_pos h]; exact Lib.extract_to_end s 1
  · rw [if_neg h, if_neg h]
theorem tl_list (s : ByteArray) (i : Nat) : (tl s i).data.toList = s.data.toList.drop i := Lib.extract_to_end s i
theorem app_list (a b : ByteArray) : (a ++ b).data.toList = a.data.toList ++ b.data.toList := by simp

theorem ts_cut (s : ByteArray) (h : sgL s.data.toList = true) : ts s = s.extract 1 s.size := by unfold ts; rw [if_pos h]
theorem ts_same (s : ByteArray) (h : sgL s.data.toList = false) : ts s = s := by unfold ts; rw [if_neg (by rw [h]; decide)]
theorem head_sg (s : ByteArray) (hp : 0 < s.size) : sgL s.data.toList = isS s[0] := by
  have e : s.data.toList = s[0] :: s.data.toList.drop 1 := by
    have hl : 0 < s.data.toList.length := by simpa using hp
    exact List.drop_eq_getElem_cons (l := s.data.toList) (i := 0) hl
  rw [e]; rfl

theorem tsL_app (l m : List UInt8) (h : l ≠ []) : tsL (l ++ m) = tsL l ++ m := by
  match l, h with
  | c :: l, _ =>
    unfold tsL
    show (if isS c = true then _ else _) = (if isS c = true then _ else _) ++ m
    split <;> simp

theorem ts_app (a b : ByteArray) (h : 0 < a.size) : ts (a ++ b) = ts a ++ b := by
  apply ext_list
  rw [ts_list, app_list, app_list, ts_list]
  refine tsL_app _ _ fun e => ?_
  have := congrArg List.length e
  simp at this
  simp [this] at h
theorem app_none (a b : ByteArray) (h : a.size = 0) : a ++ b = b := by
  apply ext_list
  rw [app_list]
  have : a.data.toList = [] := List.eq_nil_of_length_eq_zero (by simpa using h)
  rw [this]; rfl
theorem ts_sign (c : UInt8) (hc : isS c = true) (a : ByteArray) : ts (⟨#[c]⟩ ++ a) = a := by
  apply ext_list
  rw [ts_list, app_list]
  show (if isS c = true then _ else _) = _
  rw [if_pos hc]; rfl

/-! ### the leading signs -/
theorem lead (l : List UInt8) : ∃ n, n ≤ l.length ∧ (∀ i (h : i < l.length), i < n → isS l[i] = true) ∧ (∀ h : n < l.length, isS l[n] = false) := by
  induction l with
  | nil => exact ⟨0, Nat.le_refl _, fun i h => by simp at h, fun h => by simp at h⟩
  | cons c l ih =>
    by_cases hc : isS c = true
    · obtain ⟨n, h1, h2, h3⟩ := ih
      refine ⟨n + 1, by simp; omega, fun i h hi => ?_, fun h => ?_⟩
      · match i with
        | 0 => exact hc
        | i + 1 => exact h2 i (by simpa using h) (by omega)
      · exact h3 (by simpa using h)
    · refine ⟨0, by simp, fun i h hi => by omega, fun h => ?_⟩
      simpa using hc

theorem sg_drop (l : List UInt8) (i : Nat) (h : i < l.length) : sgL (l.drop i) = isS l[i] := by
  rw [List.drop_eq_getElem_cons h]; rfl
theorem sg_drop_end (l : List UInt8) (i : Nat) (h : l.length ≤ i) : sgL (l.drop i) = false := by
  rw [List.drop_eq_nil_of_le h]; rfl

theorem ts_tl_cut (s : ByteArray) (i : Nat) (h : i < s.size) (hs : isS s[i] = true) : ts (tl s i) = tl s (i + 1) := by
  apply ext_list
  rw [ts_list, tl_list, tl_list]
  unfold tsL
  have hl : i < s.data.toList.length := by simpa using h
  have e : s.data.toList[i] = s[i] := by simp; rfl
  rw [sg_drop _ _ hl, e, if_pos hs]
  simp
theorem ts_tl_same (s : ByteArray) (i : Nat) (hs : ∀ h : i < s.size, isS s[i] = false) : ts (tl s i) = tl s i := by
  apply ts_same
  rw [tl_list]
  by_cases h : i < s.size
  · have hl : i < s.data.toList.length := by simpa using h
    have e : s.data.toList[i] = s[i] := by simp; rfl
    rw [sg_drop _ _ hl, e]; exact hs h
  · exact sg_drop_end _ _ (by simpa using Nat.le_of_not_lt h)
theorem tl_size (s : ByteArray) (i : Nat) : (tl s i).size = s.size - i := by unfold tl; simp
theorem tl_zero (s : ByteArray) : tl s 0 = s := by
  apply ext_list
  rw [tl_list]; rfl

theorem isS_int (c : UInt8) (h : isS c = true) : (c.toNat : Int) = 43 ∨ (c.toNat : Int) = 45 := by
  unfold isS at h
  rcases Bool.or_eq_true _ _ ▸ h with h | h
  · have := eq_of_beq h; subst this; exact .inl rfl
  · have := eq_of_beq h; subst this; exact .inr rfl
theorem isS_not (c : UInt8) (h : isS c = false) : (c.toNat : Int) ≠ 43 ∧ (c.toNat : Int) ≠ 45 := by
  refine ⟨fun e => ?_, fun e => ?_⟩
  · have : c = 43 := UInt8.toNat_inj.1 (by show c.toNat = 43; omega)
    subst this; exact absurd h (by decide)
  · have : c = 45 := UInt8.toNat_inj.1 (by show c.toNat = 45; omega)
    subst this; exact absurd h (by decide)
end Go.Proofs.Qxb6625458a.Plain
