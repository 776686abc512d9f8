/-
  THE PLAIN LAWS of seat b6627198a: no Go in sight. 'M zs k': the number that ParseVarint has gathered when k bytes are read; 'O', 'E': the model's offset and its digits.
-/
namespace Go.Proofs.Qxb6627198a.Plain

def M (zs : List Int) : Nat → Int
  | 0 => 0
  | 1 => zs.getD 0 0 % 128
  | k + 2 => (M zs (k + 1) + 1) * 128 + zs.getD (k + 1) 0 % 128
def O : Nat → Int
  | 0 => 0
  | j + 1 => O j + 128 ^ (j + 1)
def E (zs : List Int) : Nat → Int
  | 0 => 0
  | k + 1 => E zs k * 128 + zs.getD k 0 % 128

theorem M_one (zs : List Int) : M zs 1 = zs.getD 0 0 % 128 := rfl
theorem M_two (zs : List Int) (k : Nat) : M zs (k + 2) = (M zs (k + 1) + 1) * 128 + zs.getD (k + 1) 0 % 128 := rfl

theorem O_succ (k : Nat) : O (k + 1) = 128 * O k + 128 := by
  induction k with
  | zero => decide
  | succ k ih =>
    have e1 : O (k + 1 + 1) = O (k + 1) + 128 ^ (k + 1 + 1) := rfl
    have e2 : O (k + 1) = O k + 128 ^ (k + 1) := rfl
    have e3 : (128 : Int) ^ (k + 1 + 1) = 128 ^ (k + 1) * 128 := Int.pow_succ _ _
    omega

theorem O_nonneg (k : Nat) : 0 ≤ O k := by
  induction k with
  | zero => decide
  | succ k ih => have := O_succ k; omega

theorem O_mono (j k : Nat) : O j ≤ O (j + k) := by
  induction k with
  | zero => exact Int.le_refl _
  | succ k ih => have := O_succ (j + k); have h0 := O_nonneg (j + k); have e : O (j + (k + 1)) = O (j + k + 1) := rfl; omega

theorem O_le (j k : Nat) (h : j ≤ k) : O j ≤ O k := by
  obtain ⟨d, rfl⟩ := Nat.exists_eq_add_of_le h
  exact O_mono j d

/-- offset and digits make the number -/
theorem M_eq (zs : List Int) (k : Nat) : M zs (k + 1) = O k + E zs (k + 1) := by
  induction k with
  | zero => simp [M, O, E]
  | succ k ih =>
    have e1 := M_two zs k
    have e2 : E zs (k + 1 + 1) = E zs (k + 1) * 128 + zs.getD (k + 1) 0 % 128 := rfl
    have e3 := O_succ k
    have e4 : M zs (k + 1 + 1) = M zs (k + 2) := rfl
    omega

theorem E_bounds (zs : List Int) (k : Nat) : 0 ≤ E zs k ∧ E zs k + 1 ≤ 128 ^ k := by
  induction k with
  | zero => simp [E]
  | succ k ih =>
    have e2 : E zs (k + 1) = E zs k * 128 + zs.getD k 0 % 128 := rfl
    have e3 : (128 : Int) ^ (k + 1) = 128 ^ k * 128 := Int.pow_succ _ _
    omega

theorem M_lo (zs : List Int) (k : Nat) : O k ≤ M zs (k + 1) := by
  have := M_eq zs k; have := E_bounds zs (k + 1); omega
theorem M_hi (zs : List Int) (k : Nat) : M zs (k + 1) < O (k + 1) := by
  have := M_eq zs k; have := E_bounds zs (k + 1)
  have e2 : O (k + 1) = O k + 128 ^ (k + 1) := rfl
  omega
theorem M_nonneg (zs : List Int) (k : Nat) : 0 ≤ M zs k := by
  match k with
  | 0 => exact Int.le_refl _
  | k + 1 => have := M_lo zs k; have := O_nonneg k; omega

/-- once it is too great it stays so -/
theorem M_grows (zs : List Int) (k d : Nat) : M zs (k + 1) ≤ M zs (k + 1 + d) := by
  induction d with
  | zero => exact Int.le_refl _
  | succ d ih =>
    have e : M zs (k + 1 + (d + 1)) = M zs (k + d + 2) := by congr 1; omega
    have e' : M zs (k + 1 + d) = M zs (k + d + 1) := by congr 1; omega
    have := M_two zs (k + d)
    have := M_nonneg zs (k + d + 1)
    omega

theorem M_over (zs : List Int) (k t : Nat) (hk : k + 1 ≤ t) (h : 72057594037927935 ≤ M zs (k + 1)) : 9223372036854775807 < M zs (t + 1) := by
  obtain ⟨d, rfl⟩ := Nat.exists_eq_add_of_le hk
  have g := M_grows zs (k + 1) d
  have e : M zs (k + 1 + d + 1) = M zs (k + 1 + 1 + d) := by congr 1; omega
  have e2 : M zs (k + 1 + 1) = M zs (k + 2) := rfl
  have := M_two zs k
  omega

/-- at a round's head: what is gathered from there on stays within 63 bits -/
theorem M_step_bd (zs : List Int) (k : Nat) (h : M zs (k + 1) < 72057594037927935) : M zs (k + 2) ≤ 9223372036854775807 := by
  have := M_two zs k
  omega

theorem O_seven : O 8 = 72624976668147840 := by decide
theorem O_nine : O 9 = 9295997013522923648 := by decide

theorem M_short (zs : List Int) (t : Nat) (h : t ≤ 7) : M zs (t + 1) ≤ 9223372036854775807 := by
  have h1 := M_hi zs t
  have h2 := O_le (t + 1) 8 (by omega)
  have h3 := O_seven
  omega
theorem M_long (zs : List Int) (t : Nat) (h : 9 ≤ t) : 9223372036854775807 < M zs (t + 1) := by
  have h1 := M_lo zs t
  have h2 := O_le 9 t h
  have h3 := O_nine
  omega

theorem O_bd (j : Nat) (h : j ≤ 8) : 0 ≤ O j ∧ O j ≤ 72624976668147840 := by
  have h1 := O_nonneg j; have h2 := O_le j 8 h; have h3 := O_seven; omega
theorem pow_bd (j : Nat) (h : j ≤ 8) : (1 : Int) ≤ 128 ^ j ∧ (128 : Int) ^ j ≤ 72057594037927936 := by
  match j, h with
  | 0, _ => decide
  | 1, _ => decide
  | 2, _ => decide
  | 3, _ => decide
  | 4, _ => decide
  | 5, _ => decide
  | 6, _ => decide
  | 7, _ => decide
  | 8, _ => decide
theorem E_bd (zs : List Int) (j : Nat) (h : j ≤ 8) : 0 ≤ E zs j ∧ E zs j ≤ 72057594037927935 := by
  have h1 := E_bounds zs j; have h2 := pow_bd j h; omega
theorem E_bd9 (zs : List Int) (j : Nat) (h : j ≤ 9) : 0 ≤ E zs j ∧ E zs j ≤ 9223372036854775807 := by
  have h1 := E_bounds zs j
  by_cases h9 : j = 9
  · subst h9
    have e : (128 : Int) ^ 9 = 9223372036854775808 := by decide
    omega
  · have h2 := pow_bd j (by omega); omega

/-! ### the order of spellings -/
theorem M_shorter (xs ys : List Int) (t u : Nat) (h : t < u) : M xs (t + 1) < M ys (u + 1) := by
  have h1 := M_hi xs t
  have h2 := M_lo ys u
  have h3 := O_le (t + 1) u (by omega)
  omega

theorem M_same (xs ys : List Int) (k : Nat) (h : ∀ j, j < k → xs.getD j 0 = ys.getD j 0) : M xs k = M ys k := by
  induction k with
  | zero => rfl
  | succ k ih =>
    match k, ih, h with
    | 0, _, h => rw [M_one, M_one, h 0 (by omega)]
    | k + 1, ih, h =>
      rw [M_two, M_two, h (k + 1) (by omega), ih (fun j hj => h j (by omega))]

theorem M_digit (xs ys : List Int) (k : Nat) (h : ∀ j, j < k → xs.getD j 0 = ys.getD j 0) (hd : xs.getD k 0 % 128 < ys.getD k 0 % 128) : M xs (k + 1) < M ys (k + 1) := by
  have e := M_same xs ys k h
  match k, hd, e with
  | 0, hd, _ => rw [M_one, M_one]; exact hd
  | k + 1, hd, e => rw [M_two, M_two, e]; omega

theorem M_lt_on (xs ys : List Int) (k d : Nat) (h : M xs (k + 1) < M ys (k + 1)) : M xs (k + 1 + d) < M ys (k + 1 + d) := by
  induction d with
  | zero => exact h
  | succ d ih =>
    have e : ∀ z : List Int, M z (k + 1 + (d + 1)) = M z (k + d + 2) := fun z => by congr 1; omega
    have e' : ∀ z : List Int, M z (k + 1 + d) = M z (k + d + 1) := fun z => by congr 1; omega
    rw [e, e, M_two, M_two]
    rw [e', e'] at ih
    omega

/-- the first byte at which two spellings of one length part decides -/
theorem M_lex (xs ys : List Int) (k t : Nat) (hk : k ≤ t) (h : ∀ j, j < k → xs.getD j 0 = ys.getD j 0) (hd : xs.getD k 0 % 128 < ys.getD k 0 % 128) : M xs (t + 1) < M ys (t + 1) := by
  obtain ⟨d, rfl⟩ := Nat.exists_eq_add_of_le hk
  have := M_lt_on xs ys k d (M_digit xs ys k h hd)
  have e : ∀ z : List Int, M z (k + d + 1) = M z (k + 1 + d) := fun z => by congr 1; omega
  rw [e, e]; exact this

end Go.Proofs.Qxb6627198a.Plain
