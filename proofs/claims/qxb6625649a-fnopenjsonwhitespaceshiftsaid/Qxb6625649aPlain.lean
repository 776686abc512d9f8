/-
  THE PLAIN LAWS of seat b6625649a: no Go in sight. 'SS zs n i j': j is the first place from i on that is no white space, or n; 'OJ zs n p c more': what OpenJSON answers over the n bytes zs.
-/
namespace Go.Proofs.Qxb6625649a.Plain

def WS (z : Int) : Prop := z = 32 ∨ z = 9 ∨ z = 10 ∨ z = 13
theorem ws_dec (z : Int) : WS z ∨ ¬ WS z := Classical.em _

def SS (zs : List Int) (n i j : Nat) : Prop := i ≤ j ∧ j ≤ n ∧ (∀ k, i ≤ k → k < j → WS (zs.getD k 0)) ∧ (j < n → ¬ WS (zs.getD j 0))

theorem ss_exists (zs : List Int) (n d i : Nat) (h : i + d = n) : ∃ j, SS zs n i j := by
  induction d generalizing i with
  | zero => exact ⟨i, Nat.le_refl _, by omega, fun k h1 h2 => by omega, fun h => by omega⟩
  | succ d ih =>
    rcases ws_dec (zs.getD i 0) with hw | hw
    · obtain ⟨j, h1, h2, h3, h4⟩ := ih (i + 1) (by omega)
      refine ⟨j, by omega, h2, fun k hk1 hk2 => ?_, h4⟩
      by_cases e : k = i
      · subst e; exact hw
      · exact h3 k (by omega) hk2
    · exact ⟨i, Nat.le_refl _, by omega, fun k h1 h2 => by omega, fun _ => hw⟩
theorem ss_any (zs : List Int) (n i : Nat) (h : i ≤ n) : ∃ j, SS zs n i j := ss_exists zs n (n - i) i (by omega)

theorem ss_unique {zs : List Int} {n i j j' : Nat} (h : SS zs n i j) (h' : SS zs n i j') : j = j' := by
  obtain ⟨h1, h2, h3, h4⟩ := h
  obtain ⟨k1, k2, k3, k4⟩ := h'
  refine Nat.le_antisymm (Nat.le_of_not_lt fun hlt => ?_) (Nat.le_of_not_lt fun hlt => ?_)
  · exact k4 (by omega) (h3 j' k1 hlt)
  · exact h4 (by omega) (k3 j h1 hlt)

def OJ (zs : List Int) (n : Nat) (p c : Int) (more : Bool) : Prop :=
  ∃ o, SS zs n 0 o ∧ (((o = n ∨ (zs.getD o 0 ≠ 91 ∧ zs.getD o 0 ≠ 123)) ∧ p = -1 ∧ c = 0 ∧ more = false) ∨
    (o < n ∧ (zs.getD o 0 = 91 ∨ zs.getD o 0 = 123) ∧ c = zs.getD o 0 + 2 ∧ ∃ j, SS zs n (o + 1) j ∧
      ((j < n ∧ zs.getD j 0 = c ∧ p = (j : Int) + 1 ∧ more = false) ∨ ((j = n ∨ zs.getD j 0 ≠ c) ∧ p = j ∧ more = true))))

theorem oj_exists (zs : List Int) (n : Nat) : ∃ p c more, OJ zs n p c more := by
  obtain ⟨o, ho⟩ := ss_any zs n 0 (by omega)
  by_cases h : o = n ∨ (zs.getD o 0 ≠ 91 ∧ zs.getD o 0 ≠ 123)
  · exact ⟨_, _, _, o, ho, .inl ⟨h, rfl, rfl, rfl⟩⟩
  · have hle := ho.2.1
    have hlt : o < n := by omega
    obtain ⟨j, hj⟩ := ss_any zs n (o + 1) (by omega)
    have hop : zs.getD o 0 = 91 ∨ zs.getD o 0 = 123 := by omega
    by_cases hc : j < n ∧ zs.getD j 0 = zs.getD o 0 + 2
    · exact ⟨_, _, _, o, ho, .inr ⟨hlt, hop, rfl, j, hj, .inl ⟨hc.1, hc.2, rfl, rfl⟩⟩⟩
    · have := hj.2.1
      exact ⟨_, _, _, o, ho, .inr ⟨hlt, hop, rfl, j, hj, .inr ⟨by omega, rfl, rfl⟩⟩⟩

/-! ### lists laid behind one another -/
theorem app_lo (xs ys : List Int) (i : Nat) (h : i < xs.length) : (xs ++ ys).getD i 0 = xs.getD i 0 := by
  simp only [List.getD_eq_getElem?_getD, List.getElem?_append_left h]
theorem app_hi (xs ys : List Int) (i : Nat) : (xs ++ ys).getD (xs.length + i) 0 = ys.getD i 0 := by
  simp only [List.getD_eq_getElem?_getD]
  rw [List.getElem?_append_right (by omega)]
  congr 2; omega
theorem take_lo (zs : List Int) (n i : Nat) (h : i < n) : (zs.take n).getD i 0 = zs.getD i 0 := by
  simp only [List.getD_eq_getElem?_getD, List.getElem?_take, if_pos h]

/-! ### the pad -/
theorem ss_shift (ps zs : List Int) (n i j : Nat) (h : SS zs n i j) : SS (ps ++ zs) (ps.length + n) (ps.length + i) (ps.length + j) := by
  obtain ⟨h1, h2, h3, h4⟩ := h
  refine ⟨by omega, by omega, fun k hk1 hk2 => ?_, fun hlt => ?_⟩
  · obtain ⟨d, rfl⟩ := Nat.exists_eq_add_of_le (show ps.length ≤ k by omega)
    rw [app_hi]; exact h3 d (by omega) (by omega)
  · rw [app_hi]; exact h4 (by omega)
theorem ss_shift0 (ps zs : List Int) (n j : Nat) (hp : ∀ i, i < ps.length → WS (ps.getD i 0)) (h : SS zs n 0 j) : SS (ps ++ zs) (ps.length + n) 0 (ps.length + j) := by
  obtain ⟨h1, h2, h3, h4⟩ := ss_shift ps zs n 0 j h
  refine ⟨by omega, h2, fun k hk1 hk2 => ?_, h4⟩
  by_cases hk : k < ps.length
  · rw [app_lo _ _ _ hk]; exact hp k hk
  · exact h3 k (by omega) hk2

theorem oj_shift (ps zs : List Int) (n : Nat) (hp : ∀ i, i < ps.length → WS (ps.getD i 0)) (p c : Int) (more : Bool) (h : OJ zs n p c more) :
    (p = -1 ∧ c = 0 ∧ more = false ∧ OJ (ps ++ zs) (ps.length + n) (-1) 0 false) ∨ (0 ≤ p ∧ p ≤ n ∧ OJ (ps ++ zs) (ps.length + n) (p + ps.length) c more) := by
  obtain ⟨o, ho, ⟨hr, rfl, rfl, rfl⟩ | ⟨hlt, hop, rfl, j, hj, hx⟩⟩ := h
  · refine .inl ⟨rfl, rfl, rfl, ps.length + o, ss_shift0 ps zs n o hp ho, .inl ⟨?_, rfl, rfl, rfl⟩⟩
    rw [app_hi]
    rcases hr with rfl | hr
    · exact .inl rfl
    · exact .inr hr
  · have hj2 := hj.2.1
    have hs := ss_shift ps zs n (o + 1) j hj
    refine .inr ⟨?_, ?_, ps.length + o, ss_shift0 ps zs n o hp ho, .inr ⟨by omega, by rw [app_hi]; exact hop, by rw [app_hi], ps.length + j, hs, ?_⟩⟩
    · rcases hx with ⟨_, _, rfl, _⟩ | ⟨_, rfl, _⟩ <;> omega
    · rcases hx with ⟨h, _, rfl, _⟩ | ⟨_, rfl, _⟩ <;> omega
    · rw [app_hi]
      rcases hx with ⟨h1, h2, rfl, rfl⟩ | ⟨h1, rfl, rfl⟩
      · exact .inl ⟨by omega, h2, by omega, rfl⟩
      · exact .inr ⟨by omega, by omega, rfl⟩

/-! ### the swap -/
theorem not_ws_93 : ¬ WS 93 := by unfold WS; omega
theorem not_ws_91 : ¬ WS 91 := by unfold WS; omega
theorem not_ws_48 : ¬ WS 48 := by unfold WS; omega
theorem not_ws_open {z : Int} (h : z = 91 ∨ z = 123) : ¬ WS z := by unfold WS; omega
theorem not_ws_close {z : Int} (h : z = 91 ∨ z = 123) : ¬ WS (z + 2) := by unfold WS; omega

/-- All white space: '[]' behind it opens an empty list. -/
theorem oj_blank (zs : List Int) (n : Nat) (hl : zs.length = n) (h : SS zs n 0 n) : OJ (zs ++ [91, 93]) (n + 2) ((n : Int) + 2) 93 false := by
  subst hl
  have e0 : (zs ++ [91, 93]).getD zs.length 0 = 91 := by simp
  have e1 : (zs ++ [91, 93]).getD (zs.length + 1) 0 = 93 := app_hi zs [91, 93] 1
  refine ⟨zs.length, ⟨by omega, by omega, fun k _ hk => ?_, fun _ => ?_⟩, .inr ⟨by omega, .inl e0, by rw [e0]; rfl, zs.length + 1, ⟨by omega, by omega, fun k h1 h2 => by omega, fun _ => ?_⟩, .inl ⟨by omega, e1, by omega, rfl⟩⟩⟩
  · rw [app_lo _ _ _ hk]; exact h.2.2.1 k (by omega) hk
  · rw [e0]; exact not_ws_91
  · rw [e1]; exact not_ws_93

/-- Refused at a byte: whatever follows it is refused too. -/
theorem oj_refused (zs ys : List Int) (n m o : Nat) (hl : zs.length = n) (h : SS zs n 0 o) (hlt : o < n) (hz : zs.getD o 0 ≠ 91 ∧ zs.getD o 0 ≠ 123) : OJ (zs ++ ys) (n + m) (-1) 0 false := by
  subst hl
  refine ⟨o, ⟨by omega, by omega, fun k _ hk => ?_, fun _ => ?_⟩, .inl ⟨.inr ?_, rfl, rfl, rfl⟩⟩
  · rw [app_lo _ _ _ (by omega)]; exact h.2.2.1 k (by omega) hk
  · rw [app_lo _ _ _ hlt]; exact h.2.2.2 hlt
  · rw [app_lo _ _ _ hlt]; exact hz

/-- Cut at j, a byte x laid there: the opener and the blanks behind it stand. -/
theorem oj_cut (zs : List Int) (n o j : Nat) (x : Int) (hl : zs.length = n) (ho : SS zs n 0 o) (hop : zs.getD o 0 = 91 ∨ zs.getD o 0 = 123) (hj : SS zs n (o + 1) j) (hx : ¬ WS x) :
    (x = zs.getD o 0 + 2 → OJ (zs.take j ++ [x]) (j + 1) ((j : Int) + 1) (zs.getD o 0 + 2) false) ∧ (x ≠ zs.getD o 0 + 2 → OJ (zs.take j ++ [x]) (j + 1) j (zs.getD o 0 + 2) true) := by
  have hjn := hj.2.1
  have hoj := hj.1
  have hlen : (zs.take j).length = j := by simp; omega
  have elo : ∀ k, k < j → (zs.take j ++ [x]).getD k 0 = zs.getD k 0 := fun k hk => by rw [app_lo _ _ _ (by omega), take_lo _ _ _ hk]
  have ehi : (zs.take j ++ [x]).getD j 0 = x := by
    have := app_hi (zs.take j) [x] 0
    rw [hlen] at this; simpa using this
  have s0 : SS (zs.take j ++ [x]) (j + 1) 0 o := ⟨by omega, by omega, fun k _ hk => by rw [elo k (by omega)]; exact ho.2.2.1 k (by omega) hk, fun _ => by rw [elo o (by omega)]; exact not_ws_open hop⟩
  have s1 : SS (zs.take j ++ [x]) (j + 1) (o + 1) j := ⟨by omega, by omega, fun k h1 h2 => by rw [elo k h2]; exact hj.2.2.1 k h1 h2, fun _ => by rw [ehi]; exact hx⟩
  refine ⟨fun hc => ⟨o, s0, .inr ⟨by omega, by rw [elo o (by omega)]; exact hop, by rw [elo o (by omega)], j, s1, .inl ⟨by omega, by rw [ehi]; exact hc, rfl, rfl⟩⟩⟩,
    fun hc => ⟨o, s0, .inr ⟨by omega, by rw [elo o (by omega)]; exact hop, by rw [elo o (by omega)], j, s1, .inr ⟨.inr (by rw [ehi]; exact hc), rfl, rfl⟩⟩⟩⟩
end Go.Proofs.Qxb6625649a.Plain
