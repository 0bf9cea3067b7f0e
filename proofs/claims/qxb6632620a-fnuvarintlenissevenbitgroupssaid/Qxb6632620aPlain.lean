/- The plain mathematics of the seat b6632620a: how many 7-bit groups a number has. No Go in sight. -/
namespace Go.Proofs.Qxb6632620a.Plain

/-- 'k is the number of 7-bit groups of u, at least one'. -/
def IsUv (u k : Nat) : Prop := 1 ≤ k ∧ u < 2 ^ (7 * k) ∧ (k = 1 ∨ 2 ^ (7 * (k - 1)) ≤ u)

theorem lt_of_pow {a b u : Nat} (h1 : 2 ^ a ≤ u) (h2 : u < 2 ^ b) : a < b :=
  (Nat.pow_lt_pow_iff_right (by omega : 1 < 2)).1 (Nat.lt_of_le_of_lt h1 h2)

theorem pow_le {a b : Nat} (h : a ≤ b) : 2 ^ a ≤ 2 ^ b := Nat.pow_le_pow_right (by omega) h

theorem IsUv.unique {u k m : Nat} (h : IsUv u k) (g : IsUv u m) : k = m := by
  obtain ⟨h1, h2, h3⟩ := h
  obtain ⟨g1, g2, g3⟩ := g
  have a : k ≤ m := by
    rcases h3 with h3 | h3
    · omega
    · have := lt_of_pow h3 g2; omega
  have b : m ≤ k := by
    rcases g3 with g3 | g3
    · omega
    · have := lt_of_pow g3 h2; omega
  omega

theorem IsUv.le_ten {u k : Nat} (h : IsUv u k) (hu : u < 2 ^ 64) : k ≤ 10 := by
  obtain ⟨h1, h2, h3⟩ := h
  rcases h3 with h3 | h3
  · omega
  · have := lt_of_pow h3 hu; omega

/-- 'b is the bit length of u'. -/
def IsBl (u b : Nat) : Prop := u < 2 ^ b ∧ (b = 0 ∨ 2 ^ (b - 1) ≤ u)

theorem IsBl.uv {u b : Nat} (h : IsBl u b) : IsUv u (if (b + 6) / 7 = 0 then 1 else (b + 6) / 7) := by
  obtain ⟨h1, h2⟩ := h
  by_cases hz : b = 0
  · subst hz
    refine ⟨by simp, ?_, by simp⟩
    simp at h1 ⊢
    omega
  · have hb : ¬ (b + 6) / 7 = 0 := by omega
    rw [if_neg hb]
    refine ⟨by omega, Nat.lt_of_lt_of_le h1 (pow_le (by omega)), ?_⟩
    rcases h2 with h2 | h2
    · omega
    · exact .inr (Nat.le_trans (pow_le (by omega)) h2)

theorem IsUv.shift {u k : Nat} (h : IsUv u k) (hu : u ≠ 0) : IsUv (u * 128) (k + 1) := by
  obtain ⟨h1, h2, h3⟩ := h
  refine ⟨by omega, ?_, .inr ?_⟩
  · rw [show 7 * (k + 1) = 7 * k + 7 from by omega, Nat.pow_add]; omega
  · rcases h3 with h3 | h3
    · subst h3; simp; omega
    · rw [show 7 * (k + 1 - 1) = 7 * (k - 1) + 7 from by omega, Nat.pow_add]; omega

theorem IsUv.cut {u j m : Nat} (h : IsUv (u / 2 ^ (7 * j)) m) (hu : u / 2 ^ (7 * j) ≠ 0) : IsUv u (j + m) := by
  obtain ⟨h1, h2, h3⟩ := h
  have hp : 0 < 2 ^ (7 * j) := Nat.pow_pos (by omega)
  refine ⟨by omega, ?_, ?_⟩
  · rw [Nat.div_lt_iff_lt_mul hp, ← Nat.pow_add] at h2
    rwa [show 7 * (j + m) = 7 * m + 7 * j from by omega]
  · rcases h3 with h3 | h3
    · subst h3
      refine .inr ?_
      have : 1 ≤ u / 2 ^ (7 * j) := Nat.one_le_iff_ne_zero.2 hu
      rw [Nat.le_div_iff_mul_le hp] at this
      rw [show 7 * (j + 1 - 1) = 7 * j from by omega]; omega
    · rw [Nat.le_div_iff_mul_le hp, ← Nat.pow_add] at h3
      by_cases hm : m = 1
      · subst hm
        refine .inr ?_
        rw [show 7 * (j + 1 - 1) = 7 * (1 - 1) + 7 * j from by omega]; exact h3
      · refine .inr ?_
        rw [show 7 * (j + m - 1) = 7 * (m - 1) + 7 * j from by omega]; exact h3

theorem IsUv.one {u : Nat} (h : u < 128) : IsUv u 1 := ⟨by omega, by simpa using h, .inl rfl⟩

theorem IsUv.low {u k j : Nat} (h : IsUv u k) (hu : u / 2 ^ (7 * j) = 0) : k ≤ (if j < 1 then 1 else j) := by
  obtain ⟨h1, h2, h3⟩ := h
  have hp : 0 < 2 ^ (7 * j) := Nat.pow_pos (by omega)
  have hl : u < 2 ^ (7 * j) := by
    rcases Nat.div_eq_zero_iff.1 hu with h | h
    · omega
    · exact h
  rcases h3 with h3 | h3
  · split <;> omega
  · have := lt_of_pow h3 hl
    split <;> omega

/-! the loops' steps -/

/-- UvarintLen's loop at its head: k groups told, v what is left. -/
def UvAt (u k v : Nat) : Prop := 1 ≤ k ∧ v = u / 2 ^ (7 * (k - 1)) ∧ (k = 1 ∨ 2 ^ (7 * (k - 1)) ≤ u)

theorem UvAt.start (u : Nat) : UvAt u 1 u := ⟨by omega, by simp, .inl rfl⟩

theorem UvAt.next {u k v : Nat} (h : UvAt u k v) (hv : 128 ≤ v) : UvAt u (k + 1) (v / 128) := by
  obtain ⟨h1, h2, h3⟩ := h
  have hp : 0 < 2 ^ (7 * (k - 1)) := Nat.pow_pos (by omega)
  have e : 2 ^ (7 * (k + 1 - 1)) = 2 ^ (7 * (k - 1)) * 128 := by
    rw [show 7 * (k + 1 - 1) = 7 * (k - 1) + 7 from by omega, Nat.pow_add]
  refine ⟨by omega, ?_, .inr ?_⟩
  · rw [e, h2, Nat.div_div_eq_div_mul]
  · rw [h2, Nat.le_div_iff_mul_le hp] at hv
    rw [e]; rw [Nat.mul_comm]; exact hv

theorem UvAt.stop {u k v : Nat} (h : UvAt u k v) (hv : v < 128) : IsUv u k := by
  obtain ⟨h1, h2, h3⟩ := h
  have hp : 0 < 2 ^ (7 * (k - 1)) := Nat.pow_pos (by omega)
  refine ⟨h1, ?_, h3⟩
  rw [h2, Nat.div_lt_iff_lt_mul hp] at hv
  rw [show 7 * k = 7 + 7 * (k - 1) from by omega, Nat.pow_add]
  exact hv

theorem UvAt.le_ten {u k v : Nat} (h : UvAt u k v) (hu : u < 2 ^ 64) : k ≤ 10 := by
  obtain ⟨h1, h2, h3⟩ := h
  rcases h3 with h3 | h3
  · omega
  · have := lt_of_pow h3 hu; omega

/-- the bit loop at its head: b bits told, v what is left. -/
def BlAt (u b v : Nat) : Prop := v = u / 2 ^ b ∧ (b = 0 ∨ 2 ^ (b - 1) ≤ u)

theorem BlAt.start (u : Nat) : BlAt u 0 u := ⟨by simp, .inl rfl⟩

theorem BlAt.next {u b v : Nat} (h : BlAt u b v) (hv : v ≠ 0) : BlAt u (b + 1) (v / 2) := by
  obtain ⟨h1, h2⟩ := h
  have hp : 0 < 2 ^ b := Nat.pow_pos (by omega)
  refine ⟨?_, .inr ?_⟩
  · rw [h1, Nat.div_div_eq_div_mul, Nat.pow_succ]
  · have : 1 ≤ v := by omega
    rw [h1, Nat.le_div_iff_mul_le hp] at this
    simpa using this

theorem BlAt.stop {u b v : Nat} (h : BlAt u b v) (hv : v = 0) : IsBl u b := by
  obtain ⟨h1, h2⟩ := h
  refine ⟨?_, h2⟩
  rw [hv] at h1
  have hp : 0 < 2 ^ b := Nat.pow_pos (by omega)
  rcases Nat.div_eq_zero_iff.1 h1.symm with h | h
  · omega
  · exact h

theorem BlAt.le_64 {u b v : Nat} (h : BlAt u b v) (hu : u < 2 ^ 64) : b ≤ 64 := by
  obtain ⟨h1, h2⟩ := h
  rcases h2 with h2 | h2
  · omega
  · have := lt_of_pow h2 hu; omega

end Go.Proofs.Qxb6632620a.Plain
