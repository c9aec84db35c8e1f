/- The unrounded scaling, plain: what the words' products give is the quotient with a sticky bit. -/
namespace Go.Proofs.YtmphnnmnbpheiaaGreatDoor

/-- The quotient with a sticky low bit. -/
def unr (Z Q : Nat) : Nat := if Z % Q = 0 then Z / Q else Z / Q ||| 1

theorem or_one (a : Nat) : a ||| 1 = a + (1 - a % 2) := by
  have h2 : (a ||| 1) / 2 = a / 2 := by
    rw [Nat.or_div_two]; simp
  have h3 : (a ||| 1) % 2 = 1 := by
    rw [Nat.or_mod_two_eq_one]; simp
  omega

theorem unr_ge {Z Q c : Nat} (hQ : 0 < Q) (hc : c % 2 = 0) : c ≤ unr Z Q ↔ c * Q ≤ Z := by
  rw [← Nat.le_div_iff_mul_le hQ]
  unfold unr
  split
  · exact Iff.rfl
  · rw [or_one]; omega

theorem unr_le {Z Q c : Nat} (hQ : 0 < Q) (hc : c % 2 = 0) : unr Z Q ≤ c ↔ Z ≤ c * Q := by
  have h := Nat.div_add_mod Z Q
  unfold unr
  split
  · rename_i h0
    rw [h0, Nat.add_zero] at h
    constructor
    · intro hl
      have := Nat.mul_le_mul_right Q hl
      rw [Nat.mul_comm (Z / Q)] at this
      omega
    · intro hl
      rw [← h, Nat.mul_comm] at hl
      exact Nat.le_of_mul_le_mul_right hl hQ
  · rename_i h0
    rw [or_one]
    have h1 : Z / Q < c ↔ Z < c * Q := Nat.div_lt_iff_lt_mul hQ
    have h2 : Z ≠ c * Q := by
      intro e
      exact h0 (by rw [e, Nat.mul_mod_left])
    omega

theorem unr_lt {Z Q c : Nat} (hQ : 0 < Q) (hc : c % 2 = 0) : unr Z Q < c ↔ Z < c * Q := by
  have := unr_ge (Z := Z) hQ hc
  omega

theorem unr_gt {Z Q c : Nat} (hQ : 0 < Q) (hc : c % 2 = 0) : c < unr Z Q ↔ c * Q < Z := by
  have := unr_le (Z := Z) hQ hc
  omega

/-- The nearest whole number, between two the even one. -/
def rne (a b : Nat) : Nat := a / b + if b < 2 * (a % b) ∨ (b = 2 * (a % b) ∧ a / b % 2 = 1) then 1 else 0

theorem rne_scale (a b c : Nat) (hc : 0 < c) : rne (a * c) (b * c) = rne a b := by
  unfold rne
  rw [Nat.mul_div_mul_right _ _ hc, Nat.mul_mod_mul_right]
  have e : b * c < 2 * (a % b * c) ↔ b < 2 * (a % b) := by
    rw [← Nat.mul_assoc]; exact Nat.mul_lt_mul_right hc
  have e' : b * c = 2 * (a % b * c) ↔ b = 2 * (a % b) := by
    rw [← Nat.mul_assoc]
    exact ⟨fun h => Nat.eq_of_mul_eq_mul_right hc h, fun h => by rw [← h]⟩
  simp only [e, e']

/-- What a number is between which the nearest is n. -/
theorem rne_iff {a b n : Nat} (hb : 0 < b) : rne a b = n ↔
    (2 * n * b ≤ 2 * a + b ∧ 2 * a ≤ (2 * n + 1) * b ∧ (n % 2 = 1 → 2 * n * b < 2 * a + b ∧ 2 * a < (2 * n + 1) * b)) := by
  unfold rne
  have h := Nat.div_add_mod a b
  have hm := Nat.mod_lt a hb
  generalize a / b = q at *
  generalize a % b = r at *
  subst h
  have e1 : 2 * (b * q + r) = b * (2 * q) + 2 * r := by grind
  rw [e1]
  rcases Nat.lt_trichotomy n q with hl | hl | hl
  · obtain ⟨k, rfl⟩ : ∃ k, q = n + 1 + k := ⟨q - n - 1, by omega⟩
    have e2 : b * (2 * (n + 1 + k)) = b * (2 * n) + 2 * b + b * (2 * k) := by grind
    have e3 : (2 * n + 1) * b = b * (2 * n) + b := by grind
    rw [e2, e3]
    generalize b * (2 * n) = u
    generalize b * (2 * k) = v
    constructor
    · intro hn; split at hn <;> omega
    · intro ⟨_, hn, _⟩; omega
  · subst hl
    have e2 : 2 * n * b = b * (2 * n) := by grind
    have e3 : (2 * n + 1) * b = b * (2 * n) + b := by grind
    rw [e2, e3]
    generalize b * (2 * n) = u
    constructor
    · intro hn
      split at hn
      · omega
      · rename_i hc
        omega
    · intro ⟨_, hn, hn'⟩
      rw [if_neg (by omega)]
      rfl
  · obtain ⟨k, rfl⟩ : ∃ k, n = q + 1 + k := ⟨n - q - 1, by omega⟩
    have e2 : 2 * (q + 1 + k) * b = b * (2 * q) + 2 * b + b * (2 * k) := by grind
    have e3 : (2 * (q + 1 + k) + 1) * b = b * (2 * q) + 3 * b + b * (2 * k) := by grind
    rw [e2, e3]
    rcases Nat.eq_zero_or_pos k with rfl | hk
    · simp only [Nat.mul_zero, Nat.add_zero]
      generalize b * (2 * q) = u
      constructor
      · intro hn
        split at hn
        · omega
        · omega
      · intro ⟨h1, h2, h3⟩
        rw [if_pos (by omega)]
    · have : b * 2 ≤ b * (2 * k) := Nat.mul_le_mul_left _ (by omega)
      generalize b * (2 * q) = u at *
      generalize b * (2 * k) = v at *
      constructor
      · intro hn; split at hn <;> omega
      · intro ⟨h1, h2, h3⟩; omega

/-- Rounding what has a sticky bit is rounding the number. -/
theorem unr_round {Z Q : Nat} (hQ : 0 < Q) : (unr Z Q + 1 + unr Z Q / 4 % 2) / 4 = rne Z (4 * Q) := by
  symm
  rw [rne_iff (by omega)]
  generalize hn : (unr Z Q + 1 + unr Z Q / 4 % 2) / 4 = n
  have a1 := unr_ge (Z := Z) (c := 4 * n - 2) hQ (by omega)
  have a2 := unr_le (Z := Z) (c := 4 * n + 2) hQ (by omega)
  have a3 := unr_gt (Z := Z) (c := 4 * n - 2) hQ (by omega)
  have a4 := unr_lt (Z := Z) (c := 4 * n + 2) hQ (by omega)
  have e1 : 2 * n * (4 * Q) = 2 * (4 * n * Q) := by grind
  have e2 : (2 * n + 1) * (4 * Q) = 2 * ((4 * n + 2) * Q) := by grind
  rw [e1, e2]
  have e3 : (4 * n - 2) * Q = 4 * n * Q - 2 * Q := by rw [Nat.sub_mul]
  have b1 : 4 * n - 2 ≤ unr Z Q := by omega
  have b2 : unr Z Q ≤ 4 * n + 2 := by omega
  have c1 := a1.1 b1
  have c2 := a2.1 b2
  rw [e3] at c1
  refine ⟨by omega, by omega, ?_⟩
  intro hodd
  have d1 := a3.1 (by omega)
  have d2 := a4.1 (by omega)
  rw [e3] at d1
  have : 4 * Q ≤ 4 * n * Q := Nat.mul_le_mul_right _ (by omega)
  omega

end Go.Proofs.YtmphnnmnbpheiaaGreatDoor
