/- The rung of a number: which float is nearest to a quotient of two whole numbers, counted in the least float. -/
import Derived.Test.YtmphnnmnbpheiaaGreatDoorFlScale
namespace Go.Proofs.YtmphnnmnbpheiaaGreatDoor
namespace Fl

/-- The binade of a / b (in units of the least float). -/
def jOf (a b : Nat) : Nat := (a / b).log2 - 52
/-- The rung that is nearest to a / b. -/
def rung (a b : Nat) : Nat := jOf a b * 2 ^ 52 + rne a (b * 2 ^ jOf a b)

theorem jOf_eq {a b j : Nat} (hb : 0 < b) (h1 : j = 0 ∨ b * 2 ^ (52 + j) ≤ a) (h2 : a < b * 2 ^ (53 + j)) : jOf a b = j := by
  unfold jOf
  have h3 : a / b < 2 ^ (53 + j) := by
    rw [Nat.div_lt_iff_lt_mul hb, Nat.mul_comm]; exact h2
  rcases Nat.eq_zero_or_pos (a / b) with h0 | h0
  · rw [h0]
    rcases h1 with h1 | h1
    · subst h1; rfl
    · have : 2 ^ (52 + j) ≤ a / b := by
        rw [Nat.le_div_iff_mul_le hb, Nat.mul_comm]; exact h1
      rw [h0] at this
      have := Nat.pow_pos (a := 2) (n := 52 + j) (by decide)
      omega
  · have hne : a / b ≠ 0 := by omega
    have h4 := (Nat.log2_lt hne).2 h3
    rcases h1 with h1 | h1
    · omega
    · have h5 : 2 ^ (52 + j) ≤ a / b := by
        rw [Nat.le_div_iff_mul_le hb, Nat.mul_comm]; exact h1
      have h6 := (Nat.le_log2 hne).2 h5
      omega

theorem jOf_scale (a b c : Nat) (hc : 0 < c) : jOf (a * c) (b * c) = jOf a b := by
  unfold jOf
  rw [Nat.mul_div_mul_right _ _ hc]

theorem rung_scale (a b c : Nat) (hc : 0 < c) : rung (a * c) (b * c) = rung a b := by
  unfold rung
  rw [jOf_scale a b c hc, show b * c * 2 ^ jOf a b = b * 2 ^ jOf a b * c by grind, rne_scale _ _ _ hc]

theorem rung_ratio {a b a' b' : Nat} (hb : 0 < b) (hb' : 0 < b') (h : a * b' = a' * b) : rung a b = rung a' b' := by
  rw [← rung_scale a b b' hb', ← rung_scale a' b' b hb, h, Nat.mul_comm b b']

theorem rne_ratio {a b a' b' : Nat} (hb : 0 < b) (hb' : 0 < b') (h : a * b' = a' * b) : rne a b = rne a' b' := by
  rw [← rne_scale a b b' hb', ← rne_scale a' b' b hb, h, Nat.mul_comm b b']

/-- What lies within half a step of a float (of a power of two: a quarter below) is nearest to it. -/
theorem rung_near {a b m j : Nat} (hb : 0 < b) (hm : m < 2 ^ 53) (hj : j = 0 ∨ 2 ^ 52 ≤ m)
    (lo : ¬ (m = 2 ^ 52 ∧ 0 < j) → 2 * m * (2 ^ j * b) ≤ 2 * a + 2 ^ j * b ∧ (m % 2 = 1 → 2 * m * (2 ^ j * b) < 2 * a + 2 ^ j * b))
    (lo' : m = 2 ^ 52 ∧ 0 < j → 4 * m * (2 ^ j * b) ≤ 4 * a + 2 ^ j * b)
    (hi : 2 * a ≤ (2 * m + 1) * (2 ^ j * b) ∧ (m % 2 = 1 → 2 * a < (2 * m + 1) * (2 ^ j * b))) :
    rung a b = j * 2 ^ 52 + m := by
  have hu : 0 < 2 ^ j * b := Nat.mul_pos (Nat.pow_pos (by decide)) hb
  have e52 : b * 2 ^ (52 + j) = 2 ^ 52 * (2 ^ j * b) := by rw [Nat.pow_add]; generalize 2 ^ j = u; grind
  have e53 : b * 2 ^ (53 + j) = 2 ^ 53 * (2 ^ j * b) := by rw [Nat.pow_add]; generalize 2 ^ j = u; grind
  have hmU : m * (2 ^ j * b) + 2 ^ j * b ≤ 2 ^ 53 * (2 ^ j * b) := by
    have := Nat.mul_le_mul_right (2 ^ j * b) (show m + 1 ≤ 2 ^ 53 by omega)
    rw [Nat.add_mul, Nat.one_mul] at this
    exact this
  have em : 2 * m * (2 ^ j * b) = 2 * (m * (2 ^ j * b)) := by rw [Nat.mul_assoc]
  have em4 : 4 * m * (2 ^ j * b) = 4 * (m * (2 ^ j * b)) := by rw [Nat.mul_assoc]
  have eh : (2 * m + 1) * (2 ^ j * b) = 2 * (m * (2 ^ j * b)) + 2 ^ j * b := by rw [Nat.add_mul, Nat.one_mul, Nat.mul_assoc]
  rw [em] at lo
  rw [em4] at lo'
  rw [eh] at hi
  by_cases hd : 0 < j ∧ a < b * 2 ^ (52 + j)
  · obtain ⟨hj0, ha⟩ := hd
    have h52 : 2 ^ 52 ≤ m := by omega
    have hm52 : m = 2 ^ 52 := by
      rcases Nat.eq_or_lt_of_le h52 with h | h
      · exact h.symm
      · exfalso
        have l := (lo (by omega)).1
        have := Nat.mul_le_mul_right (2 ^ j * b) (show 2 ^ 52 + 1 ≤ m by omega)
        rw [Nat.add_mul, Nat.one_mul] at this
        omega
    have l := lo' ⟨hm52, hj0⟩
    obtain ⟨i, rfl⟩ : ∃ i, j = i + 1 := ⟨j - 1, by omega⟩
    have eu : 2 ^ (i + 1) * b = 2 * (2 ^ i * b) := by rw [Nat.pow_succ]; generalize 2 ^ i = u; grind
    rw [hm52, eu] at l
    rw [e52, eu] at ha
    have e52' : b * 2 ^ (52 + i) = 2 ^ 52 * (2 ^ i * b) := by rw [Nat.pow_add]; generalize 2 ^ i = u; grind
    have e53' : b * 2 ^ (53 + i) = 2 ^ 53 * (2 ^ i * b) := by rw [Nat.pow_add]; generalize 2 ^ i = u; grind
    have hjo : jOf a b = i := jOf_eq hb (Or.inr (by rw [e52']; omega)) (by rw [e53']; omega)
    have hu' : 0 < 2 ^ i * b := Nat.mul_pos (Nat.pow_pos (by decide)) hb
    unfold rung
    rw [hjo, Nat.mul_comm b, (rne_iff (n := 2 ^ 53) hu').2 ⟨by omega, by omega, by omega⟩, hm52]
    omega
  · have h1 : j = 0 ∨ b * 2 ^ (52 + j) ≤ a := by omega
    have hjo : jOf a b = j := by
      refine jOf_eq hb h1 ?_
      rw [e53]
      rcases Nat.eq_or_lt_of_le (show m ≤ 2 ^ 53 - 1 by omega) with h | h
      · have := hi.2 (by omega)
        omega
      · have := Nat.mul_le_mul_right (2 ^ j * b) (show m + 2 ≤ 2 ^ 53 by omega)
        rw [Nat.add_mul] at this
        omega
    unfold rung
    rw [hjo, Nat.mul_comm b, (rne_iff (n := m) hu).2 ?_]
    by_cases hs : m = 2 ^ 52 ∧ 0 < j
    · have := lo' hs
      refine ⟨by rw [em]; omega, by rw [eh]; omega, by omega⟩
    · have := lo hs
      rw [em, eh]
      refine ⟨this.1, hi.1, fun h => ⟨this.2 h, hi.2 h⟩⟩

theorem unr_scale (a b c : Nat) (hc : 0 < c) : unr (a * c) (b * c) = unr a b := by
  unfold unr
  rw [Nat.mul_div_mul_right _ _ hc, Nat.mul_mod_mul_right]
  have : a % b * c = 0 ↔ a % b = 0 := by
    constructor
    · intro h; rcases Nat.mul_eq_zero.1 h with h | h <;> omega
    · intro h; rw [h, Nat.zero_mul]
  simp only [this]

theorem unr_ratio {a b a' b' : Nat} (hb : 0 < b) (hb' : 0 < b') (h : a * b' = a' * b) : unr a b = unr a' b' := by
  rw [← unr_scale a b b' hb', ← unr_scale a' b' b hb, h, Nat.mul_comm b b']

/-- One bit fewer. -/
theorem unr_half (a b : Nat) (hb : 0 < b) : unr a b / 2 ||| unr a b % 2 = unr a (b * 2) := by
  unfold unr
  rw [← Nat.div_div_eq_div_mul, Nat.mod_mul]
  have hm : a / b % 2 = 0 ∨ a / b % 2 = 1 := by omega
  generalize a / b = q at *
  rcases Nat.eq_zero_or_pos (a % b) with h | h
  · rw [h, if_pos rfl, Nat.zero_add]
    rcases hm with h1 | h1
    · rw [h1]; simp
    · rw [h1]
      rw [if_neg (by omega)]
  · rw [if_neg (by omega), if_neg (by omega), or_one q]
    rw [show (q + (1 - q % 2)) / 2 = q / 2 by omega, show (q + (1 - q % 2)) % 2 = 1 by omega]

end Fl
end Go.Proofs.YtmphnnmnbpheiaaGreatDoor
