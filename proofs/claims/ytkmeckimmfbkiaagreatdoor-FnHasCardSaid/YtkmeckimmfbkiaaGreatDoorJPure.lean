/- Values as the proof speaks of them, in plain terms: worths of floats, comparisons, rationals. Conditions: none. -/
import GoSem.Core.Float
import Derived.Laws.FloatArith
namespace Go.Proofs.YtkmeckimmfbkiaaGreatDoor

/-- The quotient with a sticky low bit. -/
def unr (Z Q : Nat) : Nat := if Z % Q = 0 then Z / Q else Z / Q ||| 1

theorem or_one (a : Nat) : a ||| 1 = a + (1 - a % 2) := by
  have h2 : (a ||| 1) / 2 = a / 2 := by
    rw [Nat.or_div_two]; simp
  have h3 : (a ||| 1) % 2 = 1 := by
    rw [Nat.or_mod_two_eq_one]; simp
  omega

theorem unr_ge {Z Q c : Nat} (hQ : 0 < Q) (hc : c % 2 = 0) : c ≤ unr Z Q ↔ c * Q ≤ Z := by
  rw [← Nat.le_div_iff_mul_le hQ]
  unfold unr
  split
  · exact Iff.rfl
  · rw [or_one]; omega

theorem unr_le {Z Q c : Nat} (hQ : 0 < Q) (hc : c % 2 = 0) : unr Z Q ≤ c ↔ Z ≤ c * Q := by
  have h := Nat.div_add_mod Z Q
  unfold unr
  split
  · rename_i h0
    rw [h0, Nat.add_zero] at h
    constructor
    · intro hl
      have := Nat.mul_le_mul_right Q hl
      rw [Nat.mul_comm (Z / Q)] at this
      omega
    · intro hl
      rw [← h, Nat.mul_comm] at hl
      exact Nat.le_of_mul_le_mul_right hl hQ
  · rename_i h0
    rw [or_one]
    have h1 : Z / Q < c ↔ Z < c * Q := Nat.div_lt_iff_lt_mul hQ
    have h2 : Z ≠ c * Q := by
      intro e
      exact h0 (by rw [e, Nat.mul_mod_left])
    omega

theorem unr_lt {Z Q c : Nat} (hQ : 0 < Q) (hc : c % 2 = 0) : unr Z Q < c ↔ Z < c * Q := by
  have := unr_ge (Z := Z) hQ hc
  omega

theorem unr_gt {Z Q c : Nat} (hQ : 0 < Q) (hc : c % 2 = 0) : c < unr Z Q ↔ c * Q < Z := by
  have := unr_le (Z := Z) hQ hc
  omega

/-- The nearest whole number, between two the even one. -/
def rne (a b : Nat) : Nat := a / b + if b < 2 * (a % b) ∨ (b = 2 * (a % b) ∧ a / b % 2 = 1) then 1 else 0

theorem rne_scale (a b c : Nat) (hc : 0 < c) : rne (a * c) (b * c) = rne a b := by
  unfold rne
  rw [Nat.mul_div_mul_right _ _ hc, Nat.mul_mod_mul_right]
  have e : b * c < 2 * (a % b * c) ↔ b < 2 * (a % b) := by
    rw [← Nat.mul_assoc]; exact Nat.mul_lt_mul_right hc
  have e' : b * c = 2 * (a % b * c) ↔ b = 2 * (a % b) := by
    rw [← Nat.mul_assoc]
    exact ⟨fun h => Nat.eq_of_mul_eq_mul_right hc h, fun h => by rw [← h]⟩
  simp only [e, e']

/-- What a number is between which the nearest is n. -/
theorem rne_iff {a b n : Nat} (hb : 0 < b) : rne a b = n ↔
    (2 * n * b ≤ 2 * a + b ∧ 2 * a ≤ (2 * n + 1) * b ∧ (n % 2 = 1 → 2 * n * b < 2 * a + b ∧ 2 * a < (2 * n + 1) * b)) := by
  unfold rne
  have h := Nat.div_add_mod a b
  have hm := Nat.mod_lt a hb
  generalize a / b = q at *
  generalize a % b = r at *
  subst h
  have e1 : 2 * (b * q + r) = b * (2 * q) + 2 * r := by grind
  rw [e1]
  rcases Nat.lt_trichotomy n q with hl | hl | hl
  · obtain ⟨k, rfl⟩ : ∃ k, q = n + 1 + k := ⟨q - n - 1, by omega⟩
    have e2 : b * (2 * (n + 1 + k)) = b * (2 * n) + 2 * b + b * (2 * k) := by grind
    have e3 : (2 * n + 1) * b = b * (2 * n) + b := by grind
    rw [e2, e3]
    generalize b * (2 * n) = u
    generalize b * (2 * k) = v
    constructor
    · intro hn; split at hn <;> omega
    · intro ⟨_, hn, _⟩; omega
  · subst hl
    have e2 : 2 * n * b = b * (2 * n) := by grind
    have e3 : (2 * n + 1) * b = b * (2 * n) + b := by grind
    rw [e2, e3]
    generalize b * (2 * n) = u
    constructor
    · intro hn
      split at hn
      · omega
      · rename_i hc
        omega
    · intro ⟨_, hn, hn'⟩
      rw [if_neg (by omega)]
      rfl
  · obtain ⟨k, rfl⟩ : ∃ k, n = q + 1 + k := ⟨n - q - 1, by omega⟩
    have e2 : 2 * (q + 1 + k) * b = b * (2 * q) + 2 * b + b * (2 * k) := by grind
    have e3 : (2 * (q + 1 + k) + 1) * b = b * (2 * q) + 3 * b + b * (2 * k) := by grind
    rw [e2, e3]
    rcases Nat.eq_zero_or_pos k with rfl | hk
    · simp only [Nat.mul_zero, Nat.add_zero]
      generalize b * (2 * q) = u
      constructor
      · intro hn
        split at hn
        · omega
        · omega
      · intro ⟨h1, h2, h3⟩
        rw [if_pos (by omega)]
    · have : b * 2 ≤ b * (2 * k) := Nat.mul_le_mul_left _ (by omega)
      generalize b * (2 * q) = u at *
      generalize b * (2 * k) = v at *
      constructor
      · intro hn; split at hn <;> omega
      · intro ⟨h1, h2, h3⟩; omega

/-- Rounding what has a sticky bit is rounding the number. -/
theorem unr_round {Z Q : Nat} (hQ : 0 < Q) : (unr Z Q + 1 + unr Z Q / 4 % 2) / 4 = rne Z (4 * Q) := by
  symm
  rw [rne_iff (by omega)]
  generalize hn : (unr Z Q + 1 + unr Z Q / 4 % 2) / 4 = n
  have a1 := unr_ge (Z := Z) (c := 4 * n - 2) hQ (by omega)
  have a2 := unr_le (Z := Z) (c := 4 * n + 2) hQ (by omega)
  have a3 := unr_gt (Z := Z) (c := 4 * n - 2) hQ (by omega)
  have a4 := unr_lt (Z := Z) (c := 4 * n + 2) hQ (by omega)
  have e1 : 2 * n * (4 * Q) = 2 * (4 * n * Q) := by grind
  have e2 : (2 * n + 1) * (4 * Q) = 2 * ((4 * n + 2) * Q) := by grind
  rw [e1, e2]
  have e3 : (4 * n - 2) * Q = 4 * n * Q - 2 * Q := by rw [Nat.sub_mul]
  have b1 : 4 * n - 2 ≤ unr Z Q := by omega
  have b2 : unr Z Q ≤ 4 * n + 2 := by omega
  have c1 := a1.1 b1
  have c2 := a2.1 b2
  rw [e3] at c1
  refine ⟨by omega, by omega, ?_⟩
  intro hodd
  have d1 := a3.1 (by omega)
  have d2 := a4.1 (by omega)
  rw [e3] at d1
  have : 4 * Q ≤ 4 * n * Q := Nat.mul_le_mul_right _ (by omega)
  omega

end Go.Proofs.YtkmeckimmfbkiaaGreatDoor
namespace Go.Proofs.YtkmeckimmfbkiaaGreatDoor
namespace Fl

/-- The binade of a / b (in units of the least float). -/
def jOf (a b : Nat) : Nat := (a / b).log2 - 52
/-- The rung that is nearest to a / b. -/
def rung (a b : Nat) : Nat := jOf a b * 2 ^ 52 + rne a (b * 2 ^ jOf a b)

theorem jOf_eq {a b j : Nat} (hb : 0 < b) (h1 : j = 0 ∨ b * 2 ^ (52 + j) ≤ a) (h2 : a < b * 2 ^ (53 + j)) : jOf a b = j := by
  unfold jOf
  have h3 : a / b < 2 ^ (53 + j) := by
    rw [Nat.div_lt_iff_lt_mul hb, Nat.mul_comm]; exact h2
  rcases Nat.eq_zero_or_pos (a / b) with h0 | h0
  · rw [h0]
    rcases h1 with h1 | h1
    · subst h1; rfl
    · have : 2 ^ (52 + j) ≤ a / b := by
        rw [Nat.le_div_iff_mul_le hb, Nat.mul_comm]; exact h1
      rw [h0] at this
      have := Nat.pow_pos (a := 2) (n := 52 + j) (by decide)
      omega
  · have hne : a / b ≠ 0 := by omega
    have h4 := (Nat.log2_lt hne).2 h3
    rcases h1 with h1 | h1
    · omega
    · have h5 : 2 ^ (52 + j) ≤ a / b := by
        rw [Nat.le_div_iff_mul_le hb, Nat.mul_comm]; exact h1
      have h6 := (Nat.le_log2 hne).2 h5
      omega

theorem jOf_scale (a b c : Nat) (hc : 0 < c) : jOf (a * c) (b * c) = jOf a b := by
  unfold jOf
  rw [Nat.mul_div_mul_right _ _ hc]

theorem rung_scale (a b c : Nat) (hc : 0 < c) : rung (a * c) (b * c) = rung a b := by
  unfold rung
  rw [jOf_scale a b c hc, show b * c * 2 ^ jOf a b = b * 2 ^ jOf a b * c by grind, rne_scale _ _ _ hc]

theorem rung_ratio {a b a' b' : Nat} (hb : 0 < b) (hb' : 0 < b') (h : a * b' = a' * b) : rung a b = rung a' b' := by
  rw [← rung_scale a b b' hb', ← rung_scale a' b' b hb, h, Nat.mul_comm b b']

theorem rne_ratio {a b a' b' : Nat} (hb : 0 < b) (hb' : 0 < b') (h : a * b' = a' * b) : rne a b = rne a' b' := by
  rw [← rne_scale a b b' hb', ← rne_scale a' b' b hb, h, Nat.mul_comm b b']

/-- What lies within half a step of a float (of a power of two: a quarter below) is nearest to it. -/
theorem rung_near {a b m j : Nat} (hb : 0 < b) (hm : m < 2 ^ 53) (hj : j = 0 ∨ 2 ^ 52 ≤ m)
    (lo : ¬ (m = 2 ^ 52 ∧ 0 < j) → 2 * m * (2 ^ j * b) ≤ 2 * a + 2 ^ j * b ∧ (m % 2 = 1 → 2 * m * (2 ^ j * b) < 2 * a + 2 ^ j * b))
    (lo' : m = 2 ^ 52 ∧ 0 < j → 4 * m * (2 ^ j * b) ≤ 4 * a + 2 ^ j * b)
    (hi : 2 * a ≤ (2 * m + 1) * (2 ^ j * b) ∧ (m % 2 = 1 → 2 * a < (2 * m + 1) * (2 ^ j * b))) :
    rung a b = j * 2 ^ 52 + m := by
  have hu : 0 < 2 ^ j * b := Nat.mul_pos (Nat.pow_pos (by decide)) hb
  have e52 : b * 2 ^ (52 + j) = 2 ^ 52 * (2 ^ j * b) := by rw [Nat.pow_add]; generalize 2 ^ j = u; grind
  have e53 : b * 2 ^ (53 + j) = 2 ^ 53 * (2 ^ j * b) := by rw [Nat.pow_add]; generalize 2 ^ j = u; grind
  have hmU : m * (2 ^ j * b) + 2 ^ j * b ≤ 2 ^ 53 * (2 ^ j * b) := by
    have := Nat.mul_le_mul_right (2 ^ j * b) (show m + 1 ≤ 2 ^ 53 by omega)
    rw [Nat.add_mul, Nat.one_mul] at this
    exact this
  have em : 2 * m * (2 ^ j * b) = 2 * (m * (2 ^ j * b)) := by rw [Nat.mul_assoc]
  have em4 : 4 * m * (2 ^ j * b) = 4 * (m * (2 ^ j * b)) := by rw [Nat.mul_assoc]
  have eh : (2 * m + 1) * (2 ^ j * b) = 2 * (m * (2 ^ j * b)) + 2 ^ j * b := by rw [Nat.add_mul, Nat.one_mul, Nat.mul_assoc]
  rw [em] at lo
  rw [em4] at lo'
  rw [eh] at hi
  by_cases hd : 0 < j ∧ a < b * 2 ^ (52 + j)
  · obtain ⟨hj0, ha⟩ := hd
    have h52 : 2 ^ 52 ≤ m := by omega
    have hm52 : m = 2 ^ 52 := by
      rcases Nat.eq_or_lt_of_le h52 with h | h
      · exact h.symm
      · exfalso
        have l := (lo (by omega)).1
        have := Nat.mul_le_mul_right (2 ^ j * b) (show 2 ^ 52 + 1 ≤ m by omega)
        rw [Nat.add_mul, Nat.one_mul] at this
        omega
    have l := lo' ⟨hm52, hj0⟩
    obtain ⟨i, rfl⟩ : ∃ i, j = i + 1 := ⟨j - 1, by omega⟩
    have eu : 2 ^ (i + 1) * b = 2 * (2 ^ i * b) := by rw [Nat.pow_succ]; generalize 2 ^ i = u; grind
    rw [hm52, eu] at l
    rw [e52, eu] at ha
    have e52' : b * 2 ^ (52 + i) = 2 ^ 52 * (2 ^ i * b) := by rw [Nat.pow_add]; generalize 2 ^ i = u; grind
    have e53' : b * 2 ^ (53 + i) = 2 ^ 53 * (2 ^ i * b) := by rw [Nat.pow_add]; generalize 2 ^ i = u; grind
    have hjo : jOf a b = i := jOf_eq hb (Or.inr (by rw [e52']; omega)) (by rw [e53']; omega)
    have hu' : 0 < 2 ^ i * b := Nat.mul_pos (Nat.pow_pos (by decide)) hb
    unfold rung
    rw [hjo, Nat.mul_comm b, (rne_iff (n := 2 ^ 53) hu').2 ⟨by omega, by omega, by omega⟩, hm52]
    omega
  · have h1 : j = 0 ∨ b * 2 ^ (52 + j) ≤ a := by omega
    have hjo : jOf a b = j := by
      refine jOf_eq hb h1 ?_
      rw [e53]
      rcases Nat.eq_or_lt_of_le (show m ≤ 2 ^ 53 - 1 by omega) with h | h
      · have := hi.2 (by omega)
        omega
      · have := Nat.mul_le_mul_right (2 ^ j * b) (show m + 2 ≤ 2 ^ 53 by omega)
        rw [Nat.add_mul] at this
        omega
    unfold rung
    rw [hjo, Nat.mul_comm b, (rne_iff (n := m) hu).2 ?_]
    by_cases hs : m = 2 ^ 52 ∧ 0 < j
    · have := lo' hs
      refine ⟨by rw [em]; omega, by rw [eh]; omega, by omega⟩
    · have := lo hs
      rw [em, eh]
      refine ⟨this.1, hi.1, fun h => ⟨this.2 h, hi.2 h⟩⟩

theorem unr_scale (a b c : Nat) (hc : 0 < c) : unr (a * c) (b * c) = unr a b := by
  unfold unr
  rw [Nat.mul_div_mul_right _ _ hc, Nat.mul_mod_mul_right]
  have : a % b * c = 0 ↔ a % b = 0 := by
    constructor
    · intro h; rcases Nat.mul_eq_zero.1 h with h | h <;> omega
    · intro h; rw [h, Nat.zero_mul]
  simp only [this]

theorem unr_ratio {a b a' b' : Nat} (hb : 0 < b) (hb' : 0 < b') (h : a * b' = a' * b) : unr a b = unr a' b' := by
  rw [← unr_scale a b b' hb', ← unr_scale a' b' b hb, h, Nat.mul_comm b b']

/-- One bit fewer. -/
theorem unr_half (a b : Nat) (hb : 0 < b) : unr a b / 2 ||| unr a b % 2 = unr a (b * 2) := by
  unfold unr
  rw [← Nat.div_div_eq_div_mul, Nat.mod_mul]
  have hm : a / b % 2 = 0 ∨ a / b % 2 = 1 := by omega
  generalize a / b = q at *
  rcases Nat.eq_zero_or_pos (a % b) with h | h
  · rw [h, if_pos rfl, Nat.zero_add]
    rcases hm with h1 | h1
    · rw [h1]; simp
    · rw [h1]
      rw [if_neg (by omega)]
  · rw [if_neg (by omega), if_neg (by omega), or_one q]
    rw [show (q + (1 - q % 2)) / 2 = q / 2 by omega, show (q + (1 - q % 2)) % 2 = 1 by omega]

end Fl
end Go.Proofs.YtkmeckimmfbkiaaGreatDoor
namespace Go.Proofs.YtkmeckimmfbkiaaGreatDoor
namespace Fl
open Ieee

/-- A rung's significand and the place of its last digit. -/
def mOf (r : Nat) : Nat := if r < 2 ^ 52 then r else 2 ^ 52 + r % 2 ^ 52
def pOf (r : Nat) : Nat := if r < 2 ^ 52 then 0 else r / 2 ^ 52 - 1
/-- A rung's worth, in least floats. -/
def fv (r : Nat) : Nat := mOf r * 2 ^ pOf r

theorem dbl_sign : double.signWeight = 2 ^ 63 := rfl
theorem dbl_binade : double.binade = 2 ^ 52 := rfl
theorem dbl_inf : double.infRung = 2047 * 2 ^ 52 := rfl
theorem dbl_least : double.leastPlace = -1074 := rfl

theorem read_num {b : Nat} (hb : b < 2 ^ 64) (hf : b % 2 ^ 63 < 2047 * 2 ^ 52) :
    double.read b = .number (decide (2 ^ 63 ≤ b)) (mOf (b % 2 ^ 63)) (-1074 + (pOf (b % 2 ^ 63) : Nat)) := by
  have hn : (b / 2 ^ 63 % 2 == 1) = decide (2 ^ 63 ≤ b) := by
    by_cases h : 2 ^ 63 ≤ b
    · have : b / 2 ^ 63 % 2 = 1 := by omega
      rw [this]; simp [h]
    · have : b / 2 ^ 63 % 2 = 0 := by omega
      rw [this]; simp [h]
  unfold Format.read
  simp only [dbl_sign, dbl_binade, dbl_inf, dbl_least, hn]
  by_cases h1 : b % 2 ^ 63 < 2 ^ 52
  · rw [if_pos h1, mOf, pOf, if_pos h1, if_pos h1]
    simp
  · rw [if_neg h1, if_pos hf, mOf, pOf, if_neg h1, if_neg h1]
theorem read_inf {b : Nat} (hb : b < 2 ^ 64) (hf : b % 2 ^ 63 = 2047 * 2 ^ 52) : double.read b = .infinity (decide (2 ^ 63 ≤ b)) := by
  have hn : (b / 2 ^ 63 % 2 == 1) = decide (2 ^ 63 ≤ b) := by
    by_cases h : 2 ^ 63 ≤ b
    · have : b / 2 ^ 63 % 2 = 1 := by omega
      rw [this]; simp [h]
    · have : b / 2 ^ 63 % 2 = 0 := by omega
      rw [this]; simp [h]
  unfold Format.read
  simp only [dbl_sign, dbl_binade, dbl_inf, dbl_least, hn]
  rw [if_neg (by omega), if_neg (by omega), if_pos hf]
theorem read_nan {b : Nat} (hf : 2047 * 2 ^ 52 < b % 2 ^ 63) : ∃ s f, double.read b = .nan s f := by
  have h1 : ¬ b % double.signWeight < double.binade := by rw [dbl_sign, dbl_binade]; omega
  have h2 : ¬ b % double.signWeight < double.infRung := by rw [dbl_sign, dbl_inf]; omega
  have h3 : ¬ b % double.signWeight = double.infRung := by rw [dbl_sign, dbl_inf]; omega
  unfold Format.read
  simp only [h1, h2, h3, if_false]
  exact ⟨_, _, rfl⟩

theorem fv_mono {r s : Nat} (h : r < s) : fv r < fv s := by
  unfold fv mOf pOf
  by_cases h1 : s < 2 ^ 52
  · rw [if_pos (by omega), if_pos (by omega), if_pos h1, if_pos h1]; simpa using h
  · rw [if_neg h1, if_neg h1]
    have p1 := Nat.one_le_two_pow (n := s / 2 ^ 52 - 1)
    by_cases h2 : r < 2 ^ 52
    · rw [if_pos h2, if_pos h2]
      have := Nat.mul_le_mul (show r + 1 ≤ 2 ^ 52 + s % 2 ^ 52 by omega) p1
      omega
    · rw [if_neg h2, if_neg h2]
      rcases Nat.eq_or_lt_of_le (show r / 2 ^ 52 ≤ s / 2 ^ 52 by omega) with he | hl
      · rw [he]
        exact Nat.mul_lt_mul_of_pos_right (by omega) (by omega)
      · obtain ⟨k, hk⟩ : ∃ k, s / 2 ^ 52 - 1 = (r / 2 ^ 52 - 1) + 1 + k := ⟨s / 2 ^ 52 - 1 - (r / 2 ^ 52 - 1) - 1, by omega⟩
        have e : 2 ^ (s / 2 ^ 52 - 1) = 2 ^ (r / 2 ^ 52 - 1) * 2 * 2 ^ k := by rw [hk, Nat.pow_add, Nat.pow_succ]
        rw [e]
        have p2 := Nat.one_le_two_pow (n := r / 2 ^ 52 - 1)
        have p3 := Nat.one_le_two_pow (n := k)
        generalize 2 ^ (r / 2 ^ 52 - 1) = u at *
        calc (2 ^ 52 + r % 2 ^ 52) * u < (2 ^ 53) * u := Nat.mul_lt_mul_of_pos_right (by omega) (by omega)
          _ = 2 ^ 52 * (u * 2 * 1) := by omega
          _ ≤ (2 ^ 52 + s % 2 ^ 52) * (u * 2 * 2 ^ k) := Nat.mul_le_mul (by omega) (Nat.mul_le_mul_left _ p3)
theorem fv_cmp (r s : Nat) : compare (fv r) (fv s) = compare r s := by
  rcases Nat.lt_trichotomy r s with h | h | h
  · rw [Nat.compare_eq_lt.2 h, Nat.compare_eq_lt.2 (fv_mono h)]
  · subst h; simp
  · rw [Nat.compare_eq_gt.2 h, Nat.compare_eq_gt.2 (fv_mono h)]

/-- Two numbers compare as whole numbers of least floats. -/
theorem cmp_scaled (a b : Int) (t : Nat) (ht : 0 < t) : compare (a * t) (b * t) = compare a b := by
  have h : (0 : Int) < t := by omega
  rcases Int.lt_trichotomy a b with hl | hl | hl
  · rw [Int.compare_eq_lt.2 hl, Int.compare_eq_lt.2 (Int.mul_lt_mul_of_pos_right hl h)]
  · subst hl; simp
  · rw [Int.compare_eq_gt.2 hl, Int.compare_eq_gt.2 (Int.mul_lt_mul_of_pos_right hl h)]

def sv (neg : Bool) (r : Nat) : Int := if neg then -(fv r : Int) else fv r

theorem order_num {b c : Nat} (hb : b < 2 ^ 64) (hc : c < 2 ^ 64) (hbf : b % 2 ^ 63 < 2047 * 2 ^ 52) (hcf : c % 2 ^ 63 < 2047 * 2 ^ 52) :
    double.order b c = some (compare (sv (decide (2 ^ 63 ≤ b)) (b % 2 ^ 63)) (sv (decide (2 ^ 63 ≤ c)) (c % 2 ^ 63))) := by
  unfold Format.order
  rw [read_num hb hbf, read_num hc hcf]
  simp only [Datum.order]
  generalize b % 2 ^ 63 = r
  generalize c % 2 ^ 63 = s
  generalize decide (2 ^ 63 ≤ b) = p
  generalize decide (2 ^ 63 ≤ c) = q
  congr 1
  obtain ⟨k, hk⟩ : ∃ k, k = min (pOf r) (pOf s) := ⟨_, rfl⟩
  have e1 : (-1074 + (pOf r : Int) - min (-1074 + (pOf r : Int)) (-1074 + (pOf s : Int))).toNat = pOf r - k := by omega
  have e2 : (-1074 + (pOf s : Int) - min (-1074 + (pOf r : Int)) (-1074 + (pOf s : Int))).toNat = pOf s - k := by omega
  rw [e1, e2, ← cmp_scaled _ _ (2 ^ k) (Nat.pow_pos (by decide))]
  have g : ∀ (n : Bool) (x : Nat), k ≤ pOf x → signed n (mOf x) (pOf x - k) * ((2 ^ k : Nat) : Int) = sv n x := by
    intro n x hx
    have h1 : mOf x <<< (pOf x - k) * 2 ^ k = fv x := by
      rw [Nat.shiftLeft_eq, Nat.mul_assoc, ← Nat.pow_add, Nat.sub_add_cancel hx]; rfl
    unfold signed sv
    cases n
    · simp only [Bool.false_eq_true, if_false]
      rw [← Int.natCast_mul, h1]
    · simp only [if_true]
      rw [Int.neg_mul, ← Int.natCast_mul, h1]
  rw [g p r (by omega), g q s (by omega)]

def maxw : Nat := 9218868437227405311
theorem maxw_lt : maxw < 2 ^ 64 := by decide
theorem maxw_mod : maxw % 2 ^ 63 = 2047 * 2 ^ 52 - 1 := by decide
theorem order_nan {b c : Nat} (hb : 2047 * 2 ^ 52 < b % 2 ^ 63) : double.order b c = none := by
  obtain ⟨s, f, h⟩ := read_nan hb
  unfold Format.order
  rw [h]
  rfl
theorem order_inf {b c : Nat} (hb : b < 2 ^ 64) (hbi : b % 2 ^ 63 = 2047 * 2 ^ 52) (hc : c < 2 ^ 64) (hcf : c % 2 ^ 63 < 2047 * 2 ^ 52) :
    double.order b c = some (if 2 ^ 63 ≤ b then .lt else .gt) := by
  unfold Format.order
  rw [read_inf hb hbi, read_num hc hcf]
  simp [Datum.order]
theorem le_max {r : Nat} (hr : r < 2 ^ 63) : (double.order r maxw == some .lt || double.order r maxw == some .eq) = decide (r < 2047 * 2 ^ 52) := by
  have e : r % 2 ^ 63 = r := Nat.mod_eq_of_lt hr
  rcases Nat.lt_trichotomy r (2047 * 2 ^ 52) with h | h | h
  · rw [order_num (by omega) maxw_lt (by rw [e]; exact h) (by rw [maxw_mod]; decide), e, maxw_mod]
    rw [decide_eq_true h, show decide (2 ^ 63 ≤ r) = false by simp; omega, show decide (2 ^ 63 ≤ maxw) = false by decide]
    unfold sv
    simp only [Bool.false_eq_true, if_false]
    rcases Nat.eq_or_lt_of_le (show r ≤ 2047 * 2 ^ 52 - 1 by omega) with h1 | h1
    · rw [h1]; simp
    · rw [Int.compare_eq_lt.2 (by have := fv_mono h1; omega)]; rfl
  · rw [order_inf (by omega) (by rw [e]; exact h) maxw_lt (by rw [maxw_mod]; decide), if_neg (by omega)]
    simp [h]
  · rw [order_nan (by rw [e]; exact h)]
    simp; omega
theorem gt_max {b : Nat} (hb : b < 2 ^ 64) : (double.order b maxw == some .gt) = decide (b = 2047 * 2 ^ 52) := by
  rcases Nat.lt_trichotomy (b % 2 ^ 63) (2047 * 2 ^ 52) with h | h | h
  · rw [order_num hb maxw_lt h (by rw [maxw_mod]; decide), maxw_mod, decide_eq_false (show ¬ b = 2047 * 2 ^ 52 by intro e; rw [e] at h; omega), show decide (2 ^ 63 ≤ maxw) = false by decide]
    unfold sv
    simp only [Bool.false_eq_true, if_false]
    have h2 : fv (b % 2 ^ 63) ≤ fv (2047 * 2 ^ 52 - 1) := by
      rcases Nat.eq_or_lt_of_le (show b % 2 ^ 63 ≤ 2047 * 2 ^ 52 - 1 by omega) with h1 | h1
      · rw [h1]; exact Nat.le_refl _
      · exact Nat.le_of_lt (fv_mono h1)
    have h3 : (if decide (2 ^ 63 ≤ b) = true then -(fv (b % 2 ^ 63) : Int) else (fv (b % 2 ^ 63) : Int)) ≤ (fv (2047 * 2 ^ 52 - 1) : Int) := by split <;> omega
    generalize (if decide (2 ^ 63 ≤ b) = true then -(fv (b % 2 ^ 63) : Int) else (fv (b % 2 ^ 63) : Int)) = x at *
    rcases Int.lt_or_eq_of_le h3 with h4 | h4
    · rw [Int.compare_eq_lt.2 h4]; rfl
    · rw [h4]; simp
  · rw [order_inf hb h maxw_lt (by rw [maxw_mod]; decide)]
    by_cases h1 : 2 ^ 63 ≤ b
    · rw [if_pos h1, decide_eq_false (by omega)]; rfl
    · rw [if_neg h1, decide_eq_true (by omega)]; rfl
  · rw [order_nan h, decide_eq_false (by intro e; rw [e] at h; omega)]
    rfl
theorem eq_self {b : Nat} (hb : b < 2 ^ 64) : (double.order b b == some .eq) = decide (b % 2 ^ 63 ≤ 2047 * 2 ^ 52) := by
  rcases Nat.lt_trichotomy (b % 2 ^ 63) (2047 * 2 ^ 52) with h | h | h
  · rw [order_num hb hb h h, decide_eq_true (show b % 2 ^ 63 ≤ 2047 * 2 ^ 52 by omega)]; simp
  · unfold Format.order
    rw [read_inf hb h, decide_eq_true (show b % 2 ^ 63 ≤ 2047 * 2 ^ 52 by omega)]
    simp [Datum.order]
  · rw [order_nan h, decide_eq_false (show ¬ b % 2 ^ 63 ≤ 2047 * 2 ^ 52 by omega)]; rfl

end Fl
end Go.Proofs.YtkmeckimmfbkiaaGreatDoor
namespace Go.Proofs.YtkmeckimmfbkiaaGreatDoor
/-- A value of the language without sharing. A dict's list: keys and values by turns. -/
inductive S where
  | none
  | bool (b : Bool)
  | int (x : Int)
  | float (f : Nat)
  | str (s : ByteArray)
  | bytes (s : ByteArray)
  | list (l : List S)
  | tuple (l : List S)
  | dict (l : List S)
  | set (l : List S)
/-- What a number is worth, in least floats; an infinity; or that it is no number. -/
inductive W where
  | num (n : Int)
  | inf (neg : Bool)
  | nan
  deriving DecidableEq
def unitF : Int := 2 ^ 1074
def wf (b : Nat) : W := if b % 2 ^ 63 < 2047 * 2 ^ 52 then .num (Fl.sv (decide (2 ^ 63 ≤ b)) (b % 2 ^ 63)) else if b % 2 ^ 63 = 2047 * 2 ^ 52 then .inf (decide (2 ^ 63 ≤ b)) else .nan
mutual
/-- Are two values equal? (Of dicts and sets nothing is told.) -/
def eqS : S → S → Bool
  | .none, .none => true
  | .bool a, .bool b => a == b
  | .int a, .int b => a == b
  | .int a, .float g => decide (W.num (a * unitF) = wf g)
  | .float f, .int b => decide (wf f = W.num (b * unitF))
  | .float f, .float g => decide (wf f = wf g)
  | .str a, .str b => decide (a = b)
  | .bytes a, .bytes b => decide (a = b)
  | .list a, .list b => eqL a b
  | .tuple a, .tuple b => eqL a b
  | _, _ => false
def eqL : List S → List S → Bool
  | [], [] => true
  | a :: l, b :: r => eqS a b && eqL l r
  | _, _ => false
end
mutual
theorem eqS_symm : ∀ s t : S, eqS s t = eqS t s
  | .none, t => by cases t <;> simp [eqS]
  | .bool a, t => by cases t <;> simp [eqS, Bool.beq_comm]
  | .int a, t => by cases t <;> simp [eqS, eq_comm, Bool.beq_comm]
  | .float f, t => by cases t <;> simp [eqS, eq_comm]
  | .str a, t => by cases t <;> simp [eqS, eq_comm]
  | .bytes a, t => by cases t <;> simp [eqS, eq_comm]
  | .list a, t => by
    cases t <;> simp only [eqS]
    exact eqL_symm a _
  | .tuple a, t => by
    cases t <;> simp only [eqS]
    exact eqL_symm a _
  | .dict a, t => by cases t <;> simp [eqS]
  | .set a, t => by cases t <;> simp [eqS]
theorem eqL_symm : ∀ s t : List S, eqL s t = eqL t s
  | [], t => by cases t <;> simp [eqL]
  | a :: l, [] => by simp [eqL]
  | a :: l, b :: r => by simp only [eqL]; rw [eqS_symm a b, eqL_symm l r]
end
theorem eqL_length : ∀ s t : List S, eqL s t = true → s.length = t.length
  | [], [], _ => rfl
  | a :: l, b :: r, h => by
    simp only [eqL, Bool.and_eq_true] at h
    simp [eqL_length l r h.2]
  | [], b :: r, h => by simp [eqL] at h
  | a :: l, [], h => by simp [eqL] at h
theorem eqL_of_ne : ∀ s t : List S, s.length ≠ t.length → eqL s t = false := fun s t h => by
  cases e : eqL s t
  · rfl
  · exact absurd (eqL_length s t e) h
/-- Element by element up to the k-th. -/
theorem eqL_take : ∀ (s t : List S) (k : Nat), k < s.length → s.length = t.length → ∀ a b, s[k]? = some a → t[k]? = some b → eqS a b = false → eqL s t = false
  | a :: l, b :: r, 0, _, _, x, y, hx, hy, h => by
    simp at hx hy
    subst hx hy
    simp [eqL, h]
  | a :: l, b :: r, k + 1, hk, hl, x, y, hx, hy, h => by
    simp at hk hl hx hy
    simp [eqL, eqL_take l r k hk hl x y hx hy h]
  | [], _, k, hk, _, _, _, _, _, _ => by simp at hk
  | a :: l, [], k, _, hl, _, _, _, _, _ => by simp at hl
theorem eqL_all : ∀ (s t : List S), s.length = t.length → (∀ (k : Nat) (a b : S), s[k]? = some a → t[k]? = some b → eqS a b = true) → eqL s t = true
  | [], [], _, _ => rfl
  | a :: l, b :: r, hl, h => by
    simp only [eqL, Bool.and_eq_true]
    exact ⟨h 0 a b rfl rfl, eqL_all l r (by simpa using hl) fun k x y hx hy => h (k + 1) x y (by simpa using hx) (by simpa using hy)⟩
  | [], b :: r, hl, _ => by simp at hl
  | a :: l, [], hl, _ => by simp at hl
mutual
/-- How many levels a value has. -/
def lev : S → Nat
  | .list l => levL l + 1
  | .tuple l => levL l + 1
  | .dict l => levL l + 1
  | .set l => levL l + 1
  | _ => 1
def levL : List S → Nat
  | [] => 0
  | a :: l => max (lev a) (levL l)
end
theorem lev_pos (s : S) : 0 < lev s := by cases s <;> simp [lev]
theorem lev_get : ∀ (l : List S) (k : Nat) (a : S), l[k]? = some a → lev a ≤ levL l
  | a :: l, 0, x, h => by simp at h; subst h; simp only [levL]; exact Nat.le_max_left _ _
  | a :: l, k + 1, x, h => by simp only [levL]; exact Nat.le_trans (lev_get l k x (by simpa using h)) (Nat.le_max_right _ _)
  | [], k, x, h => by simp at h
mutual
/-- Can a value be a key? -/
def keyS : S → Bool
  | .list _ => false
  | .dict _ => false
  | .set _ => false
  | .tuple l => keyL l
  | _ => true
def keyL : List S → Bool
  | [] => true
  | a :: l => keyS a && keyL l
end
theorem keyL_get : ∀ (l : List S) (k : Nat) (a : S), l[k]? = some a → keyL l = true → keyS a = true
  | a :: l, 0, x, h, hk => by simp at h; subst h; simp only [keyL, Bool.and_eq_true] at hk; exact hk.1
  | a :: l, k + 1, x, h, hk => by simp only [keyL, Bool.and_eq_true] at hk; exact keyL_get l k x (by simpa using h) hk.2
  | [], k, x, h, _ => by simp at h
end Go.Proofs.YtkmeckimmfbkiaaGreatDoor
namespace Go.Proofs.YtkmeckimmfbkiaaGreatDoor
namespace Fl
/-- What is left of an integer and a float's whole part, to the order of the two. -/
def cmpWhole (x w : Int) (all neg : Bool) : Ordering := if compare x w ≠ .eq ∨ all = true then compare x w else if neg then .gt else .lt
theorem cmp_lt {a b : Int} (h : a < b) : compare a b = .lt := by simp [compare, compareOfLessAndEq, h]
theorem cmp_gt {a b : Int} (h : b < a) : compare a b = .gt := by
  have h1 : ¬ a < b := by omega
  have h2 : ¬ a = b := by omega
  simp [compare, compareOfLessAndEq, h1, h2]
theorem cmp_eq {a b : Int} (h : a = b) : compare a b = .eq := by subst h; simp [compare, compareOfLessAndEq]
theorem whole_pos (x : Int) (m T : Nat) (hT : 0 < T) : cmpWhole x ((m / T : Nat) : Int) (m % T == 0) false = compare (x * T) (m : Int) := by
  have hm := Nat.div_add_mod m T
  have hr := Nat.mod_lt m hT
  generalize m / T = q at *
  generalize m % T = r at *
  have hmI : (m : Int) = T * q + r := by rw [← hm]; push_cast; rfl
  rw [hmI]
  unfold cmpWhole
  rcases Int.lt_trichotomy x q with h | h | h
  · have h1 : (x + 1) * T ≤ (q : Int) * T := Int.mul_le_mul_of_nonneg_right (by omega) (by omega)
    rw [Int.add_mul, Int.one_mul, Int.mul_comm (q : Int)] at h1
    rw [cmp_lt h, cmp_lt (show x * T < T * q + r by omega)]
    simp
  · subst h
    rw [cmp_eq rfl, Int.mul_comm (T : Int)]
    rcases Nat.eq_zero_or_pos r with h0 | h0
    · subst h0
      rw [cmp_eq (show (q : Int) * T = q * T + (0 : Nat) by omega)]
      simp
    · rw [cmp_lt (show (q : Int) * T < q * T + r by omega)]
      have : (r == 0) = false := by simp; omega
      simp [this]
  · have h1 : ((q : Int) + 1) * T ≤ x * T := Int.mul_le_mul_of_nonneg_right (by omega) (by omega)
    rw [Int.add_mul, Int.one_mul, Int.mul_comm (q : Int)] at h1
    rw [cmp_gt h, cmp_gt (show T * q + r < x * T by omega)]
    simp
theorem whole_neg (x : Int) (m T : Nat) (hT : 0 < T) : cmpWhole x (-((m / T : Nat) : Int)) (m % T == 0) true = compare (x * T) (-(m : Int)) := by
  have hm := Nat.div_add_mod m T
  have hr := Nat.mod_lt m hT
  generalize m / T = q at *
  generalize m % T = r at *
  have hmI : (m : Int) = T * q + r := by rw [← hm]; push_cast; rfl
  rw [hmI]
  unfold cmpWhole
  rcases Int.lt_trichotomy x (-q) with h | h | h
  · have h1 : (x + 1) * T ≤ (-(q : Int)) * T := Int.mul_le_mul_of_nonneg_right (by omega) (by omega)
    rw [Int.add_mul, Int.one_mul, Int.neg_mul, Int.mul_comm (q : Int)] at h1
    rw [cmp_lt h, cmp_lt (show x * T < -(T * q + r) by omega)]
    simp
  · subst h
    rw [cmp_eq rfl, Int.neg_mul, Int.mul_comm (T : Int)]
    rcases Nat.eq_zero_or_pos r with h0 | h0
    · subst h0
      rw [cmp_eq (show -((q : Int) * T) = -(q * T + (0 : Nat)) by omega)]
      simp
    · rw [cmp_gt (show -((q : Int) * T + r) < -((q : Int) * T) by omega)]
      have : (r == 0) = false := by simp; omega
      simp [this]
  · have h1 : (-(q : Int) + 1) * T ≤ x * T := Int.mul_le_mul_of_nonneg_right (by omega) (by omega)
    rw [Int.add_mul, Int.one_mul, Int.neg_mul, Int.mul_comm (q : Int)] at h1
    rw [cmp_gt h, cmp_gt (show -(T * q + r) < x * T by omega)]
    simp
end Fl
end Go.Proofs.YtkmeckimmfbkiaaGreatDoor
namespace Go.Proofs.YtkmeckimmfbkiaaGreatDoor
namespace Fl
theorem U_pos : (0 : Int) < unitF := by unfold unitF; exact Int.pow_pos (by decide)
/-- Crosswise: x/1 against a/b. -/
theorem cross_cmp (x A V b U : Int) (hb : 0 < b) (hU : 0 < U) (h : A * U = V * b) : compare (x * b) A = compare (x * U) V := by
  rcases Int.lt_trichotomy (x * U) V with h1 | h1 | h1
  · rw [cmp_lt h1]
    apply cmp_lt
    have h2 := Int.mul_lt_mul_of_pos_right h1 hb
    rw [← h, Int.mul_right_comm] at h2
    exact Int.lt_of_mul_lt_mul_right h2 (Int.le_of_lt hU)
  · rw [cmp_eq h1]
    apply cmp_eq
    have h2 : x * b * U = A * U := by rw [h, ← h1, Int.mul_right_comm]
    exact Int.eq_of_mul_eq_mul_right (by omega) h2
  · rw [cmp_gt h1]
    apply cmp_gt
    have h2 := Int.mul_lt_mul_of_pos_right h1 hb
    rw [← h, Int.mul_right_comm x U b] at h2
    exact Int.lt_of_mul_lt_mul_right h2 (Int.le_of_lt hU)
/-- A word is odd: its gcd with a power of two is 1. -/
theorem gcd_odd (m s : Nat) (hm : m % 2 = 1) : Nat.gcd m (2 ^ s) = 1 := by
  have h : Nat.Coprime (2 ^ s) m := Nat.Coprime.pow_left s (by
    rw [Nat.coprime_iff_gcd_eq_one, Nat.gcd_rec, hm]; rfl)
  rw [Nat.gcd_comm]
  exact h
/-- How a mantissa and its shift stand to the float's worth. -/
theorem half_worth (m p k s t : Nat) (hs : p + k + s = t) (m' : Nat) (hm : m' * 2 ^ k = m) : m' * 2 ^ t = m * 2 ^ p * 2 ^ s := by
  rw [← hm, ← hs, Nat.pow_add, Nat.pow_add]
  ac_rfl
theorem high_worth (m p t : Nat) (hp : t ≤ p) : m * 2 ^ (p - t) * 2 ^ t = m * 2 ^ p * 1 := by
  rw [Nat.mul_one, Nat.mul_assoc, ← Nat.pow_add, Nat.sub_add_cancel hp]
theorem gcd_step (a b : Nat) : Nat.gcd a b = Nat.gcd b (a % b) := by
  rw [Nat.gcd_comm a b, Nat.gcd_rec b a, Nat.gcd_comm]
/-- An order as Go tells it. -/
def ordI : Ordering → Int
  | .lt => -1
  | .eq => 0
  | .gt => 1
/-- The language's order of numbers: what is no number is equal to itself, and above all others. -/
def cmpW : W → W → Int
  | .num a, .num b => ordI (compare a b)
  | .num _, .inf neg => if neg then 1 else -1
  | .inf neg, .num _ => if neg then -1 else 1
  | .inf a, .inf b => if a = b then 0 else if a then -1 else 1
  | .nan, .nan => 0
  | .nan, _ => 1
  | _, .nan => -1
theorem ordI_zero (o : Ordering) : ordI o = 0 ↔ o = .eq := by cases o <;> simp [ordI]
theorem cmpW_zero (a b : W) : cmpW a b = 0 ↔ a = b := by
  cases a with
  | num x =>
    cases b with
    | num y => simp [cmpW, ordI_zero]
    | inf m => cases m <;> simp [cmpW]
    | nan => simp [cmpW]
  | inf n =>
    cases b with
    | num y => cases n <;> simp [cmpW]
    | inf m => cases n <;> cases m <;> simp [cmpW]
    | nan => simp [cmpW]
  | nan => cases b <;> simp [cmpW]
theorem cmpW_swap (a b : W) : cmpW b a = - cmpW a b := by
  cases a with
  | num x =>
    cases b with
    | num y =>
      rcases Int.lt_trichotomy x y with h | h | h
      · simp [cmpW, cmp_lt h, cmp_gt h, ordI]
      · subst h; simp [cmpW, ordI]
      · simp [cmpW, cmp_lt h, cmp_gt h, ordI]
    | inf n => cases n <;> simp [cmpW]
    | nan => simp [cmpW]
  | inf n =>
    cases b with
    | num y => cases n <;> simp [cmpW]
    | inf m => cases n <;> cases m <;> simp [cmpW]
    | nan => simp [cmpW]
  | nan => cases b <;> simp [cmpW]
end Fl
end Go.Proofs.YtkmeckimmfbkiaaGreatDoor
namespace Go.Proofs.YtkmeckimmfbkiaaGreatDoor
open Go Ieee
namespace Fl
theorem two_pows (p t : Nat) (h : 52 + p = 63 + t) : 2 ^ 52 * 2 ^ p = 2 ^ 63 * 2 ^ t := by rw [← Nat.pow_add, ← Nat.pow_add, h]
theorem cast_pow (t : Nat) : ((2 ^ t : Nat) : Int) = (2 : Int) ^ t := by rw [Int.natCast_pow]; rfl
theorem unitF_cast : unitF = ((2 ^ 1074 : Nat) : Int) := (cast_pow 1074).symm
theorem fv_bound : fv 4890909195324358656 = 2 ^ 63 * 2 ^ 1074 := by
  unfold fv
  rw [show mOf 4890909195324358656 = 2 ^ 52 by decide, show pOf 4890909195324358656 = 1085 by decide]
  exact two_pows 1085 1074 rfl
/-- Cut towards zero: how far it reaches. -/
def cutN (r : Nat) : Nat := (mOf r <<< (-1074 + (pOf r : Int)).toNat) / 1 <<< min (-(-1074 + (pOf r : Int))).toNat ((mOf r <<< (-1074 + (pOf r : Int)).toNat).log2 + 2)
theorem cut_min (x s : Nat) : x / 1 <<< min s (x.log2 + 2) = x / 2 ^ s := by
  rw [Nat.shiftLeft_eq, Nat.one_mul]
  rcases Nat.le_total s (x.log2 + 2) with h | h
  · rw [Nat.min_eq_left h]
  · rw [Nat.min_eq_right h]
    have h1 : x < 2 ^ (x.log2 + 1) := Nat.lt_log2_self
    have h2 : 2 ^ (x.log2 + 1) ≤ 2 ^ (x.log2 + 2) := Nat.pow_le_pow_right (by decide) (by omega)
    have h3 : 2 ^ (x.log2 + 2) ≤ 2 ^ s := Nat.pow_le_pow_right (by decide) h
    rw [Nat.div_eq_of_lt (by omega), Nat.div_eq_of_lt (by omega)]
theorem cutN_le (r t : Nat) (ht : t = 1074) : cutN r * 2 ^ t ≤ fv r := by
  unfold cutN fv
  rw [cut_min]
  rcases Nat.lt_or_ge (pOf r) t with h | h
  · obtain ⟨k, hk⟩ : ∃ k, pOf r + k = t := ⟨t - pOf r, by omega⟩
    rw [show (-1074 + (pOf r : Int)).toNat = 0 by omega, show (-(-1074 + (pOf r : Int))).toNat = k by omega, Nat.shiftLeft_zero, ← hk, Nat.pow_add, Nat.mul_comm (2 ^ pOf r), ← Nat.mul_assoc]
    exact Nat.mul_le_mul_right _ (Nat.div_mul_le_self _ _)
  · obtain ⟨k, hk⟩ : ∃ k, pOf r = t + k := ⟨pOf r - t, by omega⟩
    rw [show (-1074 + (pOf r : Int)).toNat = k by omega, show (-(-1074 + (pOf r : Int))).toNat = 0 by omega, Nat.pow_zero, Nat.div_one, Nat.shiftLeft_eq, hk, Nat.pow_add, Nat.mul_assoc, Nat.mul_comm (2 ^ k)]
    exact Nat.le_refl _
theorem conv_eq {b : Nat} (hb : b < 2 ^ 64) (hf : b % 2 ^ 63 < 2047 * 2 ^ 52) : (FloatKind.f64.decode b).toInt .zero = some (if 2 ^ 63 ≤ b then -(cutN (b % 2 ^ 63) : Int) else (cutN (b % 2 ^ 63) : Int)) := by
  show (Ieee.double.read b).toInt .zero = _
  rw [read_num hb hf]
  unfold Datum.toInt Datum.integral
  simp only [Toward.cut, signed, Nat.shiftLeft_zero]
  unfold cutN
  by_cases h : 2 ^ 63 ≤ b
  · simp only [h, decide_true, if_true]
    congr 3
  · simp only [h, decide_false, Bool.false_eq_true, if_false]
    congr 2
/-- Between -2^63 and 2^63 a float is cut to an int64. -/
theorem conv_fits {b t : Nat} (ht : t = 1074) (hb : b < 2 ^ 64) (hf : b % 2 ^ 63 < 2047 * 2 ^ 52) (h1 : fv (b % 2 ^ 63) < 2 ^ 63 * 2 ^ t ∨ (2 ^ 63 ≤ b ∧ fv (b % 2 ^ 63) ≤ 2 ^ 63 * 2 ^ t)) :
    ∃ n : Int, floatToIntVal .f64 b .i64 = some n ∧ -9223372036854775808 ≤ n ∧ n < 9223372036854775808 := by
  have hc := cutN_le (b % 2 ^ 63) t ht
  have hle : cutN (b % 2 ^ 63) < 2 ^ 63 ∨ (2 ^ 63 ≤ b ∧ cutN (b % 2 ^ 63) ≤ 2 ^ 63) := by
    rcases h1 with h | ⟨h, h'⟩
    · exact .inl (Nat.lt_of_mul_lt_mul_right (Nat.lt_of_le_of_lt hc h))
    · exact .inr ⟨h, Nat.le_of_mul_le_mul_right (Nat.le_trans hc h') (Nat.pow_pos (by decide))⟩
  unfold floatToIntVal
  rw [conv_eq hb hf]
  generalize cutN (b % 2 ^ 63) = k at *
  have e1 : IntKind.i64.min = -9223372036854775808 := by decide
  have e2 : IntKind.i64.max = 9223372036854775807 := by decide
  clear hc h1
  by_cases h : 2 ^ 63 ≤ b
  · simp only [h, if_true]
    rw [if_pos (by rw [e1, e2]; omega)]
    exact ⟨_, rfl, by omega, by omega⟩
  · simp only [h, if_false]
    rw [if_pos (by rw [e1, e2]; omega)]
    exact ⟨_, rfl, by omega, by omega⟩
theorem fv_high (r t : Nat) (h : 2 ^ 63 * 2 ^ t ≤ fv r) : t ≤ pOf r ∧ 0 < mOf r := by
  have hm : mOf r < 2 ^ 53 := by unfold mOf; split <;> omega
  constructor
  · rcases Nat.lt_or_ge (pOf r) t with h1 | h1
    · exfalso
      have h2 : mOf r * 2 ^ pOf r < 2 ^ 63 * 2 ^ t :=
        Nat.lt_of_lt_of_le (Nat.mul_lt_mul_of_pos_right hm (Nat.pow_pos (by decide))) (Nat.mul_le_mul (by decide) (Nat.pow_le_pow_right (by decide) (Nat.le_of_lt h1)))
      unfold fv at h
      omega
    · exact h1
  · rcases Nat.eq_zero_or_pos (mOf r) with h1 | h1
    · exfalso
      unfold fv at h
      rw [h1, Nat.zero_mul] at h
      have := Nat.mul_pos (show 0 < 2 ^ 63 by decide) (Nat.pow_pos (n := t) (show 0 < 2 by decide))
      omega
    · exact h1
/-- The two tests ahead of the cut. -/
def inRange (b : Nat) : Bool := (FloatKind.f64.format.order 14114281232179134464 b == some .lt || FloatKind.f64.format.order 14114281232179134464 b == some .eq) && FloatKind.f64.format.order b 4890909195324358656 == some .lt
theorem order_lo {b t : Nat} (ht : 2 ^ 52 * 2 ^ 1085 = 2 ^ 63 * 2 ^ t) (hb : b < 2 ^ 64) (hf : b % 2 ^ 63 < 2047 * 2 ^ 52) : FloatKind.f64.format.order 14114281232179134464 b = some (compare (-((2 ^ 63 * 2 ^ t : Nat) : Int)) (sv (decide (2 ^ 63 ≤ b)) (b % 2 ^ 63))) := by
  show Ieee.double.order 14114281232179134464 b = _
  rw [order_num (by decide) hb (by decide) hf]
  have e : sv (decide (2 ^ 63 ≤ 14114281232179134464)) (14114281232179134464 % 2 ^ 63) = -((2 ^ 63 * 2 ^ t : Nat) : Int) := by
    rw [show decide (2 ^ 63 ≤ 14114281232179134464) = true by decide, show 14114281232179134464 % 2 ^ 63 = 4890909195324358656 by decide]
    unfold sv fv
    rw [show mOf 4890909195324358656 = 2 ^ 52 by decide, show pOf 4890909195324358656 = 1085 by decide, ht, if_pos rfl]
  rw [e]
theorem order_hi {b t : Nat} (ht : 2 ^ 52 * 2 ^ 1085 = 2 ^ 63 * 2 ^ t) (hb : b < 2 ^ 64) (hf : b % 2 ^ 63 < 2047 * 2 ^ 52) : FloatKind.f64.format.order b 4890909195324358656 = some (compare (sv (decide (2 ^ 63 ≤ b)) (b % 2 ^ 63)) ((2 ^ 63 * 2 ^ t : Nat) : Int)) := by
  show Ieee.double.order b 4890909195324358656 = _
  rw [order_num hb (by decide) hf (by decide)]
  have e : sv (decide (2 ^ 63 ≤ 4890909195324358656)) (4890909195324358656 % 2 ^ 63) = ((2 ^ 63 * 2 ^ t : Nat) : Int) := by
    rw [show decide (2 ^ 63 ≤ 4890909195324358656) = false by decide, show 4890909195324358656 % 2 ^ 63 = 4890909195324358656 by decide]
    unfold sv fv
    rw [show mOf 4890909195324358656 = 2 ^ 52 by decide, show pOf 4890909195324358656 = 1085 by decide, ht, if_neg (by decide)]
  rw [e]
theorem inRange_true {b t : Nat} (ht : 2 ^ 52 * 2 ^ 1085 = 2 ^ 63 * 2 ^ t) (hb : b < 2 ^ 64) (hf : b % 2 ^ 63 < 2047 * 2 ^ 52) (h : inRange b = true) : fv (b % 2 ^ 63) < 2 ^ 63 * 2 ^ t ∨ (2 ^ 63 ≤ b ∧ fv (b % 2 ^ 63) ≤ 2 ^ 63 * 2 ^ t) := by
  unfold inRange at h
  rw [order_lo ht hb hf, order_hi ht hb hf] at h
  unfold sv at h
  generalize 2 ^ 63 * 2 ^ t = T at *
  generalize fv (b % 2 ^ 63) = F at *
  by_cases hn : 2 ^ 63 ≤ b
  · rw [decide_eq_true hn, if_pos rfl] at h
    refine .inr ⟨hn, ?_⟩
    rcases Nat.lt_or_ge T F with h1 | h1
    · rw [cmp_gt (show -(F : Int) < -(T : Int) by omega)] at h
      simp at h
    · exact h1
  · rw [decide_eq_false hn, if_neg (by decide)] at h
    refine .inl ?_
    rcases Nat.lt_trichotomy F T with h1 | h1 | h1
    · exact h1
    · rw [cmp_eq (show (F : Int) = (T : Int) by omega)] at h
      simp at h
    · rw [cmp_gt (show (T : Int) < (F : Int) by omega)] at h
      simp at h
theorem inRange_false {b t : Nat} (ht : 2 ^ 52 * 2 ^ 1085 = 2 ^ 63 * 2 ^ t) (hb : b < 2 ^ 64) (hf : b % 2 ^ 63 < 2047 * 2 ^ 52) (h : inRange b = false) : 2 ^ 63 * 2 ^ t ≤ fv (b % 2 ^ 63) := by
  unfold inRange at h
  rw [order_lo ht hb hf, order_hi ht hb hf] at h
  unfold sv at h
  generalize 2 ^ 63 * 2 ^ t = T at *
  generalize fv (b % 2 ^ 63) = F at *
  rcases Nat.lt_or_ge F T with h1 | h1
  · exfalso
    by_cases hn : 2 ^ 63 ≤ b
    · rw [decide_eq_true hn, if_pos rfl, cmp_lt (show -(T : Int) < -(F : Int) by omega), cmp_lt (show -(F : Int) < (T : Int) by omega)] at h
      simp at h
    · rw [decide_eq_false hn, if_neg (by decide), cmp_lt (show -(T : Int) < (F : Int) by omega), cmp_lt (show (F : Int) < (T : Int) by omega)] at h
      simp at h
  · exact h1
theorem pows_t : 2 ^ 52 * 2 ^ 1085 = 2 ^ 63 * 2 ^ 1074 := two_pows 1085 1074 rfl
theorem conv_in {b : Nat} (hb : b < 2 ^ 64) (hf : b % 2 ^ 63 < 2047 * 2 ^ 52) (h : inRange b = true) : ∃ n : Int, floatToIntVal .f64 b .i64 = some n ∧ -9223372036854775808 ≤ n ∧ n < 9223372036854775808 :=
  conv_fits (t := 1074) rfl hb hf (inRange_true (t := 1074) pows_t hb hf h)
theorem conv_out {b : Nat} (hb : b < 2 ^ 64) (hf : b % 2 ^ 63 < 2047 * 2 ^ 52) (h : inRange b = false) : 1074 ≤ pOf (b % 2 ^ 63) ∧ 0 < mOf (b % 2 ^ 63) :=
  fv_high _ 1074 (inRange_false (t := 1074) pows_t hb hf h)
theorem num_pos {d a p m t : Nat} (h : a * 2 ^ t = m * 2 ^ p * d) (hm : 0 < m) (hd : 0 < d) : 0 < a := by
  rcases Nat.eq_zero_or_pos a with h0 | h0
  · exfalso
    rw [h0, Nat.zero_mul] at h
    have := Nat.mul_pos (Nat.mul_pos hm (Nat.pow_pos (n := p) (show 0 < 2 by decide))) hd
    omega
  · exact h0
end Fl
end Go.Proofs.YtkmeckimmfbkiaaGreatDoor
namespace Go.Proofs.YtkmeckimmfbkiaaGreatDoor
/-- Digits, the lowest one first. -/
def leV : List Nat → Nat
  | [] => 0
  | a :: l => a + 256 * leV l
theorem leV_zeros (n : Nat) : leV (List.replicate n 0) = 0 := by
  induction n with
  | zero => rfl
  | succ n ih => simp [List.replicate_succ, leV, ih]
theorem leV_set : ∀ (ds : List Nat) (j v d : Nat), ds[j]? = some d → leV (ds.set j v) + 256 ^ j * d = leV ds + 256 ^ j * v
  | [], j, v, d, h => by simp at h
  | a :: l, 0, v, d, h => by
    simp at h
    subst h
    simp [leV]
    omega
  | a :: l, j + 1, v, d, h => by
    simp at h
    have ih := leV_set l j v d h
    simp only [List.set_cons_succ, leV, Nat.pow_succ]
    have e1 : 256 ^ j * 256 * d = 256 * (256 ^ j * d) := by ac_rfl
    have e2 : 256 ^ j * 256 * v = 256 * (256 ^ j * v) := by ac_rfl
    rw [e1, e2]
    omega
/-- One digit more: the sum, its low digit set down, the rest carried on. -/
theorem leV_step (ds : List Nat) (j d p c s : Nat) (hd : ds[j]? = some d) (hs : s = d + p + c) :
    leV (ds.set j (s % 256)) + 256 ^ (j + 1) * (s / 256) = leV ds + 256 ^ j * (p + c) := by
  have h := leV_set ds j (s % 256) d hd
  have h2 : 256 ^ (j + 1) * (s / 256) = 256 ^ j * (256 * (s / 256)) := by rw [Nat.pow_succ]; ac_rfl
  rw [h2]
  have h3 : 256 ^ j * (s % 256) + 256 ^ j * (256 * (s / 256)) = 256 ^ j * s := by
    rw [← Nat.mul_add]; congr 1; omega
  have h4 : 256 ^ j * s = 256 ^ j * d + 256 ^ j * (p + c) := by rw [← Nat.mul_add]; congr 1; omega
  omega
theorem leV_append (l r : List Nat) : leV (l ++ r) = leV l + 256 ^ l.length * leV r := by
  induction l with
  | nil => simp [leV]
  | cons a l ih =>
    simp only [List.cons_append, leV, ih, List.length_cons, Nat.pow_succ]
    rw [Nat.mul_add, ← Nat.mul_assoc, Nat.mul_comm 256 (256 ^ l.length)]
    omega
theorem leV_lt (l : List Nat) (h : ∀ x ∈ l, x < 256) : leV l < 256 ^ l.length := by
  induction l with
  | nil => simp [leV]
  | cons a l ih =>
    have h1 := h a (by simp)
    have h2 := ih fun x hx => h x (by simp [hx])
    simp only [leV, List.length_cons, Nat.pow_succ]
    omega
theorem leV_take_succ (l : List Nat) (k d : Nat) (h : l[k]? = some d) : leV (l.take (k + 1)) = leV (l.take k) + 256 ^ k * d := by
  have hk : k < l.length := by
    rcases Nat.lt_or_ge k l.length with h1 | h1
    · exact h1
    · rw [List.getElem?_eq_none h1] at h; cases h
  rw [List.take_add_one, h, Option.toList_some, leV_append, List.length_take, Nat.min_eq_left (by omega)]
  simp [leV]
/-- A number is small: its high digits are zero. -/
theorem leV_high (l : List Nat) (k : Nat) (h : leV l < 256 ^ k) : ∀ j d, k ≤ j → l[j]? = some d → d = 0 := by
  induction l generalizing k with
  | nil => intro j d _ hd; simp at hd
  | cons a l ih =>
    intro j d hj hd
    rcases k with _ | k
    · simp only [leV, Nat.pow_zero] at h
      have h1 : a = 0 := by omega
      have h2 : leV l = 0 := by omega
      rcases j with _ | j
      · simp at hd; omega
      · simp at hd
        exact ih 0 (by rw [h2]; decide) j d (by omega) hd
    · rcases j with _ | j
      · omega
      · simp at hd
        refine ih k ?_ j d (by omega) hd
        simp only [leV, Nat.pow_succ] at h
        omega
end Go.Proofs.YtkmeckimmfbkiaaGreatDoor
namespace Go.Proofs.YtkmeckimmfbkiaaGreatDoor.Fl
open Go Ieee
/-- An order of floats as the machine tells it. -/
def ordW : W → W → Option Ordering
  | .num a, .num b => some (compare a b)
  | .num _, .inf n => some (if n then .gt else .lt)
  | .inf n, .num _ => some (if n then .lt else .gt)
  | .inf a, .inf b => some (if a = b then .eq else if a then .lt else .gt)
  | _, _ => none
theorem wf_num {b : Nat} (h : b % 2 ^ 63 < 2047 * 2 ^ 52) : wf b = .num (sv (decide (2 ^ 63 ≤ b)) (b % 2 ^ 63)) := if_pos h
theorem wf_inf {b : Nat} (h : b % 2 ^ 63 = 2047 * 2 ^ 52) : wf b = .inf (decide (2 ^ 63 ≤ b)) := by unfold wf; rw [if_neg (by omega), if_pos h]
theorem wf_nan {b : Nat} (h : 2047 * 2 ^ 52 < b % 2 ^ 63) : wf b = .nan := by unfold wf; rw [if_neg (by omega), if_neg (by omega)]
theorem order_wf {b c : Nat} (hb : b < 2 ^ 64) (hc : c < 2 ^ 64) : Ieee.double.order b c = ordW (wf b) (wf c) := by
  rcases Nat.lt_trichotomy (b % 2 ^ 63) (2047 * 2 ^ 52) with h1 | h1 | h1
  · rcases Nat.lt_trichotomy (c % 2 ^ 63) (2047 * 2 ^ 52) with h2 | h2 | h2
    · rw [wf_num h1, wf_num h2, order_num hb hc h1 h2]; rfl
    · rw [wf_num h1, wf_inf h2]
      unfold Format.order
      rw [read_num hb h1, read_inf hc h2]
      generalize decide (2 ^ 63 ≤ c) = n
      cases n <;> rfl
    · rw [wf_num h1, wf_nan h2]
      obtain ⟨s, f, h⟩ := read_nan h2
      unfold Format.order
      rw [read_num hb h1, h]
      rfl
  · rcases Nat.lt_trichotomy (c % 2 ^ 63) (2047 * 2 ^ 52) with h2 | h2 | h2
    · rw [wf_inf h1, wf_num h2]
      unfold Format.order
      rw [read_inf hb h1, read_num hc h2]
      generalize decide (2 ^ 63 ≤ b) = n
      cases n <;> rfl
    · rw [wf_inf h1, wf_inf h2]
      unfold Format.order
      rw [read_inf hb h1, read_inf hc h2]
      generalize decide (2 ^ 63 ≤ b) = n
      generalize decide (2 ^ 63 ≤ c) = m
      cases n <;> cases m <;> rfl
    · rw [wf_inf h1, wf_nan h2]
      obtain ⟨s, f, h⟩ := read_nan h2
      unfold Format.order
      rw [read_inf hb h1, h]
      rfl
  · rw [wf_nan h1, order_nan h1]
    generalize wf c = C
    cases C <;> rfl
/-- What floatCmp tells, case by case. -/
theorem cmp_cases {b c : Nat} (hb : b < 2 ^ 64) (hc : c < 2 ^ 64) :
    ((Ieee.double.order b c == some .gt) = true ∧ cmpW (wf b) (wf c) = 1) ∨
    ((Ieee.double.order b c == some .gt) = false ∧ (Ieee.double.order b c == some .lt) = true ∧ cmpW (wf b) (wf c) = -1) ∨
    ((Ieee.double.order b c == some .gt) = false ∧ (Ieee.double.order b c == some .lt) = false ∧ (Ieee.double.order b c == some .eq) = true ∧ cmpW (wf b) (wf c) = 0) ∨
    ((Ieee.double.order b c == some .gt) = false ∧ (Ieee.double.order b c == some .lt) = false ∧ (Ieee.double.order b c == some .eq) = false ∧ (Ieee.double.order b b == some .eq) = true ∧ cmpW (wf b) (wf c) = -1) ∨
    ((Ieee.double.order b c == some .gt) = false ∧ (Ieee.double.order b c == some .lt) = false ∧ (Ieee.double.order b c == some .eq) = false ∧ (Ieee.double.order b b == some .eq) = false ∧ (Ieee.double.order c c == some .eq) = true ∧ cmpW (wf b) (wf c) = 1) ∨
    ((Ieee.double.order b c == some .gt) = false ∧ (Ieee.double.order b c == some .lt) = false ∧ (Ieee.double.order b c == some .eq) = false ∧ (Ieee.double.order b b == some .eq) = false ∧ (Ieee.double.order c c == some .eq) = false ∧ cmpW (wf b) (wf c) = 0) := by
  rw [order_wf hb hc, order_wf hb hb, order_wf hc hc]
  generalize wf b = B
  generalize wf c = C
  cases B with
  | num x =>
    cases C with
    | num y =>
      rcases Int.lt_trichotomy x y with h | h | h
      · simp [ordW, cmpW, cmp_lt h, ordI]
      · subst h; simp [ordW, cmpW, ordI]
      · simp [ordW, cmpW, cmp_gt h, ordI]
    | inf m => cases m <;> simp [ordW, cmpW]
    | nan => simp [ordW, cmpW]
  | inf n =>
    cases C with
    | num y => cases n <;> simp [ordW, cmpW]
    | inf m => cases n <;> cases m <;> simp [ordW, cmpW]
    | nan => cases n <;> simp [ordW, cmpW]
  | nan =>
    cases C with
    | num y => simp [ordW, cmpW]
    | inf m => cases m <;> simp [ordW, cmpW]
    | nan => simp [ordW, cmpW]
end Go.Proofs.YtkmeckimmfbkiaaGreatDoor.Fl
namespace Go.Proofs.YtkmeckimmfbkiaaGreatDoor
/-- Each step-th can be a key. -/
def keysK (step : Nat) (l : List S) : Prop := ∀ i a, l[step * i]? = some a → keyS a = true
/-- No two of each step-th are equal. -/
def distK (step : Nat) (l : List S) : Prop := ∀ i j a b, i < j → l[step * i]? = some a → l[step * j]? = some b → eqS a b = false
mutual
/-- As Clean makes it. -/
def good : S → Prop
  | .int x => x.natAbs < 256 ^ 40
  | .list l => l.length ≤ 16 ∧ goodL l
  | .tuple l => l.length ≤ 16 ∧ goodL l
  | .dict l => l.length ≤ 16 ∧ l.length % 2 = 0 ∧ keysK 2 l ∧ distK 2 l ∧ goodL l
  | .set l => l.length ≤ 8 ∧ keysK 1 l ∧ distK 1 l ∧ goodL l
  | _ => True
def goodL : List S → Prop
  | [] => True
  | a :: l => good a ∧ goodL l
end
theorem goodL_get : ∀ (l : List S) (k : Nat) (a : S), l[k]? = some a → goodL l → good a
  | a :: l, 0, x, h, hk => by simp at h; subst h; exact hk.1
  | a :: l, k + 1, x, h, hk => goodL_get l k x (by simpa using h) hk.2
  | [], k, x, h, _ => by simp at h
theorem goodL_snoc : ∀ (l : List S) (a : S), goodL l → good a → goodL (l ++ [a])
  | [], _, _, h => ⟨h, trivial⟩
  | _b :: l, a, h, h2 => ⟨h.1, goodL_snoc l a h.2 h2⟩
theorem levL_snoc : ∀ (l : List S) (a : S) (n : Nat), levL l ≤ n → lev a ≤ n → levL (l ++ [a]) ≤ n
  | [], a, n, _, h => by simp only [List.nil_append, levL]; omega
  | b :: l, a, n, h, h2 => by
    simp only [List.cons_append, levL] at h ⊢
    have := levL_snoc l a n (by omega) h2
    omega
theorem keysK_nil (k : Nat) : keysK k [] := fun _ _ h => by simp at h
theorem distK_nil (k : Nat) : distK k [] := fun _ _ _ _ _ h => by simp at h
theorem keysK_one (l : List S) (k : S) (h : keysK 1 l) (hk : keyS k = true) : keysK 1 (l ++ [k]) := by
  intro i a ha
  rw [List.getElem?_append] at ha
  split at ha
  · exact h i a ha
  · have : 1 * i - l.length = 0 := by
      rcases Nat.eq_zero_or_pos (1 * i - l.length) with h0 | h0
      · exact h0
      · rw [List.getElem?_eq_none (by simp; omega)] at ha; cases ha
    rw [this] at ha
    simp at ha
    subst ha
    exact hk
theorem distK_one (l : List S) (k : S) (h : distK 1 l) (hk : ∀ i a, l[1 * i]? = some a → eqS a k = false) : distK 1 (l ++ [k]) := by
  intro i j a b hij ha hb
  have hj : 1 * j ≤ l.length := by
    rcases Nat.lt_or_ge l.length (1 * j) with h0 | h0
    · rw [List.getElem?_eq_none (by simp; omega)] at hb; cases hb
    · exact h0
  have hi : 1 * i < l.length := by omega
  rw [List.getElem?_append_left hi] at ha
  rcases Nat.lt_or_ge (1 * j) l.length with h0 | h0
  · rw [List.getElem?_append_left h0] at hb
    exact h i j a b hij ha hb
  · rw [List.getElem?_append_right h0, show 1 * j - l.length = 0 by omega] at hb
    simp at hb
    subst hb
    exact hk i a ha
theorem keysK_two (l : List S) (k v : S) (he : l.length % 2 = 0) (h : keysK 2 l) (hk : keyS k = true) : keysK 2 (l ++ [k, v]) := by
  intro i a ha
  rw [List.getElem?_append] at ha
  split at ha
  · exact h i a ha
  · have : 2 * i - l.length = 0 := by
      rcases Nat.eq_zero_or_pos (2 * i - l.length) with h0 | h0
      · exact h0
      · rw [List.getElem?_eq_none (by simp; omega)] at ha; cases ha
    rw [this] at ha
    simp at ha
    subst ha
    exact hk
theorem distK_two (l : List S) (k v : S) (he : l.length % 2 = 0) (h : distK 2 l) (hk : ∀ i a, l[2 * i]? = some a → eqS a k = false) : distK 2 (l ++ [k, v]) := by
  intro i j a b hij ha hb
  have hj : 2 * j ≤ l.length := by
    rcases Nat.lt_or_ge l.length (2 * j) with h0 | h0
    · rw [List.getElem?_eq_none (by simp; omega)] at hb; cases hb
    · exact h0
  have hi : 2 * i < l.length := by omega
  rw [List.getElem?_append_left hi] at ha
  rcases Nat.lt_or_ge (2 * j) l.length with h0 | h0
  · rw [List.getElem?_append_left h0] at hb
    exact h i j a b hij ha hb
  · rw [List.getElem?_append_right h0, show 2 * j - l.length = 0 by omega] at hb
    simp at hb
    subst hb
    exact hk i a ha
mutual
/-- What Key makes of a value. -/
def keyOf : S → S
  | .list l => .tuple (keyOfL l)
  | .tuple l => .tuple (keyOfL l)
  | .dict l => .tuple (keyOfL l)
  | .set l => .tuple (keyOfL l)
  | .none => .none
  | .bool b => .bool b
  | .int x => .int x
  | .float f => .float f
  | .str s => .str s
  | .bytes s => .bytes s
def keyOfL : List S → List S
  | [] => []
  | a :: l => keyOf a :: keyOfL l
end
theorem keyOfL_len : ∀ l : List S, (keyOfL l).length = l.length
  | [] => rfl
  | a :: l => by simp [keyOfL, keyOfL_len l]
theorem keyOfL_get : ∀ (l : List S) (k : Nat) (a : S), l[k]? = some a → (keyOfL l)[k]? = some (keyOf a)
  | a :: l, 0, x, h => by simp at h; subst h; simp [keyOfL]
  | a :: l, k + 1, x, h => by simpa [keyOfL] using keyOfL_get l k x (by simpa using h)
  | [], k, x, h => by simp at h
theorem keyOfL_take (l : List S) (k : Nat) (a : S) (h : l[k]? = some a) : keyOfL (l.take (k + 1)) = keyOfL (l.take k) ++ [keyOf a] := by
  rw [List.take_add_one, h, Option.toList_some]
  generalize l.take k = r
  induction r with
  | nil => simp [keyOfL]
  | cons b r ih => simp [keyOfL, ih]
mutual
theorem keyS_keyOf : ∀ s : S, keyS (keyOf s) = true
  | .none => rfl
  | .bool _ => rfl
  | .int _ => rfl
  | .float _ => rfl
  | .str _ => rfl
  | .bytes _ => rfl
  | .list l => by simp only [keyOf, keyS]; exact keyL_keyOf l
  | .tuple l => by simp only [keyOf, keyS]; exact keyL_keyOf l
  | .dict l => by simp only [keyOf, keyS]; exact keyL_keyOf l
  | .set l => by simp only [keyOf, keyS]; exact keyL_keyOf l
theorem keyL_keyOf : ∀ l : List S, keyL (keyOfL l) = true
  | [] => rfl
  | a :: l => by simp only [keyOfL, keyL, Bool.and_eq_true]; exact ⟨keyS_keyOf a, keyL_keyOf l⟩
end
mutual
theorem lev_keyOf : ∀ s : S, lev (keyOf s) = lev s
  | .none => rfl
  | .bool _ => rfl
  | .int _ => rfl
  | .float _ => rfl
  | .str _ => rfl
  | .bytes _ => rfl
  | .list l => by simp only [keyOf, lev]; rw [levL_keyOf l]
  | .tuple l => by simp only [keyOf, lev]; rw [levL_keyOf l]
  | .dict l => by simp only [keyOf, lev]; rw [levL_keyOf l]
  | .set l => by simp only [keyOf, lev]; rw [levL_keyOf l]
theorem levL_keyOf : ∀ l : List S, levL (keyOfL l) = levL l
  | [] => rfl
  | a :: l => by simp only [keyOfL, levL]; rw [lev_keyOf a, levL_keyOf l]
end
mutual
theorem good_keyOf : ∀ s : S, good s → good (keyOf s)
  | .none, h => h
  | .bool _, h => h
  | .int _, h => h
  | .float _, h => h
  | .str _, h => h
  | .bytes _, h => h
  | .list l, h => by
    simp only [good] at h
    simp only [keyOf, good, keyOfL_len]
    exact ⟨h.1, goodL_keyOf l h.2⟩
  | .tuple l, h => by
    simp only [good] at h
    simp only [keyOf, good, keyOfL_len]
    exact ⟨h.1, goodL_keyOf l h.2⟩
  | .dict l, h => by
    simp only [good] at h
    simp only [keyOf, good, keyOfL_len]
    exact ⟨h.1, goodL_keyOf l h.2.2.2.2⟩
  | .set l, h => by
    simp only [good] at h
    simp only [keyOf, good, keyOfL_len]
    exact ⟨by omega, goodL_keyOf l h.2.2.2⟩
theorem goodL_keyOf : ∀ l : List S, goodL l → goodL (keyOfL l)
  | [], _ => trivial
  | a :: l, h => ⟨good_keyOf a h.1, goodL_keyOf l h.2⟩
end
end Go.Proofs.YtkmeckimmfbkiaaGreatDoor
