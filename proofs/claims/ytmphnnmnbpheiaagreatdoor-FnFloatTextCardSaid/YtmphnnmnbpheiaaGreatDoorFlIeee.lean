/- Words of the double format as rungs: what they stand for, how they compare, what is written. -/
import Derived.Test.YtmphnnmnbpheiaaGreatDoorFlRung
import GoSem.Core.Float
namespace Go.Proofs.YtmphnnmnbpheiaaGreatDoor
namespace Fl
open Ieee

/-- A rung's significand and the place of its last digit. -/
def mOf (r : Nat) : Nat := if r < 2 ^ 52 then r else 2 ^ 52 + r % 2 ^ 52
def pOf (r : Nat) : Nat := if r < 2 ^ 52 then 0 else r / 2 ^ 52 - 1
/-- A rung's worth, in least floats. -/
def fv (r : Nat) : Nat := mOf r * 2 ^ pOf r

theorem dbl_sign : double.signWeight = 2 ^ 63 := rfl
theorem dbl_binade : double.binade = 2 ^ 52 := rfl
theorem dbl_inf : double.infRung = 2047 * 2 ^ 52 := rfl
theorem dbl_least : double.leastPlace = -1074 := rfl

theorem read_num {b : Nat} (hb : b < 2 ^ 64) (hf : b % 2 ^ 63 < 2047 * 2 ^ 52) :
    double.read b = .number (decide (2 ^ 63 ≤ b)) (mOf (b % 2 ^ 63)) (-1074 + (pOf (b % 2 ^ 63) : Nat)) := by
  have hn : (b / 2 ^ 63 % 2 == 1) = decide (2 ^ 63 ≤ b) := by
    by_cases h : 2 ^ 63 ≤ b
    · have : b / 2 ^ 63 % 2 = 1 := by omega
      rw [this]; simp [h]
    · have : b / 2 ^ 63 % 2 = 0 := by omega
      rw [this]; simp [h]
  unfold Format.read
  simp only [dbl_sign, dbl_binade, dbl_inf, dbl_least, hn]
  by_cases h1 : b % 2 ^ 63 < 2 ^ 52
  · rw [if_pos h1, mOf, pOf, if_pos h1, if_pos h1]
    simp
  · rw [if_neg h1, if_pos hf, mOf, pOf, if_neg h1, if_neg h1]
theorem read_inf {b : Nat} (hb : b < 2 ^ 64) (hf : b % 2 ^ 63 = 2047 * 2 ^ 52) : double.read b = .infinity (decide (2 ^ 63 ≤ b)) := by
  have hn : (b / 2 ^ 63 % 2 == 1) = decide (2 ^ 63 ≤ b) := by
    by_cases h : 2 ^ 63 ≤ b
    · have : b / 2 ^ 63 % 2 = 1 := by omega
      rw [this]; simp [h]
    · have : b / 2 ^ 63 % 2 = 0 := by omega
      rw [this]; simp [h]
  unfold Format.read
  simp only [dbl_sign, dbl_binade, dbl_inf, dbl_least, hn]
  rw [if_neg (by omega), if_neg (by omega), if_pos hf]
theorem read_nan {b : Nat} (hf : 2047 * 2 ^ 52 < b % 2 ^ 63) : ∃ s f, double.read b = .nan s f := by
  have h1 : ¬ b % double.signWeight < double.binade := by rw [dbl_sign, dbl_binade]; omega
  have h2 : ¬ b % double.signWeight < double.infRung := by rw [dbl_sign, dbl_inf]; omega
  have h3 : ¬ b % double.signWeight = double.infRung := by rw [dbl_sign, dbl_inf]; omega
  unfold Format.read
  simp only [h1, h2, h3, if_false]
  exact ⟨_, _, rfl⟩

theorem fv_mono {r s : Nat} (h : r < s) : fv r < fv s := by
  unfold fv mOf pOf
  by_cases h1 : s < 2 ^ 52
  · rw [if_pos (by omega), if_pos (by omega), if_pos h1, if_pos h1]; simpa using h
  · rw [if_neg h1, if_neg h1]
    have p1 := Nat.one_le_two_pow (n := s / 2 ^ 52 - 1)
    by_cases h2 : r < 2 ^ 52
    · rw [if_pos h2, if_pos h2]
      have := Nat.mul_le_mul (show r + 1 ≤ 2 ^ 52 + s % 2 ^ 52 by omega) p1
      omega
    · rw [if_neg h2, if_neg h2]
      rcases Nat.eq_or_lt_of_le (show r / 2 ^ 52 ≤ s / 2 ^ 52 by omega) with he | hl
      · rw [he]
        exact Nat.mul_lt_mul_of_pos_right (by omega) (by omega)
      · obtain ⟨k, hk⟩ : ∃ k, s / 2 ^ 52 - 1 = (r / 2 ^ 52 - 1) + 1 + k := ⟨s / 2 ^ 52 - 1 - (r / 2 ^ 52 - 1) - 1, by omega⟩
        have e : 2 ^ (s / 2 ^ 52 - 1) = 2 ^ (r / 2 ^ 52 - 1) * 2 * 2 ^ k := by rw [hk, Nat.pow_add, Nat.pow_succ]
        rw [e]
        have p2 := Nat.one_le_two_pow (n := r / 2 ^ 52 - 1)
        have p3 := Nat.one_le_two_pow (n := k)
        generalize 2 ^ (r / 2 ^ 52 - 1) = u at *
        calc (2 ^ 52 + r % 2 ^ 52) * u < (2 ^ 53) * u := Nat.mul_lt_mul_of_pos_right (by omega) (by omega)
          _ = 2 ^ 52 * (u * 2 * 1) := by omega
          _ ≤ (2 ^ 52 + s % 2 ^ 52) * (u * 2 * 2 ^ k) := Nat.mul_le_mul (by omega) (Nat.mul_le_mul_left _ p3)
theorem fv_cmp (r s : Nat) : compare (fv r) (fv s) = compare r s := by
  rcases Nat.lt_trichotomy r s with h | h | h
  · rw [Nat.compare_eq_lt.2 h, Nat.compare_eq_lt.2 (fv_mono h)]
  · subst h; simp
  · rw [Nat.compare_eq_gt.2 h, Nat.compare_eq_gt.2 (fv_mono h)]

/-- Two numbers compare as whole numbers of least floats. -/
theorem cmp_scaled (a b : Int) (t : Nat) (ht : 0 < t) : compare (a * t) (b * t) = compare a b := by
  have h : (0 : Int) < t := by omega
  rcases Int.lt_trichotomy a b with hl | hl | hl
  · rw [Int.compare_eq_lt.2 hl, Int.compare_eq_lt.2 (Int.mul_lt_mul_of_pos_right hl h)]
  · subst hl; simp
  · rw [Int.compare_eq_gt.2 hl, Int.compare_eq_gt.2 (Int.mul_lt_mul_of_pos_right hl h)]

def sv (neg : Bool) (r : Nat) : Int := if neg then -(fv r : Int) else fv r

theorem order_num {b c : Nat} (hb : b < 2 ^ 64) (hc : c < 2 ^ 64) (hbf : b % 2 ^ 63 < 2047 * 2 ^ 52) (hcf : c % 2 ^ 63 < 2047 * 2 ^ 52) :
    double.order b c = some (compare (sv (decide (2 ^ 63 ≤ b)) (b % 2 ^ 63)) (sv (decide (2 ^ 63 ≤ c)) (c % 2 ^ 63))) := by
  unfold Format.order
  rw [read_num hb hbf, read_num hc hcf]
  simp only [Datum.order]
  generalize b % 2 ^ 63 = r
  generalize c % 2 ^ 63 = s
  generalize decide (2 ^ 63 ≤ b) = p
  generalize decide (2 ^ 63 ≤ c) = q
  congr 1
  obtain ⟨k, hk⟩ : ∃ k, k = min (pOf r) (pOf s) := ⟨_, rfl⟩
  have e1 : (-1074 + (pOf r : Int) - min (-1074 + (pOf r : Int)) (-1074 + (pOf s : Int))).toNat = pOf r - k := by omega
  have e2 : (-1074 + (pOf s : Int) - min (-1074 + (pOf r : Int)) (-1074 + (pOf s : Int))).toNat = pOf s - k := by omega
  rw [e1, e2, ← cmp_scaled _ _ (2 ^ k) (Nat.pow_pos (by decide))]
  have g : ∀ (n : Bool) (x : Nat), k ≤ pOf x → signed n (mOf x) (pOf x - k) * ((2 ^ k : Nat) : Int) = sv n x := by
    intro n x hx
    have h1 : mOf x <<< (pOf x - k) * 2 ^ k = fv x := by
      rw [Nat.shiftLeft_eq, Nat.mul_assoc, ← Nat.pow_add, Nat.sub_add_cancel hx]; rfl
    unfold signed sv
    cases n
    · simp only [Bool.false_eq_true, if_false]
      rw [← Int.natCast_mul, h1]
    · simp only [if_true]
      rw [Int.neg_mul, ← Int.natCast_mul, h1]
  rw [g p r (by omega), g q s (by omega)]

def maxw : Nat := 9218868437227405311
theorem maxw_lt : maxw < 2 ^ 64 := by decide
theorem maxw_mod : maxw % 2 ^ 63 = 2047 * 2 ^ 52 - 1 := by decide
theorem order_nan {b c : Nat} (hb : 2047 * 2 ^ 52 < b % 2 ^ 63) : double.order b c = none := by
  obtain ⟨s, f, h⟩ := read_nan hb
  unfold Format.order
  rw [h]
  rfl
theorem order_inf {b c : Nat} (hb : b < 2 ^ 64) (hbi : b % 2 ^ 63 = 2047 * 2 ^ 52) (hc : c < 2 ^ 64) (hcf : c % 2 ^ 63 < 2047 * 2 ^ 52) :
    double.order b c = some (if 2 ^ 63 ≤ b then .lt else .gt) := by
  unfold Format.order
  rw [read_inf hb hbi, read_num hc hcf]
  simp [Datum.order]
theorem le_max {r : Nat} (hr : r < 2 ^ 63) : (double.order r maxw == some .lt || double.order r maxw == some .eq) = decide (r < 2047 * 2 ^ 52) := by
  have e : r % 2 ^ 63 = r := Nat.mod_eq_of_lt hr
  rcases Nat.lt_trichotomy r (2047 * 2 ^ 52) with h | h | h
  · rw [order_num (by omega) maxw_lt (by rw [e]; exact h) (by rw [maxw_mod]; decide), e, maxw_mod]
    rw [decide_eq_true h, show decide (2 ^ 63 ≤ r) = false by simp; omega, show decide (2 ^ 63 ≤ maxw) = false by decide]
    unfold sv
    simp only [Bool.false_eq_true, if_false]
    rcases Nat.eq_or_lt_of_le (show r ≤ 2047 * 2 ^ 52 - 1 by omega) with h1 | h1
    · rw [h1]; simp
    · rw [Int.compare_eq_lt.2 (by have := fv_mono h1; omega)]; rfl
  · rw [order_inf (by omega) (by rw [e]; exact h) maxw_lt (by rw [maxw_mod]; decide), if_neg (by omega)]
    simp [h]
  · rw [order_nan (by rw [e]; exact h)]
    simp; omega
theorem gt_max {b : Nat} (hb : b < 2 ^ 64) : (double.order b maxw == some .gt) = decide (b = 2047 * 2 ^ 52) := by
  rcases Nat.lt_trichotomy (b % 2 ^ 63) (2047 * 2 ^ 52) with h | h | h
  · rw [order_num hb maxw_lt h (by rw [maxw_mod]; decide), maxw_mod, decide_eq_false (show ¬ b = 2047 * 2 ^ 52 by intro e; rw [e] at h; omega), show decide (2 ^ 63 ≤ maxw) = false by decide]
    unfold sv
    simp only [Bool.false_eq_true, if_false]
    have h2 : fv (b % 2 ^ 63) ≤ fv (2047 * 2 ^ 52 - 1) := by
      rcases Nat.eq_or_lt_of_le (show b % 2 ^ 63 ≤ 2047 * 2 ^ 52 - 1 by omega) with h1 | h1
      · rw [h1]; exact Nat.le_refl _
      · exact Nat.le_of_lt (fv_mono h1)
    have h3 : (if decide (2 ^ 63 ≤ b) = true then -(fv (b % 2 ^ 63) : Int) else (fv (b % 2 ^ 63) : Int)) ≤ (fv (2047 * 2 ^ 52 - 1) : Int) := by split <;> omega
    generalize (if decide (2 ^ 63 ≤ b) = true then -(fv (b % 2 ^ 63) : Int) else (fv (b % 2 ^ 63) : Int)) = x at *
    rcases Int.lt_or_eq_of_le h3 with h4 | h4
    · rw [Int.compare_eq_lt.2 h4]; rfl
    · rw [h4]; simp
  · rw [order_inf hb h maxw_lt (by rw [maxw_mod]; decide)]
    by_cases h1 : 2 ^ 63 ≤ b
    · rw [if_pos h1, decide_eq_false (by omega)]; rfl
    · rw [if_neg h1, decide_eq_true (by omega)]; rfl
  · rw [order_nan h, decide_eq_false (by intro e; rw [e] at h; omega)]
    rfl
theorem eq_self {b : Nat} (hb : b < 2 ^ 64) : (double.order b b == some .eq) = decide (b % 2 ^ 63 ≤ 2047 * 2 ^ 52) := by
  rcases Nat.lt_trichotomy (b % 2 ^ 63) (2047 * 2 ^ 52) with h | h | h
  · rw [order_num hb hb h h, decide_eq_true (show b % 2 ^ 63 ≤ 2047 * 2 ^ 52 by omega)]; simp
  · unfold Format.order
    rw [read_inf hb h, decide_eq_true (show b % 2 ^ 63 ≤ 2047 * 2 ^ 52 by omega)]
    simp [Datum.order]
  · rw [order_nan h, decide_eq_false (show ¬ b % 2 ^ 63 ≤ 2047 * 2 ^ 52 by omega)]; rfl

end Fl
end Go.Proofs.YtmphnnmnbpheiaaGreatDoor
