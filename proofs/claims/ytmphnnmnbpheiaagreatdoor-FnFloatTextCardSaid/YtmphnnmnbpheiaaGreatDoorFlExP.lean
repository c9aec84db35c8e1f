/- Whole numbers and powers of ten as floats. -/
import Derived.Test.YtmphnnmnbpheiaaGreatDoorFlNear
namespace Go.Proofs.YtmphnnmnbpheiaaGreatDoor
namespace Fl
open Ieee

theorem fv_int {n : Nat} (h0 : 0 < n) (h1 : n < 2 ^ 53) : fv (rung (n * C1074) 1) = n * C1074 ∧ 0 < rung (n * C1074) 1 ∧ rung (n * C1074) 1 < 2047 * 2 ^ 52 := by
  have hn : n ≠ 0 := by omega
  have l1 := (Nat.le_log2 hn).1 (Nat.le_refl _)
  have l2 := Nat.lt_log2_self (n := n)
  have l3 : n.log2 ≤ 52 := by have := (Nat.log2_lt hn).2 h1; omega
  generalize n.log2 = l at *
  obtain ⟨c, hc, h2⟩ : ∃ c, c = 1022 ∧ C1074 = 2 ^ 52 * 2 ^ c := ⟨1022, rfl, by kernel_rfl⟩
  have e1 : n * C1074 = n * 2 ^ (52 - l) * 2 ^ (c + l) := by
    rw [h2, Nat.mul_assoc n, ← Nat.pow_add, ← Nat.pow_add, show 52 - l + (c + l) = 52 + c by omega]
  have m1 : 2 ^ 52 ≤ n * 2 ^ (52 - l) := by
    have := Nat.mul_le_mul_right (2 ^ (52 - l)) l1
    rw [← Nat.pow_add, show l + (52 - l) = 52 by omega] at this
    exact this
  have m2 : n * 2 ^ (52 - l) < 2 ^ 53 := by
    have := Nat.mul_lt_mul_of_pos_right l2 (Nat.pow_pos (n := 52 - l) (show 0 < 2 by decide))
    rw [← Nat.pow_add, show l + 1 + (52 - l) = 53 by omega] at this
    exact this
  have hj : jOf (n * C1074) 1 = c + l := by
    apply jOf_eq (by decide)
    · right
      rw [e1, Nat.one_mul, Nat.pow_add]
      exact Nat.mul_le_mul_right _ m1
    · rw [e1, Nat.one_mul, Nat.pow_add 2 53]
      exact Nat.mul_lt_mul_of_pos_right m2 (Nat.pow_pos (by decide))
  have hr : rung (n * C1074) 1 = (c + l) * 2 ^ 52 + n * 2 ^ (52 - l) := by
    unfold rung
    rw [hj, e1, Nat.one_mul]
    have := rne_scale (n * 2 ^ (52 - l)) 1 (2 ^ (c + l)) (Nat.pow_pos (by decide))
    rw [Nat.one_mul] at this
    have e2 : rne (n * 2 ^ (52 - l)) 1 = n * 2 ^ (52 - l) := by
      unfold rne
      rw [Nat.div_one, Nat.mod_one, if_neg (by omega), Nat.add_zero]
    rw [this, e2]
  rw [hr]
  exact ⟨by rw [fv_at m2 (.inr m1), e1], by omega, by omega⟩

theorem fv_le {r s : Nat} (h : r ≤ s) : fv r ≤ fv s := by
  rcases Nat.eq_or_lt_of_le h with h | h
  · rw [h]; exact Nat.le_refl _
  · exact Nat.le_of_lt (fv_mono h)

theorem fv_big {A : Nat} (h : 2 ^ 53 * C1074 ≤ A) : 2 ^ 53 * C1074 ≤ fv (min (rung A 1) (2047 * 2 ^ 52)) := by
  have r0 : fv (1075 * 2 ^ 52 + 2 ^ 52) = 2 ^ 53 * C1074 := by kernel_rfl
  rw [← r0]
  apply fv_le
  rw [Nat.le_min]
  refine ⟨?_, by decide⟩
  obtain ⟨c, hc, h2⟩ : ∃ c, c = 1127 ∧ 2 ^ 53 * C1074 = 2 ^ c := ⟨1127, rfl, by kernel_rfl⟩
  rw [h2] at h
  have hA : A ≠ 0 := by have := Nat.pow_pos (n := c) (show 0 < 2 by decide); omega
  have l1 := (Nat.le_log2 hA).2 h
  unfold rung
  have hj : jOf A 1 = A.log2 - 52 := by unfold jOf; rw [Nat.div_one]
  have hm : 2 ^ 52 ≤ rne A (1 * 2 ^ jOf A 1) := by
    rw [Nat.one_mul, hj]
    unfold rne
    have : 2 ^ 52 ≤ A / 2 ^ (A.log2 - 52) := by
      rw [Nat.le_div_iff_mul_le (Nat.pow_pos (by decide)), ← Nat.pow_add, show 52 + (A.log2 - 52) = A.log2 by omega]
      exact (Nat.le_log2 hA).1 (Nat.le_refl _)
    omega
  have : 1075 ≤ jOf A 1 := by omega
  have := Nat.mul_le_mul_right (2 ^ 52) this
  omega

/-- The powers of ten up to 22, as words. -/
def p10 (k : Nat) : Nat := [4607182418800017408, 4621819117588971520, 4636737291354636288, 4652007308841189376, 4666723172467343360, 4681608360884174848, 4696837146684686336, 4711630319722168320, 4726483295884279808, 4741671816366391296, 4756540486875873280, 4771362005757984768, 4786511204640096256, 4801453603149578240, 4816244402031689728, 4831355200913801216, 4846369599423283200, 4861130398305394688, 4876203697187506176, 4891288408196988160, 4906019910204099648, 4921056587992461136, 4936209963552724370].getD k 0
def p10chk (k : Nat) : Bool := Nat.beq (fv (p10 k)) (10 ^ k * C1074) && Nat.blt 0 (p10 k) && Nat.blt (p10 k) (2047 * 2 ^ 52)
theorem p10_all : allBelow p10chk 23 = true := by kernel_rfl
theorem p10_at {k : Nat} (h : k < 23) : fv (p10 k) = 10 ^ k * C1074 ∧ 0 < p10 k ∧ p10 k < 2047 * 2 ^ 52 := by
  have := allBelow_at p10_all k h
  simp only [p10chk, Bool.and_eq_true, Nat.beq_eq, Nat.blt_eq] at this
  exact ⟨this.1.1, this.1.2, this.2⟩
def e15 : Nat := 4831355200913801216
theorem e15_fv : fv e15 = 10 ^ 15 * C1074 ∧ e15 < 2047 * 2 ^ 52 := ⟨by kernel_rfl, by decide⟩

/-- The word of a whole number of thousands of bits at most, or of a power of ten times it. -/
theorem rung_ten {n k i : Nat} (hi : i = k + 348) : rung (n * 10 ^ k * C1074) 1 = rung (n * 10 ^ i * C1074) B348 := by
  apply rung_ratio (by decide) B348_pos
  subst hi
  rw [Nat.mul_one]
  obtain ⟨c, hc, h2⟩ : ∃ c, c = 348 ∧ B348 = 10 ^ c := ⟨348, rfl, by kernel_rfl⟩
  rw [← hc, h2, Nat.pow_add]
  generalize 10 ^ c = u; generalize 10 ^ k = v
  grind

theorem wd_mod {neg : Bool} {r : Nat} (h : r < 2047 * 2 ^ 52 + 1) : double.word neg r % 2 ^ 63 = r ∧ double.word neg r < 2 ^ 64 ∧ decide (2 ^ 63 ≤ double.word neg r) = neg := word_mod neg r (by omega)

/-- A whole number times a power of ten. -/
theorem mul_ten {neg : Bool} {r n k : Nat} (hr0 : 0 < r) (hr : r < 2047 * 2 ^ 52) (hfv : fv r = n * C1074) (hk : k < 23) :
    double.mul (double.word neg r) (p10 k) = some (double.word neg (min (rung (n * 10 ^ k * C1074) 1) (2047 * 2 ^ 52))) := by
  obtain ⟨w1, w2, w3⟩ := wd_mod (neg := neg) (show r < 2047 * 2 ^ 52 + 1 by omega)
  obtain ⟨p1, p2, p3⟩ := p10_at hk
  have m1 : p10 k % 2 ^ 63 = p10 k := Nat.mod_eq_of_lt (by omega)
  rw [mul_word w2 (by omega) (by rw [w1]; exact hr) (by rw [m1]; exact p3) (by rw [w1]; exact hr0) (by rw [m1]; exact p2), w1, m1, w3, decide_eq_false (show ¬ 2 ^ 63 ≤ p10 k by omega), Bool.xor_false, hfv, p1]
  have e : rung (n * C1074 * (10 ^ k * C1074)) C1074 = rung (n * 10 ^ k * C1074) 1 := by
    apply rung_ratio C1074_pos (by decide)
    generalize 10 ^ k = v; generalize C1074 = u
    grind
  rw [e]

theorem div_ten {neg : Bool} {r n k i : Nat} (hr0 : 0 < r) (hr : r < 2047 * 2 ^ 52) (hfv : fv r = n * C1074) (hk : k < 23) (hi : i + k = 348) :
    double.div (double.word neg r) (p10 k) = some (double.word neg (min (rung (n * 10 ^ i * C1074) B348) (2047 * 2 ^ 52))) := by
  obtain ⟨w1, w2, w3⟩ := wd_mod (neg := neg) (show r < 2047 * 2 ^ 52 + 1 by omega)
  obtain ⟨p1, p2, p3⟩ := p10_at hk
  have m1 : p10 k % 2 ^ 63 = p10 k := Nat.mod_eq_of_lt (by omega)
  rw [div_word w2 (by omega) (by rw [w1]; exact hr) (by rw [m1]; exact p3) (by rw [w1]; exact hr0) (by rw [m1]; exact p2), w1, m1, w3, decide_eq_false (show ¬ 2 ^ 63 ≤ p10 k by omega), Bool.xor_false, hfv, p1]
  have e : rung (n * C1074 * C1074) (10 ^ k * C1074) = rung (n * 10 ^ i * C1074) B348 := by
    apply rung_ratio (Nat.mul_pos (Nat.pow_pos (by decide)) C1074_pos) B348_pos
    obtain ⟨c, hc, h2⟩ : ∃ c, c = 348 ∧ B348 = 10 ^ c := ⟨348, rfl, by kernel_rfl⟩
    rw [h2, hc, ← hi, Nat.pow_add]
    generalize 10 ^ k = v; generalize C1074 = u; generalize 10 ^ i = x
    grind
  rw [e]

/-- What is not above 1e15, of either sign, is told exactly. -/
theorem check15 {neg : Bool} {n r : Nat} (hr : r = min (rung (n * C1074) 1) (2047 * 2 ^ 52))
    (h1 : (double.order (double.word neg r) e15 == some .gt) = false) (h2 : (double.order (double.word neg r) 14054727237768577024 == some .lt) = false) : n < 2 ^ 53 := by
  rcases Nat.lt_or_ge n (2 ^ 53) with h | h
  · exact h
  · exfalso
    have hb : 2 ^ 53 * C1074 ≤ fv r := by rw [hr]; exact fv_big (Nat.mul_le_mul_right _ h)
    have hri : r ≤ 2047 * 2 ^ 52 := by rw [hr]; exact Nat.min_le_right _ _
    obtain ⟨w1, w2, w3⟩ := wd_mod (neg := neg) (show r < 2047 * 2 ^ 52 + 1 by omega)
    have hc : fv e15 < fv r := by
      rw [e15_fv.1]
      exact Nat.lt_of_lt_of_le (Nat.mul_lt_mul_of_pos_right (by decide) C1074_pos) hb
    have g1 : e15 % 2 ^ 63 = e15 := by decide
    have g2 : 14054727237768577024 % 2 ^ 63 = e15 := by decide
    rcases Nat.eq_or_lt_of_le hri with hi | hi
    · cases neg
      · rw [order_inf w2 (by rw [w1]; exact hi) (by decide) (by rw [g1]; exact e15_fv.2)] at h1
        rw [if_neg (by have := of_decide_eq_false w3; exact this)] at h1
        cases h1
      · rw [order_inf w2 (by rw [w1]; exact hi) (by decide) (by rw [g2]; exact e15_fv.2)] at h2
        rw [if_pos (of_decide_eq_true w3)] at h2
        cases h2
    · cases neg
      · rw [order_num w2 (by decide) (by rw [w1]; exact hi) (by rw [g1]; exact e15_fv.2), w1, w3, g1, show decide (2 ^ 63 ≤ e15) = false by decide] at h1
        simp only [sv, Bool.false_eq_true, if_false] at h1
        rw [Int.compare_eq_gt.2 (by omega)] at h1
        cases h1
      · rw [order_num w2 (by decide) (by rw [w1]; exact hi) (by rw [g2]; exact e15_fv.2), w1, w3, g2, show decide (2 ^ 63 ≤ 14054727237768577024) = true by decide] at h2
        simp only [sv, if_true] at h2
        rw [Int.compare_eq_lt.2 (by omega)] at h2
        cases h2

end Fl
end Go.Proofs.YtmphnnmnbpheiaaGreatDoor
