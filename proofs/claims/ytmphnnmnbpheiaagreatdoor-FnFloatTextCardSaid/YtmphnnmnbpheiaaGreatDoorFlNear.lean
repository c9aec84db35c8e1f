/- What the format writes of a number is its rung; products and quotients. -/
import Derived.Test.YtmphnnmnbpheiaaGreatDoorFlIeee
import Derived.Test.YtmphnnmnbpheiaaGreatDoorFlParse
namespace Go.Proofs.YtmphnnmnbpheiaaGreatDoor
namespace Fl
open Ieee

theorem cut_rne (neg : Bool) (n drop : Nat) : Toward.even.cut neg n drop = rne n (2 ^ drop) := by
  have key : ∀ g : Nat, n / g + (decide (g < 2 * (n % g)) || (g == 2 * (n % g) && n / g % 2 == 1)).toNat = rne n g := by
    intro g
    unfold rne
    congr 1
    by_cases h1 : g < 2 * (n % g)
    · simp [h1]
    · by_cases h2 : g = 2 * (n % g) ∧ n / g % 2 = 1
      · have h3 : (g == 2 * (n % g)) = true := by simpa using h2.1
        have h4 : (n / g % 2 == 1) = true := by simpa using h2.2
        rw [if_pos (.inr h2), h3, h4]; simp [h1]
      · rw [if_neg (by simp only [h1, h2, or_self, not_false_eq_true])]
        have : (g == 2 * (n % g) && n / g % 2 == 1) = false := by
          by_cases h3 : g = 2 * (n % g)
          · have h4 : ¬ n / g % 2 = 1 := fun h => h2 ⟨h3, h⟩
            have : (n / g % 2 == 1) = false := by simpa using h4
            rw [this, Bool.and_false]
          · have : (g == 2 * (n % g)) = false := by simpa using h3
            rw [this, Bool.false_and]
        rw [this]; simp [h1]
  unfold Toward.cut
  simp only [Nat.shiftLeft_eq, Nat.one_mul]
  rcases Nat.lt_or_ge (n.log2 + 2) drop with h | h
  · rw [Nat.min_eq_right (by omega), key]
    have hn : n < 2 ^ (n.log2 + 1) := Nat.lt_log2_self
    have p1 : 2 ^ (n.log2 + 2) = 2 * 2 ^ (n.log2 + 1) := by rw [Nat.pow_succ (m := n.log2 + 1), Nat.mul_comm]
    have p2 : 2 ^ (n.log2 + 2) ≤ 2 ^ drop := Nat.pow_le_pow_right (by decide) (by omega)
    have z : ∀ g, 2 * n < g → rne n g = 0 := by
      intro g hg
      unfold rne
      rw [Nat.div_eq_of_lt (by omega), Nat.mod_eq_of_lt (by omega), if_neg (by omega)]
    rw [z _ (by omega), z _ (by omega)]
  · rw [Nat.min_eq_left h, key]

/-- The word of a number: mag * 2 ^ (q - r) least floats. -/
theorem nearest_rung (neg : Bool) {mag : Nat} (hm : 0 < mag) (q r : Nat) (hqr : q = 0 ∨ r = 0) :
    double.nearest neg mag ((q : Int) - r - 1074) = double.word neg (min (rung (mag * 2 ^ q) (2 ^ r)) (2047 * 2 ^ 52)) := by
  have hm0 : mag ≠ 0 := by omega
  have l1 := (Nat.le_log2 hm0).1 (Nat.le_refl _)
  have l2 : mag < 2 ^ (mag.log2 + 1) := Nat.lt_log2_self
  generalize mag.log2 = l at *
  have hB : 0 < 2 ^ r := Nat.pow_pos (by decide)
  have hj : jOf (mag * 2 ^ q) (2 ^ r) = l + q - r - 52 := by
    apply jOf_eq hB
    · rcases Nat.lt_or_ge 52 (l + q - r) with h | h
      · right
        rw [← Nat.pow_add, show r + (52 + (l + q - r - 52)) = l + q by omega, Nat.pow_add]
        exact Nat.mul_le_mul_right _ l1
      · left; omega
    · rw [← Nat.pow_add]
      calc mag * 2 ^ q < 2 ^ (l + 1) * 2 ^ q := Nat.mul_lt_mul_of_pos_right l2 (Nat.pow_pos (by decide))
        _ = 2 ^ (l + 1 + q) := by rw [← Nat.pow_add]
        _ ≤ 2 ^ (r + (53 + (l + q - r - 52))) := Nat.pow_le_pow_right (by decide) (by omega)
  unfold Format.nearest
  rw [if_neg hm0]
  have hl : mag.log2 = l := by
    rcases Nat.lt_trichotomy mag.log2 l with h | h | h
    · have h1 := Nat.lt_log2_self (n := mag)
      have := Nat.pow_le_pow_right (n := 2) (by decide) (show mag.log2 + 1 ≤ l by omega)
      omega
    · exact h
    · have h1 := (Nat.le_log2 hm0).1 (show l + 1 ≤ mag.log2 by omega)
      omega
  simp only [hl, cut_rne, dbl_binade, dbl_inf, dbl_least]
  rw [show double.fractionBits = 52 from rfl]
  have hlast : max ((q : Int) - r - 1074 + l - (52 : Nat)) (-1074) = ((l + q - r - 52 : Nat) : Int) - 1074 := by omega
  rw [hlast]
  unfold rung
  rw [hj]
  generalize l + q - r - 52 = j at *
  rw [show (((j : Nat) : Int) - 1074 - -1074).toNat = j by omega]
  congr 3
  rw [Nat.shiftLeft_eq]
  rcases Nat.lt_or_ge j q with h | h
  · have hr : r = 0 := by omega
    subst hr
    rw [show ((q : Int) - (0 : Nat) - 1074 - ((j : Int) - 1074)).toNat = q - j by omega, show (((j : Nat) : Int) - 1074 - ((q : Int) - (0 : Nat) - 1074)).toNat = 0 by omega]
    rw [Nat.pow_zero, Nat.one_mul, show mag * 2 ^ q = mag * 2 ^ (q - j) * 2 ^ j by rw [Nat.mul_assoc, ← Nat.pow_add, Nat.sub_add_cancel (by omega)]]
    have := rne_scale (mag * 2 ^ (q - j)) 1 (2 ^ j) (Nat.pow_pos (by decide))
    rw [Nat.one_mul] at this
    rw [this]
  · rw [show ((q : Int) - r - 1074 - ((j : Int) - 1074)).toNat = 0 by omega, Nat.pow_zero, Nat.mul_one, show (((j : Nat) : Int) - 1074 - ((q : Int) - r - 1074)).toNat = r + j - q by omega]
    rcases hqr with hq | hr
    · subst hq
      rw [Nat.pow_zero, Nat.mul_one, Nat.sub_zero, Nat.pow_add]
    · subst hr
      rw [Nat.pow_zero, Nat.one_mul, Nat.zero_add]
      have := rne_scale mag (2 ^ (j - q)) (2 ^ q) (Nat.pow_pos (by decide))
      rw [← Nat.pow_add, Nat.sub_add_cancel h] at this
      exact this.symm

theorem word_mod (neg : Bool) (r : Nat) (hr : r < 2 ^ 63) : double.word neg r % 2 ^ 63 = r ∧ double.word neg r < 2 ^ 64 ∧ decide (2 ^ 63 ≤ double.word neg r) = neg := by
  unfold Format.word
  rw [dbl_sign]
  cases neg
  · simp only [Bool.false_eq_true, if_false]
    exact ⟨Nat.mod_eq_of_lt hr, by omega, by simp; omega⟩
  · simp only [if_true]
    exact ⟨by omega, by omega, by simp⟩

/-- A rung written out. -/
theorem fv_at {j m : Nat} (hm : m < 2 ^ 53) (hj : j = 0 ∨ 2 ^ 52 ≤ m) : fv (j * 2 ^ 52 + m) = m * 2 ^ j := by
  unfold fv mOf pOf
  rcases Nat.lt_or_ge m (2 ^ 52) with h | h
  · have : j = 0 := by omega
    subst this
    rw [Nat.zero_mul, Nat.zero_add, if_pos h, if_pos h]
  · rw [if_neg (by omega), if_neg (by omega)]
    rw [show (j * 2 ^ 52 + m) % 2 ^ 52 = m - 2 ^ 52 by omega, show (j * 2 ^ 52 + m) / 2 ^ 52 - 1 = j by omega, show 2 ^ 52 + (m - 2 ^ 52) = m by omega]

theorem mOf_pos {r : Nat} (h : 0 < r) : 0 < mOf r := by
  unfold mOf; split <;> omega

/-- The product of two numbers. -/
theorem mul_word {x y : Nat} (hx : x < 2 ^ 64) (hy : y < 2 ^ 64) (hxf : x % 2 ^ 63 < 2047 * 2 ^ 52) (hyf : y % 2 ^ 63 < 2047 * 2 ^ 52) (hx0 : 0 < x % 2 ^ 63) (hy0 : 0 < y % 2 ^ 63) :
    double.mul x y = some (double.word (decide (2 ^ 63 ≤ x) ^^ decide (2 ^ 63 ≤ y)) (min (rung (fv (x % 2 ^ 63) * fv (y % 2 ^ 63)) C1074) (2047 * 2 ^ 52))) := by
  unfold Format.mul
  rw [read_num hx hxf, read_num hy hyf]
  simp only [Datum.product, Option.map_some, Format.write]
  generalize x % 2 ^ 63 = r at *
  generalize y % 2 ^ 63 = s at *
  have hm : 0 < mOf r * mOf s := Nat.mul_pos (mOf_pos hx0) (mOf_pos hy0)
  obtain ⟨q, t, hq, he⟩ : ∃ q t : Nat, (q = 0 ∨ t = 0) ∧ (-1074 + (pOf r : Int) + (-1074 + (pOf s : Nat))) = (q : Int) - t - 1074 ∧ q + 1074 = pOf r + pOf s + t := by
    rcases Nat.lt_or_ge (pOf r + pOf s) 1074 with h | h
    · exact ⟨0, 1074 - (pOf r + pOf s), .inl rfl, by omega, by omega⟩
    · exact ⟨pOf r + pOf s - 1074, 0, .inr rfl, by omega, by omega⟩
  rw [he.1, nearest_rung _ hm q t hq]
  have hE := he.2
  clear he
  obtain ⟨c, hc, h2⟩ : ∃ c, c = 1074 ∧ C1074 = 2 ^ c := ⟨1074, rfl, by kernel_rfl⟩
  rw [← hc] at hE
  have e : rung (mOf r * mOf s * 2 ^ q) (2 ^ t) = rung (fv r * fv s) C1074 := by
    apply rung_ratio (Nat.pow_pos (by decide)) C1074_pos
    rw [h2, Nat.mul_assoc, ← Nat.pow_add, hE]
    unfold fv
    rw [Nat.pow_add, Nat.pow_add]
    generalize 2 ^ pOf r = u; generalize 2 ^ pOf s = v; generalize 2 ^ t = z
    grind
  rw [e]

theorem rne_unr {Z Q c : Nat} (hQ : 0 < Q) (hc : 0 < c) : rne (unr Z Q) (4 * c) = rne Z (Q * (4 * c)) := by
  symm
  rw [rne_iff (Nat.mul_pos hQ (by omega))]
  generalize hn : rne (unr Z Q) (4 * c) = n
  have h := (rne_iff (n := n) (show 0 < 4 * c by omega)).1 hn
  have a1 := unr_ge (Z := Z) (c := n * (4 * c) - 2 * c) hQ (by rw [show n * (4 * c) - 2 * c = 2 * (n * (2 * c) - c) by rw [Nat.mul_sub]; congr 1; grind]; omega)
  have a2 := unr_le (Z := Z) (c := n * (4 * c) + 2 * c) hQ (by rw [show n * (4 * c) + 2 * c = 2 * (n * (2 * c) + c) by grind]; omega)
  have a3 := unr_gt (Z := Z) (c := n * (4 * c) - 2 * c) hQ (by rw [show n * (4 * c) - 2 * c = 2 * (n * (2 * c) - c) by rw [Nat.mul_sub]; congr 1; grind]; omega)
  have a4 := unr_lt (Z := Z) (c := n * (4 * c) + 2 * c) hQ (by rw [show n * (4 * c) + 2 * c = 2 * (n * (2 * c) + c) by grind]; omega)
  have e1 : 2 * n * (4 * c) = 2 * (n * (4 * c)) := by rw [Nat.mul_assoc]
  have e2 : (2 * n + 1) * (4 * c) = 2 * (n * (4 * c)) + 4 * c := by rw [Nat.add_mul, Nat.one_mul, Nat.mul_assoc]
  rw [e1, e2] at h
  have f1 : 2 * n * (Q * (4 * c)) = 2 * (n * (4 * c) * Q) := by grind
  have f2 : (2 * n + 1) * (Q * (4 * c)) = 2 * (n * (4 * c) * Q) + 4 * (c * Q) := by grind
  have f3 : (n * (4 * c) - 2 * c) * Q = n * (4 * c) * Q - 2 * (c * Q) := by rw [Nat.sub_mul, Nat.mul_assoc 2]
  have f4 : (n * (4 * c) + 2 * c) * Q = n * (4 * c) * Q + 2 * (c * Q) := by rw [Nat.add_mul, Nat.mul_assoc 2]
  have f5 : Q * (4 * c) = 4 * (c * Q) := by grind
  rw [f1, f2, f5]
  rw [f3] at a1 a3
  rw [f4] at a2 a4
  have b1 := a1.1 (by omega)
  have b2 := a2.1 (by omega)
  refine ⟨by omega, by omega, fun ho => ?_⟩
  have h3 := h.2.2 ho
  have n4 : 4 * c ≤ n * (4 * c) := Nat.le_mul_of_pos_left _ (by omega)
  have b3 := a3.1 (by omega)
  have b4 := a4.1 (by omega)
  have : 4 * (c * Q) ≤ n * (4 * c) * Q := by
    have := Nat.mul_le_mul_right (4 * c * Q) (show 1 ≤ n by omega)
    rw [Nat.one_mul, Nat.mul_assoc] at this
    calc 4 * (c * Q) ≤ n * (4 * (c * Q)) := this
      _ = n * (4 * c) * Q := by grind
  omega

/-- Rounding a quotient with a sticky bit. -/
theorem rung_unr {Z Q : Nat} (hQ : 0 < Q) (hZ : 2 ^ 54 * Q ≤ Z) (q t : Nat) : rung (unr Z Q * 2 ^ q) (2 ^ t) = rung (Z * 2 ^ q) (Q * 2 ^ t) := by
  have hB : 0 < Q * 2 ^ t := Nat.mul_pos hQ (Nat.pow_pos (by decide))
  have hB' : 0 < 2 ^ t := Nat.pow_pos (by decide)
  obtain ⟨j, hj⟩ : ∃ j, j = jOf (Z * 2 ^ q) (Q * 2 ^ t) := ⟨_, rfl⟩
  have hq0 : 0 < 2 ^ q := Nat.pow_pos (by decide)
  have hY : (Z * 2 ^ q) / (Q * 2 ^ t) ≠ 0 ∨ (Z * 2 ^ q) / (Q * 2 ^ t) = 0 := by omega
  -- bounds of the binade
  have hup : Z * 2 ^ q < Q * 2 ^ t * 2 ^ (53 + j) := by
    have h1 : (Z * 2 ^ q) / (Q * 2 ^ t) < 2 ^ (53 + j) := by
      rcases hY with h | h
      · have := Nat.lt_log2_self (n := (Z * 2 ^ q) / (Q * 2 ^ t))
        refine Nat.lt_of_lt_of_le this (Nat.pow_le_pow_right (by decide) ?_)
        unfold jOf at hj; omega
      · rw [h]; exact Nat.pow_pos (by decide)
    rw [Nat.div_lt_iff_lt_mul hB] at h1
    rw [Nat.mul_comm (Q * 2 ^ t)]; exact h1
  have hlo : j = 0 ∨ Q * 2 ^ t * 2 ^ (52 + j) ≤ Z * 2 ^ q := by
    rcases Nat.eq_zero_or_pos j with h | h
    · left; exact h
    · right
      have h0 : (Z * 2 ^ q) / (Q * 2 ^ t) ≠ 0 := by
        intro e; unfold jOf at hj; rw [e] at hj; simp at hj; omega
      have h1 := (Nat.le_log2 h0).1 (show 52 + j ≤ _ by unfold jOf at hj; omega)
      rw [Nat.le_div_iff_mul_le hB] at h1
      rw [Nat.mul_comm (Q * 2 ^ t)]; exact h1
  have htj : q + 2 ≤ t + j := by
    rcases Nat.lt_or_ge (t + j) (q + 2) with h | h
    · exfalso
      have h1 : 2 ^ 54 * Q * 2 ^ q < Q * 2 ^ t * 2 ^ (53 + j) := Nat.lt_of_le_of_lt (Nat.mul_le_mul_right _ hZ) hup
      have h2 : Q * 2 ^ (54 + q) < Q * 2 ^ (t + (53 + j)) := by
        rw [Nat.pow_add, Nat.pow_add]
        calc Q * (2 ^ 54 * 2 ^ q) = 2 ^ 54 * Q * 2 ^ q := by generalize (2 : Nat) ^ 54 = u; grind
          _ < Q * 2 ^ t * 2 ^ (53 + j) := h1
          _ = Q * (2 ^ t * 2 ^ (53 + j)) := by rw [Nat.mul_assoc]
      have h3 := Nat.lt_of_mul_lt_mul_left h2
      have h4 := (Nat.pow_lt_pow_iff_right (by decide : 1 < 2)).1 h3
      omega
    · exact h
  obtain ⟨c, hc⟩ : ∃ c, c = 2 ^ (t + j - q - 2) := ⟨_, rfl⟩
  have hc0 : 0 < c := by rw [hc]; exact Nat.pow_pos (by decide)
  have hcc : 2 ^ t * 2 ^ j = 4 * c * 2 ^ q := by
    rw [hc, show (4 : Nat) = 2 ^ 2 from rfl, ← Nat.pow_add, ← Nat.pow_add, ← Nat.pow_add]; congr 1; omega
  have k53 : ∀ x y : Nat, x * 2 ^ t * 2 ^ (y + j) = x * 2 ^ y * (4 * c) * 2 ^ q := by
    intro x y
    rw [Nat.pow_add, show x * 2 ^ t * (2 ^ y * 2 ^ j) = x * 2 ^ y * (2 ^ t * 2 ^ j) by generalize 2 ^ y = u; generalize 2 ^ j = v; generalize 2 ^ t = z; grind, hcc]
    generalize 2 ^ y = u; generalize 2 ^ q = v; grind
  rw [k53] at hup
  rw [k53] at hlo
  have hup' : Z < 2 ^ 53 * (4 * c) * Q := by
    have := Nat.lt_of_mul_lt_mul_right hup
    rw [Nat.mul_comm Q, Nat.mul_right_comm] at this
    exact this
  have hlo' : j = 0 ∨ 2 ^ 52 * (4 * c) * Q ≤ Z := by
    rcases hlo with h | h
    · left; exact h
    · right
      have := Nat.le_of_mul_le_mul_right h hq0
      rw [Nat.mul_comm Q, Nat.mul_right_comm] at this
      exact this
  have u1 := (unr_lt (Z := Z) (c := 2 ^ 53 * (4 * c)) hQ (by omega)).2 hup'
  have hj' : jOf (unr Z Q * 2 ^ q) (2 ^ t) = j := by
    apply jOf_eq hB'
    · rcases hlo' with h | h
      · left; exact h
      · right
        have u2 := (unr_ge (Z := Z) (c := 2 ^ 52 * (4 * c)) hQ (by omega)).2 h
        have := k53 1 52
        rw [Nat.one_mul, Nat.one_mul] at this
        rw [this]
        exact Nat.mul_le_mul_right _ u2
    · have := k53 1 53
      rw [Nat.one_mul, Nat.one_mul] at this
      rw [this]
      exact Nat.mul_lt_mul_of_pos_right u1 hq0
  unfold rung
  rw [hj', ← hj]
  congr 1
  rw [hcc, rne_scale _ _ _ hq0, rne_unr hQ hc0, Nat.mul_assoc Q, hcc]
  have := rne_scale Z (Q * (4 * c)) (2 ^ q) hq0
  rw [Nat.mul_assoc] at this
  exact this.symm

theorem div_word {x y : Nat} (hx : x < 2 ^ 64) (hy : y < 2 ^ 64) (hxf : x % 2 ^ 63 < 2047 * 2 ^ 52) (hyf : y % 2 ^ 63 < 2047 * 2 ^ 52) (hx0 : 0 < x % 2 ^ 63) (hy0 : 0 < y % 2 ^ 63) :
    double.div x y = some (double.word (decide (2 ^ 63 ≤ x) ^^ decide (2 ^ 63 ≤ y)) (min (rung (fv (x % 2 ^ 63) * C1074) (fv (y % 2 ^ 63))) (2047 * 2 ^ 52))) := by
  unfold Format.div
  rw [read_num hx hxf, read_num hy hyf]
  generalize x % 2 ^ 63 = r at *
  generalize y % 2 ^ 63 = s at *
  generalize (decide (2 ^ 63 ≤ x)) = sx
  generalize (decide (2 ^ 63 ≤ y)) = sy
  have h1 := mOf_pos hx0
  have h2 := mOf_pos hy0
  have hm53 : mOf r < 2 ^ 53 := by unfold mOf; split <;> omega
  simp only [Datum.quotient, if_neg (show ¬ mOf s = 0 by omega), Option.map_some, Format.write]
  rw [show double.fractionBits + 2 = 54 from rfl]
  have l1 := (Nat.le_log2 (show mOf r ≠ 0 by omega)).1 (Nat.le_refl _)
  have l2 := Nat.lt_log2_self (n := mOf s)
  have l3 : (mOf r).log2 ≤ 52 := by
    have := (Nat.log2_lt (show mOf r ≠ 0 by omega)).2 hm53
    omega
  obtain ⟨more, hmore⟩ : ∃ more, more = 54 + (mOf s).log2 - (mOf r).log2 := ⟨_, rfl⟩
  rw [← hmore]
  have hD : 2 ^ 54 * 2 ^ (mOf s).log2 ≤ mOf r * 2 ^ more := by
    calc 2 ^ 54 * 2 ^ (mOf s).log2 = 2 ^ (mOf r).log2 * 2 ^ more := by rw [← Nat.pow_add, ← Nat.pow_add]; congr 1; omega
      _ ≤ mOf r * 2 ^ more := Nat.mul_le_mul_right _ l1
  have hZ : 2 ^ 54 * mOf s ≤ 2 * (mOf r * 2 ^ more) := by
    rw [Nat.pow_succ] at l2
    have := Nat.mul_le_mul_left (2 ^ 54) (Nat.le_of_lt l2)
    generalize 2 ^ (mOf s).log2 = u at *
    omega
  have hmag : 2 * ((mOf r <<< more) / mOf s) + ((mOf r <<< more) % mOf s != 0).toNat = unr (2 * (mOf r * 2 ^ more)) (mOf s) := by
    rw [Nat.shiftLeft_eq]
    generalize mOf r * 2 ^ more = d
    generalize mOf s = n at *
    have e := Nat.div_add_mod d n
    have hm := Nat.mod_lt d h2
    generalize d / n = k at *
    generalize d % n = ρ at *
    subst e
    unfold unr
    rcases Nat.eq_zero_or_pos ρ with h | h
    · subst h
      rw [show 2 * (n * k + 0) = 2 * k * n by grind, Nat.mul_mod_left, if_pos rfl, Nat.mul_div_cancel _ h2]
      rfl
    · have hb : (ρ != 0).toNat = 1 := by
        have : (ρ != 0) = true := by simp; omega
        rw [this]; rfl
      rw [hb, show 2 * (n * k + ρ) = n * (2 * k) + 2 * ρ by grind, Nat.mul_add_mod, Nat.mul_add_div h2]
      rcases Nat.lt_trichotomy (2 * ρ) n with h3 | h3 | h3
      · rw [Nat.mod_eq_of_lt h3, Nat.div_eq_of_lt h3, if_neg (by omega), or_one]; omega
      · rw [h3, Nat.mod_self, if_pos rfl, Nat.div_self h2]
      · have h5 : 2 * ρ / n = 1 := Nat.div_eq_of_lt_le (by omega) (by omega)
        have h6 : 2 * ρ % n ≠ 0 := by
          have := Nat.div_add_mod (2 * ρ) n
          rw [h5] at this; omega
        rw [if_neg h6, h5, or_one]; omega
  rw [hmag]
  have hpos : 0 < unr (2 * (mOf r * 2 ^ more)) (mOf s) := by
    have := (unr_ge (Z := 2 * (mOf r * 2 ^ more)) (c := 2 ^ 54) h2 (by decide)).2 hZ
    omega
  obtain ⟨q, t, hq, he, hE⟩ : ∃ q t : Nat, (q = 0 ∨ t = 0) ∧ (-1074 + (pOf r : Int) - (-1074 + (pOf s : Nat)) - more - 1) = (q : Int) - t - 1074 ∧ pOf r + 1074 + t = pOf s + more + 1 + q := by
    rcases Nat.lt_or_ge (pOf r + 1074) (pOf s + more + 1) with h | h
    · exact ⟨0, pOf s + more + 1 - (pOf r + 1074), .inl rfl, by omega, by omega⟩
    · exact ⟨pOf r + 1074 - (pOf s + more + 1), 0, .inr rfl, by omega, by omega⟩
  rw [he, nearest_rung _ hpos q t hq, rung_unr h2 hZ]
  have e : rung (2 * (mOf r * 2 ^ more) * 2 ^ q) (mOf s * 2 ^ t) = rung (fv r * C1074) (fv s) := by
    obtain ⟨c, hc, h3⟩ : ∃ c, c = 1074 ∧ C1074 = 2 ^ c := ⟨1074, rfl, by kernel_rfl⟩
    rw [← hc] at hE
    apply rung_ratio (Nat.mul_pos h2 (Nat.pow_pos (by decide))) (Nat.mul_pos h2 (Nat.pow_pos (by decide)))
    rw [h3]
    unfold fv
    have : 2 ^ pOf r * 2 ^ c * 2 ^ t = 2 ^ pOf s * 2 ^ more * 2 * 2 ^ q := by
      rw [← Nat.pow_add, ← Nat.pow_add, hE, Nat.pow_add, Nat.pow_add, Nat.pow_add, Nat.pow_one]
    generalize 2 ^ pOf r = a at *; generalize 2 ^ c = b at *; generalize 2 ^ t = d at *; generalize 2 ^ pOf s = g at *; generalize 2 ^ more = h at *; generalize 2 ^ q = k at *
    calc 2 * (mOf r * h) * k * (mOf s * g) = mOf r * mOf s * (g * h * 2 * k) := by grind
      _ = mOf r * mOf s * (a * b * d) := by rw [this]
      _ = mOf r * a * b * (mOf s * d) := by grind
  rw [e]

end Fl
end Go.Proofs.YtmphnnmnbpheiaaGreatDoor
