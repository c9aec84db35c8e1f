import Derived.Test.YtmphnnmnbpheiaaGreatDoorFlScale
namespace Go.Proofs.YtmphnnmnbpheiaaGreatDoor

theorem unr_mid {Z Q k : Nat} (h1 : k * Q < Z) (h2 : Z < (k + 1) * Q) : unr Z Q = k ||| 1 := by
  have hQ : 0 < Q := by
    rcases Nat.eq_zero_or_pos Q with rfl | h
    · omega
    · exact h
  have e : Z / Q = k := Nat.div_eq_of_lt_le (by rw [Nat.mul_comm] at h1; rw [Nat.mul_comm]; omega) h2
  have h := Nat.div_add_mod Z Q
  rw [e] at h
  have : Z % Q ≠ 0 := by
    intro h0
    rw [h0, Nat.mul_comm] at h
    omega
  unfold unr
  rw [if_neg this, e]

theorem unr_own (k : Nat) {Q : Nat} (hQ : 0 < Q) : unr (k * Q) Q = k := by
  unfold unr
  rw [Nat.mul_mod_left, if_pos rfl, Nat.mul_div_cancel _ hQ]

/-- What the code computes of a word and a table's row. -/
def us (W x hi lo T : Nat) : Nat :=
  if x * hi / W / T * T ≠ x * hi / W then x * hi / W / T ||| 1
  else (if x * hi % W < x * lo / W then x * hi / W - 1 else x * hi / W) / T ||| (if 1 < (x * hi % W + W - x * lo / W) % W then 1 else 0)

theorem us_eq {W x hi lo T N D : Nat} (hW : 2 < W) (hT : 0 < T) (hx : x < W) (hlo : lo < W) (hD : 0 < D)
    (F1 : N + lo * D ≤ hi * W * D) (F2 : hi * W * D ≤ N + D + lo * D) (hbig : W ≤ x * hi)
    (hc : ∀ n, n * (W * (W * D) * T) < x * N + 2 * (W * D) → x * N < n * (W * (W * D) * T) + 2 * (W * D) → x * N = n * (W * (W * D) * T)) :
    us W x hi lo T = unr (x * N) (W * (W * D) * T) := by
  have P1 : x * N + x * lo * D ≤ x * hi * W * D := by
    have := Nat.mul_le_mul_left x F1
    grind
  have P2 : x * hi * W * D ≤ x * N + x * D + x * lo * D := by
    have := Nat.mul_le_mul_left x F2
    grind
  have hm2 : x * lo / W + 2 ≤ W := by
    have : x * lo ≤ (W - 1) * (W - 1) := Nat.mul_le_mul (by omega) (by omega)
    have h2 : (W - 1) * (W - 1) < (W - 1) * W := Nat.mul_lt_mul_of_pos_left (by omega) (by omega)
    have : x * lo / W < W - 1 := by
      rw [Nat.div_lt_iff_lt_mul (by omega)]
      omega
    omega
  have hh1 : 1 ≤ x * hi / W := by
    rw [Nat.le_div_iff_mul_le (by omega)]; omega
  unfold us
  have d1 := Nat.div_add_mod (x * hi) W
  have m1 := Nat.mod_lt (x * hi) (show 0 < W by omega)
  have d2 := Nat.div_add_mod (x * lo) W
  have m2 := Nat.mod_lt (x * lo) (show 0 < W by omega)
  generalize x * hi / W = h at *
  generalize x * hi % W = mid at *
  generalize x * lo / W = mid2 at *
  generalize x * lo % W = r2 at *
  rw [← d1, ← d2] at P1 P2
  generalize x * N = Z at *
  have hE : 0 < W * D := Nat.mul_pos (by omega) hD
  have xD : x * D + D ≤ W * D := by
    have := Nat.mul_le_mul_right D (show x + 1 ≤ W by omega)
    grind
  have rD : r2 * D + D ≤ W * D := by
    have := Nat.mul_le_mul_right D (show r2 + 1 ≤ W by omega)
    grind
  have e1 : (W * h + mid) * W * D = h * (W * (W * D)) + mid * (W * D) := by grind
  have e2 : (W * mid2 + r2) * D = mid2 * (W * D) + r2 * D := by grind
  rw [e1, e2] at P1 P2
  have midE : mid * (W * D) + W * D ≤ W * (W * D) := by
    have := Nat.mul_le_mul_right (W * D) (show mid + 1 ≤ W by omega)
    grind
  have mid2E : mid2 * (W * D) + 2 * (W * D) ≤ W * (W * D) := by
    have := Nat.mul_le_mul_right (W * D) hm2
    grind
  have hd := Nat.div_add_mod h T
  have hmT := Nat.mod_lt h hT
  have hQ : 0 < W * (W * D) * T := Nat.mul_pos (Nat.mul_pos (by omega) hE) hT
  by_cases hz : h / T * T ≠ h
  · rw [if_pos hz]
    have hr : 1 ≤ h % T := by
      rcases Nat.eq_zero_or_pos (h % T) with h0 | h0
      · rw [h0, Nat.mul_comm] at hd; omega
      · exact h0
    symm
    generalize h / T = k at *
    generalize h % T = r at *
    subst hd
    have e3 : (T * k + r) * (W * (W * D)) = k * (W * (W * D) * T) + r * (W * (W * D)) := by grind
    have r1 : W * (W * D) ≤ r * (W * (W * D)) := Nat.le_mul_of_pos_left _ hr
    have r2' : r * (W * (W * D)) + W * (W * D) ≤ W * (W * D) * T := by
      have := Nat.mul_le_mul_right (W * (W * D)) (show r + 1 ≤ T by omega)
      grind
    have e4 : (k + 1) * (W * (W * D) * T) = k * (W * (W * D) * T) + W * (W * D) * T := by grind
    rw [e3] at P1 P2
    apply unr_mid
    · omega
    · rw [e4]; omega
  · rw [if_neg hz]
    have hz : h / T * T = h := by omega
    generalize h / T = k at *
    subst hz
    have hk : 1 ≤ k := by
      rcases Nat.eq_zero_or_pos k with rfl | h0
      · omega
      · exact h0
    have e3 : k * T * (W * (W * D)) = k * (W * (W * D) * T) := by grind
    rw [e3] at P1 P2
    have e4 : (k + 1) * (W * (W * D) * T) = k * (W * (W * D) * T) + W * (W * D) * T := by grind
    have wT : W * (W * D) ≤ W * (W * D) * T := Nat.le_mul_of_pos_right _ hT
    symm
    by_cases hb : mid < mid2
    · rw [if_pos hb, if_pos (by
        rw [Nat.mod_eq_of_lt (by omega)]; omega)]
      have hk1 : (k * T - 1) / T = k - 1 := by
        obtain ⟨j, rfl⟩ : ∃ j, k = j + 1 := ⟨k - 1, by omega⟩
        rw [show (j + 1) * T - 1 = j * T + (T - 1) by rw [Nat.add_mul]; omega]
        rw [Nat.mul_comm, Nat.mul_add_div hT, Nat.div_eq_of_lt (by omega)]
        omega
      rw [hk1]
      have e5 : (k - 1) * (W * (W * D) * T) = k * (W * (W * D) * T) - W * (W * D) * T := by rw [Nat.sub_mul, Nat.one_mul]
      have e6 : W * (W * D) * T ≤ k * (W * (W * D) * T) := Nat.le_mul_of_pos_left _ hk
      have bE : mid * (W * D) + W * D ≤ mid2 * (W * D) := by
        have := Nat.mul_le_mul_right (W * D) (show mid + 1 ≤ mid2 by omega)
        grind
      apply unr_mid
      · rw [e5]; omega
      · rw [show k - 1 + 1 = k by omega]; omega
    · rw [if_neg hb, Nat.mul_div_cancel _ hT, show mid + W - mid2 = (mid - mid2) + W by omega, Nat.add_mod_right, Nat.mod_eq_of_lt (by omega)]
      obtain ⟨t, rfl⟩ : ∃ t, mid = mid2 + t := ⟨mid - mid2, by omega⟩
      rw [show mid2 + t - mid2 = t by omega]
      have e5 : (mid2 + t) * (W * D) = mid2 * (W * D) + t * (W * D) := by grind
      rw [e5] at P1 P2 midE
      by_cases ht : 1 < t
      · rw [if_pos ht]
        have tE : 2 * (W * D) ≤ t * (W * D) := Nat.mul_le_mul_right _ ht
        apply unr_mid
        · omega
        · rw [e4]; omega
      · rw [if_neg ht, Nat.or_zero]
        have tE : t * (W * D) ≤ W * D := by
          have := Nat.mul_le_mul_right (W * D) (show t ≤ 1 by omega)
          grind
        have := hc k (by omega) (by omega)
        rw [this]
        exact unr_own k hQ

/-- Two fractions that are neighbours leave no third one between them. -/
theorem cert {N Q ε X n1 q1 n2 q2 : Nat} (hdet : n2 * q1 = n1 * q2 + 1) (hX : X ≤ q1 + q2)
    (h1 : n1 * Q ≤ q1 * N) (h2 : q2 * N ≤ n2 * Q)
    (g1 : q1 * N = n1 * Q ∨ n1 * Q + ε ≤ q1 * N) (g2 : q2 * N = n2 * Q ∨ q2 * N + ε ≤ n2 * Q)
    {x n : Nat} (hx : x < X) (a1 : n * Q < x * N + ε) (a2 : x * N < n * Q + ε) : x * N = n * Q := by
  -- x = a q1 + b q2, n = a n1 + b n2 over the integers
  obtain ⟨a, ha⟩ : ∃ a : Int, a = (x : Int) * n2 - n * q2 := ⟨_, rfl⟩
  obtain ⟨b, hb⟩ : ∃ b : Int, b = (n : Int) * q1 - x * n1 := ⟨_, rfl⟩
  have hd : (n2 : Int) * q1 = n1 * q2 + 1 := by exact_mod_cast hdet
  have ex : (x : Int) = a * q1 + b * q2 := by rw [ha, hb]; grind
  have en : (n : Int) = a * n1 + b * n2 := by rw [ha, hb]; grind
  obtain ⟨d1, hd1⟩ : ∃ d1 : Nat, q1 * N = n1 * Q + d1 := ⟨q1 * N - n1 * Q, by omega⟩
  obtain ⟨d2, hd2⟩ : ∃ d2 : Nat, n2 * Q = q2 * N + d2 := ⟨n2 * Q - q2 * N, by omega⟩
  have k1 : (q1 : Int) * N = n1 * Q + d1 := by exact_mod_cast hd1
  have k2 : (n2 : Int) * Q = q2 * N + d2 := by exact_mod_cast hd2
  have key : (x : Int) * N - n * Q = a * d1 - b * d2 := by rw [ex, en]; grind
  have b1 : (n : Int) * Q < x * N + ε := by exact_mod_cast a1
  have b2 : (x : Int) * N < n * Q + ε := by exact_mod_cast a2
  have hx' : (x : Int) < q1 + q2 := by omega
  suffices h : (x : Int) * N - n * Q = 0 by
    have : (x : Int) * N = n * Q := by omega
    exact_mod_cast this
  have g1' : d1 = 0 ∨ ε ≤ d1 := by omega
  have g2' : d2 = 0 ∨ ε ≤ d2 := by omega
  rcases Int.lt_or_le 0 a with pa | pa
  · rcases Int.lt_or_le 0 b with pb | pb
    · exfalso
      have := Int.mul_le_mul_of_nonneg_right (show (1 : Int) ≤ a by omega) (show (0 : Int) ≤ q1 by omega)
      have := Int.mul_le_mul_of_nonneg_right (show (1 : Int) ≤ b by omega) (show (0 : Int) ≤ q2 by omega)
      omega
    · have c1 : 0 ≤ a * d1 := Int.mul_nonneg (by omega) (by omega)
      have c2 : b * d2 ≤ 0 := Int.mul_nonpos_of_nonpos_of_nonneg pb (by omega)
      have z1 : a * d1 = 0 := by
        rcases g1' with z | z
        · rw [z]; simp
        · exfalso
          have := Int.mul_le_mul_of_nonneg_right (show (1 : Int) ≤ a by omega) (show (0 : Int) ≤ d1 by omega)
          omega
      have z2 : b * d2 = 0 := by
        rcases g2' with z | z
        · rw [z]; simp
        · rcases Int.lt_or_le b 0 with pb' | pb'
          · exfalso
            have := Int.mul_le_mul_of_nonneg_right (show b ≤ -1 by omega) (show (0 : Int) ≤ d2 by omega)
            omega
          · rw [show b = 0 by omega]; simp
      omega
  · rcases Int.lt_or_le b 0 with pb | pb
    · exfalso
      have c1 : a * q1 ≤ 0 := Int.mul_nonpos_of_nonpos_of_nonneg pa (by omega)
      have c2 : b * q2 ≤ 0 := Int.mul_nonpos_of_nonpos_of_nonneg (by omega) (by omega)
      have : a * q1 = 0 := by omega
      have : b * q2 = 0 := by omega
      have q20 : (q2 : Int) = 0 := by
        rcases Int.mul_eq_zero.1 this with h | h
        · omega
        · exact h
      have q10 : a = 0 ∨ (q1 : Int) = 0 := Int.mul_eq_zero.1 ‹a * q1 = 0›
      have c3 : a * n1 ≤ 0 := Int.mul_nonpos_of_nonpos_of_nonneg pa (by omega)
      have c4 : b * n2 ≤ 0 := Int.mul_nonpos_of_nonpos_of_nonneg (by omega) (by omega)
      have c5 : b * n2 = 0 := by omega
      have n20 : (n2 : Int) = 0 := by
        rcases Int.mul_eq_zero.1 c5 with h | h
        · omega
        · exact h
      rw [q20, n20] at hd
      omega
    · have c1 : a * d1 ≤ 0 := Int.mul_nonpos_of_nonpos_of_nonneg pa (by omega)
      have c2 : 0 ≤ b * d2 := Int.mul_nonneg pb (by omega)
      have z1 : b * d2 = 0 := by
        rcases g2' with z | z
        · rw [z]; simp
        · rcases Int.lt_or_le 0 b with pb' | pb'
          · exfalso
            have := Int.mul_le_mul_of_nonneg_right (show (1 : Int) ≤ b by omega) (show (0 : Int) ≤ d2 by omega)
            omega
          · rw [show b = 0 by omega]; simp
      have z2 : a * d1 = 0 := by
        rcases g1' with z | z
        · rw [z]; simp
        · rcases Int.lt_or_le a 0 with pa' | pa'
          · exfalso
            have := Int.mul_le_mul_of_nonneg_right (show a ≤ -1 by omega) (show (0 : Int) ≤ d1 by omega)
            omega
          · rw [show a = 0 by omega]; simp
      omega

end Go.Proofs.YtmphnnmnbpheiaaGreatDoor
