/- Reading digits: what the code rounds to is the nearest float. -/
import Derived.Test.YtmphnnmnbpheiaaGreatDoorFlPick
namespace Go.Proofs.YtmphnnmnbpheiaaGreatDoor
namespace Fl

theorem rne_one {a x n : Nat} (hx : 0 < x) (h : rne a x = n) : 2 * (n * x) ≤ 2 * a + x ∧ 2 * a ≤ 2 * (n * x) + x := by
  have := (rne_iff hx).1 h
  have e1 : 2 * n * x = 2 * (n * x) := by rw [Nat.mul_assoc]
  have e2 : (2 * n + 1) * x = 2 * (n * x) + x := by rw [Nat.add_mul, Nat.one_mul, Nat.mul_assoc]
  rw [e1, e2] at this
  exact ⟨this.1, this.2.1⟩

section
variable {a b j : Nat}

theorem near_low (hb : 0 < b) (hlo : j = 0 ∨ 2 ^ 52 * (b * 2 ^ j) ≤ a) (hu : unr (4 * a) (b * 2 ^ j) < 36028797018963966) {m : Nat} (hm : m = (unr (4 * a) (b * 2 ^ j) + 1 + unr (4 * a) (b * 2 ^ j) / 4 % 2) / 4) :
    m < 2 ^ 53 ∧ (j = 0 ∨ 2 ^ 52 ≤ m) ∧ rung a b = j * 2 ^ 52 + m := by
  have hX : 0 < b * 2 ^ j := Nat.mul_pos hb (Nat.pow_pos (by decide))
  have h1 := (unr_lt hX (by decide)).1 hu
  rw [unr_round hX, Nat.mul_comm 4 a, Nat.mul_comm 4, rne_scale _ _ _ (by decide)] at hm
  have e52 : b * 2 ^ (52 + j) = 2 ^ 52 * (b * 2 ^ j) := by rw [Nat.pow_add]; generalize 2 ^ j = u; grind
  have e53 : b * 2 ^ (53 + j) = 2 ^ 53 * (b * 2 ^ j) := by rw [Nat.pow_add]; generalize 2 ^ j = u; grind
  have hj : jOf a b = j := jOf_eq hb (by rw [e52]; exact hlo) (by rw [e53]; omega)
  have hr : rung a b = j * 2 ^ 52 + m := by unfold rung; rw [hj, hm]
  obtain ⟨c1, c2⟩ := rne_one hX hm.symm
  refine ⟨?_, ?_, hr⟩
  · rcases Nat.lt_or_ge m (2 ^ 53) with h | h
    · exact h
    · have := Nat.mul_le_mul_right (b * 2 ^ j) h
      omega
  · rcases hlo with h | h
    · left; exact h
    · right
      rcases Nat.lt_or_ge m (2 ^ 52) with h' | h'
      · have := Nat.mul_le_mul_right (b * 2 ^ j) (show m + 1 ≤ 2 ^ 52 by omega)
        rw [Nat.add_mul, Nat.one_mul] at this
        omega
      · exact h'

theorem near_high (hb : 0 < b) (hlo : j = 0 ∨ 2 ^ 52 * (b * 2 ^ j) ≤ a) (hhi : a ≤ (2 ^ 54 - 2 ^ 6) * (b * 2 ^ j)) (hu : 36028797018963966 ≤ unr (4 * a) (b * 2 ^ j)) {u m : Nat}
    (hu' : u = unr (4 * a) (b * 2 ^ j) / 2 ||| unr (4 * a) (b * 2 ^ j) % 2) (hm : m = (u + 1 + u / 4 % 2) / 4) :
    m < 2 ^ 53 ∧ 2 ^ 52 ≤ m ∧ rung a b = (j + 1) * 2 ^ 52 + m := by
  have hX : 0 < b * 2 ^ j := Nat.mul_pos hb (Nat.pow_pos (by decide))
  have h1 := (unr_ge hX (by decide)).1 hu
  rw [unr_half _ _ hX] at hu'
  subst hu'
  rw [unr_round (by omega), Nat.mul_comm 4 a, Nat.mul_comm 4, rne_scale _ _ _ (by decide)] at hm
  have e52 : b * 2 ^ (52 + j) = 2 ^ 52 * (b * 2 ^ j) := by rw [Nat.pow_add]; generalize 2 ^ j = u; grind
  have e53 : b * 2 ^ (53 + j) = 2 ^ 53 * (b * 2 ^ j) := by rw [Nat.pow_add]; generalize 2 ^ j = u; grind
  have e52' : b * 2 ^ (52 + (j + 1)) = 2 ^ 53 * (b * 2 ^ j) := by rw [← e53]; congr 2; omega
  have e53' : b * 2 ^ (53 + (j + 1)) = 2 ^ 54 * (b * 2 ^ j) := by rw [show 53 + (j + 1) = 54 + j by omega, Nat.pow_add]; generalize 2 ^ j = u; grind
  have e1 : b * 2 ^ (j + 1) = b * 2 ^ j * 2 := by rw [Nat.pow_succ, ← Nat.mul_assoc]
  obtain ⟨c1, c2⟩ := rne_one (by omega) hm.symm
  have g1 : m < 2 ^ 53 := by
    rcases Nat.lt_or_ge m (2 ^ 53) with h | h
    · exact h
    · have := Nat.mul_le_mul_right (b * 2 ^ j * 2) h
      omega
  have g2 : 2 ^ 52 ≤ m := by
    rcases Nat.lt_or_ge m (2 ^ 52) with h' | h'
    · have := Nat.mul_le_mul_right (b * 2 ^ j * 2) (show m + 1 ≤ 2 ^ 52 by omega)
      rw [Nat.add_mul, Nat.one_mul] at this
      omega
    · exact h'
  refine ⟨g1, g2, ?_⟩
  rcases Nat.lt_or_ge a (2 ^ 53 * (b * 2 ^ j)) with h | h
  · have hj : jOf a b = j := jOf_eq hb (by rw [e52]; exact hlo) (by rw [e53]; exact h)
    have r1 : rne a (b * 2 ^ j) = 2 ^ 53 := (rne_iff hX).2 ⟨by omega, by omega, by omega⟩
    have r2 : rne a (b * 2 ^ j * 2) = 2 ^ 52 := (rne_iff (by omega)).2 ⟨by omega, by omega, by omega⟩
    unfold rung
    rw [hj, r1, hm, r2]
    omega
  · have hj : jOf a b = j + 1 := jOf_eq hb (by rw [e52']; right; exact h) (by rw [e53']; omega)
    unfold rung
    rw [hj, e1, hm]

end

theorem c2204 {s k : Nat} (hk : k = 2204 + s) : 2 ^ k = C1130 * C1074 * 2 ^ s := by
  have key : ∀ a b : Nat, a = 1130 → b = 1074 → 2 ^ (a + b + s) = C1130 * C1074 * 2 ^ s := by
    intro a b ha hb
    have h1 : 2 ^ a = C1130 := by subst ha; kernel_rfl
    have h2 : 2 ^ b = C1074 := by subst hb; kernel_rfl
    rw [Nat.pow_add, Nat.pow_add, h1, h2]
  rw [hk]
  exact key 1130 1074 rfl rfl
theorem four_q1 : 4 * Q1 = B348 * C1130 := by kernel_rfl
theorem lit1 (t : Nat) : 2 ^ 54 * (2 ^ 128 * t * 2 ^ 8) = 2 ^ 63 * (2 ^ 127 * t) := by
  rw [← Nat.mul_assoc (2 ^ 63), Nat.mul_comm (2 ^ 128 * t), ← Nat.mul_assoc, ← Nat.mul_assoc]
theorem lit2 (t : Nat) : 2 ^ 64 * ((2 ^ 128 - 2 ^ 80) * t) = (2 ^ 56 - 2 ^ 8) * (2 ^ 128 * t * (2 ^ 8 * 1)) := by
  rw [← Nat.mul_assoc, Nat.mul_one, Nat.mul_comm (2 ^ 128 * t), ← Nat.mul_assoc, ← Nat.mul_assoc]

/-- What the reader's scaling is of: four times the number, in units of 2 ^ j least floats. -/
theorem parse_ratio {d b i j s : Nat} (hb : b ≤ 64) (hi : i ≤ 672) (hs : s + b + L i = 144 + j) :
    d * 2 ^ (64 - b) * N i * (B348 * 2 ^ j) = 4 * (d * 10 ^ i * C1074) * (Q1 * 2 ^ s) := by
  have hL : L i ≤ 2234 := by unfold L; omega
  have e1 : 2 ^ (64 - b) * 2 ^ (2284 - L i) * 2 ^ j = C1130 * C1074 * 2 ^ s := by
    rw [← Nat.pow_add, ← Nat.pow_add]
    exact c2204 (by omega)
  have e2 : 4 * C1074 * Q1 = B348 * (C1130 * C1074) := by rw [Nat.mul_right_comm, four_q1, Nat.mul_assoc]
  unfold N
  calc d * 2 ^ (64 - b) * (10 ^ i * 2 ^ (2284 - L i)) * (B348 * 2 ^ j)
      = d * 10 ^ i * B348 * (2 ^ (64 - b) * 2 ^ (2284 - L i) * 2 ^ j) := by
        generalize 2 ^ (64 - b) = x; generalize 10 ^ i = y; generalize 2 ^ (2284 - L i) = z; generalize 2 ^ j = t; grind
    _ = d * 10 ^ i * (B348 * (C1130 * C1074)) * 2 ^ s := by rw [e1]; generalize C1130 * C1074 = x; generalize 10 ^ i = y; grind
    _ = 4 * (d * 10 ^ i * C1074) * (Q1 * 2 ^ s) := by rw [← e2]; generalize 10 ^ i = y; generalize 2 ^ s = z; grind

theorem parse_unr {d b i j s : Nat} (hb : b ≤ 64) (hi : i ≤ 672) (hs : s + b + L i = 144 + j) :
    unr (d * 2 ^ (64 - b) * N i) (Q1 * 2 ^ s) = unr (4 * (d * 10 ^ i * C1074)) (B348 * 2 ^ j) :=
  unr_ratio (Nat.mul_pos Q1_pos (Nat.pow_pos (by decide))) (Nat.mul_pos B348_pos (Nat.pow_pos (by decide))) (parse_ratio hb hi hs)

theorem parse_bounds {d b i j s h l : Nat} (R : Row (N i) D1 h l) (hd1 : 2 ^ b ≤ 2 * d) (hd2 : d < 2 ^ b) (hb : b ≤ 64) (hi : i ≤ 672) (hs : s + b + L i = 144 + j) (hs8 : 8 ≤ s) (hj : j = 0 ∨ s = 8) :
    (j = 0 ∨ 2 ^ 52 * (B348 * 2 ^ j) ≤ d * 10 ^ i * C1074) ∧ d * 10 ^ i * C1074 ≤ (2 ^ 54 - 2 ^ 6) * (B348 * 2 ^ j) := by
  have hr := parse_ratio (d := d) hb hi hs
  have hX : 0 < B348 * 2 ^ j := Nat.mul_pos B348_pos (Nat.pow_pos (by decide))
  have hQ : 0 < Q1 * 2 ^ s := Nat.mul_pos Q1_pos (Nat.pow_pos (by decide))
  have x1 : 2 ^ 64 ≤ 2 * (d * 2 ^ (64 - b)) := by
    have : 2 ^ 64 = 2 ^ b * 2 ^ (64 - b) := by rw [← Nat.pow_add, Nat.add_sub_cancel' hb]
    rw [this, ← Nat.mul_assoc]
    exact Nat.mul_le_mul_right _ hd1
  have x2 : d * 2 ^ (64 - b) < 2 ^ 64 := by
    have : 2 ^ 64 = 2 ^ b * 2 ^ (64 - b) := by rw [← Nat.pow_add, Nat.add_sub_cancel' hb]
    rw [this]
    exact Nat.mul_lt_mul_of_pos_right hd2 (Nat.pow_pos (by decide))
  have hQ1 : Q1 = 2 ^ 128 * D1 := by unfold Q1; rw [← Nat.mul_assoc]
  generalize d * 2 ^ (64 - b) = x at *
  generalize d * 10 ^ i * C1074 = A at *
  generalize B348 * 2 ^ j = X at *
  have big := R.big
  have small := R.small
  generalize N i = n at *
  constructor
  · rcases hj with h | h
    · left; exact h
    · right
      subst h
      have c1 : 2 ^ 54 * (Q1 * 2 ^ 8) ≤ x * n := by
        rw [hQ1, lit1]
        exact Nat.mul_le_mul (show 2 ^ 63 ≤ x by omega) big
      have c2 := Nat.mul_le_mul_right X c1
      rw [hr, Nat.mul_right_comm] at c2
      have c4 := Nat.le_of_mul_le_mul_right c2 hQ
      clear c1 c2 hr hQ big small hQ1 R x1 x2
      omega
  · have c0 : x * n ≤ (2 ^ 56 - 2 ^ 8) * (Q1 * 2 ^ s) := by
      obtain ⟨t, rfl⟩ : ∃ t, s = 8 + t := ⟨s - 8, by omega⟩
      have t1 := Nat.one_le_two_pow (n := t)
      calc x * n ≤ 2 ^ 64 * ((2 ^ 128 - 2 ^ 80) * D1) := Nat.mul_le_mul (by omega) small
        _ = (2 ^ 56 - 2 ^ 8) * (Q1 * (2 ^ 8 * 1)) := by rw [hQ1, lit2]
        _ ≤ (2 ^ 56 - 2 ^ 8) * (Q1 * (2 ^ 8 * 2 ^ t)) := Nat.mul_le_mul_left _ (Nat.mul_le_mul_left _ (Nat.mul_le_mul_left _ t1))
        _ = (2 ^ 56 - 2 ^ 8) * (Q1 * 2 ^ (8 + t)) := by rw [Nat.pow_add]
    have c2 := Nat.mul_le_mul_right X c0
    rw [hr, Nat.mul_right_comm (2 ^ 56 - 2 ^ 8)] at c2
    have c4 := Nat.le_of_mul_le_mul_right c2 hQ
    clear c0 c2 hr hQ big small hQ1 R x1 x2
    omega

end Fl
end Go.Proofs.YtmphnnmnbpheiaaGreatDoor
