/- The shortest digits: what the code chooses lies within half a step of the float. -/
import Derived.Test.YtmphnnmnbpheiaaGreatDoorFlRow
import Derived.Test.YtmphnnmnbpheiaaGreatDoorFlRung
namespace Go.Proofs.YtmphnnmnbpheiaaGreatDoor
namespace Fl

/-- The rounded middle lies strictly within half a step, where a step is at least one. -/
theorem core_plain {g o m r : Nat} (ho : 0 < o) (hu : o ≤ 4 * g) (hr : r = rne (4 * m * g) o) :
    4 * m * g < r * o + 2 * g ∧ r * o < 4 * m * g + 2 * g := by
  have h := (rne_iff (n := r) ho).1 hr.symm
  have e1 : 2 * r * o = 2 * (r * o) := by rw [Nat.mul_assoc]
  have e2 : (2 * r + 1) * o = 2 * (r * o) + o := by rw [Nat.add_mul, Nat.one_mul, Nat.mul_assoc]
  rw [e1, e2] at h
  rcases Nat.eq_or_lt_of_le hu with he | hl
  · have : r = m := by
      rw [hr, rne_iff ho]
      have e3 : 4 * m * g = m * o := by rw [he]; grind
      rw [e3, Nat.add_mul, Nat.one_mul, Nat.mul_assoc]
      omega
    subst this
    have e3 : 4 * r * g = r * o := by rw [he]; grind
    omega
  · omega

theorem core_skew_one {g o m lo hi : Nat} (hu : o ≤ 3 * g)
    (hlo : ∀ d, lo ≤ d ↔ 4 * m * g ≤ d * o + g) (hhi : ∀ d, d ≤ hi ↔ d * o ≤ 4 * m * g + 2 * g) : lo ≤ hi := by
  rw [hlo]
  have h2 : ¬ (hi + 1 ≤ hi) := by omega
  rw [hhi, Nat.add_mul, Nat.one_mul] at h2
  omega

theorem core_skew_two {g o m r lo hi : Nat} (ho : 0 < o) (hu : o ≤ 3 * g) (hr : r = rne (4 * m * g) o) (hlt : lo < hi)
    (hlo : ∀ d, lo ≤ d ↔ 4 * m * g ≤ d * o + g) (hhi : ∀ d, d ≤ hi ↔ d * o ≤ 4 * m * g + 2 * g) : lo ≤ r ∧ r ≤ hi := by
  have h := (rne_iff (n := r) ho).1 hr.symm
  have e1 : 2 * r * o = 2 * (r * o) := by rw [Nat.mul_assoc]
  have e2 : (2 * r + 1) * o = 2 * (r * o) + o := by rw [Nat.add_mul, Nat.one_mul, Nat.mul_assoc]
  rw [e1, e2] at h
  constructor
  · rcases Nat.lt_or_ge r lo with hl | hl
    · exfalso
      have a1 : ¬ lo ≤ r := by omega
      rw [hlo] at a1
      have a2 := (hhi (r + 2)).1 (by omega)
      rw [Nat.add_mul] at a2
      omega
    · exact hl
  · rw [hhi]; omega


theorem q1_parts (t u : Nat) : Q1 * t * (4 * B348 * u) = B348 * B348 * (C1130 * (t * u)) := by
  have e : Q1 * 4 = B348 * C1130 := by kernel_rfl
  rw [show Q1 * t * (4 * B348 * u) = Q1 * 4 * (B348 * (t * u)) by grind, e]
  generalize C1130 = v
  grind
theorem tens {i : Nat} (hi : i ≤ 672) : 10 ^ i * 10 ^ (696 - i) = B348 * B348 := by
  have e : B348 * B348 = 10 ^ 696 := by kernel_rfl
  rw [e, ← Nat.pow_add, show i + (696 - i) = 696 by omega]

/-- Powers by their exponents: what the table's row and the shift are together. -/
theorem scaleQ {s E i : Nat} (hi : i ≤ 672) (hs : s + E + L i = 2291) :
    Q1 * 2 ^ s * (4 * B348 * 2 ^ E) = N i * (10 ^ (696 - i) * C1137) := by
  have hL : L i ≤ 2234 := by unfold L; omega
  have e2 : 2 ^ (2284 - L i) * C1137 = C1130 * (2 ^ s * 2 ^ E) := by
    rw [show C1137 = 2 ^ 7 * C1130 by kernel_rfl, show 2284 - L i = s + E - 7 by omega, show 2 ^ (s + E - 7) * (2 ^ 7 * C1130) = C1130 * (2 ^ (s + E - 7) * 2 ^ 7) by grind, ← Nat.pow_add, ← Nat.pow_add, show s + E - 7 + 7 = s + E by omega]
  rw [q1_parts, ← tens hi, ← e2]
  unfold N
  generalize 10 ^ i = t
  generalize 10 ^ (696 - i) = u
  generalize 2 ^ (2284 - L i) = a
  generalize C1137 = b
  grind

theorem N_pos (i : Nat) : 0 < N i := Nat.mul_pos (Nat.pow_pos (by decide)) (Nat.pow_pos (by decide))

theorem ratio_le {Q n a b c x : Nat} (hn : 0 < n) (hb : 0 < b) (h : Q * b = n * a) : c * Q ≤ x * n ↔ c * a ≤ x * b := by
  constructor
  · intro hl
    have := Nat.mul_le_mul_right b hl
    rw [show c * Q * b = n * (c * a) by rw [Nat.mul_assoc, h]; grind, show x * n * b = n * (x * b) by grind] at this
    exact Nat.le_of_mul_le_mul_left this hn
  · intro hl
    have := Nat.mul_le_mul_left n hl
    rw [show n * (c * a) = c * Q * b by rw [Nat.mul_assoc, h]; grind, show n * (x * b) = x * n * b by grind] at this
    exact Nat.le_of_mul_le_mul_right this hb

theorem ratio_le' {Q n a b c x : Nat} (hn : 0 < n) (hb : 0 < b) (h : Q * b = n * a) : x * n ≤ c * Q ↔ x * b ≤ c * a := by
  constructor
  · intro hl
    have := Nat.mul_le_mul_right b hl
    rw [show c * Q * b = n * (c * a) by rw [Nat.mul_assoc, h]; grind, show x * n * b = n * (x * b) by grind] at this
    exact Nat.le_of_mul_le_mul_left this hn
  · intro hl
    have := Nat.mul_le_mul_left n hl
    rw [show n * (c * a) = c * Q * b by rw [Nat.mul_assoc, h]; grind, show n * (x * b) = x * n * b by grind] at this
    exact Nat.le_of_mul_le_mul_right this hb

theorem dmin_iff {n Q x o d : Nat} (hQ : 0 < Q) (ho : o ≤ 1) : (unr (x * n) Q + o + 3) / 4 ≤ d ↔ x * n ≤ d * (4 * Q) ∧ (o = 1 → x * n < d * (4 * Q)) := by
  have h1 := unr_le (Z := x * n) (c := 4 * d) hQ (by omega)
  have h2 := unr_lt (Z := x * n) (c := 4 * d) hQ (by omega)
  rw [show 4 * d * Q = d * (4 * Q) by grind] at h1 h2
  omega

theorem dmax_iff {n Q x o d : Nat} (hQ : 0 < Q) (hx : 0 < x * n) (ho : o ≤ 1) : d ≤ (unr (x * n) Q - o) / 4 ↔ d * (4 * Q) ≤ x * n ∧ (o = 1 → d * (4 * Q) < x * n) := by
  have h1 := unr_ge (Z := x * n) (c := 4 * d) hQ (by omega)
  have h2 := unr_gt (Z := x * n) (c := 4 * d) hQ (by omega)
  rw [show 4 * d * Q = d * (4 * Q) by grind] at h1 h2
  have h3 := unr_gt (Z := x * n) (c := 0) hQ (by omega)
  rw [Nat.zero_mul] at h3
  rcases Nat.eq_zero_or_pos d with rfl | hd
  · simp only [Nat.zero_mul, Nat.zero_le, true_iff, true_and]; omega
  · omega

theorem to_units {s E i j t d k : Nat} (hi : i ≤ 672) (hs : s + E + L i = 2291) (ht : 4 * t * 2 ^ E = 2 ^ j * 2 ^ 63) :
    (k * t * N i ≤ d * (4 * (Q1 * 2 ^ s)) ↔ k * (2 ^ j * B348) ≤ 4 * (d * 10 ^ (696 - i) * C1074)) ∧
    (d * (4 * (Q1 * 2 ^ s)) ≤ k * t * N i ↔ 4 * (d * 10 ^ (696 - i) * C1074) ≤ k * (2 ^ j * B348)) := by
  have h := scaleQ hi hs
  have hn := N_pos i
  have e2 : C1137 = C1074 * 2 ^ 63 := by kernel_rfl
  generalize Q1 * 2 ^ s = Q at *
  generalize N i = n at *
  have hB : 0 < B348 := B348_pos
  have hE : 0 < 2 ^ E := Nat.pow_pos (by decide)
  rw [e2] at h
  clear e2 hs hi
  generalize B348 = B at *
  generalize 2 ^ E = e at *
  generalize 2 ^ j = J at *
  generalize 10 ^ (696 - i) = p at *
  generalize C1074 = q at *
  have hb : 0 < 4 * B * e := Nat.mul_pos (by omega) hE
  have r1 := ratio_le' (c := 4 * d) (x := k * t) hn hb h
  have r2 := ratio_le (c := 4 * d) (x := k * t) hn hb h
  rw [show d * (4 * Q) = 4 * d * Q by grind]
  rw [r1, r2]
  have e3 : k * t * (4 * B * e) = k * (J * B) * 2 ^ 63 := by
    rw [show k * t * (4 * B * e) = k * B * (4 * t * e) by grind, ht]
    generalize 2 ^ 63 = v
    grind
  have e4 : 4 * d * (p * (q * 2 ^ 63)) = 4 * (d * p * q) * 2 ^ 63 := by
    generalize 2 ^ 63 = v
    grind
  rw [e3, e4]
  exact ⟨Nat.mul_le_mul_right_iff (by decide), Nat.mul_le_mul_right_iff (by decide)⟩

section
variable {s E i j t d M : Nat}

theorem short_plain (hi : i ≤ 672) (hs : s + E + L i = 2291) (ht : 4 * t * 2 ^ E = 2 ^ j * 2 ^ 63) (hM0 : 1 ≤ M) (hM : M < 2 ^ 53) (hj : j = 0 ∨ 2 ^ 52 ≤ M) (hns : ¬ (M = 2 ^ 52 ∧ 0 < j))
    (hP : (4 * M - 2) * t * N i ≤ d * (4 * (Q1 * 2 ^ s)) ∧ (M % 2 = 1 → (4 * M - 2) * t * N i < d * (4 * (Q1 * 2 ^ s))))
    (hR : d * (4 * (Q1 * 2 ^ s)) ≤ (4 * M + 2) * t * N i ∧ (M % 2 = 1 → d * (4 * (Q1 * 2 ^ s)) < (4 * M + 2) * t * N i)) :
    rung (d * 10 ^ (696 - i) * C1074) (B348) = j * 2 ^ 52 + M := by
  have u1 := to_units (d := d) (k := 4 * M - 2) hi hs ht
  have u2 := to_units (d := d) (k := 4 * M + 2) hi hs ht
  have hB : 0 < B348 := B348_pos
  generalize d * (4 * (Q1 * 2 ^ s)) = X at *
  generalize d * 10 ^ (696 - i) * C1074 = A at *
  generalize B348 = B at *
  have e1 : (4 * M - 2) * (2 ^ j * B) = 4 * (M * (2 ^ j * B)) - 2 * (2 ^ j * B) := by rw [Nat.sub_mul, Nat.mul_assoc]
  have e2 : (4 * M + 2) * (2 ^ j * B) = 4 * (M * (2 ^ j * B)) + 2 * (2 ^ j * B) := by rw [Nat.add_mul, Nat.mul_assoc]
  have e3 : 2 ^ j * B ≤ M * (2 ^ j * B) := Nat.le_mul_of_pos_left _ hM0
  have e4 : 2 * M * (2 ^ j * B) = 2 * (M * (2 ^ j * B)) := by rw [Nat.mul_assoc]
  have e5 : (2 * M + 1) * (2 ^ j * B) = 2 * (M * (2 ^ j * B)) + 2 ^ j * B := by rw [Nat.add_mul, Nat.one_mul, Nat.mul_assoc]
  rw [e1] at u1
  rw [e2] at u2
  apply rung_near hB hM hj
  · intro _
    rw [e4]
    refine ⟨?_, fun ho => ?_⟩
    · have := u1.1.1 hP.1
      omega
    · have h2 := hP.2 ho
      have h1 := u1.2
      omega
  · intro h; exact absurd h hns
  · rw [e5]
    refine ⟨?_, fun ho => ?_⟩
    · have := u2.2.1 hR.1
      omega
    · have h2 := hR.2 ho
      have h1 := u2.1
      omega

theorem short_skew (hi : i ≤ 672) (hs : s + E + L i = 2291) (ht : 4 * t * 2 ^ E = 2 ^ j * 2 ^ 63) (hM : M = 2 ^ 52) (hj : 0 < j)
    (hP : (4 * M - 1) * t * N i ≤ d * (4 * (Q1 * 2 ^ s)))
    (hR : d * (4 * (Q1 * 2 ^ s)) ≤ (4 * M + 2) * t * N i) :
    rung (d * 10 ^ (696 - i) * C1074) (B348) = j * 2 ^ 52 + M := by
  have u1 := (to_units (d := d) (k := 4 * M - 1) hi hs ht).1.1 hP
  have u2 := (to_units (d := d) (k := 4 * M + 2) hi hs ht).2.1 hR
  have hB : 0 < B348 := B348_pos
  clear hP hR
  generalize d * 10 ^ (696 - i) * C1074 = A at *
  generalize B348 = B at *
  have e1 : (4 * M - 1) * (2 ^ j * B) = 4 * (M * (2 ^ j * B)) - 2 ^ j * B := by rw [Nat.sub_mul, Nat.one_mul, Nat.mul_assoc]
  have e2 : (4 * M + 2) * (2 ^ j * B) = 4 * (M * (2 ^ j * B)) + 2 * (2 ^ j * B) := by rw [Nat.add_mul, Nat.mul_assoc]
  have e3 : 2 ^ j * B ≤ M * (2 ^ j * B) := Nat.le_mul_of_pos_left _ (by omega)
  have e4 : 4 * M * (2 ^ j * B) = 4 * (M * (2 ^ j * B)) := by rw [Nat.mul_assoc]
  have e5 : (2 * M + 1) * (2 ^ j * B) = 2 * (M * (2 ^ j * B)) + 2 ^ j * B := by rw [Nat.add_mul, Nat.one_mul, Nat.mul_assoc]
  rw [e1] at u1
  rw [e2] at u2
  apply rung_near hB (by omega) (by omega)
  · intro h; exact absurd ⟨hM, hj⟩ h
  · intro _
    rw [e4]
    omega
  · rw [e5]
    omega
end

end Fl
end Go.Proofs.YtmphnnmnbpheiaaGreatDoor
