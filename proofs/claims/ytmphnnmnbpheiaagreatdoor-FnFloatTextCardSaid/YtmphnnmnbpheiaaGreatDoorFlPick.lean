/- Which digits are chosen, with the logarithms that the code uses. -/
import Derived.Test.YtmphnnmnbpheiaaGreatDoorFlShort
namespace Go.Proofs.YtmphnnmnbpheiaaGreatDoor
namespace Fl

def allBelow (f : Nat → Bool) : Nat → Bool
  | 0 => true
  | n + 1 => f n && allBelow f n
theorem allBelow_at {f : Nat → Bool} : ∀ {n : Nat}, allBelow f n = true → ∀ k, k < n → f k = true
  | 0, _, _, hk => absurd hk (by omega)
  | n + 1, h, k, hk => by
    simp only [allBelow, Bool.and_eq_true] at h
    rcases Nat.lt_or_ge k n with hl | hl
    · exact allBelow_at h.2 k hl
    · rw [show k = n by omega]; exact h.1

/-- The decimal logarithm of 2 ^ j least floats, and 324 more. -/
def l10 (j : Nat) : Nat := (j * 78913 + 182094) / 262144
/-- That of three quarters of it. -/
def l10s (j : Nat) : Nat := (j * 631305 + 1194015) / 2097152

def chk (j : Nat) : Bool :=
  Nat.ble (l10 j) 616 && Nat.ble (10 ^ (24 + l10 j) * C1074) (2 ^ j * B348) && Nat.blt (2 ^ j * B348) (10 * 10 ^ (24 + l10 j) * C1074) &&
  Nat.ble (j + L (672 - l10 j)) 2234 && Nat.ble 2176 (j + L (672 - l10 j))
def chks (j : Nat) : Bool :=
  Nat.ble (l10s j) 616 && Nat.ble (4 * (10 ^ (24 + l10s j) * C1074)) (3 * (2 ^ j * B348)) && Nat.blt (3 * (2 ^ j * B348)) (4 * (10 * 10 ^ (24 + l10s j) * C1074)) &&
  Nat.ble (j + L (672 - l10s j)) 2234 && Nat.ble 2176 (j + L (672 - l10s j))
set_option maxRecDepth 100000 in
theorem chk_all : allBelow chk 2046 = true := by kernel_rfl
set_option maxRecDepth 100000 in
theorem chks_all : allBelow chks 2046 = true := by kernel_rfl

/-- What is chosen of two bounds and a middle: digits, and whether a zero was left out. -/
def pick (lo hi r : Nat) : Nat × Nat := if lo ≤ hi / 10 * 10 then (hi / 10, 1) else if lo < hi then (r, 0) else (lo, 0)

theorem pick_plain {s E i j t M : Nat} (hj : j < 2046) (hi : i = 672 - l10 j) (hs : s + E + L i = 2291) (ht : 4 * t * 2 ^ E = 2 ^ j * 2 ^ 63) (ht0 : 0 < t) (hM0 : 1 ≤ M) (hM : M < 2 ^ 53)
    (hj2 : j = 0 ∨ 2 ^ 52 ≤ M) (hns : ¬ (M = 2 ^ 52 ∧ 0 < j)) {q : Nat} (hq : q = Q1 * 2 ^ s) {lo hi' r : Nat}
    (hlo : lo = (unr ((4 * M - 2) * t * N i) q + M % 2 + 3) / 4) (hhi : hi' = (unr ((4 * M + 2) * t * N i) q - M % 2) / 4)
    (hr : r = (unr (4 * M * t * N i) q + 1 + unr (4 * M * t * N i) q / 4 % 2) / 4) :
    1 ≤ (pick lo hi' r).1 ∧ (pick lo hi' r).1 < 10 ^ 17 ∧ rung ((pick lo hi' r).1 * 10 ^ (696 - i + (pick lo hi' r).2) * C1074) (B348) = j * 2 ^ 52 + M := by
  have hk := allBelow_at chk_all j hj
  simp only [chk, Bool.and_eq_true, Nat.ble_eq, Nat.blt_eq] at hk
  obtain ⟨⟨⟨⟨k1, k2⟩, k3⟩, k4⟩, k5⟩ := hk
  have hi6 : i ≤ 672 := by omega
  have ei : 696 - i = 24 + l10 j := by omega
  have hQ : 0 < q := by rw [hq]; exact Nat.mul_pos Q1_pos (Nat.pow_pos (by decide))
  have n0 := N_pos i
  have hx : 0 < (4 * M + 2) * t * N i := Nat.mul_pos (Nat.mul_pos (by omega) ht0) n0
  have i1 := fun d => dmin_iff (n := N i) (x := (4 * M - 2) * t) (o := M % 2) (d := d) hQ (by omega)
  have i2 := fun d => dmax_iff (n := N i) (x := (4 * M + 2) * t) (o := M % 2) (d := d) hQ hx (by omega)
  rw [← hlo] at i1
  rw [← hhi] at i2
  rw [unr_round hQ] at hr
  have u := (to_units (d := 1) (k := 4) hi6 hs ht).2.2 (by rw [ei, Nat.one_mul]; omega)
  have u' : ¬ _ := fun h => absurd ((to_units (d := 10) (k := 4) hi6 hs ht).2.1 h) (by rw [ei]; omega)
  rw [← hq] at u u'
  have c := core_plain (g := t * N i) (o := 4 * q) (m := M) (r := r) (by omega) (by rw [Nat.one_mul] at u; rw [← Nat.mul_assoc]; exact u) (by rw [hr]; congr 1; grind)
  have e1 : (4 * M - 2) * t * N i = 4 * M * (t * N i) - 2 * (t * N i) := by rw [Nat.mul_assoc, Nat.sub_mul]
  have e2 : (4 * M + 2) * t * N i = 4 * M * (t * N i) + 2 * (t * N i) := by rw [Nat.mul_assoc, Nat.add_mul]
  have m4 : 4 * (t * N i) ≤ 4 * M * (t * N i) := Nat.mul_le_mul_right _ (by omega)
  have rlo : lo ≤ r := (i1 r).2 (by rw [e1]; omega)
  have rhi : r ≤ hi' := (i2 r).2 (by rw [e2]; omega)
  have fin : ∀ d, lo ≤ d → d ≤ hi' → rung (d * 10 ^ (696 - i) * C1074) (B348) = j * 2 ^ 52 + M := by
    intro d h1 h2
    have a1 := (i1 d).1 h1
    have a2 := (i2 d).1 h2
    rw [hq] at a1 a2
    exact short_plain hi6 hs ht hM0 hM hj2 hns a1 a2
  have big : ∀ d, d ≤ hi' → d < 10 ^ 17 := by
    intro d h2
    have a2 := ((i2 d).1 h2).1
    rw [e2] at a2
    rcases Nat.lt_or_ge d (10 ^ 17) with h | h
    · exact h
    · exfalso
      have b1 := Nat.mul_le_mul_right (4 * q) h
      have b2 : 4 * M * (t * N i) + 2 * (t * N i) ≤ 4 * (9007199254740992 * (t * N i)) := by
        have := Nat.mul_le_mul_right (t * N i) (show M + 1 ≤ 9007199254740992 by omega)
        rw [Nat.add_mul, Nat.one_mul] at this
        rw [Nat.mul_assoc]
        omega
      rw [Nat.mul_assoc 4 t] at u'
      omega
  have pos : ∀ d, lo ≤ d → 1 ≤ d := by
    intro d h1
    have a1 := ((i1 d).1 h1).1
    rcases Nat.eq_zero_or_pos d with rfl | h
    · exfalso
      have : 0 < (4 * M - 2) * t * N i := Nat.mul_pos (Nat.mul_pos (by omega) ht0) n0
      omega
    · exact h
  unfold pick
  split
  · rename_i h
    have h2 : hi' / 10 * 10 ≤ hi' := Nat.div_mul_le_self _ _
    refine ⟨?_, ?_, ?_⟩
    · have := pos _ h; show 1 ≤ hi' / 10; omega
    · have := big _ h2; show hi' / 10 < 10 ^ 17; omega
    · have := fin _ h h2
      rw [show hi' / 10 * 10 * 10 ^ (696 - i) = hi' / 10 * 10 ^ (696 - i + 1) by rw [Nat.pow_succ]; grind] at this
      exact this
  · split
    · exact ⟨pos _ rlo, big _ rhi, fin _ rlo rhi⟩
    · have h3 : lo ≤ hi' := by omega
      exact ⟨pos _ (Nat.le_refl _), big _ h3, fin _ (Nat.le_refl _) h3⟩

theorem pick_skew {s E i j t M : Nat} (hj : j < 2046) (hi : i = 672 - l10s j) (hs : s + E + L i = 2291) (ht : 4 * t * 2 ^ E = 2 ^ j * 2 ^ 63) (ht0 : 0 < t) (hM : M = 2 ^ 52) (hj0 : 0 < j)
    {q : Nat} (hq : q = Q1 * 2 ^ s) {lo hi' r : Nat}
    (hlo : lo = (unr ((4 * M - 1) * t * N i) q + 3) / 4) (hhi : hi' = (unr ((4 * M + 2) * t * N i) q) / 4)
    (hr : r = (unr (4 * M * t * N i) q + 1 + unr (4 * M * t * N i) q / 4 % 2) / 4) :
    1 ≤ (pick lo hi' r).1 ∧ (pick lo hi' r).1 < 10 ^ 17 ∧ rung ((pick lo hi' r).1 * 10 ^ (696 - i + (pick lo hi' r).2) * C1074) (B348) = j * 2 ^ 52 + M := by
  have hk := allBelow_at chks_all j hj
  simp only [chks, Bool.and_eq_true, Nat.ble_eq, Nat.blt_eq] at hk
  obtain ⟨⟨⟨⟨k1, k2⟩, k3⟩, k4⟩, k5⟩ := hk
  have hi6 : i ≤ 672 := by omega
  have ei : 696 - i = 24 + l10s j := by omega
  have hQ : 0 < q := by rw [hq]; exact Nat.mul_pos Q1_pos (Nat.pow_pos (by decide))
  have n0 := N_pos i
  have hx : 0 < (4 * M + 2) * t * N i := Nat.mul_pos (Nat.mul_pos (by omega) ht0) n0
  have i1 := fun d => dmin_iff (n := N i) (x := (4 * M - 1) * t) (o := 0) (d := d) hQ (by omega)
  have i2 := fun d => dmax_iff (n := N i) (x := (4 * M + 2) * t) (o := 0) (d := d) hQ hx (by omega)
  rw [Nat.add_zero, ← hlo] at i1
  rw [Nat.sub_zero, ← hhi] at i2
  rw [unr_round hQ] at hr
  have u := (to_units (d := 1) (k := 3) hi6 hs ht).2.2 (by rw [ei, Nat.one_mul]; omega)
  have u' : ¬ _ := fun h => absurd ((to_units (d := 10) (k := 3) hi6 hs ht).2.1 h) (by rw [ei]; omega)
  rw [← hq] at u u'
  have hu : 4 * q ≤ 3 * (t * N i) := by rw [Nat.one_mul] at u; rw [← Nat.mul_assoc]; exact u
  have e1 : (4 * M - 1) * t * N i = 4 * M * (t * N i) - t * N i := by rw [Nat.mul_assoc, Nat.sub_mul, Nat.one_mul]
  have e2 : (4 * M + 2) * t * N i = 4 * M * (t * N i) + 2 * (t * N i) := by rw [Nat.mul_assoc, Nat.add_mul]
  have m4 : 4 * (t * N i) ≤ 4 * M * (t * N i) := Nat.mul_le_mul_right _ (by omega)
  have j1 : ∀ d, lo ≤ d ↔ 4 * M * (t * N i) ≤ d * (4 * q) + t * N i := fun d => by rw [i1 d, e1]; omega
  have j2 : ∀ d, d ≤ hi' ↔ d * (4 * q) ≤ 4 * M * (t * N i) + 2 * (t * N i) := fun d => by rw [i2 d, e2]; omega
  have one : lo ≤ hi' := core_skew_one hu j1 j2
  have fin : ∀ d, lo ≤ d → d ≤ hi' → rung (d * 10 ^ (696 - i) * C1074) (B348) = j * 2 ^ 52 + M := by
    intro d h1 h2
    have a1 := ((i1 d).1 h1).1
    have a2 := ((i2 d).1 h2).1
    rw [hq] at a1 a2
    exact short_skew hi6 hs ht hM hj0 a1 a2
  have big : ∀ d, d ≤ hi' → d < 10 ^ 17 := by
    intro d h2
    have a2 := (j2 d).1 h2
    rcases Nat.lt_or_ge d (10 ^ 17) with h | h
    · exact h
    · exfalso
      have b1 := Nat.mul_le_mul_right (4 * q) h
      have b2 : 4 * M * (t * N i) + 2 * (t * N i) ≤ 4 * (4503599627370497 * (t * N i)) := by
        have := Nat.mul_le_mul_right (t * N i) (show M + 1 ≤ 4503599627370497 by omega)
        rw [Nat.add_mul, Nat.one_mul] at this
        rw [Nat.mul_assoc]
        omega
      rw [Nat.mul_assoc 3 t] at u'
      omega
  have pos : ∀ d, lo ≤ d → 1 ≤ d := by
    intro d h1
    have a1 := ((i1 d).1 h1).1
    rcases Nat.eq_zero_or_pos d with rfl | h
    · exfalso
      have : 0 < (4 * M - 1) * t * N i := Nat.mul_pos (Nat.mul_pos (by omega) ht0) n0
      omega
    · exact h
  unfold pick
  split
  · rename_i h
    have h2 : hi' / 10 * 10 ≤ hi' := Nat.div_mul_le_self _ _
    refine ⟨?_, ?_, ?_⟩
    · have := pos _ h; show 1 ≤ hi' / 10; omega
    · have := big _ h2; show hi' / 10 < 10 ^ 17; omega
    · have := fin _ h h2
      rw [show hi' / 10 * 10 * 10 ^ (696 - i) = hi' / 10 * 10 ^ (696 - i + 1) by rw [Nat.pow_succ]; grind] at this
      exact this
  · split
    · rename_i h
      obtain ⟨rlo, rhi⟩ := core_skew_two (r := r) (by omega) hu (by rw [hr]; congr 1; grind) h j1 j2
      exact ⟨pos _ rlo, big _ rhi, fin _ rlo rhi⟩
    · exact ⟨pos _ (Nat.le_refl _), big _ one, fin _ (Nat.le_refl _) one⟩

end Fl
end Go.Proofs.YtmphnnmnbpheiaaGreatDoor
