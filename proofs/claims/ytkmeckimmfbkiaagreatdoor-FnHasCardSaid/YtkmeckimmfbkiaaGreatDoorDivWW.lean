/- reciprocalWord, divWW. -/
import Derived.Test.YtkmeckimmfbkiaaGreatDoorDiv
namespace Go.Proofs.YtkmeckimmfbkiaaGreatDoor
open Go Go.RowKit
theorem ones_xor (b : Nat) (hb : b < 2 ^ 64) : (2 ^ 64 - 1) ^^^ b = 2 ^ 64 - 1 - b := by
  apply Nat.eq_of_testBit_eq
  intro i
  rw [Nat.testBit_xor, Nat.testBit_two_pow_sub_one, show 2 ^ 64 - 1 - b = 2 ^ 64 - (b + 1) by omega, Nat.testBit_two_pow_sub_succ hb]
  by_cases h : i < 64
  · simp [h]
  · have : b.testBit i = false := Nat.testBit_lt_two_pow (Nat.lt_of_lt_of_le hb (Nat.pow_le_pow_right (by omega) (by omega)))
    simp [h, this]
theorem not_word (u : Nat) (hu : u < 18446744073709551616) : bits .xor .u64 IntKind.u64.max (u : Int) = ((18446744073709551615 - u : Nat) : Int) := by
  have h := bits_xor_u64_nat 18446744073709551615 u (by omega) hu
  have e := ones_xor u hu
  rw [show (18446744073709551615 : Nat) ^^^ u = 18446744073709551615 - u from e] at h
  exact h
set_option maxRecDepth 10000 in
theorem nlz_any (x : Nat) (hx : x < 18446744073709551616) (w : World) :
    Calls Tryz.prog 170 #[.int .u64 x] w fun e w' => e = .returned (.int .u64 ((64 - nbits x : Nat) : Int)) ∧ w' = w := by
  have hn : nbits x ≤ 64 := by rw [← nbits_word x hx]; exact Lib.bitLen_le x 64 (Nat.le_refl _) hx
  have H := Go.Proofs.Tryz.bits_LeadingZeros (x : Int) w (by omega) (by omega)
  rw [Int.toNat_natCast, nbits_word x hx] at H
  generalize nbits x = n at *
  have HH := Lib.hid H
  clear H
  go_enter Tryz.func170, Tryz.ntmps170
  go_wp2_with fail
  refine HH.out.mono ?_
  rintro e w1 ⟨rfl, rfl⟩
  go_wp2_with fail
  go_ret
  exact ⟨by go_num, rfl⟩
set_option maxRecDepth 10000 in
theorem bitsDiv_any (hi lo y : Nat) (hhi : hi < y) (hlo : lo < 18446744073709551616) (hy : y < 18446744073709551616) (ht : 9223372036854775808 ≤ y) (w : World) :
    Calls Tryz.prog 185 #[.int .u64 hi, .int .u64 lo, .int .u64 y] w fun e w' => e = .returned (.tuple #[.int .u64 (((hi * 18446744073709551616 + lo) / y : Nat) : Int), .int .u64 (((hi * 18446744073709551616 + lo) % y : Nat) : Int)]) ∧ ∃ k, w' = w.drewN k := by
  have H := Lib.hid (bitsDiv64_any hi lo y hhi hlo hy ht w)
  clear hhi hlo hy ht
  generalize (hi * 18446744073709551616 + lo) / y = q at *
  generalize (hi * 18446744073709551616 + lo) % y = r at *
  go_enter Tryz.func185, Tryz.ntmps185
  go_wp2_with fail
  refine H.out.mono ?_
  rintro e w1 ⟨rfl, k, rfl⟩
  go_wp2_with fail
  go_ret2
  exact ⟨rfl, k, rfl⟩
/-- The divisor, shifted until its top bit is set. -/
def topped (y : Nat) : Nat := y * 2 ^ (64 - nbits y)
theorem topped_bounds (y : Nat) (h0 : 0 < y) (hy : y < 18446744073709551616) : 9223372036854775808 ≤ topped y ∧ topped y < 18446744073709551616 := by
  have hl := Nat.log2_self_le (n := y) (by omega)
  have hu := Nat.lt_log2_self (n := y)
  have hn : nbits y = Nat.log2 y + 1 := by rw [nbits, if_neg (by omega)]
  have h63 : Nat.log2 y ≤ 63 := by
    have := (Nat.log2_lt (by omega : y ≠ 0)).2 (show y < 2 ^ 64 by omega)
    omega
  rw [topped, hn]
  have e1 : (9223372036854775808 : Nat) = 2 ^ Nat.log2 y * 2 ^ (64 - (Nat.log2 y + 1)) := by rw [← Nat.pow_add, show Nat.log2 y + (64 - (Nat.log2 y + 1)) = 63 by omega]
  have e2 : (18446744073709551616 : Nat) = 2 ^ (Nat.log2 y + 1) * 2 ^ (64 - (Nat.log2 y + 1)) := by rw [← Nat.pow_add, show Nat.log2 y + 1 + (64 - (Nat.log2 y + 1)) = 64 by omega]
  constructor
  · rw [e1]; exact Nat.mul_le_mul_right _ hl
  · rw [e2]; exact Nat.mul_lt_mul_of_pos_right hu (Nat.pow_pos (by omega))
def recip (y : Nat) : Nat := ((18446744073709551615 - topped y) * 18446744073709551616 + 18446744073709551615) / topped y
set_option maxRecDepth 10000 in
theorem reciprocalWord_any (y : Nat) (h0 : 0 < y) (hy : y < 18446744073709551616) (w : World) :
    Calls Tryz.prog 186 #[.int .u64 y] w fun e w' => e = .returned (.int .u64 (recip y : Nat)) ∧ ∃ k, w' = w.drewN k := by
  obtain ⟨b1, b2⟩ := topped_bounds y h0 hy
  have H1 := Lib.hid (nlz_any y hy w)
  have H2 := Lib.hid (bitsDiv_any (18446744073709551615 - topped y) 18446744073709551615 (topped y) (by omega) (by omega) b2 b1 w)
  have hsg : IntKind.u64.signed = false := rfl
  have t1 : IntKind.u64.wrap ((y : Int) * 2 ^ (64 - nbits y)) = (topped y : Int) := by
    have e : (y : Int) * 2 ^ (64 - nbits y) = ((topped y : Nat) : Int) := by rw [topped, Int.natCast_mul, Int.natCast_pow]; rfl
    rw [e, Go.Proofs.Mul64.wrapN _ b2]
  have t2 := not_word (topped y) b2
  clear b1 b2
  go_enter Tryz.func186, Tryz.ntmps186
  go_wp2_with fail
  refine H1.out.mono ?_
  rintro e w1 ⟨rfl, rfl⟩
  go_wp2_with fail
  refine H2.out.mono ?_
  rintro e w2 ⟨rfl, k, rfl⟩
  go_wp2_with fail
  go_ret
  exact ⟨rfl, k, rfl⟩
theorem recip_v (y : Nat) (h0 : 0 < y) (hy : y < 18446744073709551616) : topped y * (recip y + 18446744073709551616) ≤ 18446744073709551616 * 18446744073709551616 ∧ 18446744073709551616 * 18446744073709551616 ≤ topped y * (recip y + 18446744073709551616 + 1) ∧ recip y < 18446744073709551616 := by
  obtain ⟨b1, b2⟩ := topped_bounds y h0 hy
  have e := Nat.div_add_mod ((18446744073709551615 - topped y) * 18446744073709551616 + 18446744073709551615) (topped y)
  have hm := Nat.mod_lt ((18446744073709551615 - topped y) * 18446744073709551616 + 18446744073709551615) (show 0 < topped y by omega)
  have h3 : recip y < 18446744073709551616 := by
    rw [recip, Nat.div_lt_iff_lt_mul (by omega)]; omega
  rw [← recip] at e
  generalize ((18446744073709551615 - topped y) * 18446744073709551616 + 18446744073709551615) % topped y = r at *
  generalize recip y = m at *
  generalize topped y = u at *
  refine ⟨?_, ?_, h3⟩
  · rw [Nat.mul_add]; omega
  · rw [Nat.mul_add, Nat.mul_add, Nat.mul_one]; omega
/-- What the estimate gives, word by word. -/
theorem divWW_plain (u m X1 X0 : Nat) (b1 : 9223372036854775808 ≤ u) (b2 : u < 18446744073709551616) (_hm : m < 18446744073709551616) (hv : u * (m + 18446744073709551616) ≤ 18446744073709551616 * 18446744073709551616) (hv1 : 18446744073709551616 * 18446744073709551616 ≤ u * (m + 18446744073709551616 + 1)) (h1 : X1 < u) (h0 : X0 < 18446744073709551616) :
    ∃ qq R : Nat, qq = (m * X1 / 18446744073709551616 + X1 + (m * X1 % 18446744073709551616 + X0 + 0) / 18446744073709551616) % 18446744073709551616 ∧ X1 * 18446744073709551616 + X0 = u * qq + R ∧ R < 18446744073709551616 + u ∧ qq < 18446744073709551616 ∧
      (X0 + 18446744073709551616 - u * qq % 18446744073709551616 - 0) % 18446744073709551616 = R % 18446744073709551616 ∧
      (X1 + 18446744073709551616 - u * qq / 18446744073709551616 - (if X0 < u * qq % 18446744073709551616 + 0 then 1 else 0)) % 18446744073709551616 = R / 18446744073709551616 := by
  obtain ⟨c1, c2⟩ := recip_step 18446744073709551616 u (m + 18446744073709551616) X1 X0 (by omega) b2 hv hv1 h1 h0
  have e1 : (X1 * (m + 18446744073709551616) + X0) / 18446744073709551616 = m * X1 / 18446744073709551616 + X1 + (m * X1 % 18446744073709551616 + X0 + 0) / 18446744073709551616 := by
    rw [Nat.mul_add, Nat.mul_comm X1 m]; omega
  rw [e1] at c1 c2
  have c3 : m * X1 / 18446744073709551616 + X1 + (m * X1 % 18446744073709551616 + X0 + 0) / 18446744073709551616 < 18446744073709551616 := by
    rcases Nat.lt_or_ge (m * X1 / 18446744073709551616 + X1 + (m * X1 % 18446744073709551616 + X0 + 0) / 18446744073709551616) 18446744073709551616 with h | h
    · exact h
    · have := Nat.mul_le_mul_left u h
      have h2 := Nat.mul_le_mul_right 18446744073709551616 (Nat.succ_le_of_lt h1)
      rw [Nat.succ_mul] at h2
      omega
  rw [Nat.mod_eq_of_lt c3]
  generalize m * X1 / 18446744073709551616 + X1 + (m * X1 % 18446744073709551616 + X0 + 0) / 18446744073709551616 = qq at *
  clear e1 hv hv1
  refine ⟨qq, X1 * 18446744073709551616 + X0 - u * qq, rfl, by omega, by omega, c3, ?_, ?_⟩
  all_goals
    generalize u * qq = P at *
    first | omega | (split <;> omega)
/-- The corrections. -/
theorem divWW_fix (u X qq R : Nat) (b1 : 9223372036854775808 ≤ u) (b2 : u < 18446744073709551616) (h : X = u * qq + R) (hR : R < 18446744073709551616 + u) :
    (18446744073709551616 ≤ R → (R - u < u → X / u = qq + 1 ∧ X % u = R - u) ∧ (u ≤ R - u → X / u = qq + 2 ∧ X % u = R - u - u)) ∧
    (R < 18446744073709551616 → (R < u → X / u = qq ∧ X % u = R) ∧ (u ≤ R → X / u = qq + 1 ∧ X % u = R - u)) := by
  have key : ∀ k r, R = u * k + r → r < u → X / u = qq + k ∧ X % u = r := fun k r e hr => by
    have : X = u * (qq + k) + r := by rw [h, e, Nat.mul_add]; omega
    rw [this, Nat.mul_add_div (by omega), Nat.mul_add_mod, Nat.div_eq_of_lt hr, Nat.mod_eq_of_lt hr]
    exact ⟨rfl, rfl⟩
  refine ⟨fun hb => ⟨fun h1 => key 1 _ (by omega) h1, fun h1 => key 2 _ (by omega) (by omega)⟩, fun hb => ⟨fun h1 => key 0 _ (by omega) h1, fun h1 => key 1 _ (by omega) (by omega)⟩⟩
theorem divWW_back (x1 x0 y X1 X0 s : Nat) (h : X1 * 18446744073709551616 + X0 = (x1 * 18446744073709551616 + x0) * 2 ^ s) :
    (X1 * 18446744073709551616 + X0) / (y * 2 ^ s) = (x1 * 18446744073709551616 + x0) / y ∧ (X1 * 18446744073709551616 + X0) % (y * 2 ^ s) / 2 ^ s = (x1 * 18446744073709551616 + x0) % y := by
  rw [h, Nat.mul_div_mul_right _ _ (Nat.pow_pos (by omega)), Nat.mul_mod_mul_right, Nat.mul_div_cancel _ (Nat.pow_pos (by omega))]
  exact ⟨rfl, rfl⟩
theorem shift_words (x1 x0 y s : Nat) (hs : s < 64) (h1 : x1 < y) (h0 : x0 < 18446744073709551616) (hy : y * 2 ^ s < 18446744073709551616) :
    (x1 * 2 ^ s + x0 / 2 ^ (64 - s)) * 18446744073709551616 + x0 * 2 ^ s % 18446744073709551616 = (x1 * 18446744073709551616 + x0) * 2 ^ s ∧ x1 * 2 ^ s + x0 / 2 ^ (64 - s) < y * 2 ^ s ∧
      x1 * 2 ^ s ||| x0 / 2 ^ (64 - s) = x1 * 2 ^ s + x0 / 2 ^ (64 - s) ∧ x1 * 2 ^ s < 18446744073709551616 := by
  have eB : (18446744073709551616 : Nat) = 2 ^ (64 - s) * 2 ^ s := by rw [← Nat.pow_add, show 64 - s + s = 64 by omega]
  have e1 : x0 * 2 ^ s / 18446744073709551616 = x0 / 2 ^ (64 - s) := by rw [eB, Nat.mul_div_mul_right _ _ (Nat.pow_pos (by omega))]
  have e2 := Nat.div_add_mod (x0 * 2 ^ s) 18446744073709551616
  rw [e1] at e2
  have h2 : x0 / 2 ^ (64 - s) < 2 ^ s := by
    rw [Nat.div_lt_iff_lt_mul (Nat.pow_pos (by omega)), Nat.mul_comm, ← eB]; exact h0
  have h3 := Nat.mul_le_mul_right (2 ^ s) (Nat.succ_le_of_lt h1)
  rw [Nat.succ_mul] at h3
  have h4 := Nat.shiftLeft_add_eq_or_of_lt h2 x1
  rw [Nat.shiftLeft_eq] at h4
  refine ⟨?_, by omega, h4.symm, by omega⟩
  rw [Nat.add_mul (x1 * 18446744073709551616), Nat.mul_right_comm x1]
  omega
theorem divWW_calls (u m X1 X0 : Nat) (b1 : 9223372036854775808 ≤ u) (b2 : u < 18446744073709551616) (hm : m < 18446744073709551616) (hv : u * (m + 18446744073709551616) ≤ 18446744073709551616 * 18446744073709551616) (hv1 : 18446744073709551616 * 18446744073709551616 ≤ u * (m + 18446744073709551616 + 1)) (h1 : X1 < u) (h0 : X0 < 18446744073709551616) :
    ∃ qq R c c' c'' P1 P0 D1 D0 bb bq : Nat, X1 * 18446744073709551616 + X0 = u * qq + R ∧ R < 18446744073709551616 + u ∧ qq < 18446744073709551616 ∧
      (∀ w, Calls Tryz.prog 191 #[.int .u64 (m : Nat), .int .u64 (X1 : Nat)] w fun e w' => e = .returned (.tuple #[.int .u64 (P1 : Nat), .int .u64 (P0 : Nat)]) ∧ w' = w) ∧
      (∀ w, Calls Tryz.prog 168 #[.int .u64 (P0 : Nat), .int .u64 (X0 : Nat), .int .u64 (0 : Nat)] w fun e w' => e = .returned (.tuple #[.int .u64 (c' : Nat), .int .u64 (c : Nat)]) ∧ w' = w) ∧
      (∀ w, Calls Tryz.prog 168 #[.int .u64 (P1 : Nat), .int .u64 (X1 : Nat), .int .u64 (c : Nat)] w fun e w' => e = .returned (.tuple #[.int .u64 (qq : Nat), .int .u64 (c'' : Nat)]) ∧ w' = w) ∧
      (∀ w, Calls Tryz.prog 191 #[.int .u64 (u : Nat), .int .u64 (qq : Nat)] w fun e w' => e = .returned (.tuple #[.int .u64 (D1 : Nat), .int .u64 (D0 : Nat)]) ∧ w' = w) ∧
      (∀ w, Calls Tryz.prog 193 #[.int .u64 (X0 : Nat), .int .u64 (D0 : Nat), .int .u64 (0 : Nat)] w fun e w' => e = .returned (.tuple #[.int .u64 (R % 18446744073709551616 : Nat), .int .u64 (bb : Nat)]) ∧ w' = w) ∧
      (∀ w, Calls Tryz.prog 193 #[.int .u64 (X1 : Nat), .int .u64 (D1 : Nat), .int .u64 (bb : Nat)] w fun e w' => e = .returned (.tuple #[.int .u64 (R / 18446744073709551616 : Nat), .int .u64 (bq : Nat)]) ∧ w' = w) := by
  obtain ⟨qq, R, q1, q2, q3, q4, q5, q6⟩ := divWW_plain u m X1 X0 b1 b2 hm hv hv1 h1 h0
  refine ⟨qq, R, ((m * X1 % 18446744073709551616 + X0 + 0) / 18446744073709551616), (m * X1 % 18446744073709551616 + X0 + 0) % 18446744073709551616, (m * X1 / 18446744073709551616 + X1 + ((m * X1 % 18446744073709551616 + X0 + 0) / 18446744073709551616)) / 18446744073709551616, m * X1 / 18446744073709551616, m * X1 % 18446744073709551616, u * qq / 18446744073709551616, u * qq % 18446744073709551616, (if X0 < u * qq % 18446744073709551616 + 0 then 1 else 0), (if X1 < u * qq / 18446744073709551616 + (if X0 < u * qq % 18446744073709551616 + 0 then 1 else 0) then 1 else 0), q2, q3, q4, Go.Proofs.Tryz.bits_Mul m X1 hm (Nat.lt_trans h1 b2), fun w => bitsAdd_any (m * X1 % 18446744073709551616) X0 0 (by omega) w, fun w => ?_, Go.Proofs.Tryz.bits_Mul u qq b2 q4, fun w => ?_, fun w => ?_⟩
  · have h := bitsAdd_any (m * X1 / 18446744073709551616) X1 ((m * X1 % 18446744073709551616 + X0 + 0) / 18446744073709551616) (by omega) w
    rw [← q1] at h
    exact h
  · have h := bitsSub_any X0 (u * qq % 18446744073709551616) 0 (by omega) w
    rw [q5] at h
    exact h
  · have h := bitsSub_any X1 (u * qq / 18446744073709551616) (if X0 < u * qq % 18446744073709551616 + 0 then 1 else 0) (by split <;> omega) w
    rw [q6] at h
    exact h
set_option maxRecDepth 10000 in
set_option maxHeartbeats 1000000 in
theorem divWW_any (x1 x0 y : Nat) (h1 : x1 < y) (h0 : x0 < 18446744073709551616) (hy : y < 18446744073709551616) (w : World) :
    Calls Tryz.prog 187 #[.int .u64 x1, .int .u64 x0, .int .u64 y, .int .u64 (recip y : Nat)] w fun e w' => e = .returned (.tuple #[.int .u64 (((x1 * 18446744073709551616 + x0) / y : Nat) : Int), .int .u64 (((x1 * 18446744073709551616 + x0) % y : Nat) : Int)]) ∧ w' = w := by
  have hy0 : 0 < y := by omega
  obtain ⟨b1, b2⟩ := topped_bounds y hy0 hy
  obtain ⟨v1, v2, v3⟩ := recip_v y hy0 hy
  have HN := Lib.hid (nlz_any y hy w)
  have hs : 64 - nbits y < 64 := by
    have : nbits y ≠ 0 := by rw [nbits, if_neg (by omega)]; omega
    omega
  have ht : topped y = y * 2 ^ (64 - nbits y) := rfl
  rw [ht] at b1 b2 v1 v2
  obtain ⟨a1, a2, a3, a4⟩ := shift_words x1 x0 y (64 - nbits y) hs h1 h0 b2
  generalize recip y = m at *
  generalize 64 - nbits y = s at *
  clear ht
  have HBk := Lib.hid fun X1 X0 => divWW_back x1 x0 y X1 X0 s
  obtain ⟨X1, X0, g1, g2, g3, hX, hX1, hX0⟩ : ∃ X1 X0 : Nat, (0 < s → bits .or .u64 (IntKind.u64.wrap ((x1 : Int) * 2 ^ s)) ((x0 : Int) / 2 ^ (64 - s)) = (X1 : Int) ∧ IntKind.u64.wrap ((x0 : Int) * 2 ^ s) = (X0 : Int)) ∧ (s = 0 → X1 = x1 ∧ X0 = x0) ∧ IntKind.u64.wrap ((y : Int) * 2 ^ s) = ((y * 2 ^ s : Nat) : Int) ∧ X1 * 18446744073709551616 + X0 = (x1 * 18446744073709551616 + x0) * 2 ^ s ∧ X1 < y * 2 ^ s ∧ X0 < 18446744073709551616 := by
    refine ⟨x1 * 2 ^ s + x0 / 2 ^ (64 - s), x0 * 2 ^ s % 18446744073709551616, ?_, ?_, ?_, a1, a2, Nat.mod_lt _ (by omega)⟩
    · intro _
      have e1 : (x1 : Int) * 2 ^ s = ((x1 * 2 ^ s : Nat) : Int) := by rw [Int.natCast_mul, Int.natCast_pow]; rfl
      have e2 : (x0 : Int) / 2 ^ (64 - s) = ((x0 / 2 ^ (64 - s) : Nat) : Int) := by rw [Int.natCast_ediv, Int.natCast_pow]; rfl
      have e3 : (x0 : Int) * 2 ^ s = ((x0 * 2 ^ s : Nat) : Int) := by rw [Int.natCast_mul, Int.natCast_pow]; rfl
      rw [e1, e2, e3, Go.Proofs.Mul64.wrapN _ a4, Go.Proofs.Mul64.wrapM, u64_or_nat _ _ a4 (Nat.lt_of_le_of_lt (Nat.div_le_self _ _) h0), a3]
      exact ⟨rfl, rfl⟩
    · rintro rfl
      simp only [Nat.pow_zero, Nat.mul_one, Nat.sub_zero]
      rw [Nat.mod_eq_of_lt h0, show x0 / 2 ^ 64 = 0 by omega]
      exact ⟨rfl, rfl⟩
    · have e1 : (y : Int) * 2 ^ s = ((y * 2 ^ s : Nat) : Int) := by rw [Int.natCast_mul, Int.natCast_pow]; rfl
      rw [e1, Go.Proofs.Mul64.wrapN _ b2]
  obtain ⟨t1, t2⟩ := HBk.out X1 X0 hX
  have hu0 : s = 0 → y * 2 ^ s = y := by rintro rfl; simp
  generalize hu : y * 2 ^ s = u at *
  obtain ⟨qq, R, c, c', c'', P1, P0, D1, D0, bb, bq, q2, q3, q4, C1, C2, C3, C4, C5, C6⟩ := divWW_calls u m X1 X0 b1 b2 v3 v1 v2 hX1 hX0
  have FX := Lib.hid (divWW_fix u (X1 * 18446744073709551616 + X0) qq R b1 b2 q2 q3)
  obtain ⟨Qf, hQf⟩ : ∃ Qf, Qf = (x1 * 18446744073709551616 + x0) / y := ⟨_, rfl⟩
  obtain ⟨Rf, hRf⟩ : ∃ Rf, Rf = (x1 * 18446744073709551616 + x0) % y := ⟨_, rfl⟩
  rw [← hQf] at t1 ⊢
  rw [← hRf] at t2 ⊢
  have t3 : Qf < 18446744073709551616 := by
    rw [← t1, Nat.div_lt_iff_lt_mul (by omega)]
    have := Nat.mul_le_mul_left 18446744073709551616 (Nat.succ_le_of_lt hX1)
    rw [Nat.mul_succ] at this
    omega
  have LL := Lib.hid (And.intro b1 (And.intro b2 (And.intro q3 (And.intro q4 (And.intro t1 (And.intro t2 t3))))))
  have CC := Lib.hid (And.intro C1 (And.intro C2 (And.intro C3 (And.intro C4 (And.intro C5 C6)))))
  clear a1 a2 a3 a4 b1 b2 v1 v2 v3 q2 q3 q4 t1 t2 hX hX1 hX0 HBk hu h1 h0 hy hy0 C1 C2 C3 C4 C5 C6 hQf hRf
  rcases Nat.eq_zero_or_pos s with hs0 | hs0
  · obtain ⟨rfl, rfl⟩ := g2 hs0
    have hu1 := hu0 hs0
    subst hs0
    subst hu1
    clear g1 g2 g3 hu0 hs
    go_enter Tryz.func187, Tryz.ntmps187
    go_wp2_with fail
    refine HN.out.mono ?_
    rintro e w1 ⟨rfl, rfl⟩
    by_cases hR : 18446744073709551616 ≤ R
    · have hr1 : R / 18446744073709551616 = 1 := by have := LL.out.2.2.1; have := LL.out.2.1; omega
      obtain ⟨r0, hr0⟩ : ∃ r0, r0 = R % 18446744073709551616 := ⟨_, rfl⟩
      rw [hr1, ← hr0] at CC
      obtain ⟨r2, hr2⟩ : ∃ r2, r2 = R - u := ⟨_, rfl⟩
      obtain ⟨r3, hr3⟩ : ∃ r3, r3 = R - u - u := ⟨_, rfl⟩
      have w2 : IntKind.u64.wrap ((r0 : Int) - (u : Int)) = (r2 : Int) := by have := LL.out.1; have := LL.out.2.1; have := LL.out.2.2.1; rw [IntKind.wrap_u64]; omega
      obtain ⟨fx1, fx2⟩ := FX.out.1 (by omega)
      by_cases hu2 : R - u < u
      · obtain ⟨y1, y2⟩ := fx1 (by omega)
        rw [LL.out.2.2.2.2.1] at y1
        have Z := Lib.hid (show (r2 : Int) = (Rf : Int) by have h7 := LL.out.2.2.2.2.2.1; rw [y2, Nat.pow_zero, Nat.div_one] at h7; omega)
        have w3 : IntKind.u64.wrap ((qq : Int) + 1) = (Qf : Int) := by have h1 := LL.out.2.2.2.2.2.2; rw [IntKind.wrap_u64]; omega
        have w4 : decide (u ≤ r2) = false := by simp; omega
        clear hr0 hr2 hr3 fx1 fx2 hu2 y1 y2 hr1 hR
        go_wp2_with fail
        refine (CC.out.1 _).mono ?_
        rintro e w9 ⟨rfl, rfl⟩
        go_wp2_with fail
        refine (CC.out.2.1 _).mono ?_
        rintro e w9 ⟨rfl, rfl⟩
        go_wp2_with fail
        refine (CC.out.2.2.1 _).mono ?_
        rintro e w9 ⟨rfl, rfl⟩
        go_wp2_with fail
        refine (CC.out.2.2.2.1 _).mono ?_
        rintro e w9 ⟨rfl, rfl⟩
        go_wp2_with fail
        refine (CC.out.2.2.2.2.1 _).mono ?_
        rintro e w9 ⟨rfl, rfl⟩
        go_wp2_with fail
        refine (CC.out.2.2.2.2.2 _).mono ?_
        rintro e w9 ⟨rfl, rfl⟩
        go_wp2_with fail
        go_ret2
        exact ⟨by rw [← Z.out]; rfl, rfl⟩
      · obtain ⟨y1, y2⟩ := fx2 (by omega)
        rw [LL.out.2.2.2.2.1] at y1
        have Z := Lib.hid (show (r3 : Int) = (Rf : Int) by have h7 := LL.out.2.2.2.2.2.1; rw [y2, Nat.pow_zero, Nat.div_one] at h7; omega)
        have w3 : IntKind.u64.wrap ((qq : Int) + 1) = ((qq + 1 : Nat) : Int) := by have h1 := LL.out.2.2.2.2.2.2; rw [IntKind.wrap_u64]; omega
        obtain ⟨q1, hq1⟩ : ∃ q1, q1 = qq + 1 := ⟨_, rfl⟩
        rw [← hq1] at w3
        have w6 : IntKind.u64.wrap ((q1 : Int) + 1) = (Qf : Int) := by have h1 := LL.out.2.2.2.2.2.2; rw [IntKind.wrap_u64]; omega
        have w4 : decide (u ≤ r2) = true := by simp; omega
        have w5 : IntKind.u64.wrap ((r2 : Int) - (u : Int)) = (r3 : Int) := by have := LL.out.1; have := LL.out.2.1; have := LL.out.2.2.1; rw [IntKind.wrap_u64]; omega
        clear hr0 hr2 hr3 fx1 fx2 hu2 y1 y2 hr1 hR hq1
        go_wp2_with fail
        refine (CC.out.1 _).mono ?_
        rintro e w9 ⟨rfl, rfl⟩
        go_wp2_with fail
        refine (CC.out.2.1 _).mono ?_
        rintro e w9 ⟨rfl, rfl⟩
        go_wp2_with fail
        refine (CC.out.2.2.1 _).mono ?_
        rintro e w9 ⟨rfl, rfl⟩
        go_wp2_with fail
        refine (CC.out.2.2.2.1 _).mono ?_
        rintro e w9 ⟨rfl, rfl⟩
        go_wp2_with fail
        refine (CC.out.2.2.2.2.1 _).mono ?_
        rintro e w9 ⟨rfl, rfl⟩
        go_wp2_with fail
        refine (CC.out.2.2.2.2.2 _).mono ?_
        rintro e w9 ⟨rfl, rfl⟩
        go_wp2_with fail
        go_ret2
        exact ⟨by rw [← Z.out]; rfl, rfl⟩
    · have hr1 : R / 18446744073709551616 = 0 := by have := LL.out.2.2.1; have := LL.out.2.1; omega
      obtain ⟨r0, hr0⟩ : ∃ r0, r0 = R % 18446744073709551616 := ⟨_, rfl⟩
      rw [hr1, ← hr0] at CC
      obtain ⟨r2, hr2⟩ : ∃ r2, r2 = R := ⟨_, rfl⟩
      obtain ⟨r3, hr3⟩ : ∃ r3, r3 = R - u := ⟨_, rfl⟩
      obtain rfl : r0 = r2 := by omega
      obtain ⟨fx1, fx2⟩ := FX.out.2 (by omega)
      by_cases hu2 : R < u
      · obtain ⟨y1, y2⟩ := fx1 (by omega)
        rw [LL.out.2.2.2.2.1] at y1
        have Z := Lib.hid (show (r0 : Int) = (Rf : Int) by have h7 := LL.out.2.2.2.2.2.1; rw [y2, Nat.pow_zero, Nat.div_one] at h7; omega)
        subst y1
        have w4 : decide (u ≤ r0) = false := by simp; omega
        clear hr0 hr2 hr3 fx1 fx2 hu2 y2 hr1 hR
        go_wp2_with fail
        refine (CC.out.1 _).mono ?_
        rintro e w9 ⟨rfl, rfl⟩
        go_wp2_with fail
        refine (CC.out.2.1 _).mono ?_
        rintro e w9 ⟨rfl, rfl⟩
        go_wp2_with fail
        refine (CC.out.2.2.1 _).mono ?_
        rintro e w9 ⟨rfl, rfl⟩
        go_wp2_with fail
        refine (CC.out.2.2.2.1 _).mono ?_
        rintro e w9 ⟨rfl, rfl⟩
        go_wp2_with fail
        refine (CC.out.2.2.2.2.1 _).mono ?_
        rintro e w9 ⟨rfl, rfl⟩
        go_wp2_with fail
        refine (CC.out.2.2.2.2.2 _).mono ?_
        rintro e w9 ⟨rfl, rfl⟩
        go_wp2_with fail
        go_ret2
        exact ⟨by rw [← Z.out]; rfl, rfl⟩
      · obtain ⟨y1, y2⟩ := fx2 (by omega)
        rw [LL.out.2.2.2.2.1] at y1
        have Z := Lib.hid (show (r3 : Int) = (Rf : Int) by have h7 := LL.out.2.2.2.2.2.1; rw [y2, Nat.pow_zero, Nat.div_one] at h7; omega)
        have w3 : IntKind.u64.wrap ((qq : Int) + 1) = (Qf : Int) := by have h1 := LL.out.2.2.2.2.2.2; rw [IntKind.wrap_u64]; omega
        have w4 : decide (u ≤ r0) = true := by simp; omega
        have w5 : IntKind.u64.wrap ((r0 : Int) - (u : Int)) = (r3 : Int) := by have := LL.out.1; have := LL.out.2.1; have := LL.out.2.2.1; rw [IntKind.wrap_u64]; omega
        clear hr0 hr2 hr3 fx1 fx2 hu2 y1 y2 hr1 hR
        go_wp2_with fail
        refine (CC.out.1 _).mono ?_
        rintro e w9 ⟨rfl, rfl⟩
        go_wp2_with fail
        refine (CC.out.2.1 _).mono ?_
        rintro e w9 ⟨rfl, rfl⟩
        go_wp2_with fail
        refine (CC.out.2.2.1 _).mono ?_
        rintro e w9 ⟨rfl, rfl⟩
        go_wp2_with fail
        refine (CC.out.2.2.2.1 _).mono ?_
        rintro e w9 ⟨rfl, rfl⟩
        go_wp2_with fail
        refine (CC.out.2.2.2.2.1 _).mono ?_
        rintro e w9 ⟨rfl, rfl⟩
        go_wp2_with fail
        refine (CC.out.2.2.2.2.2 _).mono ?_
        rintro e w9 ⟨rfl, rfl⟩
        go_wp2_with fail
        go_ret2
        exact ⟨by rw [← Z.out]; rfl, rfl⟩
  · obtain ⟨g4, g5⟩ := g1 hs0
    have hs1 : ((s : Int) == 0) = false := by rw [beq_eq_false_iff_ne]; omega
    clear g1 g2 hu0
    go_enter Tryz.func187, Tryz.ntmps187
    go_wp2_with fail
    refine HN.out.mono ?_
    rintro e w1 ⟨rfl, rfl⟩
    by_cases hR : 18446744073709551616 ≤ R
    · have hr1 : R / 18446744073709551616 = 1 := by have := LL.out.2.2.1; have := LL.out.2.1; omega
      obtain ⟨r0, hr0⟩ : ∃ r0, r0 = R % 18446744073709551616 := ⟨_, rfl⟩
      rw [hr1, ← hr0] at CC
      obtain ⟨r2, hr2⟩ : ∃ r2, r2 = R - u := ⟨_, rfl⟩
      obtain ⟨r3, hr3⟩ : ∃ r3, r3 = R - u - u := ⟨_, rfl⟩
      have w2 : IntKind.u64.wrap ((r0 : Int) - (u : Int)) = (r2 : Int) := by have := LL.out.1; have := LL.out.2.1; have := LL.out.2.2.1; rw [IntKind.wrap_u64]; omega
      obtain ⟨fx1, fx2⟩ := FX.out.1 (by omega)
      by_cases hu2 : R - u < u
      · obtain ⟨y1, y2⟩ := fx1 (by omega)
        rw [LL.out.2.2.2.2.1] at y1
        have z1 : (r2 : Int) / 2 ^ s = (Rf : Int) := by rw [← LL.out.2.2.2.2.2.1, y2, ← hr2, Int.natCast_ediv, Int.natCast_pow]; rfl
        have w3 : IntKind.u64.wrap ((qq : Int) + 1) = (Qf : Int) := by have h1 := LL.out.2.2.2.2.2.2; rw [IntKind.wrap_u64]; omega
        have w4 : decide (u ≤ r2) = false := by simp; omega
        clear hr0 hr2 hr3 fx1 fx2 hu2 y1 y2 hr1 hR
        go_wp2_with fail
        refine (CC.out.1 _).mono ?_
        rintro e w9 ⟨rfl, rfl⟩
        go_wp2_with fail
        refine (CC.out.2.1 _).mono ?_
        rintro e w9 ⟨rfl, rfl⟩
        go_wp2_with fail
        refine (CC.out.2.2.1 _).mono ?_
        rintro e w9 ⟨rfl, rfl⟩
        go_wp2_with fail
        refine (CC.out.2.2.2.1 _).mono ?_
        rintro e w9 ⟨rfl, rfl⟩
        go_wp2_with fail
        refine (CC.out.2.2.2.2.1 _).mono ?_
        rintro e w9 ⟨rfl, rfl⟩
        go_wp2_with fail
        refine (CC.out.2.2.2.2.2 _).mono ?_
        rintro e w9 ⟨rfl, rfl⟩
        go_wp2_with fail
        go_ret2
        exact ⟨rfl, rfl⟩
      · obtain ⟨y1, y2⟩ := fx2 (by omega)
        rw [LL.out.2.2.2.2.1] at y1
        have z1 : (r3 : Int) / 2 ^ s = (Rf : Int) := by rw [← LL.out.2.2.2.2.2.1, y2, ← hr3, Int.natCast_ediv, Int.natCast_pow]; rfl
        have w3 : IntKind.u64.wrap ((qq : Int) + 1) = ((qq + 1 : Nat) : Int) := by have h1 := LL.out.2.2.2.2.2.2; rw [IntKind.wrap_u64]; omega
        obtain ⟨q1, hq1⟩ : ∃ q1, q1 = qq + 1 := ⟨_, rfl⟩
        rw [← hq1] at w3
        have w6 : IntKind.u64.wrap ((q1 : Int) + 1) = (Qf : Int) := by have h1 := LL.out.2.2.2.2.2.2; rw [IntKind.wrap_u64]; omega
        have w4 : decide (u ≤ r2) = true := by simp; omega
        have w5 : IntKind.u64.wrap ((r2 : Int) - (u : Int)) = (r3 : Int) := by have := LL.out.1; have := LL.out.2.1; have := LL.out.2.2.1; rw [IntKind.wrap_u64]; omega
        clear hr0 hr2 hr3 fx1 fx2 hu2 y1 y2 hr1 hR hq1
        go_wp2_with fail
        refine (CC.out.1 _).mono ?_
        rintro e w9 ⟨rfl, rfl⟩
        go_wp2_with fail
        refine (CC.out.2.1 _).mono ?_
        rintro e w9 ⟨rfl, rfl⟩
        go_wp2_with fail
        refine (CC.out.2.2.1 _).mono ?_
        rintro e w9 ⟨rfl, rfl⟩
        go_wp2_with fail
        refine (CC.out.2.2.2.1 _).mono ?_
        rintro e w9 ⟨rfl, rfl⟩
        go_wp2_with fail
        refine (CC.out.2.2.2.2.1 _).mono ?_
        rintro e w9 ⟨rfl, rfl⟩
        go_wp2_with fail
        refine (CC.out.2.2.2.2.2 _).mono ?_
        rintro e w9 ⟨rfl, rfl⟩
        go_wp2_with fail
        go_ret2
        exact ⟨rfl, rfl⟩
    · have hr1 : R / 18446744073709551616 = 0 := by have := LL.out.2.2.1; have := LL.out.2.1; omega
      obtain ⟨r0, hr0⟩ : ∃ r0, r0 = R % 18446744073709551616 := ⟨_, rfl⟩
      rw [hr1, ← hr0] at CC
      obtain ⟨r2, hr2⟩ : ∃ r2, r2 = R := ⟨_, rfl⟩
      obtain ⟨r3, hr3⟩ : ∃ r3, r3 = R - u := ⟨_, rfl⟩
      obtain rfl : r0 = r2 := by omega
      obtain ⟨fx1, fx2⟩ := FX.out.2 (by omega)
      by_cases hu2 : R < u
      · obtain ⟨y1, y2⟩ := fx1 (by omega)
        rw [LL.out.2.2.2.2.1] at y1
        have z1 : (r0 : Int) / 2 ^ s = (Rf : Int) := by rw [← LL.out.2.2.2.2.2.1, y2, ← hr2, Int.natCast_ediv, Int.natCast_pow]; rfl
        subst y1
        have w4 : decide (u ≤ r0) = false := by simp; omega
        clear hr0 hr2 hr3 fx1 fx2 hu2 y2 hr1 hR
        go_wp2_with fail
        refine (CC.out.1 _).mono ?_
        rintro e w9 ⟨rfl, rfl⟩
        go_wp2_with fail
        refine (CC.out.2.1 _).mono ?_
        rintro e w9 ⟨rfl, rfl⟩
        go_wp2_with fail
        refine (CC.out.2.2.1 _).mono ?_
        rintro e w9 ⟨rfl, rfl⟩
        go_wp2_with fail
        refine (CC.out.2.2.2.1 _).mono ?_
        rintro e w9 ⟨rfl, rfl⟩
        go_wp2_with fail
        refine (CC.out.2.2.2.2.1 _).mono ?_
        rintro e w9 ⟨rfl, rfl⟩
        go_wp2_with fail
        refine (CC.out.2.2.2.2.2 _).mono ?_
        rintro e w9 ⟨rfl, rfl⟩
        go_wp2_with fail
        go_ret2
        exact ⟨rfl, rfl⟩
      · obtain ⟨y1, y2⟩ := fx2 (by omega)
        rw [LL.out.2.2.2.2.1] at y1
        have z1 : (r3 : Int) / 2 ^ s = (Rf : Int) := by rw [← LL.out.2.2.2.2.2.1, y2, ← hr3, Int.natCast_ediv, Int.natCast_pow]; rfl
        have w3 : IntKind.u64.wrap ((qq : Int) + 1) = (Qf : Int) := by have h1 := LL.out.2.2.2.2.2.2; rw [IntKind.wrap_u64]; omega
        have w4 : decide (u ≤ r0) = true := by simp; omega
        have w5 : IntKind.u64.wrap ((r0 : Int) - (u : Int)) = (r3 : Int) := by have := LL.out.1; have := LL.out.2.1; have := LL.out.2.2.1; rw [IntKind.wrap_u64]; omega
        clear hr0 hr2 hr3 fx1 fx2 hu2 y1 y2 hr1 hR
        go_wp2_with fail
        refine (CC.out.1 _).mono ?_
        rintro e w9 ⟨rfl, rfl⟩
        go_wp2_with fail
        refine (CC.out.2.1 _).mono ?_
        rintro e w9 ⟨rfl, rfl⟩
        go_wp2_with fail
        refine (CC.out.2.2.1 _).mono ?_
        rintro e w9 ⟨rfl, rfl⟩
        go_wp2_with fail
        refine (CC.out.2.2.2.1 _).mono ?_
        rintro e w9 ⟨rfl, rfl⟩
        go_wp2_with fail
        refine (CC.out.2.2.2.2.1 _).mono ?_
        rintro e w9 ⟨rfl, rfl⟩
        go_wp2_with fail
        refine (CC.out.2.2.2.2.2 _).mono ?_
        rintro e w9 ⟨rfl, rfl⟩
        go_wp2_with fail
        go_ret2
        exact ⟨rfl, rfl⟩
end Go.Proofs.YtkmeckimmfbkiaaGreatDoor
