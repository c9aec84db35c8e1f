/- Digits and an exponent are scaled to a float: the walk. -/
import Derived.Test.YtmphnnmnbpheiaaGreatDoorFlPack
import Derived.Test.YtmphnnmnbpheiaaGreatDoorFlParse
import Derived.Test.YtmphnnmnbpheiaaGreatDoorFlShortF
namespace Go.Proofs.YtmphnnmnbpheiaaGreatDoor
open Go Go.RowKit
open Fl
theorem bitLen_fits : ∀ (n x : Nat), 0 < x → x < 2 ^ n → n ≤ 64 → 1 ≤ Lib.bitLen x ∧ 2 ^ Lib.bitLen x ≤ 2 * x ∧ x < 2 ^ Lib.bitLen x ∧ Lib.bitLen x ≤ n
  | 0, x, h0, h1, _ => by omega
  | n + 1, x, h0, h1, h64 => by
    have hx64 : x < 2 ^ 64 := Nat.lt_of_lt_of_le h1 (Nat.pow_le_pow_right (by decide) h64)
    have e := Lib.bitLen_half x (by omega) hx64
    rcases Nat.lt_or_ge x 2 with h2 | h2
    · have : x = 1 := by omega
      subst this
      have : Lib.bitLen 1 = 1 := by kernel_rfl
      rw [this]; omega
    · have h1' : x / 2 < 2 ^ n := by rw [Nat.pow_succ] at h1; omega
      obtain ⟨k1, k2, k3, k4⟩ := bitLen_fits n (x / 2) (by omega) h1' (by omega)
      rw [e, show 1 + Lib.bitLen (x / 2) = Lib.bitLen (x / 2) + 1 by omega, Nat.pow_succ]
      omega
theorem small_gone {d b i : Nat} {h l : Nat} (R : Row (N i) D1 h l) (hd2 : d < 2 ^ b) (hb : b ≤ 64) (hi : i ≤ 672) (hs : b + L i ≤ 80) : rung (d * 10 ^ i * C1074) B348 = 0 := by
  obtain ⟨s, hs'⟩ : ∃ s, s = 144 - b - L i := ⟨_, rfl⟩
  have hr := parse_ratio (d := d) (b := b) (i := i) (j := 0) (s := s) hb hi (by omega)
  have x2 : d * 2 ^ (64 - b) < 2 ^ 64 := by
    have : 2 ^ 64 = 2 ^ b * 2 ^ (64 - b) := by rw [← Nat.pow_add, Nat.add_sub_cancel' hb]
    rw [this]
    exact Nat.mul_lt_mul_of_pos_right hd2 (Nat.pow_pos (by decide))
  have hQ1 : Q1 = 2 ^ 128 * D1 := by unfold Q1; rw [← Nat.mul_assoc]
  have small : N i ≤ 2 ^ 128 * D1 := Nat.le_trans R.small (Nat.mul_le_mul_right _ (by decide))
  rw [← hQ1] at small
  have hs2 : 2 ^ 64 ≤ 2 ^ s := Nat.pow_le_pow_right (by decide) (by omega)
  have hq := Q1_pos
  have hb0 := B348_pos
  rw [Nat.pow_zero, Nat.mul_one] at hr
  have hA : 4 * (d * 10 ^ i * C1074) < B348 := by
    generalize d * 2 ^ (64 - b) = x at *
    generalize d * 10 ^ i * C1074 = A at *
    generalize N i = n at *
    generalize 2 ^ s = t at *
    generalize Q1 = q at *
    generalize B348 = B at *
    rcases Nat.lt_or_ge (4 * A) B with h | h
    · exact h
    · exfalso
      have c1 : x * n * B ≤ x * q * B := Nat.mul_le_mul_right _ (Nat.mul_le_mul_left _ small)
      have c2 : x * q * B < 2 ^ 64 * q * B := Nat.mul_lt_mul_of_pos_right (Nat.mul_lt_mul_of_pos_right x2 hq) hb0
      have c3 : B * (q * 2 ^ 64) ≤ 4 * A * (q * t) := Nat.mul_le_mul h (Nat.mul_le_mul_left _ hs2)
      have c4 : 2 ^ 64 * q * B = B * (q * 2 ^ 64) := by rw [Nat.mul_comm (2 ^ 64) q, Nat.mul_comm B]
      omega
  have hj : jOf (d * 10 ^ i * C1074) B348 = 0 := jOf_eq B348_pos (.inl rfl) (by
    have : B348 * 2 ^ (53 + 0) = 2 ^ 53 * B348 := by rw [Nat.mul_comm]
    rw [this]; omega)
  unfold rung
  rw [hj, Nat.pow_zero, Nat.mul_one, Nat.zero_mul, Nat.zero_add]
  unfold rne
  rw [Nat.div_eq_of_lt (by omega), Nat.mod_eq_of_lt (show d * 10 ^ i * C1074 < B348 by omega), if_neg (by omega)]
theorem u64_half (u : Nat) (hu : u < 18446744073709551616) : bits .or .u64 ((u : Int) / 2) ((u % 2 : Nat) : Int) = ((u / 2 ||| u % 2 : Nat) : Int) := by
  rw [show (u : Int) / 2 = ((u / 2 : Nat) : Int) by omega]
  exact u64_or_nat (u / 2) (u % 2) (by omega) (by omega)
theorem u64_keep (u : Nat) (hu : u < 18446744073709551616) : bits .or .u64 (u : Int) ((u % 2 : Nat) : Int) = (u : Int) := by
  have h := u64_or_nat u (u % 2) hu (by omega)
  refine Eq.trans h (congrArg Nat.cast ?_)
  apply Nat.eq_of_testBit_eq
  intro i
  rw [Nat.testBit_or]
  cases i with
  | zero => simp
  | succ i => rw [Nat.testBit_succ (u % 2), show u % 2 / 2 = 0 by omega]; simp
theorem u64_odd (u : Nat) (hu : u < 18446744073709551616) : bits .and .u64 (u : Int) 1 = ((u % 2 : Nat) : Int) := by
  have h := u64_and_nat u 1 hu (by decide)
  rw [Nat.and_one_is_mod] at h
  exact h
/-- What is packed is what the number rounds to. -/
theorem pack_any (neg : Bool) (m j r : Nat) (hm : m < 9007199254740992) (hj : j = 0 ∨ 4503599627370496 ≤ m) (hr : r = j * 2 ^ 52 + m) (hr2 : r < 2047 * 2 ^ 52) (x : Int) (hx : x = (j : Int) - 1074) (w : World) :
    Calls Tryz.prog 67 #[.int .u64 (sgw neg + m : Nat), .int .i64 x] w fun e w' => Fine (Ieee.double.word neg r) e ∧ w' = w := by
  rcases Nat.lt_or_ge m 4503599627370496 with h | h
  · have : j = 0 := by omega
    subst this
    rw [show r = m by omega]
    exact pack_low neg m h x w
  · rw [hr]
    exact pack_high neg m j hm h (by omega) x (Lib.hid hx) w
set_option maxRecDepth 10000 in
set_option maxHeartbeats 1000000 in
theorem parseW (d b i s h l j u r : Nat) (neg : Bool) (x lp E : Int) (hx : Hid (x = (i : Int) - 348)) (hlp : Hid (lp = x * 108853 / 32768)) (hE : Hid (min 1074 (53 - (b : Int) - lp) = E)) (hEj : Hid (E = 1074 - j)) (hs : Hid (-(E - (64 - (b : Int)) + lp + 3) = (s : Int)))
    (hbb : Hid (Lib.bitLen d = b)) (hb1 : 1 ≤ b) (hb2 : b ≤ 57) (hx1 : -1000 ≤ x) (hx2 : x ≤ 1000) (hl1 : -3000 ≤ lp) (hl2 : lp ≤ 3000) (hE1 : -3000 ≤ E) (hE2 : E ≤ 1074) (hs8 : 8 ≤ s) (hs6 : s < 64) (hd : d < 18446744073709551616)
    (hrow : Hid (Go.Pinned.pow10Rows[i]? = some (h, l))) (R : Hid (Row (N i) D1 h l)) (y : Nat) (hy : Hid (IntKind.u64.wrap ((d : Int) * 2 ^ (64 - b)) = (y : Int))) (hy2 : Hid (y < 18446744073709551616 ∧ y % 128 = 0 ∧ 2 ≤ y))
    (hu : Hid (unr (y * N i) (Q1 * 2 ^ s) = u)) (hu2 : u ≤ 576460752303423488) (hlow : Hid (u < 36028797018963966 → ∃ m, (u + 1 + u / 4 % 2) / 4 = m ∧ m < 9007199254740992 ∧ (j = 0 ∨ 4503599627370496 ≤ m) ∧ r = j * 2 ^ 52 + m))
    (hhigh : Hid (36028797018963966 ≤ u → ∃ v m, v = u / 2 ||| u % 2 ∧ v ≤ 576460752303423488 ∧ (v + 1 + v / 4 % 2) / 4 = m ∧ m < 9007199254740992 ∧ 4503599627370496 ≤ m ∧ r = (j + 1) * 2 ^ 52 + m))
    (hr2 : Hid (r < 2047 * 2 ^ 52)) (w : World) (hT : PowTab w) (hw : 10 < w.heap.size) :
    Calls Tryz.prog 46 #[.int .u64 d, .int .i64 x, .int .u64 (sgw neg : Nat)] w fun e w' => Fine (Ieee.double.word neg r) e ∧ Below w.heap.size w w' := by
  go_enter Tryz.func46, Tryz.ntmps46
  go_wp2_with fail
  refine (Tryz.bits_Len64 (d : Int) _ (by omega) (by omega)).mono ?_
  rintro e w1 ⟨rfl, rfl⟩
  rw [Int.toNat_natCast, hbb.out]
  go_wp2_with fail
  refine (log2Pow10_any x (by omega) (by omega) _).mono ?_
  rintro e w1 ⟨rfl, rfl⟩
  rw [← hlp.out]
  go_wp2_with fail
  rw [hE.out]
  refine gen1 (M := fun W => Calls _ _ _ W _) fun W1 hB1 b1 hz1 => ?_
  have hT1 := hT.below hB1 (by omega)
  refine (prescaleP_any x i h l hx hrow (E - (64 - (b : Int))) lp (by omega) (by omega) (by omega) (by omega) w1.heap.size _ _ _ W1 hT1 (by omega) b1).mono ?_
  rintro e w3 ⟨rfl, b3, g3, z3⟩
  rw [hs.out] at b3
  have HB3 := Lib.hid (And.intro (hB1.grown g3 (by omega) (fun _ e => by cases e; exact Nat.le_refl _)) b3)
  obtain ⟨q0, q1, q2, f0, f1, f2⟩ := b3.c3
  clear hT1 b1 g3 z3 hB1 hz1 b3
  go_wp2_with fail
  rw [hy.out]
  refine (uscaleN_any i h l s y w1.heap.size w3 R.out hy2.out.1 hy2.out.2.1 hy2.out.2.2 (by omega) hs6 HB3.out.2).mono ?_
  rintro e w4 ⟨rfl, k4, rfl⟩
  rw [hu.out]
  go_wp2_with fail
  refine (unmin_any _).mono ?_
  rintro e w5 ⟨rfl, rfl⟩
  go_wp2_with fail
  have o1 := Lib.hid (u64_odd u (by omega))
  rcases Nat.lt_or_ge u 36028797018963966 with hc | hc
  · have c1 : decide ((36028797018963966 : Int) ≤ (u : Int)) = false := by simp; omega
    obtain ⟨m, hm, hm2, hj2, hr'⟩ := hlow.out hc
    have HM := Lib.hid (And.intro hm (And.intro hm2 (And.intro hj2 hr')))
    clear hm hm2 hj2 hr' hlow hhigh
    have o2 := Lib.hid (u64_keep u (by omega))
    rw [c1]
    refine (Tryz.internal_strconv_bool2_int _ _).mono ?_
    rintro e w5 ⟨rfl, rfl⟩
    simp only [Bool.false_eq_true, if_false]
    go_wp2_with fail
    rw [o1.out, o2.out]
    refine (round_any u (by omega) _).mono ?_
    rintro e w5 ⟨rfl, rfl⟩
    rw [HM.out.1]
    have o3 := Lib.hid (sg_or neg m (by have := HM.out.2.1; omega))
    go_wp2_with fail
    rw [o3.out]
    refine (pack_any neg m j r HM.out.2.1 HM.out.2.2.1 HM.out.2.2.2 hr2.out (-E) (by have := hEj.out; omega) _).mono ?_
    rintro e w5 ⟨rfl, rfl⟩
    go_wp2_with fail
    go_ret2
    exact ⟨rfl, HB3.out.1.drewN_ k4⟩
  · have c1 : decide ((36028797018963966 : Int) ≤ (u : Int)) = true := by simp; omega
    obtain ⟨v, m, hv, hv2, hm, hm2, hj2, hr'⟩ := hhigh.out hc
    have o2' := u64_half u (by omega)
    rw [← hv] at o2'
    have o2 := Lib.hid o2'
    clear o2'
    have HM := Lib.hid (And.intro hm (And.intro hm2 (And.intro hj2 hr')))
    clear hm hm2 hj2 hr' hlow hhigh hv
    rw [c1]
    refine (Tryz.internal_strconv_bool2_int _ _).mono ?_
    rintro e w5 ⟨rfl, rfl⟩
    simp only [if_true]
    go_wp2_with fail
    rw [o1.out, o2.out]
    refine (round_any v (by omega) _).mono ?_
    rintro e w5 ⟨rfl, rfl⟩
    rw [HM.out.1]
    have o3 := Lib.hid (sg_or neg m (by have := HM.out.2.1; omega))
    go_wp2_with fail
    rw [o3.out]
    refine (pack_any neg m (j + 1) r HM.out.2.1 (.inr HM.out.2.2.1) HM.out.2.2.2 hr2.out (-(E - 1)) (by have := hEj.out; omega) _).mono ?_
    rintro e w5 ⟨rfl, rfl⟩
    go_wp2_with fail
    go_ret2
    exact ⟨rfl, HB3.out.1.drewN_ k4⟩
set_option maxHeartbeats 1000000 in
theorem parseFloat_any (d i r : Nat) (neg : Bool) (x : Int) (hx : x = (i : Int) - 348) (hd0 : 1 ≤ d) (hd : d < 10 ^ 17) (hi : 6 ≤ i) (hi2 : i ≤ 672) (hr : rung (d * 10 ^ i * C1074) B348 = r) (hr1 : 1 ≤ r) (hr2 : r < 2047 * 2 ^ 52) (w : World) (hT : PowTab w) (hw : 10 < w.heap.size) :
    Calls Tryz.prog 46 #[.int .u64 d, .int .i64 x, .int .u64 (sgw neg : Nat)] w fun e w' => Fine (Ieee.double.word neg r) e ∧ Below w.heap.size w w' := by
  have HR := Lib.hid hr
  clear hr
  obtain ⟨b1, b2, b3, b4⟩ := bitLen_fits 57 d hd0 (Nat.lt_of_lt_of_le hd (by decide)) (by decide)
  obtain ⟨b, hb⟩ : ∃ b, Lib.bitLen d = b := ⟨_, rfl⟩
  rw [hb] at b1 b2 b3 b4
  obtain ⟨h, l, hrow, R⟩ := row_at (i := i) hi hi2
  have hL : 20 ≤ L i ∧ L i ≤ 2234 := by unfold L; omega
  have hLx : x * 108853 / 32768 = (L i : Int) - 1157 := by unfold L; omega
  have h80 : 80 < b + L i := by
    rcases Nat.lt_or_ge 80 (b + L i) with h | h
    · exact h
    · have h0 := small_gone R b3 (by omega) hi2 h
      have h2 : 0 = r := h0.symm.trans HR.out
      exact absurd h2 (by clear h2 h0; omega)
  obtain ⟨j, hj⟩ : ∃ j, j = b + L i - 136 := ⟨_, rfl⟩
  obtain ⟨s, hs⟩ : ∃ s, s = 144 + j - b - L i := ⟨_, rfl⟩
  have hsb : s + b + L i = 144 + j := by omega
  have hs8 : 8 ≤ s := by omega
  have hj8 : j = 0 ∨ s = 8 := by omega
  have NN := Lib.hid (parse_bounds R b2 b3 (by omega) hi2 hsb hs8 hj8)
  have UN := Lib.hid <| parse_unr (d := d) (b := b) (i := i) (j := j) (s := s) (by omega) hi2 hsb
  have hd57 : d * 2 ^ (64 - b) < 2 ^ 64 := by
    have : 2 ^ 64 = 2 ^ b * 2 ^ (64 - b) := by rw [← Nat.pow_add, Nat.add_sub_cancel' (by omega)]
    rw [this]
    exact Nat.mul_lt_mul_of_pos_right b3 (Nat.pow_pos (by decide))
  have h128 : 2 ^ (64 - b) = 2 ^ (57 - b) * 128 := by rw [show (128 : Nat) = 2 ^ 7 from rfl, ← Nat.pow_add, show 57 - b + 7 = 64 - b by omega]
  have hy2 : 2 ≤ d * 2 ^ (64 - b) := by
    have := Nat.mul_le_mul hd0 (Nat.one_le_two_pow (n := 57 - b))
    rw [h128, ← Nat.mul_assoc]; omega
  have hym : d * 2 ^ (64 - b) % 128 = 0 := by rw [h128, ← Nat.mul_assoc, Nat.mul_mod_left]
  have hyI : IntKind.u64.wrap ((d : Int) * 2 ^ (64 - b)) = ((d * 2 ^ (64 - b) : Nat) : Int) := by
    rw [show ((d : Int) * 2 ^ (64 - b)) = ((d * 2 ^ (64 - b) : Nat) : Int) by rw [Int.natCast_mul, Int.natCast_pow]; rfl]
    exact Go.Proofs.Mul64.wrapN _ hd57
  have hub := unr_bound (x := d * 2 ^ (64 - b)) (s := s) R hd57 (by omega)
  obtain ⟨u, hu⟩ : ∃ u, unr (d * 2 ^ (64 - b) * N i) (Q1 * 2 ^ s) = u := ⟨_, rfl⟩
  have hu' := hu
  rw [UN.out] at hu'
  have HU := Lib.hid hu'
  clear hu'
  rw [hu] at hub
  refine parseW d b i s h l j u r neg x (x * 108853 / 32768) (1074 - (j : Int)) (Lib.hid hx) (Lib.hid rfl) (Lib.hid (by rw [hLx]; omega)) (Lib.hid rfl) (Lib.hid (by rw [hLx]; omega))
    (Lib.hid hb) b1 b4 (by omega) (by omega) (by omega) (by omega) (by omega) (by omega) hs8 (by omega) (Nat.lt_of_lt_of_le hd (by decide)) (Lib.hid hrow) (Lib.hid R) (d * 2 ^ (64 - b)) (Lib.hid hyI) (Lib.hid ⟨hd57, hym, hy2⟩)
    (Lib.hid hu) hub (Lib.hid ?_) (Lib.hid ?_) (Lib.hid hr2) w hT hw
  · intro hc
    rw [← HU.out] at hc
    obtain ⟨k1, k2, k3⟩ := near_low B348_pos NN.out.1 hc rfl
    rw [HU.out] at k1 k2 k3
    exact ⟨_, rfl, k1, k2, HR.out.symm.trans k3⟩
  · intro hc
    rw [← HU.out] at hc
    obtain ⟨k1, k2, k3⟩ := near_high B348_pos NN.out.1 NN.out.2 hc rfl rfl
    rw [HU.out] at k1 k2 k3
    refine ⟨_, _, rfl, ?_, rfl, k1, k2, HR.out.symm.trans k3⟩
    clear k1 k2 k3 hc
    have : u / 2 ||| u % 2 < 2 ^ 59 := Nat.or_lt_two_pow (by omega) (by omega)
    omega
end Go.Proofs.YtmphnnmnbpheiaaGreatDoor
