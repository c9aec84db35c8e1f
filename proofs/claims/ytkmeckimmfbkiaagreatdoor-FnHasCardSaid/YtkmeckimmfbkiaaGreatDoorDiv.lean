/- Division of two words by one. -/
import Derived.Test.YtkmeckimmfbkiaaGreatDoorJArith
import Derived.Test.YtkmeckimmfbkiaaGreatDoorJWhole
namespace Go.Proofs.YtkmeckimmfbkiaaGreatDoor
open Go Go.RowKit
theorem recip_key (B d v x1 x0 t r : Int) (h : B * t + r = x1 * v + x0) :
    B * (x1 * B + x0 - d * t) = x1 * (B * B - d * v) + x0 * (B - d) + d * r := by grind
theorem recip_bound (B d x1 x0 r p : Int) (hd : 0 < d) (hdB : d < B) (hp0 : 0 ≤ p) (hp : p ≤ d) (h1 : 0 ≤ x1) (h1' : x1 < d) (h0 : 0 ≤ x0) (h0' : x0 < B) (hr : 0 ≤ r) (hr' : r < B) :
    0 ≤ x1 * p + x0 * (B - d) + d * r ∧ x1 * p + x0 * (B - d) + d * r < B * (B + d) := by
  have a1 := Int.mul_nonneg h1 hp0
  have a2 := Int.mul_nonneg h0 (show 0 ≤ B - d by omega)
  have a3 := Int.mul_nonneg (show 0 ≤ d by omega) hr
  have b1 : x1 * p ≤ (d - 1) * d := Int.mul_le_mul (by omega) hp hp0 (by omega)
  have b2 : x0 * (B - d) ≤ (B - 1) * (B - d) := Int.mul_le_mul_of_nonneg_right (by omega) (by omega)
  have b3 : d * r ≤ d * (B - 1) := Int.mul_le_mul_of_nonneg_left (by omega) (by omega)
  have b4 : d * d ≤ B * d := Int.mul_le_mul_of_nonneg_right (by omega) (by omega)
  refine ⟨by omega, ?_⟩
  have e1 : (d - 1) * d = d * d - d := by grind
  have e2 : (B - 1) * (B - d) = B * B - B * d - B + d := by grind
  have e3 : d * (B - 1) = B * d - d := by grind
  have e4 : B * (B + d) = B * B + B * d := by grind
  omega
theorem recip_step (B d v x1 x0 : Nat) (hd : 0 < d) (hdB : d < B) (hv : d * v ≤ B * B) (hv1 : B * B ≤ d * (v + 1)) (h1 : x1 < d) (h0 : x0 < B) :
    d * ((x1 * v + x0) / B) ≤ x1 * B + x0 ∧ x1 * B + x0 < d * ((x1 * v + x0) / B) + B + d := by
  have hdiv := Nat.div_add_mod (x1 * v + x0) B
  have hmod := Nat.mod_lt (x1 * v + x0) (show 0 < B by omega)
  generalize (x1 * v + x0) / B = t at *
  generalize (x1 * v + x0) % B = r at *
  have key := recip_key B d v x1 x0 t r (by exact_mod_cast hdiv)
  have hp0 : (0 : Int) ≤ B * B - d * v := by
    have : ((d * v : Nat) : Int) ≤ ((B * B : Nat) : Int) := by exact_mod_cast hv
    simp only [Int.natCast_mul] at this
    omega
  have hp : (B * B - d * v : Int) ≤ d := by
    have : ((B * B : Nat) : Int) ≤ ((d * (v + 1) : Nat) : Int) := by exact_mod_cast hv1
    simp only [Int.natCast_mul, Int.natCast_add, Int.mul_add, Int.natCast_one, Int.mul_one] at this
    omega
  have hb := recip_bound B d x1 x0 r (B * B - d * v) (by omega) (by omega) hp0 hp (by omega) (by omega) (by omega) (by omega) (by omega) (by omega)
  rw [← key] at hb
  have hB : (0 : Int) < B := by omega
  have c1 : (0 : Int) ≤ x1 * B + x0 - d * t := by
    rcases Int.lt_or_le ((x1 : Int) * B + x0 - d * t) 0 with h | h
    · have := Int.mul_neg_of_pos_of_neg hB h
      omega
    · exact h
  have c2 : (x1 * B + x0 - d * t : Int) < B + d := Int.lt_of_mul_lt_mul_left hb.2 (by omega)
  have e1 : ((x1 * B : Nat) : Int) = (x1 : Int) * B := Int.natCast_mul _ _
  have e2 : ((d * t : Nat) : Int) = (d : Int) * t := Int.natCast_mul _ _
  constructor <;> omega
theorem half_init (b y h l un u : Nat) (hy : y = h * b + l) (hl : l < b) (hh : b ≤ 2 * h) (hun : un < y) (hu : u < b) :
    (un * b + u) / y ≤ un / h ∧ un / h ≤ b + 1 := by
  have hh0 : 0 < h := by omega
  constructor
  · rw [Nat.le_div_iff_mul_le hh0]
    have h1 : (un * b + u) / y * y ≤ un * b + u := Nat.div_mul_le_self _ _
    generalize (un * b + u) / y = Q at *
    have e : Q * y = Q * h * b + Q * l := by rw [hy, Nat.mul_add, Nat.mul_assoc]
    rcases Nat.lt_or_ge un (Q * h) with hc | hc
    · have := Nat.mul_le_mul_right b hc
      rw [Nat.succ_mul] at this
      omega
    · exact hc
  · have : un / h < b + 2 := by
      rw [Nat.div_lt_iff_lt_mul hh0, Nat.add_mul, Nat.mul_comm b h]
      omega
    omega
theorem half_exit (b y h l un u q r : Nat) (hy : y = h * b + l) (hy0 : 0 < y) (hq : q * h + r = un) (hQ : (un * b + u) / y ≤ q) (hle : q * l ≤ b * r + u) : q = (un * b + u) / y := by
  refine Nat.le_antisymm ?_ hQ
  rw [Nat.le_div_iff_mul_le hy0, hy, Nat.mul_add, ← hq, Nat.add_mul, ← Nat.mul_assoc, Nat.mul_comm r b]
  omega
theorem half_more (b y h l un u q r : Nat) (hy : y = h * b + l) (hy0 : 0 < y) (hun : un < y) (hu : u < b) (hq : q * h + r = un) (hlt : b ≤ q ∨ b * r + u < q * l) : (un * b + u) / y + 1 ≤ q := by
  have : (un * b + u) / y < q := by
    rw [Nat.div_lt_iff_lt_mul hy0]
    rcases hlt with hlt | hlt
    · have h1 := Nat.mul_le_mul_right b (Nat.succ_le_of_lt hun)
      rw [Nat.succ_mul] at h1
      have h2 := Nat.mul_le_mul_left y hlt
      rw [Nat.mul_comm q y]
      omega
    · rw [hy, Nat.mul_add, ← hq, Nat.add_mul, ← Nat.mul_assoc, Nat.mul_comm r b]
      omega
  omega
theorem half_break (b y h l un u q r : Nat) (hy : y = h * b + l) (hy0 : 0 < y) (hl : l < b) (hq : q * h + r = un) (hqb : q ≤ b + 1) (hQ : (un * b + u) / y + 1 ≤ q) (hr : b ≤ r + h) : q - 1 = (un * b + u) / y := by
  have hq1 : 1 ≤ q := Nat.le_trans (Nat.le_add_left _ _) hQ
  obtain ⟨p, rfl⟩ : ∃ p, q = p + 1 := ⟨q - 1, by omega⟩
  have h1 : p * l ≤ b * (r + h) := Nat.mul_le_mul (by omega) (by omega)
  exact half_exit b y h l un u p (r + h) hy hy0 (by rw [← hq, Nat.succ_mul]; omega) (Nat.le_of_succ_le_succ hQ) (by omega)
theorem div_two (b y hi u1 u0 : Nat) (hy : 0 < y) : (hi * b * b + u1 * b + u0) / y = (hi * b + u1) / y * b + ((hi * b + u1) % y * b + u0) / y ∧ (hi * b * b + u1 * b + u0) % y = ((hi * b + u1) % y * b + u0) % y := by
  have e := Nat.div_add_mod (hi * b + u1) y
  generalize (hi * b + u1) / y = q at *
  generalize (hi * b + u1) % y = r at *
  have e2 : hi * b * b + u1 * b + u0 = y * (q * b) + (r * b + u0) := by
    rw [← Nat.add_mul, ← e, Nat.add_mul, Nat.mul_assoc]; omega
  rw [e2, Nat.mul_add_div hy, Nat.mul_add_mod]
  exact ⟨rfl, rfl⟩
theorem or_zero_nat (a : Nat) (ha : a < 18446744073709551616) : bits .or .u64 (a : Int) 0 = (a : Int) := by
  have h := u64_or_nat a 0 ha (by omega)
  simpa using h
theorem u64_and_nat32 (a : Nat) (ha : a < 18446744073709551616) : bits .and .u64 (a : Int) 4294967295 = ((a % 4294967296 : Nat) : Int) := Go.Proofs.Mul64.maskN a ha
set_option maxRecDepth 10000 in
set_option maxHeartbeats 1000000 in
/-- bitsDiv64 where the divisor's top bit is set. -/
theorem bitsDiv64_any (hi lo y : Nat) (hhi : hi < y) (hlo : lo < 18446744073709551616) (hy : y < 18446744073709551616) (ht : 9223372036854775808 ≤ y) (w : World) :
    Calls Tryz.prog 194 #[.int .u64 hi, .int .u64 lo, .int .u64 y] w fun e w' => e = .returned (.tuple #[.int .u64 (((hi * 18446744073709551616 + lo) / y : Nat) : Int), .int .u64 (((hi * 18446744073709551616 + lo) % y : Nat) : Int)]) ∧ ∃ k, w' = w.drewN k := by
  have b0 : ((y : Int) == 0) = false := by rw [beq_eq_false_iff_ne]; omega
  have b1 : decide ((y : Int) ≤ (hi : Int)) = false := by simp; omega
  rcases Nat.eq_zero_or_pos hi with h0 | h0
  · subst h0
    have hv := Lib.hid (show (0 * 18446744073709551616 + lo) / y = lo / y ∧ (0 * 18446744073709551616 + lo) % y = lo % y by simp)
    have b2 : ¬ y = 0 := by omega
    have b3 : ¬ (y : Int) = 0 := by omega
    have b4 : ¬ (y : Int) ≤ 0 := by omega
    go_enter Tryz.func194, Tryz.ntmps194
    go_wp2_with fail
    go_quiet (fail)
    go_wp2_with fail
    go_ret2
    refine ⟨?_, _, rfl⟩
    have e1 : IntKind.u64.wrap ((lo : Int) / (y : Int)) = (lo : Int) / (y : Int) := by
      rw [← Int.natCast_ediv, Go.Proofs.Mul64.wrapN _ (Nat.lt_of_le_of_lt (Nat.div_le_self _ _) hlo)]
    rw [hv.out.1, hv.out.2, Int.natCast_ediv, Int.natCast_emod]
    simp [e1]
  · have hs0 : Lib.bitLen ((y : Int).toNat) = 64 := by
      rw [Int.toNat_natCast, nbits_word y hy]
      exact nbits_of y 63 (by omega) (by omega)
    have HLZ := Lib.hid (Go.Proofs.Tryz.bits_LeadingZeros64 (y : Int) w (by omega) (by omega))
    rw [hs0] at HLZ
    have bh : ((hi : Int) == 0) = false := by rw [beq_eq_false_iff_ne]; omega
    have bh' : ¬ hi = 0 := by omega
    have wy := Go.Proofs.Mul64.wrapN y hy
    have wlo := Go.Proofs.Mul64.wrapN lo hlo
    have whi := Go.Proofs.Mul64.wrapN hi (by omega)
    have ohi := or_zero_nat hi (by omega)
    have e1 := u64_and_nat32 y hy
    have e2 := u64_and_nat32 lo hlo
    have e3 := Go.Proofs.Mul64.divN y
    have e4 := Go.Proofs.Mul64.divN lo
    have f1 : y = y / 4294967296 * 4294967296 + y % 4294967296 := by omega
    have f2 : lo = lo / 4294967296 * 4294967296 + lo % 4294967296 := by omega
    have f3 : y % 4294967296 < 4294967296 := Nat.mod_lt _ (by omega)
    have f4 : lo % 4294967296 < 4294967296 := Nat.mod_lt _ (by omega)
    have f5 : 4294967296 ≤ 2 * (y / 4294967296) := by omega
    have f6 : lo / 4294967296 < 4294967296 := by omega
    have f7 : y / 4294967296 < 4294967296 := by omega
    have f8 : lo / 18446744073709551616 = 0 := by omega
    have f9 : (lo : Int) / 18446744073709551616 = 0 := by omega
    generalize y / 4294967296 = yh at *
    generalize y % 4294967296 = yl at *
    generalize lo / 4294967296 = u1 at *
    generalize lo % 4294967296 = u0 at *
    have F := Lib.hid (And.intro f1 (And.intro f2 (And.intro f3 (And.intro f4 (And.intro f5 (And.intro f6 f7))))))
    clear f1 f2 f3 f4 f5 f6 f7
    go_enter Tryz.func194, Tryz.ntmps194
    go_wp2_with fail
    refine HLZ.out.mono ?_
    rintro e w1 ⟨rfl, rfl⟩
    simp only [Int.sub_self, Int.cast_ofNat_Int] at *
    go_wp2_with fail
    have hyp : 0 < y := by omega
    have yh0 : 0 < yh := by have := F.out.2.2.2.2.1; omega
    obtain ⟨i1, i2⟩ := half_init 4294967296 y yh yl hi u1 F.out.1 F.out.2.2.1 F.out.2.2.2.2.1 hhi F.out.2.2.2.2.2.1
    have j0 : IntKind.u64.wrap ((hi : Int) / (yh : Int)) = ((hi / yh : Nat) : Int) := by
      rw [← Int.natCast_ediv, Go.Proofs.Mul64.wrapN _ (Nat.lt_of_le_of_lt (Nat.div_le_self _ _) (by omega))]
    have j1 : IntKind.u64.wrap (((hi / yh : Nat) : Int) * (yh : Int)) = ((hi / yh * yh : Nat) : Int) := by
      rw [← Int.natCast_mul, Go.Proofs.Mul64.wrapN _ (Nat.lt_of_le_of_lt (Nat.div_mul_le_self _ _) (by omega))]
    have j2 : IntKind.u64.wrap ((hi : Int) - ((hi / yh * yh : Nat) : Int)) = ((hi % yh : Nat) : Int) := by
      have := Nat.div_add_mod hi yh
      rw [Nat.mul_comm] at this
      rw [show (hi : Int) - ((hi / yh * yh : Nat) : Int) = ((hi % yh : Nat) : Int) by omega, Go.Proofs.Mul64.wrapN _ (Nat.lt_of_le_of_lt (Nat.mod_le _ _) (by omega))]
    have J := Lib.hid (And.intro j0 (And.intro j1 j2))
    clear j0 j1 j2
    go_loop [15, 16] (fun vq vr => ∃ q r : Nat, vq = .int .u64 q ∧ vr = .int .u64 r ∧ q * yh + r = hi ∧ (hi * 4294967296 + u1) / y ≤ q ∧ q ≤ 4294967296 + 1 ∧ r < 4294967296) (fun vq _ => (intOf vq).toNat)
    case atStart =>
      obtain ⟨j0, j1, j2⟩ := J.out
      refine ⟨hi / yh, hi % yh, by rw [j0], by rw [j0, j1, j2], ?_, i1, i2, Nat.lt_of_lt_of_le (Nat.mod_lt _ yh0) (by have := F.out.2.2.2.2.2.2; omega)⟩
      rw [Nat.mul_comm]; exact Nat.div_add_mod hi yh
    case round =>
      obtain ⟨q, r, rfl, rfl, r1, r2, r3, r4⟩ := hrel
      obtain ⟨f1, f2, f3, f4, f5, f6, f7⟩ := F.out
      have n1 : ¬ (hi : Int) = 0 := by omega
      obtain ⟨Q1, hQ1⟩ : ∃ Q1, Q1 = (hi * 4294967296 + u1) / y := ⟨_, rfl⟩
      have x1 := half_exit 4294967296 y yh yl hi u1 q r f1 hyp r1 r2
      have x2 := half_more 4294967296 y yh yl hi u1 q r f1 hyp hhi f6 r1
      have x3 := half_break 4294967296 y yh yl hi u1 q r f1 hyp f3 r1 r3
      rw [← hQ1] at x1 x2 x3 r2
      have m0 : q * yl < 18446744073709551616 := by
        have := Nat.mul_le_mul r3 (show yl ≤ 4294967295 by omega)
        omega
      have m1 : IntKind.u64.wrap ((q : Int) * (yl : Int)) = ((q * yl : Nat) : Int) := by rw [← Int.natCast_mul, Go.Proofs.Mul64.wrapN _ m0]
      have m2 : IntKind.u64.wrap (4294967296 * (r : Int)) = 4294967296 * (r : Int) := by rw [IntKind.wrap_u64]; omega
      have m3 : IntKind.u64.wrap (4294967296 * (r : Int) + (u1 : Int)) = 4294967296 * (r : Int) + (u1 : Int) := by rw [IntKind.wrap_u64]; omega
      have m4 : IntKind.u64.wrap ((r : Int) + (yh : Int)) = (r : Int) + (yh : Int) := by rw [IntKind.wrap_u64]; omega
      generalize hml : q * yl = ql at *
      have HX := Lib.hid (And.intro x1 (And.intro x2 x3))
      have HR := Lib.hid (And.intro hQ1 (And.intro r1 (And.intro r2 r3)))
      obtain ⟨R1, hR1⟩ : ∃ R1, R1 = (hi * 4294967296 + u1) % y := ⟨_, rfl⟩
      have D2 : R1 < y := by rw [hR1]; exact Nat.mod_lt _ hyp
      have D1 : y * Q1 + R1 = hi * 4294967296 + u1 := by rw [hQ1, hR1]; exact Nat.div_add_mod _ _
      have k3 : IntKind.u64.wrap (IntKind.u64.wrap (IntKind.u64.wrap ((hi : Int) * 4294967296) + (u1 : Int)) - IntKind.u64.wrap ((Q1 : Int) * (y : Int))) = (R1 : Int) := by
        have e : (Q1 : Int) * (y : Int) = ((y * Q1 : Nat) : Int) := by rw [Int.natCast_mul, Int.mul_comm]
        rw [e]
        generalize y * Q1 = P at D1
        simp only [IntKind.wrap_u64]
        omega
      obtain ⟨i3, i4⟩ := half_init 4294967296 y yh yl R1 u0 f1 f3 f5 D2 f4
      have J2 := Lib.hid (show IntKind.u64.wrap ((R1 : Int) / (yh : Int)) = ((R1 / yh : Nat) : Int) ∧ IntKind.u64.wrap (((R1 / yh : Nat) : Int) * (yh : Int)) = ((R1 / yh * yh : Nat) : Int) ∧ IntKind.u64.wrap ((R1 : Int) - ((R1 / yh * yh : Nat) : Int)) = ((R1 % yh : Nat) : Int) ∧ (R1 * 4294967296 + u0) / y ≤ R1 / yh ∧ R1 / yh ≤ 4294967296 + 1 ∧ 0 < yh from by
        refine ⟨?_, ?_, ?_, i3, i4, yh0⟩
        · rw [← Int.natCast_ediv, Go.Proofs.Mul64.wrapN _ (Nat.lt_of_le_of_lt (Nat.div_le_self _ _) (by omega))]
        · rw [← Int.natCast_mul, Go.Proofs.Mul64.wrapN _ (Nat.lt_of_le_of_lt (Nat.div_mul_le_self _ _) (by omega))]
        · have := Nat.div_add_mod R1 yh
          rw [Nat.mul_comm] at this
          rw [show (R1 : Int) - ((R1 / yh * yh : Nat) : Int) = ((R1 % yh : Nat) : Int) by omega, Go.Proofs.Mul64.wrapN _ (Nat.lt_of_le_of_lt (Nat.mod_le _ _) (by omega))])
      have END := Lib.hid (show ∀ Q0, Q0 = (R1 * 4294967296 + u0) / y → (Ending.returned (.tuple #[.int .u64 (IntKind.u64.wrap (IntKind.u64.wrap ((Q1 : Int) * 4294967296) + (Q0 : Int))), .int .u64 (IntKind.u64.wrap (IntKind.u64.wrap (IntKind.u64.wrap ((R1 : Int) * 4294967296) + (u0 : Int)) - IntKind.u64.wrap ((Q0 : Int) * (y : Int))))]) = Ending.returned (.tuple #[.int .u64 (((hi * 18446744073709551616 + lo) / y : Nat) : Int), .int .u64 (((hi * 18446744073709551616 + lo) % y : Nat) : Int)])) ∧ ∃ k, w1 = w1.drewN k from by
        intro Q0 hQ0
        refine ⟨?_, 0, rfl⟩
        obtain ⟨t1, t2⟩ := div_two 4294967296 y hi u1 u0 hyp
        rw [← hQ1, ← hR1, ← hQ0] at t1
        rw [← hR1] at t2
        have e0 : hi * 18446744073709551616 + lo = hi * 4294967296 * 4294967296 + u1 * 4294967296 + u0 := by omega
        rw [e0, t1, t2]
        have hq1 : Q1 < 4294967296 := by
          rw [hQ1, Nat.div_lt_iff_lt_mul hyp]; omega
        have hq0 : Q0 < 4294967296 := by
          rw [hQ0, Nat.div_lt_iff_lt_mul hyp]; omega
        have D3 : y * Q0 + (R1 * 4294967296 + u0) % y = R1 * 4294967296 + u0 := by rw [hQ0]; exact Nat.div_add_mod _ _
        have D4 : (R1 * 4294967296 + u0) % y < y := Nat.mod_lt _ hyp
        generalize (R1 * 4294967296 + u0) % y = R0 at D3 D4 ⊢
        have e1 : IntKind.u64.wrap (IntKind.u64.wrap ((Q1 : Int) * 4294967296) + (Q0 : Int)) = ((Q1 * 4294967296 + Q0 : Nat) : Int) := by
          simp only [IntKind.wrap_u64]; omega
        have e2 : IntKind.u64.wrap (IntKind.u64.wrap (IntKind.u64.wrap ((R1 : Int) * 4294967296) + (u0 : Int)) - IntKind.u64.wrap ((Q0 : Int) * (y : Int))) = (R0 : Int) := by
          have e : (Q0 : Int) * (y : Int) = ((y * Q0 : Nat) : Int) := by rw [Int.natCast_mul, Int.mul_comm]
          rw [e]
          generalize y * Q0 = P at D3
          simp only [IntKind.wrap_u64]
          omega
        rw [e1, e2])
      clear x1 x2 x3 r1 r2 r3 hml f1 f2 f3 f4 f5 hQ1 hR1 D1 i3 i4
      by_cases hq : 4294967296 ≤ q
      · have g1 : decide (4294967296 ≤ (q : Int)) = true := by simp; omega
        have hm := HX.out.2.1 (.inl hq)
        have g2 : IntKind.u64.wrap ((q : Int) - 1) = ((q - 1 : Nat) : Int) := by have := HR.out.2.2.2; rw [IntKind.wrap_u64]; omega
        by_cases hb : 4294967296 ≤ r + yh
        · have g3 : decide (4294967296 ≤ (r : Int) + (yh : Int)) = true := by simp; omega
          have hqq := HX.out.2.2 hm hb
          rw [hqq] at g2
          go_wp2_with fail
          clear m1 m2 m3 m4 g1 g2 g3 hm HX HR hqq hq hb J r4
          go_loop [18, 16] (fun vq vr => ∃ q r : Nat, vq = .int .u64 q ∧ vr = .int .u64 r ∧ q * yh + r = R1 ∧ (R1 * 4294967296 + u0) / y ≤ q ∧ q ≤ 4294967296 + 1 ∧ r < 4294967296) (fun vq _ => (intOf vq).toNat)
          case atStart =>
            obtain ⟨j0, j1, j2, i3, i4, yh0⟩ := J2.out
            refine ⟨R1 / yh, R1 % yh, by try rw [j0], by try rw [j0, j1, j2], ?_, i3, i4, Nat.lt_of_lt_of_le (Nat.mod_lt _ yh0) (by have := F.out.2.2.2.2.2.2; omega)⟩
            rw [Nat.mul_comm]; exact Nat.div_add_mod R1 yh
          case round =>
            obtain ⟨q, r, rfl, rfl, r1, r2, r3, r4⟩ := hrel
            obtain ⟨f1, f2, f3, f4, f5, f6, f7⟩ := F.out
            obtain ⟨Q0, hQ0⟩ : ∃ Q0, Q0 = (R1 * 4294967296 + u0) / y := ⟨_, rfl⟩
            have x1 := half_exit 4294967296 y yh yl R1 u0 q r f1 hyp r1 r2
            have x2 := half_more 4294967296 y yh yl R1 u0 q r f1 hyp D2 f4 r1
            have x3 := half_break 4294967296 y yh yl R1 u0 q r f1 hyp f3 r1 r3
            rw [← hQ0] at x1 x2 x3 r2
            have m0 : q * yl < 18446744073709551616 := by
              have := Nat.mul_le_mul r3 (show yl ≤ 4294967295 by omega)
              omega
            have m1 : IntKind.u64.wrap ((q : Int) * (yl : Int)) = ((q * yl : Nat) : Int) := by rw [← Int.natCast_mul, Go.Proofs.Mul64.wrapN _ m0]
            have m2 : IntKind.u64.wrap (4294967296 * (r : Int)) = 4294967296 * (r : Int) := by rw [IntKind.wrap_u64]; omega
            have m3 : IntKind.u64.wrap (4294967296 * (r : Int) + (u0 : Int)) = 4294967296 * (r : Int) + (u0 : Int) := by rw [IntKind.wrap_u64]; omega
            have m4 : IntKind.u64.wrap ((r : Int) + (yh : Int)) = (r : Int) + (yh : Int) := by rw [IntKind.wrap_u64]; omega
            generalize hml : q * yl = ql at *
            have HX := Lib.hid (And.intro x1 (And.intro x2 x3))
            have HR := Lib.hid (And.intro hQ0 (And.intro r1 (And.intro r2 r3)))
            have z1 := END.out Q0 hQ0
            have Z1 := Lib.hid z1
            clear x1 x2 x3 r1 r2 r3 hml f1 f2 f3 f4 f5 hQ0 z1
            by_cases hq : 4294967296 ≤ q
            · have g1 : decide (4294967296 ≤ (q : Int)) = true := by simp; omega
              have hm := HX.out.2.1 (.inl hq)
              have g2 : IntKind.u64.wrap ((q : Int) - 1) = ((q - 1 : Nat) : Int) := by have := HR.out.2.2.2; rw [IntKind.wrap_u64]; omega
              by_cases hb : 4294967296 ≤ r + yh
              · have g3 : decide (4294967296 ≤ (r : Int) + (yh : Int)) = true := by simp; omega
                have hqq := HX.out.2.2 hm hb
                rw [hqq] at g2
                go_wp2_with fail
                go_ret2
                exact Z1.out
              · have g3 : decide (4294967296 ≤ (r : Int) + (yh : Int)) = false := by simp; omega
                go_wp2
                obtain ⟨hQ0, r1, r2, r3⟩ := HR.out
                obtain ⟨p, rfl⟩ : ∃ p, q = p + 1 := ⟨q - 1, by omega⟩
                rw [Nat.add_sub_cancel] at *
                refine ⟨⟨p, r + yh, rfl, by go_num, by rw [← r1, Nat.succ_mul]; omega, by rw [← hQ0]; omega, by omega, by omega⟩, by simp [intOf]⟩
            · have g1 : decide (4294967296 ≤ (q : Int)) = false := by simp; omega
              by_cases hlt : 4294967296 * r + u0 < ql
              · have g4 : decide (4294967296 * (r : Int) + (u0 : Int) < (ql : Int)) = true := by simp; omega
                have hm := HX.out.2.1 (.inr hlt)
                have g2 : IntKind.u64.wrap ((q : Int) - 1) = ((q - 1 : Nat) : Int) := by have := HR.out.2.2.2; rw [IntKind.wrap_u64]; omega
                by_cases hb : 4294967296 ≤ r + yh
                · have g3 : decide (4294967296 ≤ (r : Int) + (yh : Int)) = true := by simp; omega
                  have hqq := HX.out.2.2 hm hb
                  rw [hqq] at g2
                  go_wp2_with fail
                  go_ret2
                  exact Z1.out
                · have g3 : decide (4294967296 ≤ (r : Int) + (yh : Int)) = false := by simp; omega
                  go_wp2
                  obtain ⟨hQ0, r1, r2, r3⟩ := HR.out
                  obtain ⟨p, rfl⟩ : ∃ p, q = p + 1 := ⟨q - 1, by omega⟩
                  rw [Nat.add_sub_cancel] at *
                  refine ⟨⟨p, r + yh, rfl, by go_num, by rw [← r1, Nat.succ_mul]; omega, by rw [← hQ0]; omega, by omega, by omega⟩, by simp [intOf]⟩
              · have g4 : decide (4294967296 * (r : Int) + (u0 : Int) < (ql : Int)) = false := by simp; omega
                have hqq : q = Q0 := HX.out.1 (by omega)
                subst hqq
                go_wp2_with fail
                go_ret2
                exact Z1.out
        · have g3 : decide (4294967296 ≤ (r : Int) + (yh : Int)) = false := by simp; omega
          go_wp2
          obtain ⟨hQ1, r1, r2, r3⟩ := HR.out
          obtain ⟨p, rfl⟩ : ∃ p, q = p + 1 := ⟨q - 1, by omega⟩
          rw [Nat.add_sub_cancel] at *
          refine ⟨⟨p, r + yh, rfl, by go_num, by rw [← r1, Nat.succ_mul]; omega, by rw [← hQ1]; omega, by omega, by omega⟩, by simp [intOf]⟩
      · have g1 : decide (4294967296 ≤ (q : Int)) = false := by simp; omega
        by_cases hlt : 4294967296 * r + u1 < ql
        · have g4 : decide (4294967296 * (r : Int) + (u1 : Int) < (ql : Int)) = true := by simp; omega
          have hm := HX.out.2.1 (.inr hlt)
          have g2 : IntKind.u64.wrap ((q : Int) - 1) = ((q - 1 : Nat) : Int) := by rw [IntKind.wrap_u64]; omega
          by_cases hb : 4294967296 ≤ r + yh
          · have g3 : decide (4294967296 ≤ (r : Int) + (yh : Int)) = true := by simp; omega
            have hqq := HX.out.2.2 hm hb
            rw [hqq] at g2
            go_wp2_with fail
            clear m1 m2 m3 m4 g1 g2 g3 g4 hm HX HR hqq hq hb hlt J r4
            go_loop [18, 16] (fun vq vr => ∃ q r : Nat, vq = .int .u64 q ∧ vr = .int .u64 r ∧ q * yh + r = R1 ∧ (R1 * 4294967296 + u0) / y ≤ q ∧ q ≤ 4294967296 + 1 ∧ r < 4294967296) (fun vq _ => (intOf vq).toNat)
            case atStart =>
              obtain ⟨j0, j1, j2, i3, i4, yh0⟩ := J2.out
              refine ⟨R1 / yh, R1 % yh, by try rw [j0], by try rw [j0, j1, j2], ?_, i3, i4, Nat.lt_of_lt_of_le (Nat.mod_lt _ yh0) (by have := F.out.2.2.2.2.2.2; omega)⟩
              rw [Nat.mul_comm]; exact Nat.div_add_mod R1 yh
            case round =>
              obtain ⟨q, r, rfl, rfl, r1, r2, r3, r4⟩ := hrel
              obtain ⟨f1, f2, f3, f4, f5, f6, f7⟩ := F.out
              obtain ⟨Q0, hQ0⟩ : ∃ Q0, Q0 = (R1 * 4294967296 + u0) / y := ⟨_, rfl⟩
              have x1 := half_exit 4294967296 y yh yl R1 u0 q r f1 hyp r1 r2
              have x2 := half_more 4294967296 y yh yl R1 u0 q r f1 hyp D2 f4 r1
              have x3 := half_break 4294967296 y yh yl R1 u0 q r f1 hyp f3 r1 r3
              rw [← hQ0] at x1 x2 x3 r2
              have m0 : q * yl < 18446744073709551616 := by
                have := Nat.mul_le_mul r3 (show yl ≤ 4294967295 by omega)
                omega
              have m1 : IntKind.u64.wrap ((q : Int) * (yl : Int)) = ((q * yl : Nat) : Int) := by rw [← Int.natCast_mul, Go.Proofs.Mul64.wrapN _ m0]
              have m2 : IntKind.u64.wrap (4294967296 * (r : Int)) = 4294967296 * (r : Int) := by rw [IntKind.wrap_u64]; omega
              have m3 : IntKind.u64.wrap (4294967296 * (r : Int) + (u0 : Int)) = 4294967296 * (r : Int) + (u0 : Int) := by rw [IntKind.wrap_u64]; omega
              have m4 : IntKind.u64.wrap ((r : Int) + (yh : Int)) = (r : Int) + (yh : Int) := by rw [IntKind.wrap_u64]; omega
              generalize hml : q * yl = ql at *
              have HX := Lib.hid (And.intro x1 (And.intro x2 x3))
              have HR := Lib.hid (And.intro hQ0 (And.intro r1 (And.intro r2 r3)))
              have z1 := END.out Q0 hQ0
              have Z1 := Lib.hid z1
              clear x1 x2 x3 r1 r2 r3 hml f1 f2 f3 f4 f5 hQ0 z1
              by_cases hq : 4294967296 ≤ q
              · have g1 : decide (4294967296 ≤ (q : Int)) = true := by simp; omega
                have hm := HX.out.2.1 (.inl hq)
                have g2 : IntKind.u64.wrap ((q : Int) - 1) = ((q - 1 : Nat) : Int) := by have := HR.out.2.2.2; rw [IntKind.wrap_u64]; omega
                by_cases hb : 4294967296 ≤ r + yh
                · have g3 : decide (4294967296 ≤ (r : Int) + (yh : Int)) = true := by simp; omega
                  have hqq := HX.out.2.2 hm hb
                  rw [hqq] at g2
                  go_wp2_with fail
                  go_ret2
                  exact Z1.out
                · have g3 : decide (4294967296 ≤ (r : Int) + (yh : Int)) = false := by simp; omega
                  go_wp2
                  obtain ⟨hQ0, r1, r2, r3⟩ := HR.out
                  obtain ⟨p, rfl⟩ : ∃ p, q = p + 1 := ⟨q - 1, by omega⟩
                  rw [Nat.add_sub_cancel] at *
                  refine ⟨⟨p, r + yh, rfl, by go_num, by rw [← r1, Nat.succ_mul]; omega, by rw [← hQ0]; omega, by omega, by omega⟩, by simp [intOf]⟩
              · have g1 : decide (4294967296 ≤ (q : Int)) = false := by simp; omega
                by_cases hlt : 4294967296 * r + u0 < ql
                · have g4 : decide (4294967296 * (r : Int) + (u0 : Int) < (ql : Int)) = true := by simp; omega
                  have hm := HX.out.2.1 (.inr hlt)
                  have g2 : IntKind.u64.wrap ((q : Int) - 1) = ((q - 1 : Nat) : Int) := by have := HR.out.2.2.2; rw [IntKind.wrap_u64]; omega
                  by_cases hb : 4294967296 ≤ r + yh
                  · have g3 : decide (4294967296 ≤ (r : Int) + (yh : Int)) = true := by simp; omega
                    have hqq := HX.out.2.2 hm hb
                    rw [hqq] at g2
                    go_wp2_with fail
                    go_ret2
                    exact Z1.out
                  · have g3 : decide (4294967296 ≤ (r : Int) + (yh : Int)) = false := by simp; omega
                    go_wp2
                    obtain ⟨hQ0, r1, r2, r3⟩ := HR.out
                    obtain ⟨p, rfl⟩ : ∃ p, q = p + 1 := ⟨q - 1, by omega⟩
                    rw [Nat.add_sub_cancel] at *
                    refine ⟨⟨p, r + yh, rfl, by go_num, by rw [← r1, Nat.succ_mul]; omega, by rw [← hQ0]; omega, by omega, by omega⟩, by simp [intOf]⟩
                · have g4 : decide (4294967296 * (r : Int) + (u0 : Int) < (ql : Int)) = false := by simp; omega
                  have hqq : q = Q0 := HX.out.1 (by omega)
                  subst hqq
                  go_wp2_with fail
                  go_ret2
                  exact Z1.out
          · have g3 : decide (4294967296 ≤ (r : Int) + (yh : Int)) = false := by simp; omega
            go_wp2
            obtain ⟨hQ1, r1, r2, r3⟩ := HR.out
            obtain ⟨p, rfl⟩ : ∃ p, q = p + 1 := ⟨q - 1, by omega⟩
            rw [Nat.add_sub_cancel] at *
            refine ⟨⟨p, r + yh, rfl, by go_num, by rw [← r1, Nat.succ_mul]; omega, by rw [← hQ1]; omega, by omega, by omega⟩, by simp [intOf]⟩
        · have g4 : decide (4294967296 * (r : Int) + (u1 : Int) < (ql : Int)) = false := by simp; omega
          have hqq : q = Q1 := HX.out.1 (by omega)
          subst hqq
          go_wp2_with fail
          clear m1 m2 m3 m4 g1 g4 HX HR hq hlt J r4
          go_loop [18, 16] (fun vq vr => ∃ q r : Nat, vq = .int .u64 q ∧ vr = .int .u64 r ∧ q * yh + r = R1 ∧ (R1 * 4294967296 + u0) / y ≤ q ∧ q ≤ 4294967296 + 1 ∧ r < 4294967296) (fun vq _ => (intOf vq).toNat)
          case atStart =>
            obtain ⟨j0, j1, j2, i3, i4, yh0⟩ := J2.out
            refine ⟨R1 / yh, R1 % yh, by try rw [j0], by try rw [j0, j1, j2], ?_, i3, i4, Nat.lt_of_lt_of_le (Nat.mod_lt _ yh0) (by have := F.out.2.2.2.2.2.2; omega)⟩
            rw [Nat.mul_comm]; exact Nat.div_add_mod R1 yh
          case round =>
            obtain ⟨q, r, rfl, rfl, r1, r2, r3, r4⟩ := hrel
            obtain ⟨f1, f2, f3, f4, f5, f6, f7⟩ := F.out
            obtain ⟨Q0, hQ0⟩ : ∃ Q0, Q0 = (R1 * 4294967296 + u0) / y := ⟨_, rfl⟩
            have x1 := half_exit 4294967296 y yh yl R1 u0 q r f1 hyp r1 r2
            have x2 := half_more 4294967296 y yh yl R1 u0 q r f1 hyp D2 f4 r1
            have x3 := half_break 4294967296 y yh yl R1 u0 q r f1 hyp f3 r1 r3
            rw [← hQ0] at x1 x2 x3 r2
            have m0 : q * yl < 18446744073709551616 := by
              have := Nat.mul_le_mul r3 (show yl ≤ 4294967295 by omega)
              omega
            have m1 : IntKind.u64.wrap ((q : Int) * (yl : Int)) = ((q * yl : Nat) : Int) := by rw [← Int.natCast_mul, Go.Proofs.Mul64.wrapN _ m0]
            have m2 : IntKind.u64.wrap (4294967296 * (r : Int)) = 4294967296 * (r : Int) := by rw [IntKind.wrap_u64]; omega
            have m3 : IntKind.u64.wrap (4294967296 * (r : Int) + (u0 : Int)) = 4294967296 * (r : Int) + (u0 : Int) := by rw [IntKind.wrap_u64]; omega
            have m4 : IntKind.u64.wrap ((r : Int) + (yh : Int)) = (r : Int) + (yh : Int) := by rw [IntKind.wrap_u64]; omega
            generalize hml : q * yl = ql at *
            have HX := Lib.hid (And.intro x1 (And.intro x2 x3))
            have HR := Lib.hid (And.intro hQ0 (And.intro r1 (And.intro r2 r3)))
            have z1 := END.out Q0 hQ0
            have Z1 := Lib.hid z1
            clear x1 x2 x3 r1 r2 r3 hml f1 f2 f3 f4 f5 hQ0 z1
            by_cases hq : 4294967296 ≤ q
            · have g1 : decide (4294967296 ≤ (q : Int)) = true := by simp; omega
              have hm := HX.out.2.1 (.inl hq)
              have g2 : IntKind.u64.wrap ((q : Int) - 1) = ((q - 1 : Nat) : Int) := by have := HR.out.2.2.2; rw [IntKind.wrap_u64]; omega
              by_cases hb : 4294967296 ≤ r + yh
              · have g3 : decide (4294967296 ≤ (r : Int) + (yh : Int)) = true := by simp; omega
                have hqq := HX.out.2.2 hm hb
                rw [hqq] at g2
                go_wp2_with fail
                go_ret2
                exact Z1.out
              · have g3 : decide (4294967296 ≤ (r : Int) + (yh : Int)) = false := by simp; omega
                go_wp2
                obtain ⟨hQ0, r1, r2, r3⟩ := HR.out
                obtain ⟨p, rfl⟩ : ∃ p, q = p + 1 := ⟨q - 1, by omega⟩
                rw [Nat.add_sub_cancel] at *
                refine ⟨⟨p, r + yh, rfl, by go_num, by rw [← r1, Nat.succ_mul]; omega, by rw [← hQ0]; omega, by omega, by omega⟩, by simp [intOf]⟩
            · have g1 : decide (4294967296 ≤ (q : Int)) = false := by simp; omega
              by_cases hlt : 4294967296 * r + u0 < ql
              · have g4 : decide (4294967296 * (r : Int) + (u0 : Int) < (ql : Int)) = true := by simp; omega
                have hm := HX.out.2.1 (.inr hlt)
                have g2 : IntKind.u64.wrap ((q : Int) - 1) = ((q - 1 : Nat) : Int) := by have := HR.out.2.2.2; rw [IntKind.wrap_u64]; omega
                by_cases hb : 4294967296 ≤ r + yh
                · have g3 : decide (4294967296 ≤ (r : Int) + (yh : Int)) = true := by simp; omega
                  have hqq := HX.out.2.2 hm hb
                  rw [hqq] at g2
                  go_wp2_with fail
                  go_ret2
                  exact Z1.out
                · have g3 : decide (4294967296 ≤ (r : Int) + (yh : Int)) = false := by simp; omega
                  go_wp2
                  obtain ⟨hQ0, r1, r2, r3⟩ := HR.out
                  obtain ⟨p, rfl⟩ : ∃ p, q = p + 1 := ⟨q - 1, by omega⟩
                  rw [Nat.add_sub_cancel] at *
                  refine ⟨⟨p, r + yh, rfl, by go_num, by rw [← r1, Nat.succ_mul]; omega, by rw [← hQ0]; omega, by omega, by omega⟩, by simp [intOf]⟩
              · have g4 : decide (4294967296 * (r : Int) + (u0 : Int) < (ql : Int)) = false := by simp; omega
                have hqq : q = Q0 := HX.out.1 (by omega)
                subst hqq
                go_wp2_with fail
                go_ret2
                exact Z1.out
end Go.Proofs.YtkmeckimmfbkiaaGreatDoor
