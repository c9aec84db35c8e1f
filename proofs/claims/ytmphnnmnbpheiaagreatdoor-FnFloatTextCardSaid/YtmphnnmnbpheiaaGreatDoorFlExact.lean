/- The exact way of reading: one product or one quotient. -/
import Derived.Test.YtmphnnmnbpheiaaGreatDoorFlFinite
import Derived.Test.YtmphnnmnbpheiaaGreatDoorFlExP
import Derived.Laws.FloatArith
namespace Go.Proofs.YtmphnnmnbpheiaaGreatDoor
open Go Go.RowKit
open Fl
/-- The powers of ten as floats lie in their variable. -/
def P10 (w : World) : Prop := ∃ ad : Addr, 8 < w.heap.size ∧ w.cell? ⟨8, 0, none⟩ = some (.slice (some ad) 23 23) ∧ ad.block < w.heap.size ∧ ∀ k, k < 23 → w.cell? (ad.add k) = some (.float .f64 (p10 k))
def Info (w : World) : Prop := w.cell? ⟨5, 0, none⟩ = some (.int .u64 52)
theorem run_fmul {a b r : Nat} (h : Ieee.double.mul a b = some r) (W : World) : (binOp .mul 24 (.float .f64 a) (.float .f64 b)).run Tryz.prog W = .ok (.float .f64 r) W := run_float_arith _ .mul _ .f64 a b r h
theorem run_fdiv {a b r : Nat} (h : Ieee.double.div a b = some r) (W : World) : (binOp .quo 24 (.float .f64 a) (.float .f64 b)).run Tryz.prog W = .ok (.float .f64 r) W := run_float_arith _ .quo _ .f64 a b r h
theorem float_int (d : Nat) (h0 : 0 < d) : floatOfInt .f64 (d : Int) = Ieee.double.word false (min (rung (d * C1074) 1) (2047 * 2 ^ 52)) := by
  obtain ⟨c, hc, h2⟩ : ∃ c, c = 1074 ∧ C1074 = 2 ^ c := ⟨1074, rfl, by kernel_rfl⟩
  have h := nearest_rung false h0 c 0 (.inr rfl)
  rw [show (c : Int) - (0 : Nat) - 1074 = 0 by omega, ← h2, Nat.pow_zero] at h
  rw [← h]
  show Ieee.double.nearest (decide ((d : Int) < 0)) (d : Int).natAbs 0 = _
  rw [decide_eq_false (by omega), Int.natAbs_natCast]
theorem flip_word (r : Nat) (h : r < 2 ^ 63) : flip (Ieee.double.word false r) = Ieee.double.word true r := by
  unfold flip Ieee.Format.word
  rw [dbl_sign]
  simp only [Bool.false_eq_true, if_false, if_true]
  omega
/-- What the exact way tells: where it tells something, the float that is nearest. -/
def Ex (d : Nat) (x : Int) (neg : Bool) (w : World) (e : Ending) (w' : World) : Prop :=
  w' = w ∧ ∃ f ok, e = .returned (.tuple #[.float .f64 f, .bool ok]) ∧ (ok = true → ∃ i : Nat, (i : Int) = x + 348 ∧ f = Ieee.double.word neg (min (rung (d * 10 ^ i * C1074) B348) (2047 * 2 ^ 52)))
set_option maxRecDepth 10000 in
set_option maxHeartbeats 1000000 in
theorem exBig_p (d : Nat) (x : Int) (w : World) (hI : Info w) (hP : P10 w) (hd0 : 0 < d) (hd : d < 2 ^ 64) (hb : ((d : Int) / 4503599627370496 != 0) = true) :
    Calls Tryz.prog 45 #[.int .u64 d, .int .i64 x, .bool false] w (Ex d x false w) := by
  obtain ⟨ad, _, q0, _, q1⟩ := hP
  have qi : w.cell? ⟨5, 0, none⟩ = some (.int .u64 52) := hI
  clear hI
  go_enter Tryz.func45, Tryz.ntmps45
  go_wp2_with fail
  go_ret2
  exact ⟨rfl, _, _, rfl, fun h => by cases h⟩
set_option maxRecDepth 10000 in
set_option maxHeartbeats 1000000 in
theorem exZero_p (d : Nat) (x : Int) (w : World) (hI : Info w) (hP : P10 w) (hd0 : 0 < d) (hd : d < 2 ^ 64) (hs : d < 4503599627370496) (hb : ((d : Int) / 4503599627370496 != 0) = false) (hx : Hid (x = 0)) (hxb : (x == 0) = true) :
    Calls Tryz.prog 45 #[.int .u64 d, .int .i64 x, .bool false] w (Ex d x false w) := by
  obtain ⟨ad, _, q0, _, q1⟩ := hP
  have qi : w.cell? ⟨5, 0, none⟩ = some (.int .u64 52) := hI
  clear hI
  obtain ⟨f1, f2, f3⟩ := fv_int hd0 (show d < 2 ^ 53 by omega)
  have hF := float_int d hd0
  rw [Nat.min_eq_left (Nat.le_of_lt f3)] at hF
  obtain ⟨r, hr⟩ : ∃ r, r = rung (d * C1074) 1 := ⟨_, rfl⟩
  rw [← hr] at f1 f2 f3 hF
  obtain ⟨F, hFF⟩ : ∃ F, F = Ieee.double.word false r := ⟨_, rfl⟩
  rw [← hFF] at hF
  have HH := Lib.hid (And.intro f1 (And.intro f2 (And.intro f3 hr)))
  clear f1 f2 f3 hr hs hd hd0
  have HFF := Lib.hid hFF
  clear hFF
  go_enter Tryz.func45, Tryz.ntmps45
  go_wp2_with (fail)
  go_ret2
  refine ⟨rfl, _, _, rfl, fun _ => ⟨348, by have := hx.out; omega, ?_⟩⟩
  obtain ⟨f1, f2, f3, hr⟩ := HH.out
  have h1 := rung_ten (n := d) (k := 0) (i := 348) rfl
  rw [Nat.pow_zero, Nat.mul_one] at h1
  rw [← h1, ← hr, Nat.min_eq_left (Nat.le_of_lt f3)]
  exact HFF.out
set_option maxRecDepth 10000 in
set_option maxHeartbeats 1000000 in
theorem exLow_p (d : Nat) (x : Int) (w : World) (hI : Info w) (hP : P10 w) (hd0 : 0 < d) (hd : d < 2 ^ 64) (hs : d < 4503599627370496) (hb : ((d : Int) / 4503599627370496 != 0) = false) (k : Nat) (hk : Hid (x = k)) (hk1 : 1 ≤ k) (hk2 : k ≤ 22) (hx1 : 1 ≤ x) (hx2 : x ≤ 22) :
    Calls Tryz.prog 45 #[.int .u64 d, .int .i64 x, .bool false] w (Ex d x false w) := by
  obtain ⟨ad, _, q0, _, q1⟩ := hP
  have qi : w.cell? ⟨5, 0, none⟩ = some (.int .u64 52) := hI
  clear hI
  obtain ⟨f1, f2, f3⟩ := fv_int hd0 (show d < 2 ^ 53 by omega)
  have hF := float_int d hd0
  rw [Nat.min_eq_left (Nat.le_of_lt f3)] at hF
  obtain ⟨r, hr⟩ : ∃ r, r = rung (d * C1074) 1 := ⟨_, rfl⟩
  rw [← hr] at f1 f2 f3 hF
  obtain ⟨F, hFF⟩ : ∃ F, F = Ieee.double.word false r := ⟨_, rfl⟩
  rw [← hFF] at hF
  have qk := q1 k (by omega)
  obtain ⟨G, hG⟩ : ∃ G, G = Ieee.double.word false (min (rung (d * 10 ^ k * C1074) 1) (2047 * 2 ^ 52)) := ⟨_, rfl⟩
  have hM := fun W => run_fmul (W := W) (mul_ten (neg := false) f2 f3 f1 (show k < 23 by omega))
  rw [← hFF, ← hG] at hM
  have HG := Lib.hid hG
  have hkn : x.toNat = k := by have := hk.out; omega
  have hxb : (x == 0) = false := by simp; omega
  clear hG q1
  have HH := Lib.hid (And.intro f1 (And.intro f2 (And.intro f3 hr)))
  clear f1 f2 f3 hr hs hd hd0
  have HFF := Lib.hid hFF
  clear hFF
  go_enter Tryz.func45, Tryz.ntmps45
  go_wp2_with (simp only [hM])
  all_goals
    go_ret2
    first
      | (refine ⟨rfl, _, _, rfl, fun _ => ⟨k + 348, by have := hk.out; omega, ?_⟩⟩
         rw [← rung_ten (n := d) (k := k) (i := k + 348) rfl]
         exact HG.out)
      | exact ⟨rfl, _, _, rfl, fun h => by cases h⟩
set_option maxRecDepth 10000 in
set_option maxHeartbeats 1000000 in
theorem exNeg_p (d : Nat) (x : Int) (w : World) (hI : Info w) (hP : P10 w) (hd0 : 0 < d) (hd : d < 2 ^ 64) (hs : d < 4503599627370496) (hb : ((d : Int) / 4503599627370496 != 0) = false) (k : Nat) (hk : Hid (x = -(k : Int))) (hk1 : 1 ≤ k) (hk2 : k ≤ 22) (hx1 : x ≤ -1) (hx2 : -22 ≤ x) :
    Calls Tryz.prog 45 #[.int .u64 d, .int .i64 x, .bool false] w (Ex d x false w) := by
  obtain ⟨ad, _, q0, _, q1⟩ := hP
  have qi : w.cell? ⟨5, 0, none⟩ = some (.int .u64 52) := hI
  clear hI
  obtain ⟨f1, f2, f3⟩ := fv_int hd0 (show d < 2 ^ 53 by omega)
  have hF := float_int d hd0
  rw [Nat.min_eq_left (Nat.le_of_lt f3)] at hF
  obtain ⟨r, hr⟩ : ∃ r, r = rung (d * C1074) 1 := ⟨_, rfl⟩
  rw [← hr] at f1 f2 f3 hF
  obtain ⟨F, hFF⟩ : ∃ F, F = Ieee.double.word false r := ⟨_, rfl⟩
  rw [← hFF] at hF
  have qk := q1 k (by omega)
  obtain ⟨G, hG⟩ : ∃ G, G = Ieee.double.word false (min (rung (d * 10 ^ (348 - k) * C1074) B348) (2047 * 2 ^ 52)) := ⟨_, rfl⟩
  have hM := fun W => run_fdiv (W := W) (div_ten (neg := false) (i := 348 - k) f2 f3 f1 (show k < 23 by omega) (by omega))
  rw [← hFF, ← hG] at hM
  have HG := Lib.hid hG
  have hkn : (-x).toNat = k := by have := hk.out; omega
  have hxb : (x == 0) = false := by simp; omega
  clear hG q1
  have HH := Lib.hid (And.intro f1 (And.intro f2 (And.intro f3 hr)))
  clear f1 f2 f3 hr hs hd hd0
  have HFF := Lib.hid hFF
  clear hFF
  go_enter Tryz.func45, Tryz.ntmps45
  go_wp2_with (simp only [hM])
  go_ret2
  exact ⟨rfl, _, _, rfl, fun _ => ⟨348 - k, by have := hk.out; omega, HG.out⟩⟩
set_option maxRecDepth 10000 in
set_option maxHeartbeats 1000000 in
theorem exOutL_p (d : Nat) (x : Int) (w : World) (hI : Info w) (hP : P10 w) (hd0 : 0 < d) (hd : d < 2 ^ 64) (hs : d < 4503599627370496) (hb : ((d : Int) / 4503599627370496 != 0) = false) (hx : x ≤ -23) :
    Calls Tryz.prog 45 #[.int .u64 d, .int .i64 x, .bool false] w (Ex d x false w) := by
  obtain ⟨ad, _, q0, _, q1⟩ := hP
  have qi : w.cell? ⟨5, 0, none⟩ = some (.int .u64 52) := hI
  clear hI
  obtain ⟨f1, f2, f3⟩ := fv_int hd0 (show d < 2 ^ 53 by omega)
  have hF := float_int d hd0
  rw [Nat.min_eq_left (Nat.le_of_lt f3)] at hF
  obtain ⟨r, hr⟩ : ∃ r, r = rung (d * C1074) 1 := ⟨_, rfl⟩
  rw [← hr] at f1 f2 f3 hF
  obtain ⟨F, hFF⟩ : ∃ F, F = Ieee.double.word false r := ⟨_, rfl⟩
  rw [← hFF] at hF
  have hxb : (x == 0) = false := by simp; omega
  clear q1
  have HH := Lib.hid (And.intro f1 (And.intro f2 (And.intro f3 hr)))
  clear f1 f2 f3 hr hs hd hd0
  have HFF := Lib.hid hFF
  clear hFF
  go_enter Tryz.func45, Tryz.ntmps45
  go_wp2_with (fail)
  go_ret2
  exact ⟨rfl, _, _, rfl, fun h => by cases h⟩
set_option maxRecDepth 10000 in
set_option maxHeartbeats 1000000 in
theorem exOutH_p (d : Nat) (x : Int) (w : World) (hI : Info w) (hP : P10 w) (hd0 : 0 < d) (hd : d < 2 ^ 64) (hs : d < 4503599627370496) (hb : ((d : Int) / 4503599627370496 != 0) = false) (hx : 38 ≤ x) :
    Calls Tryz.prog 45 #[.int .u64 d, .int .i64 x, .bool false] w (Ex d x false w) := by
  obtain ⟨ad, _, q0, _, q1⟩ := hP
  have qi : w.cell? ⟨5, 0, none⟩ = some (.int .u64 52) := hI
  clear hI
  obtain ⟨f1, f2, f3⟩ := fv_int hd0 (show d < 2 ^ 53 by omega)
  have hF := float_int d hd0
  rw [Nat.min_eq_left (Nat.le_of_lt f3)] at hF
  obtain ⟨r, hr⟩ : ∃ r, r = rung (d * C1074) 1 := ⟨_, rfl⟩
  rw [← hr] at f1 f2 f3 hF
  obtain ⟨F, hFF⟩ : ∃ F, F = Ieee.double.word false r := ⟨_, rfl⟩
  rw [← hFF] at hF
  have hxb : (x == 0) = false := by simp; omega
  clear q1
  have HH := Lib.hid (And.intro f1 (And.intro f2 (And.intro f3 hr)))
  clear f1 f2 f3 hr hs hd hd0
  have HFF := Lib.hid hFF
  clear hFF
  go_enter Tryz.func45, Tryz.ntmps45
  go_wp2_with (fail)
  go_ret2
  exact ⟨rfl, _, _, rfl, fun h => by cases h⟩
set_option maxRecDepth 10000 in
set_option maxHeartbeats 1000000 in
theorem exHigh_p (d : Nat) (x : Int) (w : World) (hI : Info w) (hP : P10 w) (hd0 : 0 < d) (hd : d < 2 ^ 64) (hs : d < 4503599627370496) (hb : ((d : Int) / 4503599627370496 != 0) = false) (k : Nat) (hk : Hid (x = k + 22)) (hk1 : 1 ≤ k) (hk2 : k ≤ 15) (hx1 : 23 ≤ x) (hx2 : x ≤ 37) :
    Calls Tryz.prog 45 #[.int .u64 d, .int .i64 x, .bool false] w (Ex d x false w) := by
  obtain ⟨ad, _, q0, _, q1⟩ := hP
  have qi : w.cell? ⟨5, 0, none⟩ = some (.int .u64 52) := hI
  clear hI
  obtain ⟨f1, f2, f3⟩ := fv_int hd0 (show d < 2 ^ 53 by omega)
  have hF := float_int d hd0
  rw [Nat.min_eq_left (Nat.le_of_lt f3)] at hF
  obtain ⟨r, hr⟩ : ∃ r, r = rung (d * C1074) 1 := ⟨_, rfl⟩
  rw [← hr] at f1 f2 f3 hF
  obtain ⟨F, hFF⟩ : ∃ F, F = Ieee.double.word false r := ⟨_, rfl⟩
  rw [← hFF] at hF
  have qk := q1 k (by omega)
  have q22 : w.cell? ⟨ad.block, ad.off + 22, none⟩ = some (.float .f64 (p10 22)) := q1 22 (by omega)
  obtain ⟨G, hG⟩ : ∃ G, G = Ieee.double.word false (min (rung (d * 10 ^ k * C1074) 1) (2047 * 2 ^ 52)) := ⟨_, rfl⟩
  have hM := fun W => run_fmul (W := W) (mul_ten (neg := false) f2 f3 f1 (show k < 23 by omega))
  rw [← hFF, ← hG] at hM
  have hkn : (x - 22).toNat = k := by have := hk.out; omega
  have hxb : (x == 0) = false := by simp; omega
  have HG := Lib.hid hG
  by_cases hbad : (Ieee.double.order G e15 == some .gt) = true ∨ (Ieee.double.order G 14054727237768577024 == some .lt) = true
  · have hbad' : Hid _ := Lib.hid hbad
    have c12 : ((FloatKind.f64.format.order G 4831355200913801216 == some .gt) = true) ∨ ((FloatKind.f64.format.order G 4831355200913801216 == some .gt) = false ∧ (FloatKind.f64.format.order G 14054727237768577024 == some .lt) = true) := by
      rcases hbad with h | h
      · exact .inl h
      · cases h5 : (FloatKind.f64.format.order G 4831355200913801216 == some Ordering.gt)
        · exact .inr ⟨rfl, h⟩
        · exact .inl rfl
    clear hG q1 hbad
    have HH := Lib.hid (And.intro f1 (And.intro f2 (And.intro f3 hr)))
    clear f1 f2 f3 hr hs hd hd0
    have HFF := Lib.hid hFF
    clear hFF
    rcases c12 with c1 | ⟨c1, c2⟩
    all_goals
      go_enter Tryz.func45, Tryz.ntmps45
      go_wp2_with (first | simp only [hM])
      go_ret2
      exact ⟨rfl, _, _, rfl, fun h => by cases h⟩
  · have c1 : (FloatKind.f64.format.order G 4831355200913801216 == some .gt) = false := by
      cases h5 : (FloatKind.f64.format.order G 4831355200913801216 == some Ordering.gt)
      · rfl
      · exact absurd (.inl h5) hbad
    have c2 : (FloatKind.f64.format.order G 14054727237768577024 == some .lt) = false := by
      cases h5 : (FloatKind.f64.format.order G 14054727237768577024 == some Ordering.lt)
      · rfl
      · exact absurd (.inr h5) hbad
    obtain ⟨r1, hr1⟩ : ∃ r1, r1 = min (rung (d * 10 ^ k * C1074) 1) (2047 * 2 ^ 52) := ⟨_, rfl⟩
    rw [← hr1] at hG
    have hsmall : d * 10 ^ k < 2 ^ 53 := check15 (neg := false) hr1 (by rw [← hG]; exact c1) (by rw [← hG]; exact c2)
    obtain ⟨g1, g2, g3⟩ := fv_int (Nat.mul_pos hd0 (Nat.pow_pos (n := k) (show 0 < 10 by decide))) hsmall
    rw [Nat.min_eq_left (Nat.le_of_lt g3)] at hr1
    rw [← hr1] at g1 g2 g3
    have hM2 := fun W => run_fmul (W := W) (mul_ten (neg := false) g2 g3 g1 (show 22 < 23 by omega))
    obtain ⟨G2, hG2⟩ : ∃ G2, G2 = Ieee.double.word false (min (rung (d * 10 ^ k * 10 ^ 22 * C1074) 1) (2047 * 2 ^ 52)) := ⟨_, rfl⟩
    rw [← hG, ← hG2] at hM2
    have HG2 := Lib.hid hG2
    clear hG hr1 g1 g2 g3 q1 hbad hsmall hG2
    have HH := Lib.hid (And.intro f1 (And.intro f2 (And.intro f3 hr)))
    clear f1 f2 f3 hr hs hd hd0
    have HFF := Lib.hid hFF
    clear hFF
    go_enter Tryz.func45, Tryz.ntmps45
    go_wp2_with (first | simp only [hM] | simp only [hM2])
    go_ret2
    refine ⟨rfl, _, _, rfl, fun _ => ⟨k + 22 + 348, by have := hk.out; omega, ?_⟩⟩
    rw [← rung_ten (n := d) (k := k + 22) (i := k + 22 + 348) rfl, Nat.pow_add, ← Nat.mul_assoc]
    exact HG2.out
set_option maxRecDepth 10000 in
set_option maxHeartbeats 1000000 in
theorem exBig_n (d : Nat) (x : Int) (w : World) (hI : Info w) (hP : P10 w) (hd0 : 0 < d) (hd : d < 2 ^ 64) (hb : ((d : Int) / 4503599627370496 != 0) = true) :
    Calls Tryz.prog 45 #[.int .u64 d, .int .i64 x, .bool true] w (Ex d x true w) := by
  obtain ⟨ad, _, q0, _, q1⟩ := hP
  have qi : w.cell? ⟨5, 0, none⟩ = some (.int .u64 52) := hI
  clear hI
  go_enter Tryz.func45, Tryz.ntmps45
  go_wp2_with fail
  go_ret2
  exact ⟨rfl, _, _, rfl, fun h => by cases h⟩
set_option maxRecDepth 10000 in
set_option maxHeartbeats 1000000 in
theorem exZero_n (d : Nat) (x : Int) (w : World) (hI : Info w) (hP : P10 w) (hd0 : 0 < d) (hd : d < 2 ^ 64) (hs : d < 4503599627370496) (hb : ((d : Int) / 4503599627370496 != 0) = false) (hx : Hid (x = 0)) (hxb : (x == 0) = true) :
    Calls Tryz.prog 45 #[.int .u64 d, .int .i64 x, .bool true] w (Ex d x true w) := by
  obtain ⟨ad, _, q0, _, q1⟩ := hP
  have qi : w.cell? ⟨5, 0, none⟩ = some (.int .u64 52) := hI
  clear hI
  obtain ⟨f1, f2, f3⟩ := fv_int hd0 (show d < 2 ^ 53 by omega)
  have hF := float_int d hd0
  rw [Nat.min_eq_left (Nat.le_of_lt f3)] at hF
  obtain ⟨r, hr⟩ : ∃ r, r = rung (d * C1074) 1 := ⟨_, rfl⟩
  rw [← hr] at f1 f2 f3 hF
  have hfl : flip (floatOfInt .f64 (d : Int)) = Ieee.double.word true r := by rw [hF]; exact flip_word r (by omega)
  have hN := fun W => run_flip (floatOfInt .f64 (d : Int)) (by rw [hF]; exact (wd_mod (show r < 2047 * 2 ^ 52 + 1 by omega)).2.1) W
  rw [hfl] at hN
  obtain ⟨F, hFF⟩ : ∃ F, F = Ieee.double.word true r := ⟨_, rfl⟩
  rw [← hFF] at hN
  have HH := Lib.hid (And.intro f1 (And.intro f2 (And.intro f3 hr)))
  clear f1 f2 f3 hr hs hd hd0
  have HFF := Lib.hid hFF
  clear hFF
  obtain ⟨F0, hF0⟩ : ∃ F0, floatOfInt .f64 (d : Int) = F0 := ⟨_, rfl⟩
  rw [hF0] at hN
  clear hF hfl
  go_enter Tryz.func45, Tryz.ntmps45
  go_wp2_with (simp only [hN])
  go_ret2
  refine ⟨rfl, _, _, rfl, fun _ => ⟨348, by have := hx.out; omega, ?_⟩⟩
  obtain ⟨f1, f2, f3, hr⟩ := HH.out
  have h1 := rung_ten (n := d) (k := 0) (i := 348) rfl
  rw [Nat.pow_zero, Nat.mul_one] at h1
  rw [← h1, ← hr, Nat.min_eq_left (Nat.le_of_lt f3)]
  exact HFF.out
set_option maxRecDepth 10000 in
set_option maxHeartbeats 1000000 in
theorem exLow_n (d : Nat) (x : Int) (w : World) (hI : Info w) (hP : P10 w) (hd0 : 0 < d) (hd : d < 2 ^ 64) (hs : d < 4503599627370496) (hb : ((d : Int) / 4503599627370496 != 0) = false) (k : Nat) (hk : Hid (x = k)) (hk1 : 1 ≤ k) (hk2 : k ≤ 22) (hx1 : 1 ≤ x) (hx2 : x ≤ 22) :
    Calls Tryz.prog 45 #[.int .u64 d, .int .i64 x, .bool true] w (Ex d x true w) := by
  obtain ⟨ad, _, q0, _, q1⟩ := hP
  have qi : w.cell? ⟨5, 0, none⟩ = some (.int .u64 52) := hI
  clear hI
  obtain ⟨f1, f2, f3⟩ := fv_int hd0 (show d < 2 ^ 53 by omega)
  have hF := float_int d hd0
  rw [Nat.min_eq_left (Nat.le_of_lt f3)] at hF
  obtain ⟨r, hr⟩ : ∃ r, r = rung (d * C1074) 1 := ⟨_, rfl⟩
  rw [← hr] at f1 f2 f3 hF
  have hfl : flip (floatOfInt .f64 (d : Int)) = Ieee.double.word true r := by rw [hF]; exact flip_word r (by omega)
  have hN := fun W => run_flip (floatOfInt .f64 (d : Int)) (by rw [hF]; exact (wd_mod (show r < 2047 * 2 ^ 52 + 1 by omega)).2.1) W
  rw [hfl] at hN
  obtain ⟨F, hFF⟩ : ∃ F, F = Ieee.double.word true r := ⟨_, rfl⟩
  rw [← hFF] at hN
  have qk := q1 k (by omega)
  obtain ⟨G, hG⟩ : ∃ G, G = Ieee.double.word true (min (rung (d * 10 ^ k * C1074) 1) (2047 * 2 ^ 52)) := ⟨_, rfl⟩
  have hM := fun W => run_fmul (W := W) (mul_ten (neg := true) f2 f3 f1 (show k < 23 by omega))
  rw [← hFF, ← hG] at hM
  have HG := Lib.hid hG
  have hkn : x.toNat = k := by have := hk.out; omega
  have hxb : (x == 0) = false := by simp; omega
  clear hG q1
  have HH := Lib.hid (And.intro f1 (And.intro f2 (And.intro f3 hr)))
  clear f1 f2 f3 hr hs hd hd0
  have HFF := Lib.hid hFF
  clear hFF
  obtain ⟨F0, hF0⟩ : ∃ F0, floatOfInt .f64 (d : Int) = F0 := ⟨_, rfl⟩
  rw [hF0] at hN
  clear hF hfl
  go_enter Tryz.func45, Tryz.ntmps45
  go_wp2_with (first | simp only [hN] | simp only [hM])
  all_goals
    go_ret2
    first
      | (refine ⟨rfl, _, _, rfl, fun _ => ⟨k + 348, by have := hk.out; omega, ?_⟩⟩
         rw [← rung_ten (n := d) (k := k) (i := k + 348) rfl]
         exact HG.out)
      | exact ⟨rfl, _, _, rfl, fun h => by cases h⟩
set_option maxRecDepth 10000 in
set_option maxHeartbeats 1000000 in
theorem exNeg_n (d : Nat) (x : Int) (w : World) (hI : Info w) (hP : P10 w) (hd0 : 0 < d) (hd : d < 2 ^ 64) (hs : d < 4503599627370496) (hb : ((d : Int) / 4503599627370496 != 0) = false) (k : Nat) (hk : Hid (x = -(k : Int))) (hk1 : 1 ≤ k) (hk2 : k ≤ 22) (hx1 : x ≤ -1) (hx2 : -22 ≤ x) :
    Calls Tryz.prog 45 #[.int .u64 d, .int .i64 x, .bool true] w (Ex d x true w) := by
  obtain ⟨ad, _, q0, _, q1⟩ := hP
  have qi : w.cell? ⟨5, 0, none⟩ = some (.int .u64 52) := hI
  clear hI
  obtain ⟨f1, f2, f3⟩ := fv_int hd0 (show d < 2 ^ 53 by omega)
  have hF := float_int d hd0
  rw [Nat.min_eq_left (Nat.le_of_lt f3)] at hF
  obtain ⟨r, hr⟩ : ∃ r, r = rung (d * C1074) 1 := ⟨_, rfl⟩
  rw [← hr] at f1 f2 f3 hF
  have hfl : flip (floatOfInt .f64 (d : Int)) = Ieee.double.word true r := by rw [hF]; exact flip_word r (by omega)
  have hN := fun W => run_flip (floatOfInt .f64 (d : Int)) (by rw [hF]; exact (wd_mod (show r < 2047 * 2 ^ 52 + 1 by omega)).2.1) W
  rw [hfl] at hN
  obtain ⟨F, hFF⟩ : ∃ F, F = Ieee.double.word true r := ⟨_, rfl⟩
  rw [← hFF] at hN
  have qk := q1 k (by omega)
  obtain ⟨G, hG⟩ : ∃ G, G = Ieee.double.word true (min (rung (d * 10 ^ (348 - k) * C1074) B348) (2047 * 2 ^ 52)) := ⟨_, rfl⟩
  have hM := fun W => run_fdiv (W := W) (div_ten (neg := true) (i := 348 - k) f2 f3 f1 (show k < 23 by omega) (by omega))
  rw [← hFF, ← hG] at hM
  have HG := Lib.hid hG
  have hkn : (-x).toNat = k := by have := hk.out; omega
  have hxb : (x == 0) = false := by simp; omega
  clear hG q1
  have HH := Lib.hid (And.intro f1 (And.intro f2 (And.intro f3 hr)))
  clear f1 f2 f3 hr hs hd hd0
  have HFF := Lib.hid hFF
  clear hFF
  obtain ⟨F0, hF0⟩ : ∃ F0, floatOfInt .f64 (d : Int) = F0 := ⟨_, rfl⟩
  rw [hF0] at hN
  clear hF hfl
  go_enter Tryz.func45, Tryz.ntmps45
  go_wp2_with (first | simp only [hN] | simp only [hM])
  go_ret2
  exact ⟨rfl, _, _, rfl, fun _ => ⟨348 - k, by have := hk.out; omega, HG.out⟩⟩
set_option maxRecDepth 10000 in
set_option maxHeartbeats 1000000 in
theorem exOutL_n (d : Nat) (x : Int) (w : World) (hI : Info w) (hP : P10 w) (hd0 : 0 < d) (hd : d < 2 ^ 64) (hs : d < 4503599627370496) (hb : ((d : Int) / 4503599627370496 != 0) = false) (hx : x ≤ -23) :
    Calls Tryz.prog 45 #[.int .u64 d, .int .i64 x, .bool true] w (Ex d x true w) := by
  obtain ⟨ad, _, q0, _, q1⟩ := hP
  have qi : w.cell? ⟨5, 0, none⟩ = some (.int .u64 52) := hI
  clear hI
  obtain ⟨f1, f2, f3⟩ := fv_int hd0 (show d < 2 ^ 53 by omega)
  have hF := float_int d hd0
  rw [Nat.min_eq_left (Nat.le_of_lt f3)] at hF
  obtain ⟨r, hr⟩ : ∃ r, r = rung (d * C1074) 1 := ⟨_, rfl⟩
  rw [← hr] at f1 f2 f3 hF
  have hfl : flip (floatOfInt .f64 (d : Int)) = Ieee.double.word true r := by rw [hF]; exact flip_word r (by omega)
  have hN := fun W => run_flip (floatOfInt .f64 (d : Int)) (by rw [hF]; exact (wd_mod (show r < 2047 * 2 ^ 52 + 1 by omega)).2.1) W
  rw [hfl] at hN
  obtain ⟨F, hFF⟩ : ∃ F, F = Ieee.double.word true r := ⟨_, rfl⟩
  rw [← hFF] at hN
  have hxb : (x == 0) = false := by simp; omega
  clear q1
  have HH := Lib.hid (And.intro f1 (And.intro f2 (And.intro f3 hr)))
  clear f1 f2 f3 hr hs hd hd0
  have HFF := Lib.hid hFF
  clear hFF
  obtain ⟨F0, hF0⟩ : ∃ F0, floatOfInt .f64 (d : Int) = F0 := ⟨_, rfl⟩
  rw [hF0] at hN
  clear hF hfl
  go_enter Tryz.func45, Tryz.ntmps45
  go_wp2_with (simp only [hN])
  go_ret2
  exact ⟨rfl, _, _, rfl, fun h => by cases h⟩
set_option maxRecDepth 10000 in
set_option maxHeartbeats 1000000 in
theorem exOutH_n (d : Nat) (x : Int) (w : World) (hI : Info w) (hP : P10 w) (hd0 : 0 < d) (hd : d < 2 ^ 64) (hs : d < 4503599627370496) (hb : ((d : Int) / 4503599627370496 != 0) = false) (hx : 38 ≤ x) :
    Calls Tryz.prog 45 #[.int .u64 d, .int .i64 x, .bool true] w (Ex d x true w) := by
  obtain ⟨ad, _, q0, _, q1⟩ := hP
  have qi : w.cell? ⟨5, 0, none⟩ = some (.int .u64 52) := hI
  clear hI
  obtain ⟨f1, f2, f3⟩ := fv_int hd0 (show d < 2 ^ 53 by omega)
  have hF := float_int d hd0
  rw [Nat.min_eq_left (Nat.le_of_lt f3)] at hF
  obtain ⟨r, hr⟩ : ∃ r, r = rung (d * C1074) 1 := ⟨_, rfl⟩
  rw [← hr] at f1 f2 f3 hF
  have hfl : flip (floatOfInt .f64 (d : Int)) = Ieee.double.word true r := by rw [hF]; exact flip_word r (by omega)
  have hN := fun W => run_flip (floatOfInt .f64 (d : Int)) (by rw [hF]; exact (wd_mod (show r < 2047 * 2 ^ 52 + 1 by omega)).2.1) W
  rw [hfl] at hN
  obtain ⟨F, hFF⟩ : ∃ F, F = Ieee.double.word true r := ⟨_, rfl⟩
  rw [← hFF] at hN
  have hxb : (x == 0) = false := by simp; omega
  clear q1
  have HH := Lib.hid (And.intro f1 (And.intro f2 (And.intro f3 hr)))
  clear f1 f2 f3 hr hs hd hd0
  have HFF := Lib.hid hFF
  clear hFF
  obtain ⟨F0, hF0⟩ : ∃ F0, floatOfInt .f64 (d : Int) = F0 := ⟨_, rfl⟩
  rw [hF0] at hN
  clear hF hfl
  go_enter Tryz.func45, Tryz.ntmps45
  go_wp2_with (simp only [hN])
  go_ret2
  exact ⟨rfl, _, _, rfl, fun h => by cases h⟩
set_option maxRecDepth 10000 in
set_option maxHeartbeats 1000000 in
theorem exHigh_n (d : Nat) (x : Int) (w : World) (hI : Info w) (hP : P10 w) (hd0 : 0 < d) (hd : d < 2 ^ 64) (hs : d < 4503599627370496) (hb : ((d : Int) / 4503599627370496 != 0) = false) (k : Nat) (hk : Hid (x = k + 22)) (hk1 : 1 ≤ k) (hk2 : k ≤ 15) (hx1 : 23 ≤ x) (hx2 : x ≤ 37) :
    Calls Tryz.prog 45 #[.int .u64 d, .int .i64 x, .bool true] w (Ex d x true w) := by
  obtain ⟨ad, _, q0, _, q1⟩ := hP
  have qi : w.cell? ⟨5, 0, none⟩ = some (.int .u64 52) := hI
  clear hI
  obtain ⟨f1, f2, f3⟩ := fv_int hd0 (show d < 2 ^ 53 by omega)
  have hF := float_int d hd0
  rw [Nat.min_eq_left (Nat.le_of_lt f3)] at hF
  obtain ⟨r, hr⟩ : ∃ r, r = rung (d * C1074) 1 := ⟨_, rfl⟩
  rw [← hr] at f1 f2 f3 hF
  have hfl : flip (floatOfInt .f64 (d : Int)) = Ieee.double.word true r := by rw [hF]; exact flip_word r (by omega)
  have hN := fun W => run_flip (floatOfInt .f64 (d : Int)) (by rw [hF]; exact (wd_mod (show r < 2047 * 2 ^ 52 + 1 by omega)).2.1) W
  rw [hfl] at hN
  obtain ⟨F, hFF⟩ : ∃ F, F = Ieee.double.word true r := ⟨_, rfl⟩
  rw [← hFF] at hN
  have qk := q1 k (by omega)
  have q22 : w.cell? ⟨ad.block, ad.off + 22, none⟩ = some (.float .f64 (p10 22)) := q1 22 (by omega)
  obtain ⟨G, hG⟩ : ∃ G, G = Ieee.double.word true (min (rung (d * 10 ^ k * C1074) 1) (2047 * 2 ^ 52)) := ⟨_, rfl⟩
  have hM := fun W => run_fmul (W := W) (mul_ten (neg := true) f2 f3 f1 (show k < 23 by omega))
  rw [← hFF, ← hG] at hM
  have hkn : (x - 22).toNat = k := by have := hk.out; omega
  have hxb : (x == 0) = false := by simp; omega
  have HG := Lib.hid hG
  by_cases hbad : (Ieee.double.order G e15 == some .gt) = true ∨ (Ieee.double.order G 14054727237768577024 == some .lt) = true
  · have hbad' : Hid _ := Lib.hid hbad
    have c12 : ((FloatKind.f64.format.order G 4831355200913801216 == some .gt) = true) ∨ ((FloatKind.f64.format.order G 4831355200913801216 == some .gt) = false ∧ (FloatKind.f64.format.order G 14054727237768577024 == some .lt) = true) := by
      rcases hbad with h | h
      · exact .inl h
      · cases h5 : (FloatKind.f64.format.order G 4831355200913801216 == some Ordering.gt)
        · exact .inr ⟨rfl, h⟩
        · exact .inl rfl
    clear hG q1 hbad
    have HH := Lib.hid (And.intro f1 (And.intro f2 (And.intro f3 hr)))
    clear f1 f2 f3 hr hs hd hd0
    have HFF := Lib.hid hFF
    clear hFF
    obtain ⟨F0, hF0⟩ : ∃ F0, floatOfInt .f64 (d : Int) = F0 := ⟨_, rfl⟩
    rw [hF0] at hN
    clear hF hfl
    rcases c12 with c1 | ⟨c1, c2⟩
    all_goals
      go_enter Tryz.func45, Tryz.ntmps45
      go_wp2_with (first | simp only [hN] | simp only [hM])
      go_ret2
      exact ⟨rfl, _, _, rfl, fun h => by cases h⟩
  · have c1 : (FloatKind.f64.format.order G 4831355200913801216 == some .gt) = false := by
      cases h5 : (FloatKind.f64.format.order G 4831355200913801216 == some Ordering.gt)
      · rfl
      · exact absurd (.inl h5) hbad
    have c2 : (FloatKind.f64.format.order G 14054727237768577024 == some .lt) = false := by
      cases h5 : (FloatKind.f64.format.order G 14054727237768577024 == some Ordering.lt)
      · rfl
      · exact absurd (.inr h5) hbad
    obtain ⟨r1, hr1⟩ : ∃ r1, r1 = min (rung (d * 10 ^ k * C1074) 1) (2047 * 2 ^ 52) := ⟨_, rfl⟩
    rw [← hr1] at hG
    have hsmall : d * 10 ^ k < 2 ^ 53 := check15 (neg := true) hr1 (by rw [← hG]; exact c1) (by rw [← hG]; exact c2)
    obtain ⟨g1, g2, g3⟩ := fv_int (Nat.mul_pos hd0 (Nat.pow_pos (n := k) (show 0 < 10 by decide))) hsmall
    rw [Nat.min_eq_left (Nat.le_of_lt g3)] at hr1
    rw [← hr1] at g1 g2 g3
    have hM2 := fun W => run_fmul (W := W) (mul_ten (neg := true) g2 g3 g1 (show 22 < 23 by omega))
    obtain ⟨G2, hG2⟩ : ∃ G2, G2 = Ieee.double.word true (min (rung (d * 10 ^ k * 10 ^ 22 * C1074) 1) (2047 * 2 ^ 52)) := ⟨_, rfl⟩
    rw [← hG, ← hG2] at hM2
    have HG2 := Lib.hid hG2
    clear hG hr1 g1 g2 g3 q1 hbad hsmall hG2
    have HH := Lib.hid (And.intro f1 (And.intro f2 (And.intro f3 hr)))
    clear f1 f2 f3 hr hs hd hd0
    have HFF := Lib.hid hFF
    clear hFF
    obtain ⟨F0, hF0⟩ : ∃ F0, floatOfInt .f64 (d : Int) = F0 := ⟨_, rfl⟩
    rw [hF0] at hN
    clear hF hfl
    go_enter Tryz.func45, Tryz.ntmps45
    go_wp2_with (first | simp only [hN] | simp only [hM] | simp only [hM2])
    go_ret2
    refine ⟨rfl, _, _, rfl, fun _ => ⟨k + 22 + 348, by have := hk.out; omega, ?_⟩⟩
    rw [← rung_ten (n := d) (k := k + 22) (i := k + 22 + 348) rfl, Nat.pow_add, ← Nat.mul_assoc]
    exact HG2.out
end Go.Proofs.YtmphnnmnbpheiaaGreatDoor
