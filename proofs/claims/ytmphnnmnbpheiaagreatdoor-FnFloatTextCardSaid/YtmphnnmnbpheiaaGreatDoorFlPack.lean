/- A fraction and an exponent are packed into a float. -/
import Derived.Test.YtmphnnmnbpheiaaGreatDoorFlFinite
namespace Go.Proofs.YtmphnnmnbpheiaaGreatDoor
open Go Go.RowKit
open Fl
/-- The sign's weight. -/
def sgw (neg : Bool) : Nat := if neg then 9223372036854775808 else 0
theorem sgw_or (neg : Bool) : sgw neg = 0 ∨ sgw neg = 9223372036854775808 := by cases neg <;> simp [sgw]
theorem word_sgw (neg : Bool) (r : Nat) : Ieee.double.word neg r = sgw neg + r := by
  cases neg
  · simp [Ieee.Format.word, sgw]
  · simp [Ieee.Format.word, sgw, dbl_sign]
theorem pk_and (neg : Bool) (r : Nat) (hr : r < 9007199254740992) : bits .and .u64 ((sgw neg + r : Nat) : Int) 4503599627370496 = ((if r < 4503599627370496 then 0 else 4503599627370496 : Nat) : Int) := by
  have hs := sgw_or neg
  have h := u64_and_nat (sgw neg + r) 4503599627370496 (by omega) (by decide)
  refine Eq.trans h (congrArg Nat.cast ?_)
  have e1 := Nat.and_mod_two_pow (a := sgw neg + r) (b := 4503599627370496) (n := 52)
  have e2 := Nat.and_div_two_pow (a := sgw neg + r) (b := 4503599627370496) (n := 52)
  rw [show 4503599627370496 % 2 ^ 52 = 0 from rfl, Nat.and_zero] at e1
  rw [show 4503599627370496 / 2 ^ 52 = 1 from rfl, Nat.and_one_is_mod] at e2
  generalize sgw neg + r &&& 4503599627370496 = x at *
  by_cases h1 : r < 4503599627370496
  · rw [if_pos h1]; omega
  · rw [if_neg h1]; omega
theorem pk_clear (neg : Bool) (r : Nat) (hr : r < 9007199254740992) (h1 : 4503599627370496 ≤ r) : bits .andNot .u64 ((sgw neg + r : Nat) : Int) 4503599627370496 = ((sgw neg + (r - 4503599627370496) : Nat) : Int) := by
  have hs := sgw_or neg
  have h := u64_andNot_nat (sgw neg + r) 4503599627370496 (by omega) (by decide)
  refine Eq.trans h (congrArg Nat.cast ?_)
  have e1 := Nat.and_mod_two_pow (a := sgw neg + r) (b := 18446744073709551615 - 4503599627370496) (n := 52)
  have e2 := Nat.and_div_two_pow (a := sgw neg + r) (b := 18446744073709551615 - 4503599627370496) (n := 52)
  rw [show (18446744073709551615 - 4503599627370496) % 2 ^ 52 = 2 ^ 52 - 1 from rfl, Nat.and_two_pow_sub_one_eq_mod, Nat.mod_mod] at e1
  rw [show (18446744073709551615 - 4503599627370496) / 2 ^ 52 = 4094 from rfl] at e2
  generalize sgw neg + r &&& (18446744073709551615 - 4503599627370496) = x at *
  rcases hs with hs | hs
  · rw [hs, show (0 + r) / 2 ^ 52 = 1 by omega, show 1 &&& 4094 = 0 from rfl] at e2
    rw [hs] at e1 ⊢
    omega
  · rw [hs, show (9223372036854775808 + r) / 2 ^ 52 = 2049 by omega, show 2049 &&& 4094 = 2048 from rfl] at e2
    rw [hs] at e1 ⊢
    omega
theorem pk_or (neg : Bool) (r k : Nat) (hr : r < 4503599627370496) (hk : k < 2048) : bits .or .u64 ((sgw neg + r : Nat) : Int) ((k * 4503599627370496 : Nat) : Int) = ((sgw neg + (r + k * 4503599627370496) : Nat) : Int) := by
  have hs := sgw_or neg
  have h := u64_or_nat (sgw neg + r) (k * 4503599627370496) (by omega) (by omega)
  refine Eq.trans h (congrArg Nat.cast ?_)
  have e1 := Nat.or_mod_two_pow (a := sgw neg + r) (b := k * 4503599627370496) (n := 52)
  have e2 := Nat.or_div_two_pow (a := sgw neg + r) (b := k * 4503599627370496) (n := 52)
  rw [show k * 4503599627370496 % 2 ^ 52 = 0 by omega, Nat.or_zero] at e1
  rw [show k * 4503599627370496 / 2 ^ 52 = k by omega] at e2
  generalize sgw neg + r ||| k * 4503599627370496 = x at *
  rcases hs with hs | hs
  · rw [hs, show (0 + r) / 2 ^ 52 = 0 by omega, Nat.zero_or] at e2
    rw [hs] at e1 ⊢
    omega
  · have h2 := Nat.two_pow_add_eq_or_of_lt (i := 11) (b := k) hk 1
    rw [Nat.mul_one] at h2
    rw [hs, show (9223372036854775808 + r) / 2 ^ 52 = 2 ^ 11 by omega, ← h2] at e2
    rw [hs] at e1 ⊢
    omega
theorem sg_or (neg : Bool) (r : Nat) (hr : r < 9223372036854775808) : bits .or .u64 ((sgw neg : Nat) : Int) (r : Int) = ((sgw neg + r : Nat) : Int) := by
  have hs := sgw_or neg
  have h := u64_or_nat (sgw neg) r (by omega) (by omega)
  refine Eq.trans h (congrArg Nat.cast ?_)
  rcases hs with hs | hs
  · rw [hs, Nat.zero_or, Nat.zero_add]
  · have h2 := Nat.two_pow_add_eq_or_of_lt (i := 63) (b := r) hr 1
    rw [Nat.mul_one] at h2
    rw [hs]
    exact h2.symm
/-- A float and no error. -/
def Fine (b : Nat) (e : Ending) : Prop := e = .returned (.tuple #[.float .f64 b, .nilIface])
set_option maxRecDepth 10000 in
theorem pack_low (neg : Bool) (m : Nat) (hm : m < 4503599627370496) (x : Int) (w : World) :
    Calls Tryz.prog 67 #[.int .u64 (sgw neg + m : Nat), .int .i64 x] w fun e w' => Fine (Ieee.double.word neg m) e ∧ w' = w := by
  have ha := pk_and neg m (by omega)
  rw [if_pos hm] at ha
  have hs := sgw_or neg
  rw [word_sgw]
  have hM : sgw neg + m < 18446744073709551616 := by omega
  generalize sgw neg + m = M at *
  clear hs
  have HR := fun w => ifrom_run M w
  go_enter Tryz.func67, Tryz.ntmps67
  go_wp2_with (first | simp only [HR] | simp only [ha])
  go_ret2
  exact ⟨rfl, rfl⟩
set_option maxRecDepth 10000 in
theorem pack_high (neg : Bool) (m j : Nat) (hm : m < 9007199254740992) (hm2 : 4503599627370496 ≤ m) (hj : j < 2046) (x : Int) (hx : Hid (x = (j : Int) - 1074)) (w : World) :
    Calls Tryz.prog 67 #[.int .u64 (sgw neg + m : Nat), .int .i64 x] w fun e w' => Fine (Ieee.double.word neg (j * 2 ^ 52 + m)) e ∧ w' = w := by
  have ha := pk_and neg m (by omega)
  rw [if_neg (by omega)] at ha
  have hc := pk_clear neg m hm hm2
  have ho := pk_or neg (m - 4503599627370496) (j + 1) (by omega) (by omega)
  rw [show m - 4503599627370496 + (j + 1) * 4503599627370496 = j * 2 ^ 52 + m by omega, ← word_sgw neg (j * 2 ^ 52 + m)] at ho
  have hs := sgw_or neg
  have hM : sgw neg + m < 18446744073709551616 := by omega
  generalize Ieee.double.word neg (j * 2 ^ 52 + m) = R at *
  generalize sgw neg + m = M at *
  generalize sgw neg + (m - 4503599627370496) = M2 at *
  clear hs
  have x1 : -1074 ≤ x := by have := hx.out; omega
  have x2 : x < 972 := by have := hx.out; omega
  obtain ⟨z, hz⟩ : ∃ z : Nat, z = (j + 1) * 4503599627370496 := ⟨_, rfl⟩
  have c2 : (1075 + x) * 4503599627370496 = (z : Int) := by have := hx.out; omega
  rw [← hz] at ho
  clear hz hm hm2 hj
  have HR := fun w => ifrom_run R w
  go_enter Tryz.func67, Tryz.ntmps67
  go_wp2_with (first | simp only [HR] | simp only [ha] | simp only [hc] | simp only [c2] | simp only [ho, HR])
  go_ret2
  exact ⟨rfl, rfl⟩
end Go.Proofs.YtmphnnmnbpheiaaGreatDoor
