/- Which floats are finite, and how they compare. -/
import Derived.Test.YtmphnnmnbpheiaaGreatDoorFlFormat
import Derived.Test.YtmphnnmnbpheiaaGreatDoorFlIeee
import Derived.Test.YtmphnnmnbpheiaaGreatDoorFlBuilder
namespace Go.Proofs.YtmphnnmnbpheiaaGreatDoor
open Go Go.RowKit
open Fl
theorem mbits_run (b : Nat) (w : World) : (callFunc 8 #[.float .f64 b]).run Tryz.prog w = .ok (.value (.int .u64 (b : Int))) w := by
  rw [run_callFunc_extern Tryz.func8 (by kernel_rfl) (by kernel_rfl) (by kernel_rfl) (e := Go.Extern.MathFloatBits.float64bits) (by kernel_rfl)]
  rfl
theorem mfrom_run (b : Nat) (w : World) : (callFunc 7 #[.int .u64 (b : Int)]).run Tryz.prog w = .ok (.value (.float .f64 b)) w := by
  rw [run_callFunc_extern Tryz.func7 (by kernel_rfl) (by kernel_rfl) (by kernel_rfl) (e := Go.Extern.MathFloatBits.float64frombits) (by kernel_rfl)]
  rfl
theorem ifrom_run (b : Nat) (w : World) : (callFunc 44 #[.int .u64 (b : Int)]).run Tryz.prog w = .ok (.value (.float .f64 b)) w := by
  rw [run_callFunc_extern Tryz.func44 (by kernel_rfl) (by kernel_rfl) (by kernel_rfl) (e := Go.Extern.MathFloatBits.float64frombits) (by kernel_rfl)]
  rfl
set_option maxRecDepth 10000 in
theorem abs_any (b : Nat) (hb : b < 2 ^ 64) (w : World) : Calls Tryz.prog 30 #[.float .f64 b] w fun e w' => e = .returned (.float .f64 (b % 2 ^ 63)) ∧ w' = w := by
  have H1 := fun w => mbits_run b w
  have H2 := fun w => mfrom_run (b % 2 ^ 63) w
  have h : bits .andNot .u64 (b : Int) 9223372036854775808 = ((b % 2 ^ 63 : Nat) : Int) := by
    have h := u64_andNot_nat b 9223372036854775808 (by omega) (by decide)
    rw [show 18446744073709551615 - 9223372036854775808 = 2 ^ 63 - 1 from rfl, Nat.and_two_pow_sub_one_eq_mod] at h
    exact h
  generalize b % 2 ^ 63 = r at *
  go_enter Tryz.func30, Tryz.ntmps30
  go_wp2_with (simp only [H1, H2, h])
  go_ret
  exact ⟨rfl, rfl⟩
set_option maxRecDepth 10000 in
theorem isFinite_any (b : Nat) (hb : b < 2 ^ 64) (w : World) : Calls Tryz.prog 20 #[.float .f64 b] w fun e w' => e = .returned (.bool (decide (b % 2 ^ 63 < 2047 * 2 ^ 52))) ∧ w' = w := by
  have H := Lib.hid (abs_any b hb w)
  have HL := Lib.hid (le_max (Nat.mod_lt b (show 0 < 2 ^ 63 by decide)))
  generalize b % 2 ^ 63 = r at *
  go_enter Tryz.func20, Tryz.ntmps20
  go_wp2_with fail
  refine H.out.mono ?_
  rintro e w' ⟨rfl, rfl⟩
  go_wp2_with fail
  go_ret
  exact ⟨congrArg Ending.returned (congrArg Value.bool HL.out), rfl⟩
set_option maxRecDepth 10000 in
theorem isInf_pos (b : Nat) (hb : b < 2 ^ 64) (w : World) : Calls Tryz.prog 21 #[.float .f64 b, .int .i64 1] w fun e w' => e = .returned (.bool (decide (b = 2047 * 2 ^ 52))) ∧ w' = w := by
  have HL := Lib.hid (gt_max hb)
  go_enter Tryz.func21, Tryz.ntmps21
  go_wp2_with fail
  go_ret
  exact ⟨congrArg Ending.returned (congrArg Value.bool HL.out), rfl⟩
/-- The other sign. -/
def flip (b : Nat) : Nat := (1 - b / 2 ^ 63) * 2 ^ 63 + b % 2 ^ 63
theorem flip_eq (b : Nat) (hb : b < 2 ^ 64) : b ^^^ 2 ^ 63 = flip b := by
  have h1 : (b ^^^ 2 ^ 63) % 2 ^ 63 = b % 2 ^ 63 := by
    rw [Nat.xor_mod_two_pow, Nat.mod_self, Nat.xor_zero]
  have h2 : (b ^^^ 2 ^ 63) / 2 ^ 63 = 1 - b / 2 ^ 63 := by
    rw [Nat.xor_div_two_pow, Nat.div_self (by decide)]
    have : b / 2 ^ 63 = 0 ∨ b / 2 ^ 63 = 1 := by omega
    rcases this with h | h <;> rw [h] <;> rfl
  have := Nat.div_add_mod (b ^^^ 2 ^ 63) (2 ^ 63)
  unfold flip
  rw [h1, h2] at this
  omega
theorem run_flip (b : Nat) (hb : b < 2 ^ 64) (w : World) : (Op.unary .neg (.float .f64 b)).run Tryz.prog w = .ok (.float .f64 (flip b)) w := by
  rw [← flip_eq b hb]; rfl
set_option maxRecDepth 10000 in
theorem isInf_neg (b : Nat) (hb : b < 2 ^ 64) (w : World) : Calls Tryz.prog 21 #[.float .f64 b, .int .i64 (-1)] w fun e w' => e = .returned (.bool (decide (b = 2 ^ 63 + 2047 * 2 ^ 52))) ∧ w' = w := by
  have HN := fun w => run_flip b hb w
  have HL := Lib.hid (gt_max (b := flip b) (by unfold flip; omega))
  have HE : Hid (flip b = 2047 * 2 ^ 52 ↔ b = 2 ^ 63 + 2047 * 2 ^ 52) := Lib.hid (by unfold flip; omega)
  generalize flip b = c at *
  go_enter Tryz.func21, Tryz.ntmps21
  go_wp2_with (simp only [HN])
  go_ret
  refine ⟨congrArg Ending.returned (congrArg Value.bool (Eq.trans HL.out ?_)), rfl⟩
  rw [decide_eq_decide]
  exact HE.out
set_option maxRecDepth 10000 in
theorem isNaN_any (b : Nat) (hb : b < 2 ^ 64) (w : World) : Calls Tryz.prog 6 #[.float .f64 b] w fun e w' => e = .returned (.bool (decide (2047 * 2 ^ 52 < b % 2 ^ 63))) ∧ w' = w := by
  go_enter Tryz.func6, Tryz.ntmps6
  go_wp2_with fail
  go_ret
  refine ⟨congrArg Ending.returned (congrArg Value.bool ?_), rfl⟩
  show (Ieee.double.order b b != some .eq) = _
  rw [bne, Fl.eq_self hb]
  by_cases h : b % 2 ^ 63 ≤ 2047 * 2 ^ 52
  · rw [decide_eq_true h, decide_eq_false (show ¬ 2047 * 2 ^ 52 < b % 2 ^ 63 by omega)]; rfl
  · rw [decide_eq_false h, decide_eq_true (show 2047 * 2 ^ 52 < b % 2 ^ 63 by omega)]; rfl
end Go.Proofs.YtmphnnmnbpheiaaGreatDoor
