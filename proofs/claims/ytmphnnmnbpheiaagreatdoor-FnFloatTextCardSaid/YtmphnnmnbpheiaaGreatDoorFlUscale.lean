/- The scaling itself. -/
import Derived.Test.YtmphnnmnbpheiaaGreatDoorFlPre
import Derived.Test.YtmphnnmnbpheiaaGreatDoorShelf
namespace Go.Proofs.YtmphnnmnbpheiaaGreatDoor
open Go Go.RowKit
set_option maxRecDepth 10000 in
theorem bool2u64_any (b : Bool) (w : World) : Calls Tryz.prog 43 #[.bool b] w fun e w' => e = .returned (.int .u64 (if b then 1 else 0)) ∧ w' = w := by
  cases b
  all_goals
    go_enter Tryz.func43, Tryz.ntmps43
    go_wp2
    go_ret
    exact ⟨rfl, rfl⟩
theorem and63 (s : Nat) (hs : s < 64) : bits .and .i64 (s : Int) 63 = (s : Int) := by
  have h : ∀ k : Nat, k < 64 → bits .and .i64 (k : Int) 63 = (k : Int) := by decide
  exact h s hs
theorem shr_nat (h s : Nat) : (h : Int) / 2 ^ s = ((h / 2 ^ s : Nat) : Int) := by
  rw [Int.natCast_ediv, Int.natCast_pow]; rfl
set_option maxRecDepth 10000 in
set_option maxHeartbeats 1000000 in
theorem uscale_any (x hi lo s : Nat) (hx : x < 18446744073709551616) (hhi : hi < 18446744073709551616) (hlo : lo < 18446744073709551616) (hs : s < 64) (hb1 : 18446744073709551616 ≤ x * hi) (g : Nat) (w : World)
    (hb : Blk w g 105 #[.int .u64 hi, .int .u64 lo, .int .i64 s]) :
    Calls Tryz.prog 60 #[.int .u64 x, .pointer (some ⟨g, 0, none⟩)] w fun r w' =>
      r = .returned (.int .u64 (us 18446744073709551616 x hi lo (2 ^ s) : Nat)) ∧ ∃ k, w' = w.drewN k := by
  obtain ⟨q0, q1, q2, f0, f1, f2⟩ := hb.c3
  have H1 := fun w => Tryz.bits_Mul64 x hi hx hhi w
  have H2 := fun w => Tryz.bits_Mul64 x lo hx hlo w
  have a63 := and63 s hs
  have hh0 : 1 ≤ x * hi / 18446744073709551616 := by omega
  have hh1 : x * hi / 18446744073709551616 < 18446744073709551616 := by
    rw [Nat.div_lt_iff_lt_mul (by decide)]; exact Nat.mul_lt_mul'' hx hhi
  have hh2 := Nat.mod_lt (x * hi) (show 0 < 18446744073709551616 by decide)
  have hh3 : x * lo / 18446744073709551616 < 18446744073709551616 := by
    rw [Nat.div_lt_iff_lt_mul (by decide)]; exact Nat.mul_lt_mul'' hx hlo
  have hm3 := Nat.mod_lt (x * lo) (show 0 < 18446744073709551616 by decide)
  unfold us
  generalize x * hi / 18446744073709551616 = h at *
  generalize x * hi % 18446744073709551616 = mid at *
  generalize x * lo / 18446744073709551616 = mid2 at *
  generalize x * lo % 18446744073709551616 = r2 at *
  have T := Nat.two_pow_pos s
  have e0 : (h : Int) / 2 ^ s * 2 ^ s = ((h / 2 ^ s * 2 ^ s : Nat) : Int) := by
    rw [shr_nat, show ((2 : Int) ^ s) = ((2 ^ s : Nat) : Int) by rw [Int.natCast_pow]; rfl, ← Int.natCast_mul]
  have e1 : IntKind.u64.wrap ((h : Int) / 2 ^ s * 2 ^ s) = (h : Int) / 2 ^ s * 2 ^ s := by
    rw [e0, Go.Proofs.Mul64.wrapN _ (Nat.lt_of_le_of_lt (Nat.div_mul_le_self _ _) hh1)]
  have e2 : bits .or .u64 ((h : Int) / 2 ^ s) 1 = ((h / 2 ^ s ||| 1 : Nat) : Int) := by
    rw [shr_nat]
    exact u64_or_nat _ 1 (Nat.lt_of_le_of_lt (Nat.div_le_self _ _) hh1) (by decide)
  by_cases hz : h / 2 ^ s * 2 ^ s = h
  · rw [if_neg (by omega)]
    have e3 : ((h : Int) / 2 ^ s * 2 ^ s != (h : Int)) = false := by rw [e0, hz]; simp
    rcases Nat.lt_or_ge mid mid2 with hlt | hge
    · obtain ⟨h', eh'⟩ : ∃ h', h' = h - 1 := ⟨_, rfl⟩
      obtain ⟨d, ed⟩ : ∃ d, d = (mid + 18446744073709551616 - mid2) % 18446744073709551616 := ⟨_, rfl⟩
      have c1 : decide ((mid : Int) < (mid2 : Int)) = true := by simp; omega
      have c2 : IntKind.u64.wrap ((mid : Int) - (mid2 : Int)) = (d : Int) := by rw [IntKind.wrap_u64, ed]; omega
      have c3 : IntKind.u64.wrap ((h : Int) - 1) = (h' : Int) := by rw [IntKind.wrap_u64]; omega
      have hh' : h' < 18446744073709551616 := by omega
      rw [if_pos hlt, ← eh', ← ed]
      have HC := Lib.hid hh'
      have B1 := fun w => Lib.hid (bool2u64_any true w)
      clear e0 e2 hb hb1 hz hh1 hh2 hh3 hm3 hh0 eh' ed hh'
      by_cases hd : 1 < d
      · have c4 : decide ((1 : Int) < (d : Int)) = true := by simp; omega
        rw [if_pos hd]
        have B2 := fun w => Lib.hid (bool2u64_any true w)
        clear hd
        go_enter Tryz.func60, Tryz.ntmps60
        go_wp2_with fail
        refine (H1 _).mono ?_
        rintro e w1 ⟨rfl, rfl⟩
        go_wp2_with fail
        refine (H2 _).mono ?_
        rintro e w2 ⟨rfl, rfl⟩
        go_wp2_with fail
        refine (B1 _).out.mono ?_
        rintro e w3 ⟨rfl, rfl⟩
        go_wp2_with fail
        go_quiet ((go_at_call 43; with_reducible exact Calls.quiet_of_same ((B2 _).out)))
        go_wp2_with fail
        go_ret
        refine ⟨congrArg Ending.returned (congrArg (Value.int .u64) ?_), _, rfl⟩
        show bits .or .u64 ((h' : Int) / 2 ^ s) (if true = true then 1 else 0) = _
        rw [shr_nat]
        exact u64_or_nat (h' / 2 ^ s) 1 (Nat.lt_of_le_of_lt (Nat.div_le_self _ _) HC.out) (by decide)
      · have c4 : decide ((1 : Int) < (d : Int)) = false := by simp; omega
        rw [if_neg hd]
        have B2 := fun w => Lib.hid (bool2u64_any false w)
        clear hd
        go_enter Tryz.func60, Tryz.ntmps60
        go_wp2_with fail
        refine (H1 _).mono ?_
        rintro e w1 ⟨rfl, rfl⟩
        go_wp2_with fail
        refine (H2 _).mono ?_
        rintro e w2 ⟨rfl, rfl⟩
        go_wp2_with fail
        refine (B1 _).out.mono ?_
        rintro e w3 ⟨rfl, rfl⟩
        go_wp2_with fail
        go_quiet ((go_at_call 43; with_reducible exact Calls.quiet_of_same ((B2 _).out)))
        go_wp2_with fail
        go_ret
        refine ⟨congrArg Ending.returned (congrArg (Value.int .u64) ?_), _, rfl⟩
        show bits .or .u64 ((h' : Int) / 2 ^ s) (if false = true then 1 else 0) = _
        rw [shr_nat]
        have hz := u64_or_nat (h' / 2 ^ s) 0 (Nat.lt_of_le_of_lt (Nat.div_le_self _ _) HC.out) (by decide)
        rw [Nat.or_zero] at hz
        exact hz
    · obtain ⟨h', eh'⟩ : ∃ h', h' = h := ⟨_, rfl⟩
      obtain ⟨d, ed⟩ : ∃ d, d = (mid + 18446744073709551616 - mid2) % 18446744073709551616 := ⟨_, rfl⟩
      have c1 : decide ((mid : Int) < (mid2 : Int)) = false := by simp; omega
      have c1' : decide (mid < mid2) = false := by simp; omega
      have c2 : IntKind.u64.wrap ((mid : Int) - (mid2 : Int)) = (d : Int) := by rw [IntKind.wrap_u64, ed]; omega
      have c3 : IntKind.u64.wrap (h : Int) = (h' : Int) := by rw [IntKind.wrap_u64]; omega
      have hh' : h' < 18446744073709551616 := by omega
      rw [if_neg (show ¬ mid < mid2 by omega), ← eh', ← ed]
      have HC := Lib.hid hh'
      have B1 := fun w => Lib.hid (bool2u64_any false w)
      clear e0 e2 hb hb1 hz hh1 hh2 hh3 hm3 hh0 eh' ed hh'
      by_cases hd : 1 < d
      · have c4 : decide ((1 : Int) < (d : Int)) = true := by simp; omega
        rw [if_pos hd]
        have B2 := fun w => Lib.hid (bool2u64_any true w)
        clear hd
        go_enter Tryz.func60, Tryz.ntmps60
        go_wp2_with fail
        refine (H1 _).mono ?_
        rintro e w1 ⟨rfl, rfl⟩
        go_wp2_with fail
        refine (H2 _).mono ?_
        rintro e w2 ⟨rfl, rfl⟩
        go_wp2_with fail
        refine (B1 _).out.mono ?_
        rintro e w3 ⟨rfl, rfl⟩
        go_wp2_with fail
        go_quiet ((go_at_call 43; with_reducible exact Calls.quiet_of_same ((B2 _).out)))
        go_wp2_with fail
        go_ret
        refine ⟨congrArg Ending.returned (congrArg (Value.int .u64) ?_), _, rfl⟩
        show bits .or .u64 ((h' : Int) / 2 ^ s) (if true = true then 1 else 0) = _
        rw [shr_nat]
        exact u64_or_nat (h' / 2 ^ s) 1 (Nat.lt_of_le_of_lt (Nat.div_le_self _ _) HC.out) (by decide)
      · have c4 : decide ((1 : Int) < (d : Int)) = false := by simp; omega
        rw [if_neg hd]
        have B2 := fun w => Lib.hid (bool2u64_any false w)
        clear hd
        go_enter Tryz.func60, Tryz.ntmps60
        go_wp2_with fail
        refine (H1 _).mono ?_
        rintro e w1 ⟨rfl, rfl⟩
        go_wp2_with fail
        refine (H2 _).mono ?_
        rintro e w2 ⟨rfl, rfl⟩
        go_wp2_with fail
        refine (B1 _).out.mono ?_
        rintro e w3 ⟨rfl, rfl⟩
        go_wp2_with fail
        go_quiet ((go_at_call 43; with_reducible exact Calls.quiet_of_same ((B2 _).out)))
        go_wp2_with fail
        go_ret
        refine ⟨congrArg Ending.returned (congrArg (Value.int .u64) ?_), _, rfl⟩
        show bits .or .u64 ((h' : Int) / 2 ^ s) (if false = true then 1 else 0) = _
        rw [shr_nat]
        have hz := u64_or_nat (h' / 2 ^ s) 0 (Nat.lt_of_le_of_lt (Nat.div_le_self _ _) HC.out) (by decide)
        rw [Nat.or_zero] at hz
        exact hz
  · rw [if_pos (by omega)]
    have e3 : ((h : Int) / 2 ^ s * 2 ^ s != (h : Int)) = true := by rw [e0]; simp only [bne_iff_ne, ne_eq]; omega
    have HZ := Lib.hid (And.intro hz e2)
    clear hb hb1 hz e0 e2 H2 hh0 hh1 hh2 hh3 hm3 T
    go_enter Tryz.func60, Tryz.ntmps60
    go_wp2_with fail
    refine (H1 _).mono ?_
    rintro e w1 ⟨rfl, rfl⟩
    go_wp2_with fail
    go_ret
    exact ⟨congrArg Ending.returned (congrArg (Value.int .u64) HZ.out.2), 0, rfl⟩
end Go.Proofs.YtmphnnmnbpheiaaGreatDoor
