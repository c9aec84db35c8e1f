/- The small functions of the float's ways: logarithms of powers, roundings. -/
import Derived.Test.YtmphnnmnbpheiaaGreatDoorBytes
import Derived.Laws.Externs
import Derived.BigQuiet
import Derived.Laws.BitsAllLaws
import Derived.IntWalk
namespace Go.Proofs.YtmphnnmnbpheiaaGreatDoor
open Go Go.RowKit
set_option maxRecDepth 10000 in
theorem log2Pow10_any (x : Int) (h1 : -1000 ≤ x) (h2 : x ≤ 1000) (w : World) :
    Calls Tryz.prog 58 #[.int .i64 x] w fun e w' => e = .returned (.int .i64 (x * 108853 / 32768)) ∧ w' = w := by
  go_enter Tryz.func58, Tryz.ntmps58
  go_wp2
  go_ret
  refine ⟨?_, rfl⟩
  rfl
set_option maxRecDepth 10000 in
theorem log10Pow2_any (x : Int) (h1 : -2000 ≤ x) (h2 : x ≤ 2000) (w : World) :
    Calls Tryz.prog 77 #[.int .i64 x] w fun e w' => e = .returned (.int .i64 (x * 78913 / 262144)) ∧ w' = w := by
  go_enter Tryz.func77, Tryz.ntmps77
  go_wp2
  go_ret
  refine ⟨?_, rfl⟩
  rfl
set_option maxRecDepth 10000 in
theorem skewed_any (x : Int) (h1 : -2000 ≤ x) (h2 : x ≤ 2000) (w : World) :
    Calls Tryz.prog 91 #[.int .i64 x] w fun e w' => e = .returned (.int .i64 ((x * 631305 - 261663) / 2097152)) ∧ w' = w := by
  go_enter Tryz.func91, Tryz.ntmps91
  go_wp2
  go_ret
  refine ⟨?_, rfl⟩
  rfl
set_option maxRecDepth 10000 in
theorem nudge_any (u : Nat) (d : Int) (h1 : 0 ≤ u + d) (h2 : u + d < 18446744073709551616) (hd : -1 ≤ d) (hd' : d ≤ 1) (w : World) :
    Calls Tryz.prog 92 #[.int .u64 u, .int .i64 d] w fun e w' => e = .returned (.int .u64 (u + d)) ∧ w' = w := by
  go_enter Tryz.func92, Tryz.ntmps92
  go_wp2
  go_ret
  refine ⟨?_, rfl⟩
  show Ending.returned (.int .u64 (IntKind.u64.wrap (u + IntKind.u64.wrap d))) = _
  have : IntKind.u64.wrap ((u : Int) + IntKind.u64.wrap d) = u + d := by rw [IntKind.wrap_u64, IntKind.wrap_u64]; omega
  rw [this]
set_option maxRecDepth 10000 in
theorem ceil_any (u : Nat) (h2 : u + 3 < 18446744073709551616) (w : World) :
    Calls Tryz.prog 93 #[.int .u64 u] w fun e w' => e = .returned (.int .u64 ((u + 3) / 4 : Nat)) ∧ w' = w := by
  go_enter Tryz.func93, Tryz.ntmps93
  go_wp2
  go_ret
  refine ⟨?_, rfl⟩
  rfl
set_option maxRecDepth 10000 in
theorem floor_any (u : Nat) (h2 : u < 18446744073709551616) (w : World) :
    Calls Tryz.prog 94 #[.int .u64 u] w fun e w' => e = .returned (.int .u64 (u / 4 : Nat)) ∧ w' = w := by
  go_enter Tryz.func94, Tryz.ntmps94
  go_wp2
  go_ret
  refine ⟨?_, rfl⟩
  rfl
set_option maxRecDepth 10000 in
theorem round_any (u : Nat) (h2 : u + 3 < 18446744073709551616) (w : World) :
    Calls Tryz.prog 64 #[.int .u64 u] w fun e w' => e = .returned (.int .u64 ((u + 1 + u / 4 % 2) / 4 : Nat)) ∧ w' = w := by
  go_enter Tryz.func64, Tryz.ntmps64
  go_wp2
  go_ret
  refine ⟨?_, rfl⟩
  show Ending.returned (.int .u64 (IntKind.u64.wrap ((u : Int) + 1 + bits BinOp.and IntKind.u64 ((u : Int) / 4) 1) / 4)) = _
  have h := u64_and_nat (u / 4) 1 (by omega) (by omega)
  rw [Nat.and_one_is_mod] at h
  rw [show ((u : Int) / 4) = ((u / 4 : Nat) : Int) by omega, show ((1 : Int)) = ((1 : Nat) : Int) from rfl, h, IntKind.wrap_u64]
  congr 2
  omega
set_option maxRecDepth 10000 in
theorem unmin_any (w : World) :
    Calls Tryz.prog 62 #[.int .u64 9007199254740992] w fun e w' => e = .returned (.int .u64 36028797018963966) ∧ w' = w := by
  go_enter Tryz.func62, Tryz.ntmps62
  go_wp2
  go_ret
  refine ⟨?_, rfl⟩
  rfl
end Go.Proofs.YtmphnnmnbpheiaaGreatDoor
