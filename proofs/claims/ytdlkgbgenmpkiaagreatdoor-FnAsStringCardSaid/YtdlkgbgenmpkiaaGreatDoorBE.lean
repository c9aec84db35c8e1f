/- Big-endian words. -/
import Derived.Test.YtdlkgbgenmpkiaaGreatDoorBytes
import Derived.Deep.QuietTactic
import Derived.BigQuiet
import Derived.Laws.BitsAllLaws
namespace Go.Proofs.YtdlkgbgenmpkiaaGreatDoor
open Go Go.RowKit
def beNat (l : List UInt8) : Nat := l.foldl (fun a b => a * 256 + b.toNat) 0
theorem be32_val (a b c d : Nat) (ha : a < 256) (hb : b < 256) (hc : c < 256) (hd : d < 256) :
    bits .or .u32 (bits .or .u32 (bits .or .u32 ((d : Int) % 4294967296) ((c : Int) % 4294967296 * 256 % 4294967296)) ((b : Int) % 4294967296 * 65536 % 4294967296)) ((a : Int) % 4294967296 * 16777216 % 4294967296) =
      ((((a * 256 + b) * 256 + c) * 256 + d : Nat) : Int) := by
  have e1 : (d : Int) % 4294967296 = ((d : Nat) : Int) := by omega
  have e2 : (c : Int) % 4294967296 * 256 % 4294967296 = ((c * 256 : Nat) : Int) := by omega
  have e3 : (b : Int) % 4294967296 * 65536 % 4294967296 = ((b * 65536 : Nat) : Int) := by omega
  have e4 : (a : Int) % 4294967296 * 16777216 % 4294967296 = ((a * 16777216 : Nat) : Int) := by omega
  rw [e1, e2, e3, e4, u32_or_nat d (c * 256) (by omega) (by omega)]
  have j1 : d ||| c * 256 = d + c * 256 := by rw [Nat.or_comm, nat_join 8 (c * 256) d (by omega) (by omega)]; omega
  rw [j1, u32_or_nat _ (b * 65536) (by omega) (by omega)]
  have j2 : (d + c * 256) ||| b * 65536 = d + c * 256 + b * 65536 := by rw [Nat.or_comm, nat_join 16 (b * 65536) _ (by omega) (by omega)]; omega
  rw [j2, u32_or_nat _ (a * 16777216) (by omega) (by omega)]
  have j3 : (d + c * 256 + b * 65536) ||| a * 16777216 = d + c * 256 + b * 65536 + a * 16777216 := by rw [Nat.or_comm, nat_join 24 (a * 16777216) _ (by omega) (by omega)]; omega
  rw [j3]
  omega
theorem be64_val (x y : Nat) (hx : x < 4294967296) (hy : y < 4294967296) : bits .or .u64 ((x : Int) * 4294967296) (y : Int) = ((x * 4294967296 + y : Nat) : Int) := by
  have e1 : (x : Int) * 4294967296 = ((x * 4294967296 : Nat) : Int) := by omega
  rw [e1, u64_or_nat _ _ (by omega) (by omega), nat_join 32 _ _ (by omega) (by omega)]
def word4 (a b c d : UInt8) : Nat := ((a.toNat * 256 + b.toNat) * 256 + c.toNat) * 256 + d.toNat
theorem word4_lt (a b c d : UInt8) : word4 a b c d < 4294967296 := by
  have := a.toNat_lt; have := b.toNat_lt; have := c.toNat_lt; have := d.toNat_lt
  unfold word4; omega
set_option maxRecDepth 10000 in
set_option maxHeartbeats 400000 in
theorem be32_any (b0 b1 b2 b3 : UInt8) (A : Addr) (n c : Nat) (w : World) (hn : 4 ≤ n) (_hc : n ≤ c) (h0 : w.cell? A = some (.int .u8 (b0.toNat : Int))) (h1 : w.cell? ⟨A.block, A.off + 1, none⟩ = some (.int .u8 (b1.toNat : Int))) (h2 : w.cell? ⟨A.block, A.off + 2, none⟩ = some (.int .u8 (b2.toNat : Int))) (h3 : w.cell? ⟨A.block, A.off + 3, none⟩ = some (.int .u8 (b3.toNat : Int))) :
    Calls Tryz.prog 47 #[.slice (some A) n c] w fun e w' => e = .returned (.int .u32 ((word4 b0 b1 b2 b3 : Nat) : Int)) ∧ ∃ k, w' = w.drewN k := by
  have i3 : (3 : Int) < (n : Int) := by omega
  have i2 : (2 : Int) < (n : Int) := by omega
  have i1 : (1 : Int) < (n : Int) := by omega
  have i0 : (0 : Int) < (n : Int) := by omega
  have hv := be32_val _ _ _ _ b0.toNat_lt b1.toNat_lt b2.toNat_lt b3.toNat_lt
  have HV := Lib.hid hv
  clear hv
  go_enter Tryz.func47, Tryz.ntmps47
  go_wp2_with fail
  go_quiet (fail)
  go_wp2
  go_ret
  exact ⟨by rw [HV.out]; rfl, _, rfl⟩
set_option maxRecDepth 10000 in
set_option maxHeartbeats 400000 in
theorem be64_any (b0 b1 b2 b3 b4 b5 b6 b7 : UInt8) (A : Addr) (n c : Nat) (w : World) (hn : 8 ≤ n) (hc : n ≤ c) (h : ∀ i, ∀ u, (bv [b0, b1, b2, b3, b4, b5, b6, b7])[i]? = some u → w.cell? (A.add i) = some u) :
    Calls Tryz.prog 46 #[.slice (some A) n c] w fun e w' => e = .returned (.int .u64 ((word4 b0 b1 b2 b3 * 4294967296 + word4 b4 b5 b6 b7 : Nat) : Int)) ∧ ∃ k, w' = w.drewN k := by
  have i7 : (7 : Int) < (n : Int) := by omega
  have i4 : (4 : Int) ≤ (n : Int) := by omega
  have l1 := word4_lt b0 b1 b2 b3
  have l2 := word4_lt b4 b5 b6 b7
  have hv := be64_val _ _ l1 l2
  have HV := Lib.hid hv
  clear hv
  have h0 := h 0 _ rfl
  have h1 := h 1 _ rfl
  have h2 := h 2 _ rfl
  have h3 := h 3 _ rfl
  have h4 := h 4 _ rfl
  have h5 := h 5 _ rfl
  have h6 := h 6 _ rfl
  have h7 := h 7 _ rfl
  simp only [Addr.add, reduceIte, Nat.reduceEqDiff] at h0 h1 h2 h3 h4 h5 h6 h7
  clear h
  have first1 : ∀ k, Calls Tryz.prog 47 #[.slice (some A) n c] (w.drewN k) fun e w' => e = .returned (.int .u32 ((word4 b0 b1 b2 b3 : Nat) : Int)) ∧ ∃ m, w' = (w.drewN k).drewN m := fun k =>
    be32_any b0 b1 b2 b3 A n c (w.drewN k) (by omega) hc h0 h1 h2 h3
  have second1 : ∀ k, Calls Tryz.prog 47 #[.slice (some ⟨A.block, A.off + 4, none⟩) (n - 4) (c - 4)] (w.drewN k) fun e w' => e = .returned (.int .u32 ((word4 b4 b5 b6 b7 : Nat) : Int)) ∧ ∃ m, w' = (w.drewN k).drewN m := fun k =>
    be32_any b4 b5 b6 b7 ⟨A.block, A.off + 4, none⟩ (n - 4) (c - 4) (w.drewN k) (by omega) (by omega) h4 h5 h6 h7
  have F1 := Lib.hid first1
  have F2 := Lib.hid second1
  clear first1 second1
  go_enter Tryz.func46, Tryz.ntmps46
  go_wp2_with fail
  have hcc : decide (c = 4) = false := by simp; omega
  go_quiet ((go_at_call 47; first | (with_reducible exact Calls.quiet_of (F1.out _)) | (with_reducible exact Calls.quiet_of (F2.out _))))
  go_wp2
  go_ret
  exact ⟨by rw [HV.out]; rfl, _, rfl⟩
end Go.Proofs.YtdlkgbgenmpkiaaGreatDoor
