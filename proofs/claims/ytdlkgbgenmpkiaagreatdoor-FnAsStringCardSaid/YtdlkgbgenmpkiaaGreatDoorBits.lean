/- How many bits a natural number has. -/
import Derived.Test.YtdlkgbgenmpkiaaGreatDoorNatSet
import Derived.Test.YtdlkgbgenmpkiaaGreatDoorShelf
import Derived.Lib.ItoaNum
namespace Go.Proofs.YtdlkgbgenmpkiaaGreatDoor
open Go Go.RowKit
/-- How many bits a number has. -/
def nbits (x : Nat) : Nat := if x = 0 then 0 else Nat.log2 x + 1
theorem nbits_of (x n : Nat) (h1 : 2 ^ n ≤ x) (h2 : x < 2 ^ (n + 1)) : nbits x = n + 1 := by
  have hx : x ≠ 0 := by have := Nat.one_le_two_pow (n := n); omega
  rw [nbits, if_neg hx]
  have h3 := (Nat.le_log2 hx).2 h1
  have h4 := (Nat.log2_lt hx).2 h2
  omega
theorem nbits_word (x : Nat) (hx : x < 18446744073709551616) : Lib.bitLen x = nbits x := by
  by_cases h0 : x = 0
  · subst h0; rfl
  · obtain ⟨h1, h2, h3⟩ := Lib.bitLenAux_bounds 64 x (by omega) h0
    obtain ⟨m, hm⟩ : ∃ m, Lib.bitLenAux 64 x = m + 1 := ⟨_, (Nat.sub_add_cancel h1).symm⟩
    rw [hm] at h2 h3
    rw [Lib.bitLen, hm, nbits_of x m (by simpa using h2) h3]
theorem nbits_smear (x j : Nat) : nbits (x ||| x / 2 ^ j) = nbits x := by
  by_cases h0 : x = 0
  · subst h0; simp
  · have h1 := (Nat.le_log2 h0).1 (Nat.le_refl _)
    have h2 := (Nat.log2_lt h0).1 (Nat.lt_succ_self _)
    have e : nbits x = Nat.log2 x + 1 := by rw [nbits, if_neg h0]
    rw [e]
    apply nbits_of
    · exact Nat.le_trans h1 Nat.left_le_or
    · exact Nat.or_lt_two_pow h2 (Nat.lt_of_le_of_lt (Nat.div_le_self _ _) h2)
theorem smear_lt (x j : Nat) (hx : x < 18446744073709551616) : x ||| x / 2 ^ j < 18446744073709551616 :=
  Nat.or_lt_two_pow (n := 64) hx (Nat.lt_of_le_of_lt (Nat.div_le_self _ _) hx)
theorem smear_val (x j : Nat) (k : Int) (hk : k = ((2 ^ j : Nat) : Int)) (hx : x < 18446744073709551616) :
    ∃ y : Nat, y < 18446744073709551616 ∧ nbits y = nbits x ∧ bits .or .u64 (x : Int) ((x : Int) / k) = (y : Int) := by
  subst hk
  refine ⟨x ||| x / 2 ^ j, smear_lt x j hx, nbits_smear x j, ?_⟩
  rw [← Int.natCast_ediv, u64_or_nat _ _ hx (Nat.lt_of_le_of_lt (Nat.div_le_self _ _) hx)]
theorem natV_lt (ws : List Nat) (hb : ∀ x ∈ ws, x < 18446744073709551616) : natV ws < 18446744073709551616 ^ ws.length := by
  induction ws with
  | nil => simp [natV]
  | cons a l ih =>
    have ha := hb a (by simp)
    have := ih (fun x hx => hb x (by simp [hx]))
    simp only [natV, List.length_cons, Nat.pow_succ]
    omega
theorem natV_top (ws : List Nat) (k : Nat) (hk : ws.length = k + 1) : natV ws = natV (ws.take k) + 18446744073709551616 ^ k * ws[k] := by
  have h1 : ws = ws.take k ++ [ws[k]] := by
    rw [← List.take_succ_eq_append_getElem (by omega), List.take_of_length_le (by omega)]
  have h2 := natV_append (ws.take k) [ws[k]]
  rw [← h1, List.length_take, Nat.min_eq_left (by omega)] at h2
  simpa [natV] using h2
theorem nbits_top (ws : List Nat) (k : Nat) (hk : ws.length = k + 1) (hb : ∀ x ∈ ws, x < 18446744073709551616) (ht : ws[k] ≠ 0) : nbits (natV ws) = k * 64 + nbits ws[k] := by
  have h1 := (Nat.le_log2 ht).1 (Nat.le_refl _)
  have h2 : ws[k] < 2 ^ (Nat.log2 ws[k] + 1) := (Nat.log2_lt ht).1 (Nat.lt_succ_self _)
  have e : nbits ws[k] = Nat.log2 ws[k] + 1 := by rw [nbits, if_neg ht]
  have hl := natV_lt (ws.take k) (fun x hx => hb x (List.mem_of_mem_take hx))
  rw [List.length_take, Nat.min_eq_left (by omega)] at hl
  have e64 : (18446744073709551616 : Nat) ^ k = 2 ^ (64 * k) := by rw [Nat.pow_mul]
  rw [natV_top ws k hk, e, ← Nat.add_assoc]
  rw [e64] at hl ⊢
  apply nbits_of
  · rw [show k * 64 + Nat.log2 ws[k] = 64 * k + Nat.log2 ws[k] by omega, Nat.pow_add]
    have := Nat.mul_le_mul_left (2 ^ (64 * k)) h1
    omega
  · rw [show k * 64 + Nat.log2 ws[k] + 1 = 64 * k + (Nat.log2 ws[k] + 1) by omega, Nat.pow_add]
    have := Nat.mul_le_mul_left (2 ^ (64 * k)) (Nat.succ_le_of_lt h2)
    rw [Nat.mul_succ] at this
    omega
set_option maxRecDepth 10000 in
set_option maxHeartbeats 400000 in
theorem natBitLen_any (ws : List Nat) (A : Option Addr) (n c : Nat) (w : World) (hn : ws.length = n) (hl : n ≤ 2147483640) (hc0 : n ≤ c) (hb : ∀ x ∈ ws, x < 18446744073709551616) (ht : ∀ h : 0 < ws.length, ws[ws.length - 1] ≠ 0) (hr : Reads w w.heap.size 1 A n (wv ws)) :
    Calls Tryz.prog 48 #[.slice A n c] w fun e w' => e = .returned (.int .i64 (nbits (natV ws))) ∧ w = w' := by
  subst hn
  rcases Nat.eq_zero_or_pos ws.length with h0 | h0
  · obtain rfl := List.eq_nil_of_length_eq_zero h0
    go_enter Tryz.func48, Tryz.ntmps48
    go_wp2_with fail
    go_ret
    exact ⟨rfl, rfl⟩
  · obtain ⟨k, hk⟩ : ∃ k, ws.length = k + 1 := ⟨ws.length - 1, by omega⟩
    obtain ⟨ad, rfl, _, hcell⟩ := hr.word (k := k) (by omega)
    have hx := hb ws[k] (List.getElem_mem _)
    have htop := nbits_top ws k hk hb (by have := ht h0; simpa [hk] using this)
    generalize hxx : ws[k] = x at hcell hx htop
    have HT := Lib.hid htop
    clear hr hb htop ht
    rw [hk]
    go_enter Tryz.func48, Tryz.ntmps48
    go_wp2_with fail
    obtain ⟨x1, l1, b1, e1⟩ := smear_val x 1 2 rfl hx
    rw [e1]
    obtain ⟨x2, l2, b2, e2⟩ := smear_val x1 2 4 rfl l1
    rw [e2]
    obtain ⟨x3, l3, b3, e3⟩ := smear_val x2 4 16 rfl l2
    rw [e3]
    obtain ⟨x4, l4, b4, e4⟩ := smear_val x3 8 256 rfl l3
    rw [e4]
    obtain ⟨x5, l5, b5, e5⟩ := smear_val x4 16 65536 rfl l4
    rw [e5]
    rw [show ((x5 : Int) / 65536 / 65536) = (x5 : Int) / 4294967296 by omega]
    obtain ⟨x6, l6, b6, e6⟩ := smear_val x5 32 4294967296 rfl l5
    rw [e6]
    have hb6 : nbits x6 = nbits x := by rw [b6, b5, b4, b3, b2, b1]
    have HB := Lib.hid hb6
    clear e1 e2 e3 e4 e5 e6 b1 b2 b3 b4 b5 b6 hb6
    refine (Go.Proofs.Tryz.bits_Len (x6 : Int) w (by omega) (by omega)).mono ?_
    rintro e w1 ⟨rfl, rfl⟩
    rw [Int.toNat_natCast, nbits_word x6 l6]
    have hn64 : nbits x6 ≤ 64 := by rw [← nbits_word x6 l6]; exact Lib.bitLen_le x6 64 (Nat.le_refl _) l6
    generalize hy : nbits x6 = y at *
    have HY := Lib.hid hy
    clear hy
    go_wp2
    go_ret
    exact ⟨by rw [HT.out, ← HB.out]; go_num, rfl⟩
end Go.Proofs.YtdlkgbgenmpkiaaGreatDoor
