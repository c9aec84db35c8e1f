/- FormatFloat, and the text of the language's float. -/
import Derived.Test.YtmphnnmnbpheiaaGreatDoorFlFtoa
import Derived.Laws.IdiomStrings
import Derived.Lib.BufferRead
namespace Go.Proofs.YtmphnnmnbpheiaaGreatDoor
open Go Go.RowKit
open Fl
/-- The text of a float's bits. -/
def FText (b : Nat) (t : List UInt8) : Prop :=
  (b % 2 ^ 63 = 0 ∧ t = efgF (decide (2 ^ 63 ≤ b)) [] 0) ∨ (∃ l dp, Rep (b % 2 ^ 63) l dp ∧ t = ftxt (decide (2 ^ 63 ≤ b)) l dp)
theorem i64_and2047 (n : Int) : bits .and .i64 n 2047 = n % 2048 := by
  have h1 : (BitVec.ofInt 64 2047).toNat = 2 ^ 11 - 1 := by decide
  have key : (BitVec.ofInt 64 n &&& BitVec.ofInt 64 2047).toNat = (n % ((2 ^ 64 : Nat) : Int)).toNat % 2 ^ 11 := by
    rw [BitVec.toNat_and, BitVec.toNat_ofInt, h1, Nat.and_two_pow_sub_one_eq_mod]
  show IntKind.i64.wrap ((BitVec.ofInt 64 n &&& BitVec.ofInt 64 2047).toNat : Nat) = n % 2048
  rw [key, IntKind.wrap_i64]
  omega
theorem ftoa64_any (base : Nat) (w0 w : World) (A : Option Addr) (c : Nat) (b : Nat) (hb : b < 2 ^ 64) (hf : b % 2 ^ 63 < 2047 * 2 ^ 52)
    (hown : w.ownsRow base 5 1 (.slice A 0 c) 0 []) (hbelow : Below base w0 w) (hbase : base ≤ w.heap.size) (hT : PowTab w) (hT' : TenTab w) (hg : 11 < base) (hg' : 10 < base) :
    Calls Tryz.prog 50 #[.slice A 0 c, .float .f64 b, .int .u8 103, .int .i64 (-1)] w fun e w' => ∃ t, FText b t ∧ Told base w0 t e w' := by
  have F1 : ((b : Int) / 9223372036854775808 != 0) = decide (2 ^ 63 ≤ b) := by
    by_cases h : 2 ^ 63 ≤ b
    · simp only [h, decide_true, bne_iff_ne, ne_eq]; omega
    · simp only [h, decide_false]
      have : (b : Int) / 9223372036854775808 = 0 := by omega
      rw [this]; rfl
  have F2 : bits .and .i64 (wrap64 ((b : Int) / 4503599627370496)) 2047 = ((b / 2 ^ 52 % 2048 : Nat) : Int) := by
    rw [IntWalk.wrap64_in _ (by omega), i64_and2047]; omega
  have F3 : bits .and .u64 (b : Int) 4503599627370495 = ((b % 2 ^ 52 : Nat) : Int) := by
    have := u64_and_nat b 4503599627370495 (by omega) (by decide)
    rw [show (4503599627370495 : Nat) = 2 ^ 52 - 1 from rfl, Nat.and_two_pow_sub_one_eq_mod] at this
    exact this
  have F4 : bits .or .u64 ((b % 2 ^ 52 : Nat) : Int) 4503599627370496 = ((2 ^ 52 + b % 2 ^ 52 : Nat) : Int) := by
    have h := u64_or_nat (b % 2 ^ 52) 4503599627370496 (by omega) (by decide)
    have h2 := Nat.two_pow_add_eq_or_of_lt (i := 52) (b := b % 2 ^ 52) (by omega) 1
    rw [Nat.or_comm, show (4503599627370496 : Nat) = 2 ^ 52 * 1 from rfl, ← h2] at h
    rw [Nat.mul_one] at h
    exact h
  rcases Nat.eq_zero_or_pos (b / 2 ^ 52 % 2048) with h0 | h0
  · rw [h0] at F2
    rcases Nat.eq_zero_or_pos (b % 2 ^ 52) with h1 | h1
    · rw [h1] at F3
      refine (ftoaZ_any base w0 w A c b _ F1 F2 F3 hown hbelow hbase hg').mono ?_
      intro e w' h
      exact ⟨_, .inl ⟨by omega, rfl⟩, h⟩
    · refine (ftoaS_any base w0 w A c b (b % 2 ^ 52) _ h1 (by omega) (by show _ < _; omega) F1 F2 F3 hown hbelow hbase ⟨hT, hT'⟩ ⟨by omega, by omega⟩).mono ?_
      rintro e w' ⟨l, dp, h2, h3⟩
      rw [show 0 * 2 ^ 52 + b % 2 ^ 52 = b % 2 ^ 63 by omega] at h2
      exact ⟨_, .inr ⟨l, dp, h2, rfl⟩, h3⟩
  · refine (ftoaN_any base w0 w A c b (2 ^ 52 + b % 2 ^ 52) (b / 2 ^ 52 % 2048) (b % 2 ^ 52) _ (by omega) (by omega) (by show _ ≤ _; omega) h0 (by omega) F1 F2 F3 F4 hown hbelow hbase ⟨hT, hT'⟩ ⟨by omega, by omega⟩).mono ?_
    rintro e w' ⟨l, dp, h2, h3⟩
    rw [show (b / 2 ^ 52 % 2048 - 1) * 2 ^ 52 + (2 ^ 52 + b % 2 ^ 52) = b % 2 ^ 63 by omega] at h2
    exact ⟨_, .inr ⟨l, dp, h2, rfl⟩, h3⟩
theorem conv_own {w : World} {base : Nat} {A : Option Addr} {n c : Nat} {t : List UInt8} (h : w.ownsRow base 5 1 (.slice A n c) n (bv t)) :
    (convert 38 9 (.slice A n c)).run Tryz.prog w = .ok (.string ⟨t.toArray⟩) w := by
  have hn : n = t.length := by have := h.1; rw [bv_len] at this; omega
  subst hn
  have hR := Reads.of_own h
  rcases A with _ | a
  · have : t = [] := by
      rcases Nat.eq_zero_or_pos t.length with h0 | h0
      · exact List.eq_nil_of_length_eq_zero h0
      · obtain ⟨ad, h1, _⟩ := hR.2 h0; cases h1
    subst this
    exact Lib.run_convert_nil_bytes w _ _ 5 c Tryz.underlying38 Tryz.underlying5 Tryz.underlying9
  · refine run_convert_bytes_back w _ _ 5 a c t Tryz.underlying38 Tryz.underlying5 Tryz.underlying9 fun j hj => ?_
    obtain ⟨ad, h1, _, hc⟩ := hR.2 (by omega)
    injection h1 with h1
    subst h1
    exact hc j _ (bv_get t j hj)
set_option maxRecDepth 10000 in
set_option maxHeartbeats 1000000 in
theorem formatFloat_any (b : Nat) (hb : b < 2 ^ 64) (hf : b % 2 ^ 63 < 2047 * 2 ^ 52) (w : World) (hT : Hid (PowTab w ∧ TenTab w)) (hw : Hid (11 < w.heap.size ∧ 10 < w.heap.size)) :
    Calls Tryz.prog 32 #[.float .f64 b, .int .u8 103, .int .i64 (-1), .int .i64 64] w fun e w' => ∃ t, FText b t ∧ e = .returned (.string ⟨t.toArray⟩) ∧ Below w.heap.size w w' := by
  obtain ⟨i, hi, hz0, hz1, hz2⟩ := info_parts info5
  have hmk : ∀ W : World, (Instr.makeSlice 38 (.int .i64 0) (.int .i64 (max 3 24))).run Tryz.prog W = .ok (.slice (some ⟨W.heap.size, 0, none⟩) 0 24) (W.alloc (.cells (Array.replicate 24 (.int .u8 0)) 5)) := fun W => by
    have h := run_make_rowN (P := Tryz.prog) 38 5 i (.int .u8 0) Tryz.underlying38 hi hz0 .i64 .i64 0 24 (by omega) (by rw [hz2]; omega) (by omega) W
    have mc : madeCells (Value.int .u8 0).cells 24 = Array.replicate 24 (.int .u8 0) := by
      apply Array.toList_inj.1
      rw [show (Value.int .u8 0).cells = #[.int .u8 0] from rfl, toList_madeCells_one]
      simp
    rw [hz1, Nat.mul_one, mc] at h
    exact h
  clear hi hz0 hz1 hz2
  have HF := Lib.hid (And.intro hb hf)
  clear hb hf
  go_enter Tryz.func32, Tryz.ntmps32
  go_wp2_with (simp only [hmk])
  refine gen1 (M := fun W => Calls _ _ _ W _) fun W1 hB1 b1 hz1 => ?_
  have hown : W1.ownsRow w.heap.size 5 1 (.slice (some ⟨w.heap.size, 0, none⟩) 0 24) 0 [] :=
    ⟨rfl, .inr ⟨w.heap.size, 24, _, rfl, Nat.le_refl _, b1, by omega, by decide, by simp, by simp⟩⟩
  refine (ftoa64_any w.heap.size w W1 _ 24 b HF.out.1 HF.out.2 hown hB1 (by omega) (hT.out.1.below hB1 hw.out.2) (hT.out.2.below hB1 hw.out.1) hw.out.1 hw.out.2).mono ?_
  clear hown b1 hB1 hz1
  rintro e w2 ⟨t, ht, A2, c2, rfl, h1, h2⟩
  have hconv := conv_own h1
  have H2 := Lib.hid (And.intro ht (And.intro h1 h2))
  generalize t.length = n at *
  clear ht h1 h2
  go_wp2_with (simp only [hconv])
  go_ret
  exact ⟨t, H2.out.1, rfl, H2.out.2.2⟩
set_option maxRecDepth 10000 in
theorem formatFloatS_any (b : Nat) (hb : b < 2 ^ 64) (hf : b % 2 ^ 63 < 2047 * 2 ^ 52) (w : World) (hT : Hid (PowTab w ∧ TenTab w)) (hw : Hid (11 < w.heap.size ∧ 10 < w.heap.size)) :
    Calls Tryz.prog 23 #[.float .f64 b, .int .u8 103, .int .i64 (-1), .int .i64 64] w fun e w' => ∃ t, FText b t ∧ e = .returned (.string ⟨t.toArray⟩) ∧ Below w.heap.size w w' := by
  have H := Lib.hid (formatFloat_any b hb hf w hT hw)
  clear hb hf
  go_enter Tryz.func23, Tryz.ntmps23
  go_wp2_with fail
  refine H.out.mono ?_
  rintro e w2 ⟨t, ht, rfl, hB⟩
  have H2 := Lib.hid (And.intro ht hB)
  clear ht hB
  go_wp2_with fail
  go_ret
  exact ⟨t, H2.out.1, rfl, H2.out.2⟩
end Go.Proofs.YtmphnnmnbpheiaaGreatDoor
