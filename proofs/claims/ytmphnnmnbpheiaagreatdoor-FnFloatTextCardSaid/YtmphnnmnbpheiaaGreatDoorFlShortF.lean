/- The shortest digits: what they are worth. -/
import Derived.Test.YtmphnnmnbpheiaaGreatDoorFlShortW
namespace Go.Proofs.YtmphnnmnbpheiaaGreatDoor
open Go Go.RowKit
open Fl
/-- Digits and an exponent of ten, of which the float with rung v is the nearest. -/
def Digits (w : World) (v : Nat) (e : Ending) (w' : World) : Prop :=
  ∃ d q : Nat, e = .returned (.tuple #[.int .u64 (d : Nat), .int .i64 ((q : Int) - 348)]) ∧ 1 ≤ d ∧ d < 10 ^ 17 ∧ 24 ≤ q ∧ q ≤ 641 ∧ rung (d * 10 ^ q * C1074) B348 = v ∧ Below w.heap.size w w'
theorem digits_of {w w' : World} {i lo hi r v : Nat} {e : Ending} (h : Short w i lo hi r e w') (h1 : 55 < i) (h2 : i ≤ 672)
    (hp : 1 ≤ (pick lo hi r).1 ∧ (pick lo hi r).1 < 10 ^ 17 ∧ rung ((pick lo hi r).1 * 10 ^ (696 - i + (pick lo hi r).2) * C1074) B348 = v) : Digits w v e w' := by
  have hk : (pick lo hi r).2 ≤ 1 := by
    rw [pick_eq]; split
    · exact Nat.le_refl 1
    · split
      · exact Nat.zero_le 1
      · exact Nat.zero_le 1
  refine ⟨(pick lo hi r).1, 696 - i + (pick lo hi r).2, ?_, hp.1, hp.2.1, by omega, by omega, hp.2.2, h.2⟩
  rw [h.1, show (348 : Int) - i + ((pick lo hi r).2 : Nat) = ((696 - i + (pick lo hi r).2 : Nat) : Int) - 348 by omega]
theorem i64_and1 (n : Int) : bits .and .i64 n 1 = n % 2 := by
  have h1 : (BitVec.ofInt 64 1).toNat = 2 ^ 1 - 1 := by decide
  have key : (BitVec.ofInt 64 n &&& BitVec.ofInt 64 1).toNat = (n % ((2 ^ 64 : Nat) : Int)).toNat % 2 ^ 1 := by
    rw [BitVec.toNat_and, BitVec.toNat_ofInt, h1, Nat.and_two_pow_sub_one_eq_mod]
  show IntKind.i64.wrap ((BitVec.ofInt 64 n &&& BitVec.ofInt 64 1).toNat : Nat) = n % 2
  rw [key, IntKind.wrap_i64]
  omega
theorem and_one (x : Int) (a : Nat) (hx : x = (a : Int)) (ha : a < 9223372036854775808) : bits .and .i64 (wrap64 x) 1 = ((a % 2 : Nat) : Int) := by
  rw [hx, IntWalk.wrap64_in _ (by omega), i64_and1]
  omega
theorem pow_split {a b : Nat} (h : a ≤ b) : 2 ^ b = 2 ^ (b - a) * 2 ^ a := by rw [← Nat.pow_add, Nat.sub_add_cancel h]
set_option maxHeartbeats 1000000 in
theorem shortFloat_any (M j sh : Nat) (hM0 : 1 ≤ M) (hM : M < 2 ^ 53) (hj : j < 2046) (hs : 2 ^ 63 ≤ M * 2 ^ sh ∧ M * 2 ^ sh < 2 ^ 64) (hn : (sh = 11) ∨ (j = 0 ∧ 12 ≤ sh)) (w : World)
    (hT : PowTab w) (hw : 10 < w.heap.size) :
    Calls Tryz.prog 81 #[.int .u64 (M * 2 ^ sh : Nat), .int .i64 ((j : Int) - 1074 - sh)] w (Digits w (j * 2 ^ 52 + M)) := by
  have hsh : sh ≤ 63 := by
    rcases Nat.lt_or_ge 63 sh with h | h
    · exfalso
      have := Nat.pow_le_pow_right (n := 2) (by decide) (show 64 ≤ sh by omega)
      have := Nat.mul_le_mul hM0 this
      omega
    · exact h
  obtain ⟨E, hE⟩ : ∃ E, E = j + 63 - sh := ⟨_, rfl⟩
  have hEe : (j : Int) - 1074 - sh = (E : Int) - 1137 := by omega
  rw [hEe]
  have ht : 4 * 2 ^ (sh - 2) * 2 ^ E = 2 ^ j * 2 ^ 63 := by
    rw [show (4 : Nat) = 2 ^ 2 from rfl, ← Nat.pow_add, ← Nat.pow_add, ← Nat.pow_add]; congr 1; omega
  have et : 2 ^ sh = 4 * 2 ^ (sh - 2) := by rw [show (4 : Nat) = 2 ^ 2 from rfl, ← Nat.pow_add]; congr 1; omega
  have et7 : 2 ^ (sh - 2) = 2 ^ (sh - 9) * 128 := by rw [show (128 : Nat) = 2 ^ 7 from rfl, ← Nat.pow_add]; congr 1; omega
  have hj2 : j = 0 ∨ 2 ^ 52 ≤ M := by
    rcases hn with h | h
    · right; rw [h] at hs; omega
    · left; exact h.1
  have hm : M * 2 ^ sh = 4 * M * 2 ^ (sh - 2) := by rw [et]; grind
  have t0 : 0 < 2 ^ (sh - 2) := Nat.pow_pos (by decide)
  have t9 : 0 < 2 ^ (sh - 9) := Nat.pow_pos (by decide)
  rw [hm] at hs ⊢
  have Q0 := fun s : Nat => Nat.mul_pos Q1_pos (Nat.pow_pos (n := s) (show 0 < 2 by decide))
  by_cases hsk : M = 2 ^ 52 ∧ 0 < j
  · -- a power of two
    have h11 : sh = 11 := by omega
    subst h11
    simp only [show (11 - 2 : Nat) = 9 from rfl, show (2 : Nat) ^ 9 = 512 from rfl] at *
    obtain ⟨i, hi⟩ : ∃ i, i = 672 - l10s j := ⟨_, rfl⟩
    have hk := allBelow_at chks_all j hj
    simp only [chks, Bool.and_eq_true, Nat.ble_eq, Nat.blt_eq] at hk
    obtain ⟨⟨⟨⟨k1, _⟩, _⟩, k4⟩, k5⟩ := hk
    rw [← hi] at k4 k5
    obtain ⟨h, l, hrow, R⟩ := row_at (i := i) (by omega) (by omega)
    obtain ⟨s, hs'⟩ : ∃ s, s = 2291 - E - L i := ⟨_, rfl⟩
    have hsEL : s + E + L i = 2291 := by omega
    have hp := pick_skew (s := s) (E := E) (i := i) (j := j) (t := 512) (M := M) hj hi hsEL ht (by decide) hsk.1 hsk.2 rfl rfl rfl rfl
    have b0 := unr_bound (x := (4 * M - 1) * 512) (s := s) R (by omega) (by omega)
    have b1 := unr_bound (x := (4 * M + 2) * 512) (s := s) R (by omega) (by omega)
    have bm := unr_bound (x := 4 * M * 512) (s := s) R (by omega) (by omega)
    have p1 := unr_pos (i := i) (x := (4 * M + 2) * 512) (s := s) (by omega)
    refine (shortA_walk (i := i) (h := h) (l := l) (s := s) (E := E) (x0 := (4 * M - 1) * 512) (x1 := (4 * M + 2) * 512) (o := 0) (u0 := _) (u1 := _) (lo := _) (hi := _) (r := _) (m := 4 * M * 512) (j := j)
      (hEj := by show _ = _; omega) (hE1 := by omega) (hE2 := by omega) (hij := hi) (s0 := by rw [IntKind.wrap_u64]; omega) (s1 := by rw [IntKind.wrap_u64]; omega) (so := by rw [and_one _ M (by omega) (by omega)]; omega) (hb := by simp; omega) (hj0 := by omega)
      (hrow := hrow) (R := R) (hi6 := by omega) (hs5 := by omega) (hs6 := by omega) (hE := by omega) (hsE' := by show _ = _; unfold L at hsEL; omega) (ho := by omega)
      (hx0 := ⟨by omega, by omega, by omega⟩) (hx1 := ⟨by omega, by omega, by omega⟩) (hxm := ⟨by omega, by omega, by omega⟩) (eu0 := rfl) (eu1 := rfl) (hu0 := b0) (hu1 := b1) (hu1' := p1)
      (elo := rfl) (ehi := rfl) (um := _) (eum := rfl) (hum := bm) (er := rfl) (hlo := by omega) (hhi := by omega) (w := w) (hT := hT) (hw := hw)).mono ?_
    intro e w' hsh
    exact digits_of hsh (by omega) (by omega) hp
  · obtain ⟨i, hi⟩ : ∃ i, i = 672 - l10 j := ⟨_, rfl⟩
    have hk := allBelow_at chk_all j hj
    simp only [chk, Bool.and_eq_true, Nat.ble_eq, Nat.blt_eq] at hk
    obtain ⟨⟨⟨⟨k1, _⟩, _⟩, k4⟩, k5⟩ := hk
    rw [← hi] at k4 k5
    obtain ⟨h, l, hrow, R⟩ := row_at (i := i) (by omega) (by omega)
    obtain ⟨s, hs'⟩ : ∃ s, s = 2291 - E - L i := ⟨_, rfl⟩
    have hsE : 5 ≤ s ∧ s < 64 ∧ s + E + L i = 2291 := by
      rcases hn with h | ⟨h, h'⟩
      · omega
      · have l0 : l10 j = 0 := by rw [h]; rfl
        have e672 : L 672 = 2233 := rfl
        have : i = 672 := by omega
        rw [this, e672] at hs' ⊢
        omega
    obtain ⟨hs5, hs6, hsEL⟩ := hsE
    have hp := pick_plain (s := s) (E := E) (i := i) (j := j) (t := 2 ^ (sh - 2)) (M := M) hj hi hsEL ht t0 hM0 hM hj2 hsk rfl rfl rfl rfl
    have c0 : (4 * M - 2) * 2 ^ (sh - 2) = 4 * M * 2 ^ (sh - 2) - 2 * 2 ^ (sh - 2) := by rw [Nat.sub_mul]
    have c1 : (4 * M + 2) * 2 ^ (sh - 2) = 4 * M * 2 ^ (sh - 2) + 2 * 2 ^ (sh - 2) := by rw [Nat.add_mul]
    have c2 : 4 * 2 ^ (sh - 2) ≤ 4 * M * 2 ^ (sh - 2) := Nat.mul_le_mul_right _ (by omega)
    have c3 : (4 * M + 2) * 2 ^ (sh - 2) < 2 ^ 64 := by
      -- M is at most 2 ^ (64 - sh) - 1
      have e64 : (2 : Nat) ^ 64 = 4 * 2 ^ (64 - sh) * 2 ^ (sh - 2) := by
        rw [show (4 : Nat) = 2 ^ 2 from rfl, ← Nat.pow_add, ← Nat.pow_add]; congr 1; omega
      rw [e64] at hs ⊢
      have := Nat.lt_of_mul_lt_mul_right hs.2
      exact Nat.mul_lt_mul_of_pos_right (by omega) t0
    have x0ok : (4 * M - 2) * 2 ^ (sh - 2) < 18446744073709551616 ∧ (4 * M - 2) * 2 ^ (sh - 2) % 128 = 0 ∧ 2 ≤ (4 * M - 2) * 2 ^ (sh - 2) := by
      refine ⟨by omega, by rw [et7, ← Nat.mul_assoc, Nat.mul_mod_left], by omega⟩
    have x1ok : (4 * M + 2) * 2 ^ (sh - 2) < 18446744073709551616 ∧ (4 * M + 2) * 2 ^ (sh - 2) % 128 = 0 ∧ 2 ≤ (4 * M + 2) * 2 ^ (sh - 2) := by
      refine ⟨by omega, by rw [et7, ← Nat.mul_assoc, Nat.mul_mod_left], by omega⟩
    have xmok : 4 * M * 2 ^ (sh - 2) < 18446744073709551616 ∧ 4 * M * 2 ^ (sh - 2) % 128 = 0 ∧ 2 ≤ 4 * M * 2 ^ (sh - 2) := by
      refine ⟨by omega, by rw [et7, ← Nat.mul_assoc, Nat.mul_mod_left], by omega⟩
    have b0 := unr_bound (x := (4 * M - 2) * 2 ^ (sh - 2)) (s := s) R x0ok.1 hs5
    have b1 := unr_bound (x := (4 * M + 2) * 2 ^ (sh - 2)) (s := s) R x1ok.1 hs5
    have bm := unr_bound (x := 4 * M * 2 ^ (sh - 2)) (s := s) R xmok.1 hs5
    have p1 := unr_pos (i := i) (x := (4 * M + 2) * 2 ^ (sh - 2)) (s := s) (by omega)
    rcases hn with h11 | ⟨hj0, h12⟩
    · subst h11
      simp only [show (11 - 2 : Nat) = 9 from rfl, show (2 : Nat) ^ 9 = 512 from rfl] at *
      by_cases hm63 : 4 * M * 512 = 9223372036854775808
      · refine (shortB0_walk (i := i) (h := h) (l := l) (s := s) (E := E) (x0 := (4 * M - 2) * 512) (x1 := (4 * M + 2) * 512) (o := M % 2) (u0 := _) (u1 := _) (lo := _) (hi := _) (r := _) (m := 4 * M * 512) (j := j)
          (hEj := by show _ = _; omega) (hE1 := by omega) (hE2 := by omega) (hij := hi) (s0 := by rw [IntKind.wrap_u64]; omega) (s1 := by rw [IntKind.wrap_u64]; omega) (so := and_one _ M (by omega) (by omega)) (hb := by simp; omega) (hj0 := by omega)
          (hrow := hrow) (R := R) (hi6 := by omega) (hs5 := hs5) (hs6 := hs6) (hE := by omega) (hsE' := by show _ = _; unfold L at hsEL; omega) (ho := by omega)
          (hx0 := x0ok) (hx1 := x1ok) (hxm := xmok) (eu0 := rfl) (eu1 := rfl) (hu0 := b0) (hu1 := b1) (hu1' := p1)
          (elo := rfl) (ehi := rfl) (um := _) (eum := rfl) (hum := bm) (er := rfl) (hlo := by omega) (hhi := by omega) (w := w) (hT := hT) (hw := hw)).mono ?_
        intro e w' hsh
        exact digits_of hsh (by omega) (by omega) hp
      · refine (shortB_walk (i := i) (h := h) (l := l) (s := s) (E := E) (x0 := (4 * M - 2) * 512) (x1 := (4 * M + 2) * 512) (o := M % 2) (u0 := _) (u1 := _) (lo := _) (hi := _) (r := _) (m := 4 * M * 512) (j := j)
          (hEj := by show _ = _; omega) (hE1 := by omega) (hE2 := by omega) (hij := hi) (s0 := by rw [IntKind.wrap_u64]; omega) (s1 := by rw [IntKind.wrap_u64]; omega) (so := and_one _ M (by omega) (by omega)) (hb := by simp; omega)
          (hrow := hrow) (R := R) (hi6 := by omega) (hs5 := hs5) (hs6 := hs6) (hE := by omega) (hsE' := by show _ = _; unfold L at hsEL; omega) (ho := by omega)
          (hx0 := x0ok) (hx1 := x1ok) (hxm := xmok) (eu0 := rfl) (eu1 := rfl) (hu0 := b0) (hu1 := b1) (hu1' := p1)
          (elo := rfl) (ehi := rfl) (um := _) (eum := rfl) (hum := bm) (er := rfl) (hlo := by omega) (hhi := by omega) (w := w) (hT := hT) (hw := hw)).mono ?_
        intro e w' hsh
        exact digits_of hsh (by omega) (by omega) hp
    · have hi672 : i = 672 := by
        have l0 : l10 j = 0 := by rw [hj0]; rfl
        omega
      have z1 : (11 + (-1085 - ((E : Int) - 1137))).toNat = sh := by omega
      have e1 : ((2 : Int) ^ (sh - 1)) = ((2 * 2 ^ (sh - 2) : Nat) : Int) := by
        rw [show 2 * 2 ^ (sh - 2) = 2 ^ (sh - 1) by rw [← Nat.pow_succ']; congr 1; omega, Int.natCast_pow]; rfl
      have e2 : ((4 * M * 2 ^ (sh - 2) : Nat) : Int) / 2 ^ sh = (M : Int) := by
        rw [← hm, shr_nat, Nat.mul_div_cancel _ (Nat.pow_pos (by decide))]
      have w1 : IntKind.u64.wrap ((2 * 2 ^ (sh - 2) : Nat) : Int) = ((2 * 2 ^ (sh - 2) : Nat) : Int) := Go.Proofs.Mul64.wrapN _ (by omega)
      refine (shortC_walk (i := i) (h := h) (l := l) (s := s) (E := E) (x0 := (4 * M - 2) * 2 ^ (sh - 2)) (x1 := (4 * M + 2) * 2 ^ (sh - 2)) (o := M % 2) (u0 := _) (u1 := _) (lo := _) (hi := _) (r := _) (m := 4 * M * 2 ^ (sh - 2)) (z := 63 - E)
          (hE51 := by omega) (hz := rfl) (hie := hi672) (s0 := by rw [z1, e1, w1, c0, IntKind.wrap_u64]; omega) (s1 := by rw [z1, e1, w1, c1, IntKind.wrap_u64]; omega) (so := by rw [z1]; exact and_one _ M e2 (by omega))
          (hrow := hrow) (R := R) (hi6 := by omega) (hs5 := hs5) (hs6 := hs6) (hE := by omega) (hsE' := by show _ = _; unfold L at hsEL; omega) (ho := by omega)
          (hx0 := x0ok) (hx1 := x1ok) (hxm := xmok) (eu0 := rfl) (eu1 := rfl) (hu0 := b0) (hu1 := b1) (hu1' := p1)
          (elo := rfl) (ehi := rfl) (um := _) (eum := rfl) (hum := bm) (er := rfl) (hlo := by omega) (hhi := by omega) (w := w) (hT := hT) (hw := hw)).mono ?_
      intro e w' hsh
      exact digits_of hsh (by omega) (by omega) hp
end Go.Proofs.YtmphnnmnbpheiaaGreatDoor
