/- Reading a float's text: the walk, printed by genread.py. -/
import Derived.Test.YtmphnnmnbpheiaaGreatDoorFlFloat
import Derived.Test.YtmphnnmnbpheiaaGreatDoorFlParse
import Derived.WalkMore
namespace Go.Proofs.YtmphnnmnbpheiaaGreatDoor
open Go Go.RowKit
open Fl
set_option maxRecDepth 10000 in
theorem lower_any (x : Nat) (hx : x < 256) (w : World) : Calls Tryz.prog 55 #[.int .u8 (x : Int)] w fun e w' => e = .returned (.int .u8 ((x ||| 32 : Nat) : Int)) ∧ w' = w := by
  have h := u8_or_nat x 32 hx (by decide)
  go_enter Tryz.func55, Tryz.ntmps55
  go_wp2
  go_ret
  exact ⟨congrArg Ending.returned (congrArg (Value.int .u8) h), rfl⟩
/-- How many digits a number has, at least and at most. -/
def NB (m n : Nat) : Prop := (n = 0 ↔ m = 0) ∧ (0 < n → 10 ^ (n - 1) ≤ m)
theorem NB.le {m n : Nat} (h : NB m n) (hm : m < 10 ^ 17) : n ≤ 17 := by
  rcases Nat.lt_or_ge 17 n with hn | hn
  · exfalso
    have h1 := h.2 (by omega)
    have := Nat.pow_le_pow_right (n := 10) (by decide) (show 17 ≤ n - 1 by omega)
    omega
  · exact hn
theorem NB.lead {m n : Nat} (h : NB m n) (hn : n = 0) : NB (10 * m + 0) n := by
  have := h.1.1 hn
  subst this
  exact h
theorem NB.next {m n x : Nat} (h : NB m n) (hx : 1 ≤ x ∨ n ≠ 0) : NB (10 * m + x) (n + 1) := by
  constructor
  · constructor
    · intro h0; omega
    · intro h0
      have h1 : m = 0 := by omega
      have h2 := h.1.2 h1
      omega
  · intro _
    rcases Nat.eq_zero_or_pos n with h0 | h0
    · subst h0; simp; omega
    · have := h.2 h0
      rw [Nat.add_sub_cancel, show n = (n - 1) + 1 by omega, Nat.pow_succ]
      omega
theorem dval_snoc (l : List UInt8) (b : UInt8) : dval (l ++ [b]) = 10 * dval l + (b.toNat - 48) := by
  rw [dval_append]
  show dval l * 10 ^ 1 + (10 * 0 + (b.toNat - 48)) = _
  omega
theorem dval_take_le (l : List UInt8) (k : Nat) : dval (l.take k) ≤ dval l := by
  conv => rhs; rw [← List.take_append_drop k l, dval_append]
  have := Nat.le_mul_of_pos_right (dval (l.take k)) (Nat.pow_pos (n := (l.drop k).length) (show 0 < 10 by decide))
  omega
/-- Where the reader stands: before the point, or behind it. -/
structure St (I F : List UInt8) (k m n : Nat) (d : Int) (dot sg : Bool) : Prop where
  nb : NB m n
  seen : 0 < k → sg = true
  dl : -2000 ≤ d ∧ d ≤ 2000
  at_ : (dot = false ∧ k ≤ I.length ∧ m = dval (I.take k) ∧ -(k : Int) ≤ d ∧ d ≤ 0) ∨ (dot = true ∧ F ≠ [] ∧ ∃ j, k = I.length + 1 + j ∧ j ≤ F.length ∧ m = dval (I ++ F.take j) ∧ d = n - j)
theorem results_tmp7 {fn : Func} {a b c d e f g : Tmp} (h : fn.results = #[.tmp a, .tmp b, .tmp c, .tmp d, .tmp e, .tmp f, .tmp g]) (tmps : Array Value) (P : Program) (w : World) :
    (results fn tmps).run P w = .ok (.tuple #[tmps.getD a undef, tmps.getD b undef, tmps.getD c undef, tmps.getD d undef, tmps.getD e undef, tmps.getD f undef, tmps.getD g undef]) w := by
  simp [results, h]
/-- A sign laid onto a number. -/
def sgv (neg : Bool) (n : Nat) : Int := if neg then -(n : Int) else n
/-- The exponent that is told: none beside a nought. -/
def xv (m : Nat) (r : Int) : Int := if m = 0 then 0 else r
/-- What the reader tells. -/
def RdOut (m : Nat) (x : Int) (neg : Bool) (N : Nat) (w : World) (e : Ending) (w' : World) : Prop :=
  e = .returned (.tuple #[.int .u64 (m : Nat), .int .i64 x, .bool neg, .bool false, .bool false, .int .i64 N, .bool true]) ∧ w' = w
end Go.Proofs.YtmphnnmnbpheiaaGreatDoor
