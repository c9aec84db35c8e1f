/- Decimal digits as bytes: what they are worth, with and without the zeros at the end. -/
import Derived.Lib.Itoa
import Derived.Lib.ItoaNum
namespace Go.Proofs.YtmphnnmnbpheiaaGreatDoor
namespace Fl
open Go.Lib

/-- What a row of digits is worth. -/
def dval (l : List UInt8) : Nat := l.foldl (fun a b => 10 * a + (b.toNat - 48)) 0
theorem dval_from (l : List UInt8) : ∀ a, l.foldl (fun a b => 10 * a + (b.toNat - 48)) a = a * 10 ^ l.length + dval l := by
  induction l with
  | nil => intro a; simp [dval]
  | cons b l ih =>
    intro a
    rw [show dval (b :: l) = List.foldl (fun a b => 10 * a + (b.toNat - 48)) (10 * 0 + (b.toNat - 48)) l from rfl, List.foldl_cons, ih, ih, List.length_cons, Nat.pow_succ]
    generalize 10 ^ l.length = p
    grind
theorem dval_append (l r : List UInt8) : dval (l ++ r) = dval l * 10 ^ r.length + dval r := by
  rw [dval, List.foldl_append, dval_from]; rfl
theorem dval_zeros (n : Nat) : dval (List.replicate n 48) = 0 := by
  induction n with
  | zero => rfl
  | succ n ih => rw [List.replicate_succ', dval_append, ih]; rfl
theorem dval_cons (b : UInt8) (l : List UInt8) : dval (b :: l) = (b.toNat - 48) * 10 ^ l.length + dval l := by
  rw [dval, List.foldl_cons, dval_from]; simp
theorem dval_lt (l : List UInt8) (h : ∀ b ∈ l, b.toNat ≤ 57) : dval l < 10 ^ l.length := by
  induction l with
  | nil => simp [dval]
  | cons b l ih =>
    have h1 := ih (fun x hx => h x (List.mem_cons_of_mem _ hx))
    have h2 := h b List.mem_cons_self
    rw [dval_cons, List.length_cons, Nat.pow_succ]
    have := Nat.mul_le_mul_right (10 ^ l.length) (show b.toNat - 48 ≤ 9 by omega)
    omega

/-- The digits of a number, so many. -/
def digs (u n : Nat) : List UInt8 := (List.range n).map fun t => dg u (n - 1 - t)
theorem digs_length (u n : Nat) : (digs u n).length = n := by simp [digs]
theorem digs_succ (u n : Nat) : digs u (n + 1) = digs (u / 10) n ++ [dg u 0] := by
  unfold digs
  rw [List.range_succ, List.map_append]
  congr 1
  · apply List.map_congr_left
    intro t ht
    rw [List.mem_range] at ht
    rw [show n + 1 - 1 - t = (n - 1 - t) + 1 by omega, dg_succ]
  · simp
theorem dg_toNat (u j : Nat) : (dg u j).toNat = 48 + u / 10 ^ j % 10 := by
  unfold dg
  rw [UInt8.toNat_ofNat']
  omega
theorem digs_val (n : Nat) : ∀ u, u < 10 ^ n → dval (digs u n) = u := by
  induction n with
  | zero => intro u h; have : u = 0 := by simpa using h
            subst this; rfl
  | succ n ih =>
    intro u h
    rw [digs_succ, dval_append, ih (u / 10) (by rw [Nat.pow_succ] at h; omega)]
    show u / 10 * 10 ^ 1 + (10 * 0 + ((dg u 0).toNat - 48)) = u
    rw [dg_toNat]
    simp only [Nat.pow_zero, Nat.div_one, Nat.pow_one]
    omega
theorem digs_range (u n : Nat) : ∀ b ∈ digs u n, 48 ≤ b.toNat ∧ b.toNat ≤ 57 := by
  intro b hb
  obtain ⟨t, _, rfl⟩ := List.mem_map.1 hb
  rw [dg_toNat]
  omega

end Fl
end Go.Proofs.YtmphnnmnbpheiaaGreatDoor
