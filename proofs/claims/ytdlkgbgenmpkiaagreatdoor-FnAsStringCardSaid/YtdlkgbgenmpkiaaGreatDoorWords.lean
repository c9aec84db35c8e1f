/- Bytes as words, plain. -/
import Derived.Test.YtdlkgbgenmpkiaaGreatDoorNat
namespace Go.Proofs.YtdlkgbgenmpkiaaGreatDoor
open Go Go.RowKit
theorem beNat_fold (l : List UInt8) (a : Nat) : l.foldl (fun a b => a * 256 + b.toNat) a = a * 256 ^ l.length + beNat l := by
  induction l generalizing a with
  | nil => simp [beNat]
  | cons x l ih =>
    simp only [List.foldl_cons, beNat, List.length_cons]
    rw [ih, ih (0 * 256 + x.toNat)]
    rw [Nat.pow_succ, Nat.add_mul, Nat.mul_assoc, Nat.mul_comm 256, Nat.zero_mul, Nat.zero_add]
    omega
theorem beNat_append (l r : List UInt8) : beNat (l ++ r) = beNat l * 256 ^ r.length + beNat r := by
  rw [beNat, List.foldl_append, beNat_fold]
  rfl
theorem beNat_cons (x : UInt8) (l : List UInt8) : beNat (x :: l) = x.toNat * 256 ^ l.length + beNat l := by
  have := beNat_append [x] l
  simpa [beNat] using this
theorem beNat_lt (l : List UInt8) : beNat l < 256 ^ l.length := by
  induction l with
  | nil => simp [beNat]
  | cons x l ih =>
    rw [beNat_cons, List.length_cons, Nat.pow_succ]
    have := x.toNat_lt
    have h1 : x.toNat * 256 ^ l.length ≤ 255 * 256 ^ l.length := Nat.mul_le_mul_right _ (by omega)
    omega
/-- The words of bytes, the lowest first. -/
def wordsOf (l : List UInt8) : List Nat := if _h : l.length = 0 then [] else if l.length < 8 then [beNat l] else beNat (l.drop (l.length - 8)) :: wordsOf (l.take (l.length - 8))
termination_by l.length
decreasing_by simp; omega
theorem wordsOf_nil : wordsOf [] = [] := by rw [wordsOf]; simp
theorem wordsOf_short (l : List UInt8) (h0 : 0 < l.length) (h : l.length < 8) : wordsOf l = [beNat l] := by
  rw [wordsOf, dif_neg (by omega), if_pos h]
theorem wordsOf_long (l : List UInt8) (h : 8 ≤ l.length) : wordsOf l = beNat (l.drop (l.length - 8)) :: wordsOf (l.take (l.length - 8)) := by
  rw [wordsOf, dif_neg (by omega), if_neg (by omega)]
theorem wordsOf_length (n : Nat) : ∀ l : List UInt8, l.length = n → (wordsOf l).length = (n + 7) / 8 := by
  induction n using Nat.strongRecOn with
  | ind n ih =>
    intro l hl
    by_cases h0 : n = 0
    · subst h0
      obtain rfl := List.eq_nil_of_length_eq_zero hl
      simp [wordsOf_nil]
    · by_cases h8 : n < 8
      · rw [wordsOf_short l (by omega) (by omega)]; simp; omega
      · rw [wordsOf_long l (by omega), List.length_cons, ih (n - 8) (by omega) _ (by simp; omega)]
        omega
theorem natV_wordsOf (n : Nat) : ∀ l : List UInt8, l.length = n → natV (wordsOf l) = beNat l := by
  induction n using Nat.strongRecOn with
  | ind n ih =>
    intro l hl
    by_cases h0 : n = 0
    · subst h0
      obtain rfl := List.eq_nil_of_length_eq_zero hl
      simp [wordsOf_nil, natV, beNat]
    · by_cases h8 : n < 8
      · rw [wordsOf_short l (by omega) (by omega)]; simp [natV]
      · rw [wordsOf_long l (by omega), natV, ih (n - 8) (by omega) _ (by simp; omega)]
        have := beNat_append (l.take (l.length - 8)) (l.drop (l.length - 8))
        rw [List.take_append_drop, List.length_drop] at this
        rw [this, show l.length - (l.length - 8) = 8 by omega]
        omega
theorem wordsOf_lt (n : Nat) : ∀ l : List UInt8, l.length = n → ∀ x ∈ wordsOf l, x < 18446744073709551616 := by
  induction n using Nat.strongRecOn with
  | ind n ih =>
    intro l hl x hx
    by_cases h0 : n = 0
    · subst h0
      obtain rfl := List.eq_nil_of_length_eq_zero hl
      simp [wordsOf_nil] at hx
    · by_cases h8 : n < 8
      · rw [wordsOf_short l (by omega) (by omega)] at hx
        simp at hx
        subst hx
        have h1 := beNat_lt l
        have h2 : 256 ^ l.length ≤ 256 ^ 8 := Nat.pow_le_pow_right (by omega) (by omega)
        omega
      · rw [wordsOf_long l (by omega)] at hx
        rcases List.mem_cons.1 hx with rfl | hx
        · have h1 := beNat_lt (l.drop (l.length - 8))
          rw [List.length_drop, show l.length - (l.length - 8) = 8 by omega] at h1
          omega
        · exact ih (n - 8) (by omega) _ (by simp; omega) x hx
theorem list8 (l : List UInt8) (h : l.length = 8) : ∃ a b c d e f g k, l = [a, b, c, d, e, f, g, k] := by
  match l, h with
  | [a, b, c, d, e, f, g, k], _ => exact ⟨a, b, c, d, e, f, g, k, rfl⟩
theorem word8 (a b c d e f g k : UInt8) : word4 a b c d * 4294967296 + word4 e f g k = beNat [a, b, c, d, e, f, g, k] := by
  simp [beNat, word4]; omega
/-- The words of a number, the lowest first, no zero on top. -/
def limbs (x : Nat) : List Nat := if h : x = 0 then [] else x % 18446744073709551616 :: limbs (x / 18446744073709551616)
termination_by x
decreasing_by exact Nat.div_lt_self (by omega) (by omega)
theorem limbs_zero : limbs 0 = [] := by rw [limbs]; simp
theorem limbs_pos (x : Nat) (h : 0 < x) : limbs x = x % 18446744073709551616 :: limbs (x / 18446744073709551616) := by rw [limbs, dif_neg (by omega)]
theorem natV_limbs (x : Nat) : natV (limbs x) = x := by
  induction x using Nat.strongRecOn with
  | ind x ih =>
    by_cases h : x = 0
    · subst h; rw [limbs_zero]; rfl
    · rw [limbs_pos x (by omega), natV, ih _ (Nat.div_lt_self (by omega) (by omega))]
      omega
theorem limbs_lt (x : Nat) : ∀ y ∈ limbs x, y < 18446744073709551616 := by
  induction x using Nat.strongRecOn with
  | ind x ih =>
    intro y hy
    by_cases h : x = 0
    · subst h; rw [limbs_zero] at hy; cases hy
    · rw [limbs_pos x (by omega)] at hy
      rcases List.mem_cons.1 hy with rfl | hy
      · omega
      · exact ih _ (Nat.div_lt_self (by omega) (by omega)) y hy
theorem natV_zero (ws : List Nat) (h : natV ws = 0) : ∀ x ∈ ws, x = 0 := by
  induction ws with
  | nil => intro x hx; cases hx
  | cons a l ih =>
    intro x hx
    simp only [natV] at h
    rcases List.mem_cons.1 hx with rfl | hx
    · omega
    · exact ih (by omega) x hx
theorem limbs_natV (ws : List Nat) (hb : ∀ x ∈ ws, x < 18446744073709551616) (hn : ∀ (h : 0 < ws.length), ws[ws.length - 1] ≠ 0) : limbs (natV ws) = ws := by
  induction ws with
  | nil => simp [natV, limbs_zero]
  | cons a l ih =>
    have ha := hb a (by simp)
    have hl := ih (fun x hx => hb x (by simp [hx])) (fun h => by
      have := hn (by simp)
      simp only [List.length_cons, Nat.add_sub_cancel] at this
      rwa [List.getElem_cons, dif_neg (by omega)] at this)
    have hpos : 0 < natV (a :: l) := by
      rcases Nat.eq_zero_or_pos (natV (a :: l)) with h0 | h0
      · exact absurd (natV_zero _ h0 _ (List.getElem_mem (by simp : (a :: l).length - 1 < (a :: l).length))) (hn (by simp))
      · exact h0
    rw [limbs_pos _ hpos]
    simp only [natV]
    rw [show (a + 18446744073709551616 * natV l) % 18446744073709551616 = a by omega, show (a + 18446744073709551616 * natV l) / 18446744073709551616 = natV l by omega, hl]
theorem natV_append (l r : List Nat) : natV (l ++ r) = natV l + 18446744073709551616 ^ l.length * natV r := by
  induction l with
  | nil => simp [natV]
  | cons a l ih =>
    simp only [List.cons_append, natV, ih, List.length_cons, Nat.pow_succ, Nat.mul_add]
    rw [Nat.mul_comm (18446744073709551616 ^ l.length) 18446744073709551616, Nat.mul_assoc]
    omega
theorem natV_zeros (ws : List Nat) (h : ∀ x ∈ ws, x = 0) : natV ws = 0 := by
  induction ws with
  | nil => rfl
  | cons a l ih => simp only [natV, h a (by simp), ih (fun x hx => h x (by simp [hx]))]
theorem natV_take (ws : List Nat) (k : Nat) (h : ∀ j (hj : j < ws.length), k ≤ j → ws[j] = 0) : natV (ws.take k) = natV ws := by
  have e := natV_append (ws.take k) (ws.drop k)
  rw [List.take_append_drop] at e
  rw [natV_zeros (ws.drop k) (fun x hx => by
    obtain ⟨i, hi, rfl⟩ := List.mem_iff_getElem.1 hx
    rw [List.getElem_drop]
    exact h _ _ (by omega))] at e
  omega
/-- What 'norm' leaves. -/
theorem limbs_take (ws : List Nat) (k : Nat) (hb : ∀ x ∈ ws, x < 18446744073709551616) (hk : k ≤ ws.length) (h : ∀ j (hj : j < ws.length), k ≤ j → ws[j] = 0) (hn : ∀ (_ : 0 < k) (h : k - 1 < ws.length), ws[k - 1] ≠ 0) :
    ws.take k = limbs (natV ws) := by
  rw [← natV_take ws k h, limbs_natV]
  · exact fun x hx => hb x (List.mem_of_mem_take hx)
  · intro h0
    have hlen : (ws.take k).length = k := by simp; omega
    simp only [List.getElem_take, hlen]
    exact hn (by omega) (by omega)
theorem sb_step (l : List UInt8) (i r t : Nat) (b : UInt8) (hr : r + 1 + t = i) (ht : t ≤ 6) (hi : i ≤ l.length) (hb : l[r]? = some b) :
    bits .or .u64 ((beNat ((l.take i).drop (r + 1)) : Nat) : Int) (IntKind.u64.wrap (IntKind.u64.wrap (b.toNat : Int) * ((256 ^ t : Nat) : Int))) = ((beNat ((l.take i).drop r) : Nat) : Int) := by
  have hlt := beNat_lt ((l.take i).drop (r + 1))
  have hlen : ((l.take i).drop (r + 1)).length = t := by simp; omega
  rw [hlen] at hlt
  have h8 : 256 ^ t ≤ 256 ^ 6 := Nat.pow_le_pow_right (by omega) ht
  have hbt := b.toNat_lt
  have hm : b.toNat * 256 ^ t ≤ 255 * 256 ^ 6 := Nat.mul_le_mul (by omega) h8
  have e1 : (l.take i).drop r = b :: (l.take i).drop (r + 1) := by
    have hr' : r < (l.take i).length := by simp; omega
    rw [List.drop_eq_getElem_cons hr']
    congr 1
    rw [List.getElem_take]
    rw [List.getElem?_eq_getElem (by omega)] at hb
    injection hb
  rw [e1, beNat_cons, hlen, IntKind.wrap_u64, IntKind.wrap_u64]
  have e2 : ((b.toNat : Int) % 18446744073709551616 * ((256 ^ t : Nat) : Int)) % 18446744073709551616 = ((b.toNat * 256 ^ t : Nat) : Int) := by
    rw [show (b.toNat : Int) % 18446744073709551616 = (b.toNat : Int) by omega, ← Int.natCast_mul]
    omega
  rw [e2, u64_or_nat _ _ (by omega) (by omega), Nat.or_comm, show 256 ^ t = 2 ^ (8 * t) by rw [Nat.pow_mul], nat_join (8 * t) _ _ (Nat.mul_mod_left _ _) (by rw [← show 256 ^ t = 2 ^ (8 * t) by rw [Nat.pow_mul]]; exact hlt)]
end Go.Proofs.YtdlkgbgenmpkiaaGreatDoor
