/- What a finite float's text is made of. -/
import Derived.Test.YtmphnnmnbpheiaaGreatDoorFlFloat
import Derived.Test.YtmphnnmnbpheiaaGreatDoorFlRead
namespace Go.Proofs.YtmphnnmnbpheiaaGreatDoor
open Go Go.RowKit
open Fl
/-- An exponent's part of a text. -/
def expo (hasE xn : Bool) (E : List UInt8) : List UInt8 := if hasE then 101 :: (if xn then 45 else 43) :: E else []
/-- A fraction's part of a text. -/
def frac (F : List UInt8) : List UInt8 := if F = [] then [] else 46 :: F
def xof (hasE xn : Bool) (E F : List UInt8) : Int := (if hasE then sgv xn (dval E) else 0) - F.length
structure Num (b : Nat) (I F E : List UInt8) (hasE xn : Bool) (T : List UInt8) : Prop where
  text : T = sgn (decide (2 ^ 63 ≤ b)) ++ (I ++ (frac F ++ expo hasE xn E))
  i1 : 1 ≤ I.length
  i25 : I.length ≤ 25
  f25 : F.length ≤ 25
  ir : ∀ b ∈ I, 48 ≤ b.toNat ∧ b.toNat ≤ 57
  fr : ∀ b ∈ F, 48 ≤ b.toNat ∧ b.toNat ≤ 57
  er : ∀ b ∈ E, 48 ≤ b.toNat ∧ b.toNat ≤ 57
  e1 : hasE = true → 1 ≤ E.length
  e3 : E.length ≤ 3
  ne : hasE = false → F ≠ []
  nz : hasE = true → ∀ h : 0 < I.length, I[0].toNat ≠ 48
  small : dval (I ++ F) < 10 ^ 17
  worth : (dval (I ++ F) = 0 ∧ b % 2 ^ 63 = 0) ∨ (1 ≤ b % 2 ^ 63 ∧ 1 ≤ dval (I ++ F) ∧ ∃ i : Nat, xof hasE xn E F = (i : Int) - 348 ∧ 6 ≤ i ∧ i ≤ 658 ∧ rung (dval (I ++ F) * 10 ^ i * C1074) B348 = b % 2 ^ 63)
theorem dg1 {k : Nat} (h : k < 10) : (UInt8.ofNat (48 + k)).toNat = 48 + k := by rw [UInt8.toNat_ofNat']; omega
theorem exp2_ok (y : Nat) (h : y < 1000) : dval (exp2 y) = y ∧ 1 ≤ (exp2 y).length ∧ (exp2 y).length ≤ 3 ∧ ∀ b ∈ exp2 y, 48 ≤ b.toNat ∧ b.toNat ≤ 57 := by
  unfold exp2
  split
  · have := dg1 (k := y) (by omega)
    refine ⟨?_, by simp, by simp, ?_⟩
    · rw [dval_cons, dval_cons, this]; simp [dval]
    · intro b hb
      rcases List.mem_cons.1 hb with rfl | hb
      · decide
      · rw [List.mem_singleton] at hb; subst hb; rw [this]; omega
  · split
    · have t1 := dg1 (k := y / 10) (by omega)
      have t2 := dg1 (k := y % 10) (by omega)
      refine ⟨?_, by simp, by simp, ?_⟩
      · rw [dval_cons, dval_cons, t1, t2]; simp [dval]; omega
      · intro b hb
        rcases List.mem_cons.1 hb with rfl | hb
        · rw [t1]; omega
        · rw [List.mem_singleton] at hb; subst hb; rw [t2]; omega
    · have t1 := dg1 (k := y / 100) (by omega)
      have t2 := dg1 (k := y / 10 % 10) (by omega)
      have t3 := dg1 (k := y % 10) (by omega)
      refine ⟨?_, by simp, by simp, ?_⟩
      · rw [dval_cons, dval_cons, dval_cons, t1, t2, t3]; simp [dval]; omega
      · intro b hb
        rcases List.mem_cons.1 hb with rfl | hb
        · rw [t1]; omega
        · rcases List.mem_cons.1 hb with rfl | hb
          · rw [t2]; omega
          · rw [List.mem_singleton] at hb; subst hb; rw [t3]; omega
theorem zeros_range (n : Nat) : ∀ b ∈ List.replicate n (48 : UInt8), 48 ≤ b.toNat ∧ b.toNat ≤ 57 := by
  intro b hb
  rw [(List.mem_replicate.1 hb).2]
  decide
theorem range_app {a b : List UInt8} (ha : ∀ x ∈ a, 48 ≤ x.toNat ∧ x.toNat ≤ 57) (hb : ∀ x ∈ b, 48 ≤ x.toNat ∧ x.toNat ≤ 57) : ∀ x ∈ a ++ b, 48 ≤ x.toNat ∧ x.toNat ≤ 57 := by
  intro x hx
  rcases List.mem_append.1 hx with h | h
  · exact ha x h
  · exact hb x h
theorem dval_lead (n : Nat) (l : List UInt8) : dval (List.replicate n 48 ++ l) = dval l := by rw [dval_append, dval_zeros, Nat.zero_mul, Nat.zero_add]
/-- The form with an exponent. -/
theorem num_e {b : Nat} {l : List UInt8} {dp : Int} (h : Rep (b % 2 ^ 63) l dp) : ∃ I F E xn, Num b I F E true xn (dot (efgE (decide (2 ^ 63 ≤ b)) l (dp - 1))) := by
  obtain ⟨hr1, hd, h0, h17, q, hq, q1, q2, v1, v2, hr⟩ := h
  have hl1 := hd.pos
  have HR := Lib.hid hr
  clear hr
  obtain ⟨x1, x2, x3, x4⟩ := exp2_ok (dp - 1).natAbs (by omega)
  have hdot : dot (efgE (decide (2 ^ 63 ≤ b)) l (dp - 1)) = efgE (decide (2 ^ 63 ≤ b)) l (dp - 1) := by
    unfold dot
    rw [if_pos (Or.inl (by unfold efgE; simp))]
  rw [hdot]
  have hsplit : l.take 1 ++ l.drop 1 = l := List.take_append_drop 1 l
  refine ⟨l.take 1, l.drop 1, exp2 (dp - 1).natAbs, decide (dp - 1 < 0), ?_, ?_, ?_, ?_, ?_, ?_, x4, fun _ => x2, x3, fun h => (by cases h), fun _ => ?_, ?_, .inr ?_⟩
  · unfold efgE frac expo
    have hc : (l.drop 1 = []) ↔ ¬ 1 < l.length := by rw [List.drop_eq_nil_iff]; omega
    by_cases h : 1 < l.length
    · rw [if_pos h, if_neg (show ¬ l.drop 1 = [] by rw [hc]; omega)]
      by_cases h2 : dp - 1 < 0 <;> simp [h2]
    · rw [if_neg h, if_pos (hc.2 h)]
      by_cases h2 : dp - 1 < 0 <;> simp [h2]
  · rw [List.length_take]; omega
  · rw [List.length_take]; omega
  · rw [List.length_drop]; omega
  · exact fun b hb => hd.range b (List.mem_of_mem_take hb)
  · exact fun b hb => hd.range b (List.mem_of_mem_drop hb)
  · intro h
    rw [List.getElem_take]
    exact h0 hl1
  · rw [hsplit]; exact v2
  · rw [hsplit]
    refine ⟨hr1, v1, q, ?_, by omega, q2, HR.out⟩
    unfold xof sgv
    rw [if_pos rfl, x1, List.length_drop]
    by_cases h : dp - 1 < 0
    · rw [decide_eq_true h, if_pos rfl]; omega
    · rw [decide_eq_false h, if_neg (by decide)]; omega
/-- The form without. -/
theorem num_f {b : Nat} {l : List UInt8} {dp : Int} (h : Rep (b % 2 ^ 63) l dp) (hdp1 : -3 ≤ dp) (hdp2 : dp ≤ 6) : ∃ I F, Num b I F [] false false (dot (efgF (decide (2 ^ 63 ≤ b)) l dp)) := by
  obtain ⟨hr1, hd, h0, h17, q, hq, q1, q2, v1, v2, hr⟩ := h
  have hl1 := hd.pos
  have HR := Lib.hid hr
  clear hr
  by_cases hlt : dp < l.length
  · have hdot : dot (efgF (decide (2 ^ 63 ≤ b)) l dp) = efgF (decide (2 ^ 63 ≤ b)) l dp := by
      unfold dot
      rw [if_pos (Or.inr (by unfold efgF; rw [if_pos hlt]; simp))]
    rw [hdot]
    have hne : List.replicate (-dp).toNat 48 ++ l.drop dp.toNat ≠ [] := by
      intro h
      have := congrArg List.length h
      simp at this
      omega
    by_cases hp : 0 < dp
    · have e0 : (-dp).toNat = 0 := by omega
      have e1 : dp.toNat - l.length = 0 := by omega
      have hI : l.take dp.toNat ++ List.replicate (dp.toNat - l.length) 48 = l.take dp.toNat := by rw [e1]; simp
      have hF : List.replicate (-dp).toNat 48 ++ l.drop dp.toNat = l.drop dp.toNat := by rw [e0]; simp
      rw [hF] at hne
      refine ⟨l.take dp.toNat, l.drop dp.toNat, ?_, ?_, ?_, ?_, ?_, ?_, fun b hb => (by cases hb), fun h => (by cases h), by simp, fun _ => hne, fun h => (by cases h), ?_, .inr ?_⟩
      · unfold efgF frac expo
        rw [if_pos hp, if_pos hlt, if_neg hne, hI, hF]
        simp
      · rw [List.length_take]; omega
      · rw [List.length_take]; omega
      · rw [List.length_drop]; omega
      · exact fun b hb => hd.range b (List.mem_of_mem_take hb)
      · exact fun b hb => hd.range b (List.mem_of_mem_drop hb)
      · rw [List.take_append_drop]; exact v2
      · rw [List.take_append_drop]
        refine ⟨hr1, v1, q, ?_, by omega, q2, HR.out⟩
        unfold xof
        rw [if_neg (by decide), List.length_drop]
        omega
    · have e0 : dp.toNat = 0 := by omega
      have hF : List.replicate (-dp).toNat 48 ++ l.drop dp.toNat = List.replicate (-dp).toNat 48 ++ l := by rw [e0]; simp
      rw [hF] at hne
      have hv : dval ([48] ++ (List.replicate (-dp).toNat 48 ++ l)) = dval l := by
        rw [show ([48] : List UInt8) = List.replicate 1 48 from rfl, dval_lead, dval_lead]
      refine ⟨[48], List.replicate (-dp).toNat 48 ++ l, ?_, by simp, by simp, ?_, zeros_range 1, range_app (zeros_range _) hd.range, fun b hb => (by cases hb), fun h => (by cases h), by simp, fun _ => hne, fun h => (by cases h), ?_, .inr ?_⟩
      · unfold efgF frac expo
        rw [if_neg hp, if_pos hlt, if_neg hne, hF]
        simp
      · rw [List.length_append, List.length_replicate]; omega
      · rw [hv]; exact v2
      · rw [hv]
        refine ⟨hr1, v1, q, ?_, by omega, q2, HR.out⟩
        unfold xof
        rw [if_neg (by decide), List.length_append, List.length_replicate]
        omega
  · have hp : 0 < dp := by omega
    obtain ⟨z, hz⟩ : ∃ z, z = dp.toNat - l.length := ⟨_, rfl⟩
    have ht : efgF (decide (2 ^ 63 ≤ b)) l dp = sgn (decide (2 ^ 63 ≤ b)) ++ (l ++ List.replicate z 48) := by
      unfold efgF
      rw [if_pos hp, if_neg hlt, List.take_of_length_le (by omega), ← hz]
      simp
    have hIr := range_app hd.range (zeros_range z)
    have hno : ∀ c : UInt8, 57 < c.toNat ∨ c = 46 → c ∉ efgF (decide (2 ^ 63 ≤ b)) l dp := by
      intro c hc hm
      rw [ht] at hm
      rcases List.mem_append.1 hm with h | h
      · have h' : c = 45 := by
          revert h
          unfold sgn
          split
          · intro h; exact List.mem_singleton.1 h
          · intro h; cases h
        subst h'
        rcases hc with h | h
        · exact absurd h (by decide)
        · exact absurd h (by decide)
      · have := hIr c h
        rcases hc with h | h
        · omega
        · subst h; exact absurd this.1 (by decide)
    have hdot : dot (efgF (decide (2 ^ 63 ≤ b)) l dp) = sgn (decide (2 ^ 63 ≤ b)) ++ (l ++ List.replicate z 48) ++ [46, 48] := by
      unfold dot
      rw [if_neg (by
        intro h
        rcases h with h | h
        · exact hno 101 (.inl (by decide)) h
        · exact hno 46 (.inr rfl) h), ht]
    rw [hdot]
    have hv : dval (l ++ List.replicate z 48 ++ [48]) = dval l * 10 ^ (z + 1) := by
      rw [dval_append, dval_append, dval_zeros, List.length_replicate, show dval [48] = 0 from rfl, Nat.add_zero, Nat.add_zero, Nat.pow_succ, Nat.mul_assoc]
      rfl
    have hvl := dval_lt l (fun b hb => (hd.range b hb).2)
    have hv2 : dval l * 10 ^ (z + 1) < 10 ^ 17 := by
      have h1 : dval l * 10 ^ (z + 1) < 10 ^ l.length * 10 ^ (z + 1) := Nat.mul_lt_mul_of_pos_right hvl (Nat.pow_pos (by decide))
      rw [← Nat.pow_add] at h1
      exact Nat.lt_of_lt_of_le h1 (Nat.pow_le_pow_right (by decide) (by omega))
    refine ⟨l ++ List.replicate z 48, [48], ?_, ?_, ?_, by simp, hIr, zeros_range 1, fun b hb => (by cases hb), fun h => (by cases h), by simp, fun _ => by simp, fun h => (by cases h), ?_, .inr ?_⟩
    · unfold frac expo
      rw [if_neg (by simp)]
      simp
    · rw [List.length_append]; omega
    · rw [List.length_append, List.length_replicate]; omega
    · rw [hv]; exact hv2
    · rw [hv]
      obtain ⟨k, hk⟩ : ∃ k : Nat, k = 347 := ⟨_, rfl⟩
      refine ⟨hr1, Nat.mul_pos v1 (Nat.pow_pos (by decide)), k, ?_, by omega, by omega, ?_⟩
      · unfold xof
        rw [if_neg (by decide), hk]
        rfl
      · rw [Nat.mul_assoc (dval l), ← Nat.pow_add, show z + 1 + k = q by omega]
        exact HR.out
/-- Every finite float's text. -/
theorem num_of {b : Nat} {t : List UInt8} (h : FText b t) : ∃ I F E hasE xn, Num b I F E hasE xn (dot t) := by
  rcases h with ⟨h0, rfl⟩ | ⟨l, dp, hR, rfl⟩
  · have ht : efgF (decide (2 ^ 63 ≤ b)) [] 0 = sgn (decide (2 ^ 63 ≤ b)) ++ [48] := by unfold efgF; simp
    have hdot : dot (efgF (decide (2 ^ 63 ≤ b)) [] 0) = sgn (decide (2 ^ 63 ≤ b)) ++ [48] ++ [46, 48] := by
      unfold dot
      rw [ht, if_neg (by unfold sgn; split <;> decide)]
    rw [hdot]
    refine ⟨[48], [48], [], false, false, ?_, by simp, by simp, by simp, zeros_range 1, zeros_range 1, fun b hb => (by cases hb), fun h => (by cases h), by simp, fun _ => by simp, fun h => (by cases h), by decide, .inl ⟨by decide, h0⟩⟩
    unfold frac expo
    rw [if_neg (by simp)]
    simp
  · unfold ftxt
    split
    · obtain ⟨I, F, E, xn, h⟩ := num_e hR
      exact ⟨I, F, E, true, xn, h⟩
    · obtain ⟨I, F, h⟩ := num_f hR (by omega) (by omega)
      exact ⟨I, F, [], false, false, h⟩
end Go.Proofs.YtmphnnmnbpheiaaGreatDoor
