/- Equality of every value, dicts and sets too; a float cut to an integer: plain laws. Conditions: none. -/
import Derived.Test.YtkmeckimmfbkiaaGreatDoorJPure
namespace Go.Proofs.YtkmeckimmfbkiaaGreatDoor
/-- What a key leads to among keys and values by turns. -/
def lookK (k : S) : List S → Option S
  | a :: b :: l => if eqS k a then some b else lookK k l
  | _ => none
mutual
/-- Are two values equal? -/
def eqV : S → S → Bool
  | .list a, .list b => eqVL a b
  | .tuple a, .tuple b => eqVL a b
  | .dict a, .dict b => (a.length == b.length) && subD a b
  | .set a, .set b => (a.length == b.length) && a.all (fun x => b.any (fun y => eqS x y))
  | s, t => eqS s t
def eqVL : List S → List S → Bool
  | [], [] => true
  | a :: l, b :: r => eqV a b && eqVL l r
  | _, _ => false
/-- Is every key there, with an equal value? -/
def subD : List S → List S → Bool
  | k :: v :: l, r => (match lookK k r with | none => false | some v' => eqV v v') && subD l r
  | _, _ => true
end
theorem unit_inj {a b : Int} (h : a * unitF = b * unitF) : a = b := Int.eq_of_mul_eq_mul_right (by decide +kernel) h
mutual
theorem eqS_trans : ∀ s t u : S, eqS s t = true → eqS t u = true → eqS s u = true
  | .none, t, u, h, g => by cases t <;> simp [eqS] at h; exact g
  | .bool a, t, u, h, g => by cases t <;> simp [eqS] at h; subst h; exact g
  | .int a, t, u, h, g => by
    cases t <;> simp [eqS] at h
    case int b => subst h; exact g
    case float f =>
      cases u <;> simp [eqS] at g ⊢
      case int c => have e := h.trans g; injection e with e; exact unit_inj e
      case float c => exact h.trans g
  | .float a, t, u, h, g => by
    cases t <;> simp [eqS] at h
    case int b =>
      cases u <;> simp [eqS] at g ⊢
      case int c => subst g; exact h
      case float c => exact h.trans g
    case float b =>
      cases u <;> simp [eqS] at g ⊢
      case int c => exact h.trans g
      case float c => exact h.trans g
  | .str a, t, u, h, g => by cases t <;> simp [eqS] at h; subst h; exact g
  | .bytes a, t, u, h, g => by cases t <;> simp [eqS] at h; subst h; exact g
  | .list a, t, u, h, g => by
    cases t <;> simp only [eqS, Bool.false_eq_true] at h
    case list b =>
      cases u <;> simp only [eqS, Bool.false_eq_true] at g ⊢
      exact eqL_trans a _ _ h g
  | .tuple a, t, u, h, g => by
    cases t <;> simp only [eqS, Bool.false_eq_true] at h
    case tuple b =>
      cases u <;> simp only [eqS, Bool.false_eq_true] at g ⊢
      exact eqL_trans a _ _ h g
  | .dict a, t, u, h, g => by cases t <;> simp [eqS] at h
  | .set a, t, u, h, g => by cases t <;> simp [eqS] at h
theorem eqL_trans : ∀ a b c : List S, eqL a b = true → eqL b c = true → eqL a c = true
  | [], b, c, h, g => by cases b <;> simp [eqL] at h; exact g
  | x :: l, b, c, h, g => by
    cases b with
    | nil => simp [eqL] at h
    | cons y r =>
      cases c with
      | nil => simp [eqL] at g
      | cons z q =>
        simp only [eqL, Bool.and_eq_true] at h g ⊢
        exact ⟨eqS_trans x y z h.1 g.1, eqL_trans l r q h.2 g.2⟩
end
mutual
theorem eqS_refl : ∀ s : S, keyS s = true → eqS s s = true
  | .none, _ => rfl
  | .bool _, _ => by simp [eqS]
  | .int _, _ => by simp [eqS]
  | .float _, _ => by simp [eqS]
  | .str _, _ => by simp [eqS]
  | .bytes _, _ => by simp [eqS]
  | .tuple l, h => by simp only [keyS] at h; simp only [eqS]; exact eqL_refl l h
  | .list _, h => by simp [keyS] at h
  | .dict _, h => by simp [keyS] at h
  | .set _, h => by simp [keyS] at h
theorem eqL_refl : ∀ l : List S, keyL l = true → eqL l l = true
  | [], _ => rfl
  | a :: l, h => by simp only [keyL, Bool.and_eq_true] at h; simp only [eqL, Bool.and_eq_true]; exact ⟨eqS_refl a h.1, eqL_refl l h.2⟩
end
mutual
/-- Of keys it is what it was. -/
theorem eqV_key : ∀ s t : S, keyS s = true → keyS t = true → eqV s t = eqS s t
  | .none, t, _, _ => by cases t <;> simp [eqV]
  | .bool _, t, _, _ => by cases t <;> simp [eqV]
  | .int _, t, _, _ => by cases t <;> simp [eqV]
  | .float _, t, _, _ => by cases t <;> simp [eqV]
  | .str _, t, _, _ => by cases t <;> simp [eqV]
  | .bytes _, t, _, _ => by cases t <;> simp [eqV]
  | .tuple a, t, h, g => by
    cases t <;> simp only [eqV]
    case tuple b => simp only [keyS] at h g; simp only [eqS]; exact eqVL_key a b h g
  | .list _, _, h, _ => by simp [keyS] at h
  | .dict _, _, h, _ => by simp [keyS] at h
  | .set _, _, h, _ => by simp [keyS] at h
theorem eqVL_key : ∀ a b : List S, keyL a = true → keyL b = true → eqVL a b = eqL a b
  | [], b, _, _ => by cases b <;> simp [eqVL, eqL]
  | x :: l, b, h, g => by
    cases b with
    | nil => simp [eqVL, eqL]
    | cons y r =>
      simp only [keyL, Bool.and_eq_true] at h g
      simp only [eqVL, eqL, eqV_key x y h.1 g.1, eqVL_key l r h.2 g.2]
end
theorem look_none {k : S} : ∀ {r : List S}, (∀ (j : Nat) (a : S), r[2 * j]? = some a → eqS k a = false) → lookK k r = none
  | [], _ => rfl
  | [_], _ => rfl
  | a :: b :: r, h => by
    have h0 := h 0 a rfl
    rw [lookK, h0]
    exact look_none (r := r) (fun j x hx => h (j + 1) x (by rw [show 2 * (j + 1) = 2 * j + 2 by omega]; simpa using hx))
theorem look_some {k k' v' : S} : ∀ {r : List S} {j : Nat}, distK 2 r → r[2 * j]? = some k' → r[2 * j + 1]? = some v' → eqS k k' = true → lookK k r = some v'
  | [], j, _, h, _, _ => by simp at h
  | [a], 0, _, _, h, _ => by simp at h
  | [a], j + 1, _, h, _, _ => by rw [show 2 * (j + 1) = 2 * j + 1 + 1 by omega] at h; simp at h
  | a :: b :: r, 0, _, h, h', he => by
    simp at h h'
    subst h h'
    rw [lookK, he]; rfl
  | a :: b :: r, j + 1, hd, h, h', he => by
    have e : eqS a k' = false := hd 0 (j + 1) a k' (by omega) rfl h
    have e2 : eqS k a = false := by
      rcases Bool.eq_false_or_eq_true (eqS k a) with q | q
      · have := eqS_trans a k k' (by rw [eqS_symm]; exact q) he
        rw [e] at this; cases this
      · exact q
    rw [lookK, e2]
    refine look_some (r := r) (j := j) (fun i i' x y hij hx hy => hd (i + 1) (i' + 1) x y (by omega) ?_ ?_) ?_ ?_ he
    · rw [show 2 * (i + 1) = 2 * i + 2 by omega]; simpa using hx
    · rw [show 2 * (i' + 1) = 2 * i' + 2 by omega]; simpa using hy
    · rw [show 2 * (j + 1) = 2 * j + 2 by omega] at h; simpa using h
    · rw [show 2 * (j + 1) + 1 = 2 * j + 1 + 2 by omega] at h'; simpa using h'
theorem look_at {k v' : S} : ∀ {r : List S}, lookK k r = some v' → ∃ (j : Nat) (k' : S), r[2 * j]? = some k' ∧ r[2 * j + 1]? = some v' ∧ eqS k k' = true
  | [], h => by simp [lookK] at h
  | [_], h => by simp [lookK] at h
  | a :: b :: r, h => by
    rw [lookK] at h
    split at h
    · rename_i q
      injection h with h
      subst h
      exact ⟨0, a, rfl, rfl, q⟩
    · obtain ⟨j, k', h1, h2, h3⟩ := look_at (r := r) h
      exact ⟨j + 1, k', by rw [show 2 * (j + 1) = 2 * j + 2 by omega]; simpa using h1, by rw [show 2 * (j + 1) + 1 = 2 * j + 1 + 2 by omega]; simpa using h2, h3⟩
theorem subD_iff : ∀ (l r : List S), subD l r = true ↔ ∀ (i : Nat) (k v : S), l[2 * i]? = some k → l[2 * i + 1]? = some v → ∃ v', lookK k r = some v' ∧ eqV v v' = true
  | [], r => by simp [subD]
  | [_], r => by
    simp only [subD, true_iff]
    intro i k v h1 h2
    rw [List.getElem?_eq_none (by simp)] at h2
    cases h2
  | k :: v :: l, r => by
    have ih := subD_iff l r
    simp only [subD, Bool.and_eq_true]
    constructor
    · intro ⟨h1, h2⟩ i k' v' e1 e2
      cases i with
      | zero =>
        simp at e1 e2
        subst e1 e2
        cases hk : lookK k r with
        | none => rw [hk] at h1; cases h1
        | some q => rw [hk] at h1; exact ⟨q, rfl, h1⟩
      | succ i =>
        refine ih.1 h2 i k' v' ?_ ?_
        · rw [show 2 * (i + 1) = 2 * i + 2 by omega] at e1; simpa using e1
        · rw [show 2 * (i + 1) + 1 = 2 * i + 1 + 2 by omega] at e2; simpa using e2
    · intro h
      constructor
      · obtain ⟨q, hq, hv⟩ := h 0 k v rfl rfl
        rw [hq]; exact hv
      · refine ih.2 fun i k' v' e1 e2 => h (i + 1) k' v' ?_ ?_
        · rw [show 2 * (i + 1) = 2 * i + 2 by omega]; simpa using e1
        · rw [show 2 * (i + 1) + 1 = 2 * i + 1 + 2 by omega]; simpa using e2
/-- As many there as here, and each here leads to another there: then each there comes from one here. -/
theorem pigeon {α β : Type} (R : α → β → Prop) : ∀ (P : List α) (Q : List β), P.length = Q.length → P.Pairwise (fun p p' => ∀ q, R p q → ¬ R p' q) → (∀ p ∈ P, ∃ q ∈ Q, R p q) → ∀ q ∈ Q, ∃ p ∈ P, R p q
  | [], Q, hl, _, _, q, hq => by
    have : Q = [] := List.length_eq_zero_iff.1 hl.symm
    subst this
    cases hq
  | p :: P, Q, hl, hp, h, q, hq => by
    obtain ⟨q0, hq0, hr⟩ := h p (List.mem_cons_self ..)
    obtain ⟨s, t, rfl⟩ := List.append_of_mem hq0
    rw [List.pairwise_cons] at hp
    have ih := pigeon R P (s ++ t) (by simp at hl ⊢; omega) hp.2 (fun p' hp' => by
      obtain ⟨q', hq', hr'⟩ := h p' (List.mem_cons_of_mem _ hp')
      refine ⟨q', ?_, hr'⟩
      rcases List.mem_append.1 hq' with h1 | h1
      · exact List.mem_append.2 (.inl h1)
      · rcases List.mem_cons.1 h1 with h2 | h2
        · subst h2; exact absurd hr' (hp.1 p' hp' q' hr)
        · exact List.mem_append.2 (.inr h2))
    rcases List.mem_append.1 hq with h1 | h1
    · obtain ⟨p', hp', hr'⟩ := ih q (List.mem_append.2 (.inl h1))
      exact ⟨p', List.mem_cons_of_mem _ hp', hr'⟩
    · rcases List.mem_cons.1 h1 with h2 | h2
      · subst h2; exact ⟨p, List.mem_cons_self .., hr⟩
      · obtain ⟨p', hp', hr'⟩ := ih q (List.mem_append.2 (.inr h2))
        exact ⟨p', List.mem_cons_of_mem _ hp', hr'⟩
end Go.Proofs.YtkmeckimmfbkiaaGreatDoor
namespace Go.Proofs.YtkmeckimmfbkiaaGreatDoor
theorem eqVL_self : ∀ (l : List S), (∀ a, a ∈ l → eqV a a = true) → eqVL l l = true
  | [], _ => rfl
  | a :: l, h => by
    simp only [eqVL, Bool.and_eq_true]
    exact ⟨h a (List.mem_cons_self ..), eqVL_self l fun b hb => h b (List.mem_cons_of_mem _ hb)⟩
theorem key_mem {l : List S} (h : keysK 1 l) {a : S} (ha : a ∈ l) : keyS a = true := by
  obtain ⟨i, hi⟩ := List.getElem?_of_mem ha
  exact h i a (by rw [Nat.one_mul]; exact hi)
theorem dist_pair {l : List S} (h : distK 1 l) : l.Pairwise (fun a b => eqS a b = false) := by
  rw [List.pairwise_iff_getElem]
  intro i j hi hj hij
  exact h i j _ _ hij (by rw [Nat.one_mul]; exact List.getElem?_eq_getElem hi) (by rw [Nat.one_mul]; exact List.getElem?_eq_getElem hj)
mutual
theorem eqV_refl : ∀ s : S, good s → eqV s s = true
  | .none, _ => by simp [eqV, eqS]
  | .bool _, _ => by simp [eqV, eqS]
  | .int _, _ => by simp [eqV, eqS]
  | .float _, _ => by simp [eqV, eqS]
  | .str _, _ => by simp [eqV, eqS]
  | .bytes _, _ => by simp [eqV, eqS]
  | .list l, h => by simp only [eqV]; exact eqVL_self l (eqV_reflL l h.2)
  | .tuple l, h => by simp only [eqV]; exact eqVL_self l (eqV_reflL l h.2)
  | .dict l, h => by
    obtain ⟨_, _, hk, hd, hg⟩ := h
    simp only [eqV, Bool.and_eq_true]
    refine ⟨by simp, (subD_iff l l).2 fun i k v e1 e2 => ⟨v, look_some hd e1 e2 (eqS_refl k (hk i k e1)), eqV_reflL l hg v (List.mem_of_getElem? e2)⟩⟩
  | .set l, h => by
    obtain ⟨_, hk, _, _⟩ := h
    simp only [eqV, Bool.and_eq_true]
    refine ⟨by simp, List.all_eq_true.2 fun x hx => List.any_eq_true.2 ⟨x, hx, eqS_refl x (key_mem hk hx)⟩⟩
theorem eqV_reflL : ∀ l : List S, goodL l → ∀ a, a ∈ l → eqV a a = true
  | [], _, a, h => by cases h
  | b :: l, hg, a, h => by
    rcases List.mem_cons.1 h with e | e
    · rw [e]; exact eqV_refl b hg.1
    · exact eqV_reflL l hg.2 a e
end
theorem goodL_mem {l : List S} (h : goodL l) {a : S} (ha : a ∈ l) : good a := by
  obtain ⟨i, hi⟩ := List.getElem?_of_mem ha
  exact goodL_get l i a hi h
mutual
theorem eqV_symm1 : ∀ s t : S, good s → good t → eqV s t = true → eqV t s = true
  | .none, t, _, _, h => by cases t <;> simp [eqV, eqS] at h ⊢
  | .bool a, t, _, _, h => by cases t <;> simp [eqV, eqS] at h ⊢; exact h.symm
  | .int a, t, _, _, h => by
    cases t <;> simp [eqV, eqS] at h ⊢
    case int b => exact h.symm
    case float f => exact h.symm
  | .float a, t, _, _, h => by
    cases t <;> simp [eqV, eqS] at h ⊢
    case int b => exact h.symm
    case float f => exact h.symm
  | .str a, t, _, _, h => by cases t <;> simp [eqV, eqS] at h ⊢; exact h.symm
  | .bytes a, t, _, _, h => by cases t <;> simp [eqV, eqS] at h ⊢; exact h.symm
  | .list a, t, g1, g2, h => by
    cases t <;> simp [eqV, eqS] at h ⊢
    case list b => exact eqVL_symm1 a b g1.2 g2.2 h
  | .tuple a, t, g1, g2, h => by
    cases t <;> simp [eqV, eqS] at h ⊢
    case tuple b => exact eqVL_symm1 a b g1.2 g2.2 h
  | .dict a, t, g1, g2, h => by
    cases t <;> simp [eqV, eqS] at h ⊢
    case dict b =>
      obtain ⟨_, ea, ka, da, ga⟩ := g1
      obtain ⟨_, eb, kb, db, gb⟩ := g2
      obtain ⟨hl, hs⟩ := h
      have hs := (subD_iff a b).1 hs
      refine ⟨hl.symm, (subD_iff b a).2 fun j k' v' e1 e2 => ?_⟩
      have hj : 2 * j < b.length := by
        rcases Nat.lt_or_ge (2 * j) b.length with q | q
        · exact q
        · rw [List.getElem?_eq_none q] at e1; cases e1
      obtain ⟨i, _, k, k2, f1, f2, f3⟩ := pigeon (fun i j => ∃ k k', a[2 * i]? = some k ∧ b[2 * j]? = some k' ∧ eqS k k' = true) (List.range (a.length / 2)) (List.range (b.length / 2)) (by simp; omega)
        (List.pairwise_lt_range.imp (fun {i i'} hii q ⟨k1, k2, r1, r2, r3⟩ ⟨k3, k4, r4, r5, r6⟩ => by
          rw [r2] at r5
          injection r5 with r5
          subst r5
          have := eqS_trans k1 k2 k3 r3 (by rw [eqS_symm]; exact r6)
          rw [da i i' k1 k3 hii r1 r4] at this
          cases this))
        (fun i hi => by
          have hi' : 2 * i + 1 < a.length := by have := List.mem_range.1 hi; omega
          obtain ⟨v2, q1, _⟩ := hs i _ _ (List.getElem?_eq_getElem (by omega)) (List.getElem?_eq_getElem hi')
          obtain ⟨j, k2, r1, r2, r3⟩ := look_at q1
          have hj2 : 2 * j + 1 < b.length := by
            rcases Nat.lt_or_ge (2 * j + 1) b.length with q | q
            · exact q
            · rw [List.getElem?_eq_none q] at r2; cases r2
          exact ⟨j, List.mem_range.2 (by omega), _, k2, List.getElem?_eq_getElem (by omega), r1, r3⟩)
        j (List.mem_range.2 (by omega))
      rw [e1] at f2
      injection f2 with f2
      subst f2
      have hi : 2 * i < a.length := by
        rcases Nat.lt_or_ge (2 * i) a.length with q | q
        · exact q
        · rw [List.getElem?_eq_none q] at f1; cases f1
      have hi' : 2 * i + 1 < a.length := by omega
      have ev := List.getElem?_eq_getElem hi'
      obtain ⟨v2, q1, q2⟩ := hs i k _ f1 ev
      have q3 := look_some db e1 e2 f3
      rw [q1] at q3
      injection q3 with q3
      subst q3
      exact ⟨_, look_some da f1 ev (by rw [eqS_symm]; exact f3), eqV_symmL a ga _ (List.mem_of_getElem? ev) v2 (goodL_get b _ v2 e2 gb) q2⟩
  | .set a, t, g1, g2, h => by
    cases t <;> simp [eqV, eqS] at h ⊢
    case set b =>
      obtain ⟨_, ka, da, ga⟩ := g1
      obtain ⟨_, kb, db, gb⟩ := g2
      obtain ⟨hl, hs⟩ := h
      refine ⟨hl.symm, fun y hy => ?_⟩
      obtain ⟨x, hx, hr⟩ := pigeon (fun x y => eqS x y = true) a b hl
        ((dist_pair da).imp (fun {x x'} hxx q r1 r2 => by
          have := eqS_trans x q x' r1 (by rw [eqS_symm]; exact r2)
          rw [hxx] at this
          cases this))
        (fun x hx => hs x hx) y hy
      exact ⟨x, hx, by rw [eqS_symm]; exact hr⟩
theorem eqVL_symm1 : ∀ l r : List S, goodL l → goodL r → eqVL l r = true → eqVL r l = true
  | [], r, _, _, h => by cases r <;> simp [eqVL] at h ⊢
  | a :: l, r, g1, g2, h => by
    cases r with
    | nil => simp [eqVL] at h
    | cons b r =>
      simp only [eqVL, Bool.and_eq_true] at h ⊢
      exact ⟨eqV_symm1 a b g1.1 g2.1 h.1, eqVL_symm1 l r g1.2 g2.2 h.2⟩
theorem eqV_symmL : ∀ l : List S, goodL l → ∀ v, v ∈ l → ∀ t, good t → eqV v t = true → eqV t v = true
  | [], _, v, h, _, _, _ => by cases h
  | b :: l, hg, v, h, t, ht, he => by
    rcases List.mem_cons.1 h with e | e
    · rw [e] at he ⊢; exact eqV_symm1 b t hg.1 ht he
    · exact eqV_symmL l hg.2 v e t ht he
end
theorem eqV_symm {s t : S} (hs : good s) (ht : good t) : eqV s t = eqV t s := by
  rw [Bool.eq_iff_iff]
  exact ⟨eqV_symm1 s t hs ht, eqV_symm1 t s ht hs⟩
end Go.Proofs.YtkmeckimmfbkiaaGreatDoor
namespace Go.Proofs.YtkmeckimmfbkiaaGreatDoor
open Go Ieee
def unitN : Nat := 2 ^ 1074
theorem two_pos (t : Nat) : 0 < 2 ^ t := Nat.pow_pos (by decide)
theorem unitN_pos : 0 < unitN := by unfold unitN; exact two_pos 1074
theorem unit_cast : unitF = ((unitN : Nat) : Int) := by unfold unitN; exact Fl.unitF_cast
/-- A float's worth, cut towards zero. -/
def truncF (b : Nat) : Int := if 2 ^ 63 ≤ b then -((Fl.fv (b % 2 ^ 63) / unitN : Nat) : Int) else ((Fl.fv (b % 2 ^ 63) / unitN : Nat) : Int)
namespace Fl
theorem cutN_div (r t : Nat) (ht : t = 1074) : cutN r = fv r / 2 ^ t := by
  unfold cutN fv
  rw [cut_min]
  rcases Nat.lt_or_ge (pOf r) t with h | h
  · obtain ⟨k, hk⟩ : ∃ k, pOf r + k = t := ⟨t - pOf r, by omega⟩
    rw [show (-1074 + (pOf r : Int)).toNat = 0 by omega, show (-(-1074 + (pOf r : Int))).toNat = k by omega, Nat.shiftLeft_zero, ← hk, Nat.pow_add, Nat.mul_comm (mOf r), Nat.mul_div_mul_left _ _ (Nat.pow_pos (by decide))]
  · obtain ⟨k, hk⟩ : ∃ k, pOf r = t + k := ⟨pOf r - t, by omega⟩
    rw [show (-1074 + (pOf r : Int)).toNat = k by omega, show (-(-1074 + (pOf r : Int))).toNat = 0 by omega, Nat.pow_zero, Nat.div_one, Nat.shiftLeft_eq, hk, Nat.pow_add, Nat.mul_comm (2 ^ t), ← Nat.mul_assoc, Nat.mul_div_cancel _ (Nat.pow_pos (by decide))]
theorem conv_val {b : Nat} {n : Int} (hb : b < 2 ^ 64) (hf : b % 2 ^ 63 < 2047 * 2 ^ 52) (h : floatToIntVal .f64 b .i64 = some n) : n = truncF b := by
  unfold floatToIntVal at h
  rw [conv_eq hb hf] at h
  have hc := cutN_div (b % 2 ^ 63) 1074 rfl
  unfold truncF unitN
  rw [← hc]
  generalize cutN (b % 2 ^ 63) = k at *
  by_cases q : 2 ^ 63 ≤ b
  · simp only [q, if_true] at h ⊢
    split at h
    · injection h with h; exact h.symm
    · cases h
  · simp only [q, if_false] at h ⊢
    split at h
    · injection h with h; exact h.symm
    · cases h
end Fl
/-- Out of range a float is whole. -/
theorem trunc_whole {b a : Nat} (h : a * 2 ^ 1074 = Fl.fv (b % 2 ^ 63) * 1) (ha : 0 < a) : (if decide (Fl.sv (decide (2 ^ 63 ≤ b)) (b % 2 ^ 63) < 0) then -(a : Int) else (a : Int)) = truncF b := by
  have h : a * unitN = Fl.fv (b % 2 ^ 63) := by unfold unitN; rw [Nat.mul_one] at h; exact h
  have hp := unitN_pos
  unfold truncF Fl.sv
  rw [← h, Nat.mul_div_cancel _ hp]
  have hm : 0 < a * unitN := Nat.mul_pos ha hp
  generalize a * unitN = F at *
  by_cases hn : 2 ^ 63 ≤ b
  · have e : decide (-(F : Int) < 0) = true := decide_eq_true (by omega)
    simp only [hn, decide_true, if_true, e]
  · have e : decide ((F : Int) < 0) = false := decide_eq_false (by omega)
    simp only [hn, decide_false, if_false, Bool.false_eq_true, e]
theorem wf_fin {b : Nat} {z : Int} (h : wf b = W.num z) : b % 2 ^ 63 < 2047 * 2 ^ 52 ∧ Fl.sv (decide (2 ^ 63 ≤ b)) (b % 2 ^ 63) = z := by
  unfold wf at h
  split at h
  · rename_i q
    injection h with h
    exact ⟨q, h⟩
  · split at h <;> cases h
theorem trunc_sv (b : Nat) : (∀ z : Int, Fl.sv (decide (2 ^ 63 ≤ b)) (b % 2 ^ 63) = z * unitF → truncF b = z) := by
  intro z h
  have hp := unitN_pos
  rw [unit_cast] at h
  unfold truncF
  unfold Fl.sv at h
  generalize Fl.fv (b % 2 ^ 63) = F at *
  generalize unitN = u at *
  by_cases hn : 2 ^ 63 ≤ b
  · rw [decide_eq_true hn, if_pos rfl] at h
    rw [if_pos hn]
    have e : (F : Int) = (-z) * (u : Int) := by rw [Int.neg_mul]; omega
    have h2 : ((F / u : Nat) : Int) = -z := by rw [Int.natCast_ediv, e, Int.mul_ediv_cancel _ (by omega)]
    omega
  · rw [decide_eq_false hn, if_neg (by decide)] at h
    rw [if_neg hn, Int.natCast_ediv, h, Int.mul_ediv_cancel _ (by omega)]
theorem trunc_int {b : Nat} {z : Int} (h : wf b = W.num (z * unitF)) : truncF b = z := trunc_sv b z (wf_fin h).2
theorem trunc_eq {b c : Nat} {z : Int} (hb : wf b = W.num z) (hc : wf c = W.num z) : truncF b = truncF c := by
  have h1 := (wf_fin hb).2
  have h2 := (wf_fin hc).2
  unfold truncF
  unfold Fl.sv at h1 h2
  generalize Fl.fv (b % 2 ^ 63) = F at *
  generalize Fl.fv (c % 2 ^ 63) = G at *
  have h0 : 0 / unitN = 0 := Nat.zero_div _
  by_cases q1 : 2 ^ 63 ≤ b
  · rw [decide_eq_true q1, if_pos rfl] at h1
    rw [if_pos q1]
    by_cases q2 : 2 ^ 63 ≤ c
    · rw [decide_eq_true q2, if_pos rfl] at h2
      rw [if_pos q2, show F = G by omega]
    · rw [decide_eq_false q2, if_neg (by decide)] at h2
      rw [if_neg q2, show F = 0 by omega, show G = 0 by omega, h0]; rfl
  · rw [decide_eq_false q1, if_neg (by decide)] at h1
    rw [if_neg q1]
    by_cases q2 : 2 ^ 63 ≤ c
    · rw [decide_eq_true q2, if_pos rfl] at h2
      rw [if_pos q2, show F = 0 by omega, show G = 0 by omega, h0]; rfl
    · rw [decide_eq_false q2, if_neg (by decide)] at h2
      rw [if_neg q2, show F = G by omega]
end Go.Proofs.YtkmeckimmfbkiaaGreatDoor
