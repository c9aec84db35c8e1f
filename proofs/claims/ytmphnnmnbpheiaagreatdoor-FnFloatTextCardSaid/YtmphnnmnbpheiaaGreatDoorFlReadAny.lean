/- Reading a float's text, whatever its form. -/
import Derived.Test.YtmphnnmnbpheiaaGreatDoorFlText
import Derived.Test.YtmphnnmnbpheiaaGreatDoorFlReadFp
import Derived.Test.YtmphnnmnbpheiaaGreatDoorFlReadFn
import Derived.Test.YtmphnnmnbpheiaaGreatDoorFlReadEp
import Derived.Test.YtmphnnmnbpheiaaGreatDoorFlReadEn
namespace Go.Proofs.YtmphnnmnbpheiaaGreatDoor
open Go Go.RowKit
open Fl
theorem at_text {T P Q R : List UInt8} (h : T = P ++ (Q ++ R)) (k : Nat) (hk : k < Q.length) (n : Nat) (hn : n = P.length + k) :
    ∃ h : n < (⟨T.toArray⟩ : ByteArray).size, (⟨T.toArray⟩ : ByteArray)[n].toNat = Q[k].toNat := by
  subst h
  subst hn
  have hlt : P.length + k < (P ++ (Q ++ R)).length := by simp; omega
  refine ⟨hlt, congrArg UInt8.toNat ?_⟩
  show (P ++ (Q ++ R)).toArray[P.length + k]'hlt = Q[k]
  rw [List.getElem_toArray, List.getElem_append_right (by omega), List.getElem_append_left (by omega)]
  congr 1
  omega
theorem no_x : ∀ y : Nat, y < 256 → y ≠ 88 → y ≠ 120 → (y ||| 32) ≠ 120 := by decide +kernel
section
variable {b : Nat} {I F E : List UInt8} {hasE xn : Bool} {T : List UInt8}
theorem Num.len (h : Num b I F E hasE xn T) : T.length = (sgn (decide (2 ^ 63 ≤ b))).length + I.length + (frac F).length + (expo hasE xn E).length := by
  rw [h.text]; simp [Nat.add_assoc]
theorem frac_len : (frac F).length = if F = [] then 0 else F.length + 1 := by unfold frac; split <;> simp
theorem Num.at_i (h : Num b I F E hasE xn T) (o : Nat) (ho : o = (sgn (decide (2 ^ 63 ≤ b))).length) (k : Nat) (hk : k < I.length) : ∃ h : o + k < (⟨T.toArray⟩ : ByteArray).size, (⟨T.toArray⟩ : ByteArray)[o + k].toNat = I[k].toNat :=
  at_text h.text k hk _ (by omega)
theorem Num.at_tail (h : Num b I F E hasE xn T) (o : Nat) (ho : o = (sgn (decide (2 ^ 63 ≤ b))).length) (k : Nat) (hk : k < (frac F).length) (n : Nat) (hn : n = o + I.length + k) : ∃ h : n < (⟨T.toArray⟩ : ByteArray).size, (⟨T.toArray⟩ : ByteArray)[n].toNat = (frac F)[k].toNat :=
  at_text (P := sgn (decide (2 ^ 63 ≤ b)) ++ I) (Q := frac F) (R := expo hasE xn E) (by rw [h.text]; simp) k hk n (by rw [List.length_append]; omega)
theorem Num.at_exp (h : Num b I F E hasE xn T) (o : Nat) (ho : o = (sgn (decide (2 ^ 63 ≤ b))).length) (k : Nat) (hk : k < (expo hasE xn E).length) (n : Nat) (hn : n = o + I.length + (frac F).length + k) : ∃ h : n < (⟨T.toArray⟩ : ByteArray).size, (⟨T.toArray⟩ : ByteArray)[n].toNat = (expo hasE xn E)[k].toNat :=
  at_text (P := sgn (decide (2 ^ 63 ≤ b)) ++ I ++ frac F) (Q := expo hasE xn E) (R := []) (by rw [h.text]; simp) k hk n (by rw [List.length_append, List.length_append]; omega)
theorem Num.dot_at (h : Num b I F E hasE xn T) (o : Nat) (ho : o = (sgn (decide (2 ^ 63 ≤ b))).length) (hF : F ≠ []) : ∃ h : o + I.length < (⟨T.toArray⟩ : ByteArray).size, (⟨T.toArray⟩ : ByteArray)[o + I.length].toNat = 46 := by
  have hl : 0 < (frac F).length := by rw [frac_len, if_neg hF]; omega
  obtain ⟨h1, h2⟩ := h.at_tail o ho 0 hl (o + I.length) (by omega)
  refine ⟨h1, h2.trans ?_⟩
  simp [frac, hF]
theorem Num.frac_at (h : Num b I F E hasE xn T) (o : Nat) (ho : o = (sgn (decide (2 ^ 63 ≤ b))).length) (j : Nat) (hj : j < F.length) : ∃ h : o + I.length + 1 + j < (⟨T.toArray⟩ : ByteArray).size, (⟨T.toArray⟩ : ByteArray)[o + I.length + 1 + j].toNat = F[j].toNat := by
  have hF : F ≠ [] := by intro e; subst e; simp at hj
  have hl : j + 1 < (frac F).length := by rw [frac_len, if_neg hF]; omega
  obtain ⟨h1, h2⟩ := h.at_tail o ho (j + 1) hl (o + I.length + 1 + j) (by omega)
  refine ⟨h1, h2.trans ?_⟩
  simp [frac, hF]
theorem Num.next (h : Num b I F E hasE xn T) (o : Nat) (ho : o = (sgn (decide (2 ^ 63 ≤ b))).length) : ∃ (h : o + 1 < (⟨T.toArray⟩ : ByteArray).size) (y : Nat), (⟨T.toArray⟩ : ByteArray)[o + 1].toNat = y ∧ y < 256 ∧ (y ||| 32) ≠ 120 := by
  have hi := h.i1
  rcases Nat.lt_or_ge 1 I.length with h1 | h1
  · obtain ⟨a1, a2⟩ := h.at_i o ho 1 h1
    have := h.ir _ (List.getElem_mem h1)
    exact ⟨a1, _, a2, by omega, no_x _ (by omega) (by omega) (by omega)⟩
  · have e1 : I.length = 1 := by omega
    by_cases hF : F = []
    · cases hE : hasE
      · exact absurd hF (h.ne hE)
      · subst hE
        obtain ⟨a1, a2⟩ := h.at_exp o ho 0 (by simp [expo]) (o + 1) (by rw [frac_len, if_pos hF]; omega)
        exact ⟨a1, 101, a2.trans (by simp [expo]), by decide, by decide⟩
    · obtain ⟨a1, a2⟩ := h.at_tail o ho 0 (by rw [frac_len, if_neg hF]; omega) (o + 1) (by omega)
      exact ⟨a1, 46, a2.trans (by simp [frac, hF]), by decide, by decide⟩
theorem read_any (h : Num b I F E hasE xn T) (w : World) :
    Calls Tryz.prog 35 #[.string ⟨T.toArray⟩] w (RdOut (dval (I ++ F)) (xv (dval (I ++ F)) (xof hasE xn E F)) (decide (2 ^ 63 ≤ b)) T.length w) := by
  have hlen := h.len
  have hi := h.i1
  have hi2 := h.i25
  have hf2 := h.f25
  have he3 := h.e3
  have hfl := frac_len (F := F)
  have hfl2 : (frac F).length ≤ 26 := by rw [hfl]; split <;> omega
  obtain ⟨neg, hneg⟩ : ∃ neg, decide (2 ^ 63 ≤ b) = neg := ⟨_, rfl⟩
  obtain ⟨o, ho⟩ : ∃ o, o = (sgn (decide (2 ^ 63 ≤ b))).length := ⟨_, rfl⟩
  have HI := Lib.hid (h.at_i o ho)
  have HD := Lib.hid (h.dot_at o ho)
  have HFr := Lib.hid (h.frac_at o ho)
  have HN := Lib.hid (h.next o ho)
  cases hasE
  · have hF := h.ne rfl
    have hel : (expo false xn E).length = 0 := by simp [expo]
    have hx : xof false xn E F = -(F.length : Int) := by unfold xof; simp
    have hF1 : 1 ≤ F.length := by
      cases F with
      | nil => exact absurd rfl hF
      | cons _ _ => simp
    rw [if_neg hF] at hfl
    rw [hx, hneg]
    cases neg
    · have ho0 : o = 0 := by rw [ho, hneg]; rfl
      rw [← ho] at hlen
      clear ho
      subst ho0
      exact readF_pos _ T.length rfl I F (Lib.hid hi) (by omega) (by omega) (Lib.hid h.ir) (Lib.hid h.fr) (Lib.hid h.small) HI HD HFr HN (Lib.hid hF) (Lib.hid (by omega)) w
    · have ho0 : o = 1 := by rw [ho, hneg]; rfl
      rw [← ho] at hlen
      have hs0 : ∃ h : 0 < (⟨T.toArray⟩ : ByteArray).size, (⟨T.toArray⟩ : ByteArray)[0].toNat = 45 := by
        obtain ⟨a1, a2⟩ := at_text (P := []) (Q := sgn true) (R := I ++ (frac F ++ expo false xn E)) (T := T) (by rw [h.text, hneg]; rfl) 0 (by decide) 0 rfl
        exact ⟨a1, a2⟩
      clear ho
      subst ho0
      exact readF_neg _ T.length rfl I F (Lib.hid hi) (by omega) (by omega) (Lib.hid h.ir) (Lib.hid h.fr) (Lib.hid h.small) hs0 HI HD HFr HN (Lib.hid hF) (Lib.hid (by omega)) w
  · have hel : (expo true xn E).length = 2 + E.length := by simp [expo]; omega
    have hx : xof true xn E F = sgv xn (dval E) - F.length := by unfold xof; simp
    have he1 := h.e1 rfl
    have hX0 := h.at_exp o ho 0 (by omega) (o + I.length + (frac F).length) (by omega)
    have hX1 := h.at_exp o ho 1 (by omega) (o + I.length + (frac F).length + 1) (by omega)
    have hX2 : ∀ j (hj : j < E.length), ∃ h : o + I.length + (frac F).length + 2 + j < (⟨T.toArray⟩ : ByteArray).size, (⟨T.toArray⟩ : ByteArray)[o + I.length + (frac F).length + 2 + j].toNat = E[j].toNat := by
      intro j hj
      obtain ⟨a1, a2⟩ := h.at_exp o ho (j + 2) (by omega) (o + I.length + (frac F).length + 2 + j) (by omega)
      refine ⟨a1, a2.trans ?_⟩
      simp [expo]
    have e0 : (expo true xn E)[0]'(by omega) = 101 := by simp [expo]
    have e1 : ((expo true xn E)[1]'(by omega)).toNat = if xn then 45 else 43 := by cases xn <;> simp [expo]
    rw [e0] at hX0
    rw [e1] at hX1
    have hd2 := h.nz rfl
    rw [hfl] at hX0 hX1 hX2 hlen
    have hX0' : ∃ h : o + I.length + (if F = [] then 0 else F.length + 1) < (⟨T.toArray⟩ : ByteArray).size, (⟨T.toArray⟩ : ByteArray)[o + I.length + (if F = [] then 0 else F.length + 1)].toNat = 101 := hX0
    have hq : (if F = [] then 0 else F.length + 1) ≤ 26 := by rw [← hfl]; exact hfl2
    rw [hx, hneg]
    cases neg
    · have ho0 : o = 0 := by rw [ho, hneg]; rfl
      rw [← ho] at hlen
      clear ho
      subst ho0
      exact readE_pos _ T.length rfl I F E xn (Lib.hid hi) (by omega) (by omega) (Lib.hid h.ir) (Lib.hid h.fr) (Lib.hid h.small) HI HD HFr HN (Lib.hid hd2) (Lib.hid hX0') (Lib.hid hX1) (Lib.hid hX2) (Lib.hid h.er) he1 he3 (Lib.hid (by omega)) w
    · have ho0 : o = 1 := by rw [ho, hneg]; rfl
      rw [← ho] at hlen
      have hs0 : ∃ h : 0 < (⟨T.toArray⟩ : ByteArray).size, (⟨T.toArray⟩ : ByteArray)[0].toNat = 45 := by
        obtain ⟨a1, a2⟩ := at_text (P := []) (Q := sgn true) (R := I ++ (frac F ++ expo true xn E)) (T := T) (by rw [h.text, hneg]; rfl) 0 (by decide) 0 rfl
        exact ⟨a1, a2⟩
      clear ho
      subst ho0
      exact readE_neg _ T.length rfl I F E xn (Lib.hid hi) (by omega) (by omega) (Lib.hid h.ir) (Lib.hid h.fr) (Lib.hid h.small) hs0 HI HD HFr HN (Lib.hid hd2) (Lib.hid hX0') (Lib.hid hX1) (Lib.hid hX2) (Lib.hid h.er) he1 he3 (Lib.hid (by omega)) w
end
end Go.Proofs.YtmphnnmnbpheiaaGreatDoor
