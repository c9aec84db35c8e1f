/- A text is read as a float. -/
import Derived.Test.YtmphnnmnbpheiaaGreatDoorFlSpecial
import Derived.Test.YtmphnnmnbpheiaaGreatDoorFlExact
namespace Go.Proofs.YtmphnnmnbpheiaaGreatDoor
open Go Go.RowKit
open Fl
theorem exact_p (d : Nat) (x : Int) (w : World) (hI : Info w) (hP : P10 w) (hd0 : 0 < d) (hd : d < 2 ^ 64) :
    Calls Tryz.prog 45 #[.int .u64 d, .int .i64 x, .bool false] w (Ex d x false w) := by
  by_cases hb : d < 4503599627370496
  · have hb' : ((d : Int) / 4503599627370496 != 0) = false := by simp; omega
    rcases Int.lt_or_le x (-22) with h1 | h1
    · exact exOutL_p d x w hI hP hd0 hd hb hb' (by omega)
    · rcases Int.lt_or_le x 0 with h2 | h2
      · exact exNeg_p d x w hI hP hd0 hd hb hb' (-x).toNat (Lib.hid (by omega)) (by omega) (by omega) (by omega) (by omega)
      · by_cases h3 : x = 0
        · exact exZero_p d x w hI hP hd0 hd hb hb' (Lib.hid h3) (by simp; exact h3)
        · rcases Int.lt_or_le x 23 with h4 | h4
          · exact exLow_p d x w hI hP hd0 hd hb hb' x.toNat (Lib.hid (by omega)) (by omega) (by omega) (by omega) (by omega)
          · rcases Int.lt_or_le x 38 with h5 | h5
            · exact exHigh_p d x w hI hP hd0 hd hb hb' (x - 22).toNat (Lib.hid (by omega)) (by omega) (by omega) (by omega) (by omega)
            · exact exOutH_p d x w hI hP hd0 hd hb hb' h5
  · exact exBig_p d x w hI hP hd0 hd (by simp; omega)
theorem exact_n (d : Nat) (x : Int) (w : World) (hI : Info w) (hP : P10 w) (hd0 : 0 < d) (hd : d < 2 ^ 64) :
    Calls Tryz.prog 45 #[.int .u64 d, .int .i64 x, .bool true] w (Ex d x true w) := by
  by_cases hb : d < 4503599627370496
  · have hb' : ((d : Int) / 4503599627370496 != 0) = false := by simp; omega
    rcases Int.lt_or_le x (-22) with h1 | h1
    · exact exOutL_n d x w hI hP hd0 hd hb hb' (by omega)
    · rcases Int.lt_or_le x 0 with h2 | h2
      · exact exNeg_n d x w hI hP hd0 hd hb hb' (-x).toNat (Lib.hid (by omega)) (by omega) (by omega) (by omega) (by omega)
      · by_cases h3 : x = 0
        · exact exZero_n d x w hI hP hd0 hd hb hb' (Lib.hid h3) (by simp; exact h3)
        · rcases Int.lt_or_le x 23 with h4 | h4
          · exact exLow_n d x w hI hP hd0 hd hb hb' x.toNat (Lib.hid (by omega)) (by omega) (by omega) (by omega) (by omega)
          · rcases Int.lt_or_le x 38 with h5 | h5
            · exact exHigh_n d x w hI hP hd0 hd hb hb' (x - 22).toNat (Lib.hid (by omega)) (by omega) (by omega) (by omega) (by omega)
            · exact exOutH_n d x w hI hP hd0 hd hb hb' h5
  · exact exBig_n d x w hI hP hd0 hd (by simp; omega)
theorem exact_any (d : Nat) (x : Int) (neg : Bool) (w : World) (hI : Info w) (hP : P10 w) (hd0 : 0 < d) (hd : d < 2 ^ 64) :
    Calls Tryz.prog 45 #[.int .u64 d, .int .i64 x, .bool neg] w (Ex d x neg w) := by
  cases neg
  · exact exact_p d x w hI hP hd0 hd
  · exact exact_n d x w hI hP hd0 hd
def Opt (w : World) : Prop := w.cell? ⟨4, 0, none⟩ = some (.bool true)
/-- What reading tells: a float, how many bytes, no error. -/
def Read (b n : Nat) (B : Nat) (w : World) (e : Ending) (w' : World) : Prop := e = .returned (.tuple #[.float .f64 b, .int .i64 n, .nilIface]) ∧ Below B w w'
theorem special_num {b : Nat} {I F E : List UInt8} {hasE xn : Bool} {T : List UInt8} (h : Num b I F E hasE xn T) (w : World) :
    Calls Tryz.prog 34 #[.string ⟨T.toArray⟩] w fun e w' => e = .returned (.tuple #[.float .f64 0, .int .i64 0, .bool false]) ∧ w' = w := by
  have hlen := h.len
  have hi := h.i1
  have hi2 := h.i25
  have hf2 := h.f25
  have he3 := h.e3
  have hfl2 : (frac F).length ≤ 26 := by rw [frac_len]; split <;> omega
  have hel : (expo hasE xn E).length ≤ 5 := by unfold expo; split <;> simp; omega
  have hr := h.ir _ (List.getElem_mem (show 0 < I.length from hi))
  obtain ⟨neg, hneg⟩ : ∃ neg, decide (2 ^ 63 ≤ b) = neg := ⟨_, rfl⟩
  cases neg
  · have h0 := h.at_i 0 (by rw [hneg]; rfl) 0 hi
    have hsl : (sgn (decide (2 ^ 63 ≤ b))).length = 0 := by rw [hneg]; rfl
    exact special_pos _ T.length rfl (by omega) (by omega) _ (by simpa using h0) hr.1 hr.2 w
  · have h1 := h.at_i 1 (by rw [hneg]; rfl) 0 hi
    have hsl : (sgn (decide (2 ^ 63 ≤ b))).length = 1 := by rw [hneg]; rfl
    have hs0 : ∃ h : 0 < (⟨T.toArray⟩ : ByteArray).size, (⟨T.toArray⟩ : ByteArray)[0].toNat = 45 := by
      obtain ⟨a1, a2⟩ := at_text (P := []) (Q := sgn true) (R := I ++ (frac F ++ expo hasE xn E)) (T := T) (by rw [h.text, hneg]; rfl) 0 (by decide) 0 rfl
      exact ⟨a1, a2⟩
    exact special_neg _ T.length rfl (by omega) (by omega) hs0 _ (Lib.hid (by simpa using h1)) hr.1 hr.2 w
def b2 (neg : Bool) : Nat := if neg then 1 else 0
theorem b2_le (neg : Bool) : b2 neg ≤ 1 := by cases neg <;> decide
theorem b2_sgw (neg : Bool) : (b2 neg : Int) * 9223372036854775808 = ((sgw neg : Nat) : Int) := by cases neg <;> rfl
theorem b2_any (b : Bool) (w : World) : Calls Tryz.prog 43 #[.bool b] w fun e w' => e = .returned (.int .u64 (b2 b : Nat)) ∧ w' = w := by
  refine (bool2u64_any b w).mono ?_
  rintro e w' ⟨rfl, rfl⟩
  exact ⟨by cases b <;> rfl, rfl⟩
theorem word_back {b : Nat} {neg : Bool} (hb : b < 2 ^ 64) (hn : decide (2 ^ 63 ≤ b) = neg) : sgw neg + b % 2 ^ 63 = b := by
  cases neg
  · have := of_decide_eq_false hn
    unfold sgw
    rw [if_neg (by decide)]
    omega
  · have := of_decide_eq_true hn
    unfold sgw
    rw [if_pos rfl]
    omega
set_option maxRecDepth 10000 in
theorem atof_num {b : Nat} {I F E : List UInt8} {hasE xn : Bool} {T : List UInt8} (h : Num b I F E hasE xn T) (hb : b < 2 ^ 64) (w : World) (hO : Opt w) (hI : Info w) (hP : P10 w) (hT : PowTab w) (hw : 10 < w.heap.size) (hfin : b % 2 ^ 63 < 2047 * 2 ^ 52) :
    Calls Tryz.prog 26 #[.string ⟨T.toArray⟩] w (Read b T.length w.heap.size w) := by
  have hqo : w.cell? ⟨4, 0, none⟩ = some (.bool true) := hO
  have H1 := Lib.hid (special_num h w)
  have H2 := Lib.hid (read_any h w)
  obtain ⟨neg, hneg⟩ : ∃ neg, decide (2 ^ 63 ≤ b) = neg := ⟨_, rfl⟩
  rw [hneg] at H2
  obtain ⟨m, hm⟩ : ∃ m, dval (I ++ F) = m := ⟨_, rfl⟩
  obtain ⟨x, hx⟩ : ∃ x, xv (dval (I ++ F)) (xof hasE xn E F) = x := ⟨_, rfl⟩
  rw [hx, hm] at H2
  obtain ⟨N, hN⟩ : ∃ N, T.length = N := ⟨_, rfl⟩
  rw [hN] at H2 ⊢
  have hs : (⟨T.toArray⟩ : ByteArray).size = N := hN
  generalize (⟨T.toArray⟩ : ByteArray) = s at *
  have HX := Lib.hid (And.intro h.small (And.intro h.worth (And.intro hm hx)))
  have HI := Lib.hid (And.intro hI (And.intro hP hT))
  have HFin := Lib.hid hfin
  have HB := Lib.hid (And.intro hb hneg)
  clear hb hneg hm hx h hN hI hP hT hfin hO
  go_enter Tryz.func26, Tryz.ntmps26
  go_wp2_with fail
  refine H1.out.mono ?_
  rintro e w1 ⟨rfl, rfl⟩
  go_wp2_with fail
  refine H2.out.mono ?_
  rintro e w1 ⟨rfl, rfl⟩
  go_wp2_with fail
  refine (b2_any neg w1).mono ?_
  rintro e w1 ⟨rfl, rfl⟩
  have hz := b2_le neg
  have hzs := b2_sgw neg
  have hsg := sgw_or neg
  obtain ⟨z, hzz⟩ : ∃ z, b2 neg = z := ⟨_, rfl⟩
  obtain ⟨sg, hsgg⟩ : ∃ sg, sgw neg = sg := ⟨_, rfl⟩
  have hor : bits .or .u64 (sg : Int) 0 = (sg : Int) := by
    have := sg_or neg 0 (by decide)
    rw [hsgg] at this
    exact this
  rw [hzz] at hz hzs
  rw [hsgg] at hzs hsg
  simp only [hzz]
  have HS := Lib.hid hsgg
  have HSG := Lib.hid hsg
  clear hzz hsgg hsg
  have HW := word_back HB.out.1 HB.out.2
  rw [HS.out] at HW
  have HWW := Lib.hid HW
  clear HW
  have hcase : Hid ((m = 0 ∧ b % 2 ^ 63 = 0) ∨ (1 ≤ b % 2 ^ 63 ∧ 1 ≤ m ∧ -342 ≤ x ∧ x ≤ 310 ∧ m < 10 ^ 17 ∧ ∃ i : Nat, x = (i : Int) - 348 ∧ 6 ≤ i ∧ i ≤ 658 ∧ rung (m * 10 ^ i * C1074) B348 = b % 2 ^ 63)) := Lib.hid (by
    obtain ⟨k1, k2, k3, k4⟩ := HX.out
    rw [k3] at k1 k2 k4
    rcases k2 with ⟨a1, a2⟩ | ⟨a0, a1, i, a2, a3, a4, a5⟩
    · exact .inl ⟨a1, a2⟩
    · rw [xv, if_neg (by clear a5; omega), a2] at k4
      refine .inr ⟨a0, a1, ?_, ?_, k1, i, k4.symm, a3, a4, a5⟩
      · clear a5; omega
      · clear a5; omega)
  clear HX H1 H2
  rcases hcase.out with ⟨h1, h2⟩ | ⟨h01, h1, hx1, hx2, h17, hi⟩
  · subst h1
    rw [h2, Nat.add_zero] at HWW
    clear h2 hcase
    have HR := fun W => ifrom_run sg W
    go_wp2_with (first | simp only [hor, HR] | simp only [HR])
    refine bodyPost_ret (results_tmp3 rfl _ _ _) rfl ?_
    rw [HWW.out]
    exact ⟨rfl, .refl _ _⟩
  · have HHI := Lib.hid hi
    have h17' : m < 100000000000000000 := h17
    have hm0 : ((m : Int) == 0) = false := by simp; omega
    clear hi hcase h17
    go_wp2_with fail
    refine (exact_any m x neg w1 HI.out.1 HI.out.2.1 h1 (by omega)).mono ?_
    rintro e w2 ⟨rfl, f, ok, rfl, hok⟩
    have HOK := Lib.hid hok
    clear hok
    cases ok
    · go_wp2_with fail
      obtain ⟨i, hi1, hi2, hi3, hi4⟩ := HHI.out
      have hp := parseFloat_any m i (b % 2 ^ 63) neg x hi1 h1 h17' hi2 (by clear hi4; omega) hi4 h01 HFin.out w2 HI.out.2.2 hw
      clear hi1 hi2 hi3 hi4
      rw [HS.out] at hp
      refine hp.mono ?_
      rintro e w3 ⟨rfl, hbw⟩
      have HBW := Lib.hid hbw
      clear hbw hp
      rw [word_sgw, HS.out, HWW.out]
      go_wp2_with fail
      refine bodyPost_ret (results_tmp3 rfl _ _ _) rfl ?_
      exact ⟨rfl, HBW.out⟩
    · have hf : f = b := by
        obtain ⟨i, hi1, hi2⟩ := HOK.out rfl
        obtain ⟨i', hi1', _, _, hi4⟩ := HHI.out
        have e : i = i' := by clear hi2 hi4; omega
        subst e
        rw [hi4, Nat.min_eq_left (Nat.le_of_lt HFin.out), word_sgw, HS.out, HWW.out] at hi2
        exact hi2
      subst hf
      go_wp2_with fail
      refine bodyPost_ret (results_tmp3 rfl _ _ _) rfl ?_
      exact ⟨rfl, .refl _ _⟩
end Go.Proofs.YtmphnnmnbpheiaaGreatDoor
