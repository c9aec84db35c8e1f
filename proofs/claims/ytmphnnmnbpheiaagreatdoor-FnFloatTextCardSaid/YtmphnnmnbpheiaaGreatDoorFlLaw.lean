/- The law: a float's text is read as the float, and it has a point, an exponent or letters. -/
import Derived.Test.YtmphnnmnbpheiaaGreatDoorFlParseAll
namespace Go.Proofs.YtmphnnmnbpheiaaGreatDoor
open Go Go.RowKit
open Fl
/-- A text that no integer has. -/
def mark (c : Nat) : Bool := c == 46 || c == 101 || c == 110
theorem full_marked {b : Nat} {T : List UInt8} (h : Full b T) : ∃ k, ∃ hk : k < T.length, mark T[k].toNat = true := by
  rcases h with ⟨hf, t, ht, rfl⟩ | ⟨hi, rfl⟩ | ⟨hi, rfl⟩ | ⟨hn, rfl⟩
  · have hm : 101 ∈ dot t ∨ 46 ∈ dot t := by
      unfold dot
      by_cases h : 101 ∈ t ∨ 46 ∈ t
      · rw [if_pos h]; exact h
      · rw [if_neg h]; right; simp
    rcases hm with h | h
    · obtain ⟨k, hk, e⟩ := List.mem_iff_getElem.1 h
      exact ⟨k, hk, by rw [e]; rfl⟩
    · obtain ⟨k, hk, e⟩ := List.mem_iff_getElem.1 h
      exact ⟨k, hk, by rw [e]; rfl⟩
  · exact ⟨2, by decide, by decide⟩
  · exact ⟨2, by decide, by decide⟩
  · exact ⟨0, by decide, by decide⟩
theorem Laid.below {w w' : World} (h : Laid w) (hb : Below w.heap.size w w') : Laid w' := by
  have hl := h.lt
  refine ⟨h.pow.below hb hl, ?_, ?_, ?_, Nat.lt_of_lt_of_le hl hb.size⟩
  · obtain ⟨ad, h1, h2, h3, h4⟩ := h.ten
    exact ⟨ad, Nat.lt_of_lt_of_le h1 hb.size, (hb.cell (p := ⟨_, 0, none⟩) h1).trans h2, Nat.lt_of_lt_of_le h3 hb.size, fun k hk => (hb.cell (p := ad.add k) (by have : (ad.add k).block = ad.block := (by unfold Addr.add; split <;> rfl); rw [this]; exact h3)).trans (h4 k hk)⟩
  · exact (hb.cell (p := ⟨5, 0, none⟩) (by show 5 < _; omega)).trans h.info
  · exact (hb.cell (p := ⟨4, 0, none⟩) (by show 4 < _; omega)).trans h.opt
set_option maxRecDepth 10000 in
theorem law_any (b : Nat) (hb : b < 2 ^ 64) (w : World) (hT : Hid (PowTab w ∧ TenTab w)) (hL : Hid (Laid w)) (hw : Hid (11 < w.heap.size ∧ 10 < w.heap.size)) :
    Calls Tryz.prog 3 #[.int .u64 (b : Int)] w fun e w' => e = .returned (.bool true) ∧ Below w.heap.size w w' := by
  have H1 := Lib.hid (floatText_any b hb w hT hw)
  go_enter Tryz.func3, Tryz.ntmps3
  go_wp2_with fail
  refine H1.out.mono ?_
  rintro e w1 ⟨T, hT1, rfl, hB1⟩
  have HT := Lib.hid (And.intro hT1 hB1)
  clear hT1 hB1 H1
  go_wp2_with fail
  have hL1 := hL.out.below HT.out.2
  refine (parse_any HT.out.1 hb w1 hL1).mono ?_
  rintro e w2 ⟨rfl, hB2⟩
  have HB := Lib.hid (HT.out.2.trans (hB2.mono HT.out.2.size))
  clear hB2 hL1
  obtain ⟨N, hN⟩ : ∃ N, T.length = N := ⟨_, rfl⟩
  have hN2 : N ≤ 100 := by rw [← hN]; exact full_len HT.out.1
  have HM := Lib.hid (full_marked HT.out.1)
  have HK : Hid (∃ k, ∃ hk : k < (⟨T.toArray⟩ : ByteArray).size, mark (⟨T.toArray⟩ : ByteArray)[k].toNat = true) := Lib.hid (by
    obtain ⟨k, hk, h⟩ := HM.out
    exact ⟨k, hk, h⟩)
  have hs : (⟨T.toArray⟩ : ByteArray).size = N := hN
  generalize (⟨T.toArray⟩ : ByteArray) = s at *
  clear HM hN HT hT hL hw
  go_wp2_with fail
  go_loop [6, 19] (fun mk i => ∃ (k : Nat) (m : Bool), k ≤ N ∧ Hid (∀ j, ∀ hj : j < s.size, j < k → mark s[j].toNat = true → m = true) ∧ mk = .bool m ∧ i = .int .i64 k) (fun _ i => N - (RowKit.intOf i).toNat)
  case atStart => exact ⟨0, false, by omega, Lib.hid (fun j _ h => absurd h (by omega)), rfl, rfl⟩
  case round =>
    obtain ⟨k, m, hk, H0, rfl, rfl⟩ := hrel
    rcases Nat.lt_or_ge k N with hkN | hkN
    · have d1 : decide (k < N) = true := by simp; omega
      have hp : k < s.size := by omega
      obtain ⟨x, hx⟩ : ∃ x : Nat, s[k].toNat = x := ⟨_, rfl⟩
      have hstep : ∀ m' : Bool, (m = true → m' = true) → (mark x = true → m' = true) → Hid (∀ j, ∀ hj : j < s.size, j < k + 1 → mark s[j].toNat = true → m' = true) := by
        intro m' h1 h2
        refine Lib.hid (fun j hj hjk hm => ?_)
        rcases Nat.lt_or_ge j k with h | h
        · exact h1 (H0.out j hj h hm)
        · obtain rfl : j = k := by omega
          rw [hx] at hm
          exact h2 hm
      have HS := Lib.hid hstep
      clear hstep
      cases m
      · by_cases h46 : x = 46
        · have e46 : ((x : Int) == 46) = true := by simp; omega
          have HX := Lib.hid h46
          clear h46
          go_wp2_with fail
          go_round
          case rel => exact ⟨k + 1, true, by omega, HS.out true (fun _ => rfl) (fun _ => rfl), rfl, by go_num⟩
          case measure => simp [RowKit.intOf]; omega
        · have e46 : ((x : Int) == 46) = false := by simp; omega
          by_cases h101 : x = 101
          · have e101 : ((x : Int) == 101) = true := by simp; omega
            have HX := Lib.hid h101
            clear h101
            go_wp2_with fail
            go_round
            case rel => exact ⟨k + 1, true, by omega, HS.out true (fun _ => rfl) (fun _ => rfl), rfl, by go_num⟩
            case measure => simp [RowKit.intOf]; omega
          · have e101 : ((x : Int) == 101) = false := by simp; omega
            by_cases h110 : x = 110
            · have e110 : ((x : Int) == 110) = true := by simp; omega
              have HX := Lib.hid h110
              clear h110
              go_wp2_with fail
              go_round
              case rel => exact ⟨k + 1, true, by omega, HS.out true (fun _ => rfl) (fun _ => rfl), rfl, by go_num⟩
              case measure => simp [RowKit.intOf]; omega
            · have e110 : ((x : Int) == 110) = false := by simp; omega
              have HX := Lib.hid (And.intro h46 (And.intro h101 h110))
              clear h46 h101 h110
              go_wp2_with fail
              go_round
              case rel => exact ⟨k + 1, false, by omega, HS.out false (fun h => h) (fun h => by
                obtain ⟨h1, h2, h3⟩ := HX.out
                unfold mark at h
                simp [h1, h2, h3] at h), rfl, by go_num⟩
              case measure => simp [RowKit.intOf]; omega
      · go_wp2_with fail
        go_round
        case rel => exact ⟨k + 1, true, by omega, HS.out true (fun _ => rfl) (fun _ => rfl), rfl, by go_num⟩
        case measure => simp [RowKit.intOf]; omega
    · have hkN' : k = N := by omega
      have hm : m = true := by
        obtain ⟨j, hj, h⟩ := HK.out
        exact H0.out j hj (by omega) h
      subst hm
      have d1 : decide (k < N) = false := by simp; omega
      have HE := Lib.hid hkN'
      clear hkN'
      have HF := fun W => mfrom_run b W
      have HG := fun W => mbits_run b W
      have hbb : ((b : Int) == (b : Int)) = true := by simp
      by_cases hq : 2047 * 2 ^ 52 < b % 2 ^ 63
      · have hd : Hid (decide (2047 * 2 ^ 52 < b % 2 ^ 63) = true) := Lib.hid (decide_eq_true hq)
        have hbk : back b = 9221120237041090561 := by unfold back; rw [if_pos hq]
        rw [hbk]
        clear hq hbk
        go_wp2_with (simp only [HF])
        refine (isNaN_any b hb _).mono ?_
        rintro e w3 ⟨rfl, rfl⟩
        rw [hd.out]
        go_wp2_with fail
        refine (isNaN_any 9221120237041090561 (by decide) _).mono ?_
        rintro e w4 ⟨rfl, rfl⟩
        rw [show decide (2047 * 2 ^ 52 < 9221120237041090561 % 2 ^ 63) = true from rfl]
        go_wp2_with fail
        go_ret
        exact ⟨rfl, HB.out⟩
      · have hd : Hid (decide (2047 * 2 ^ 52 < b % 2 ^ 63) = false) := Lib.hid (decide_eq_false hq)
        have hbk : back b = b := by unfold back; rw [if_neg hq]
        rw [hbk]
        clear hq hbk
        go_wp2_with (simp only [HF])
        refine (isNaN_any b hb _).mono ?_
        rintro e w3 ⟨rfl, rfl⟩
        rw [hd.out]
        go_wp2_with (simp only [HG])
        go_ret
        exact ⟨rfl, HB.out⟩
end Go.Proofs.YtmphnnmnbpheiaaGreatDoor
