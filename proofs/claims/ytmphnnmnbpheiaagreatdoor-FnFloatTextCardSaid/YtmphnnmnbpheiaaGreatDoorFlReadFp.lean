/- Reading a float's text without an exponent, without a sign: the walk, printed by genread2.py. -/
import Derived.Test.YtmphnnmnbpheiaaGreatDoorFlRead
namespace Go.Proofs.YtmphnnmnbpheiaaGreatDoor
open Go Go.RowKit
open Fl
set_option maxRecDepth 100000 in
set_option maxHeartbeats 8000000 in
theorem readF_pos (s : ByteArray) (N : Nat) (hN : s.size = N) (I F : List UInt8) (hI1 : Hid (1 ≤ I.length)) (hN2 : N ≤ 1000) (hN3 : 3 ≤ N) (hIr : Hid (∀ b ∈ I, 48 ≤ b.toNat ∧ b.toNat ≤ 57)) (hFr : Hid (∀ b ∈ F, 48 ≤ b.toNat ∧ b.toNat ≤ 57)) (hv : Hid (dval (I ++ F) < 10 ^ 17))
    (hI : Hid (∀ k (hk : k < I.length), ∃ h : 0 + k < s.size, s[0 + k].toNat = I[k].toNat)) (hdot : Hid (F ≠ [] → ∃ h : 0 + I.length < s.size, s[0 + I.length].toNat = 46)) (hF : Hid (∀ j (hj : j < F.length), ∃ h : 0 + I.length + 1 + j < s.size, s[0 + I.length + 1 + j].toNat = F[j].toNat))
    (hnx : Hid (∃ (h : 0 + 1 < s.size) (y : Nat), s[0 + 1].toNat = y ∧ y < 256 ∧ (y ||| 32) ≠ 120)) (hF0 : Hid (F ≠ [])) (hNN : Hid (N = 0 + I.length + F.length + 1)) (w : World) :
    Calls Tryz.prog 35 #[.string s] w (RdOut (dval (I ++ F)) (xv (dval (I ++ F)) (-(F.length : Int))) false N w) := by
  obtain ⟨hp0, hc0⟩ := hI.out 0 hI1.out
  have hr0 := hIr.out _ (List.getElem_mem (show 0 < I.length from hI1.out))
  obtain ⟨hp1', y, hc1', hy1, hy2⟩ := hnx.out
  generalize I[0].toNat = x0 at hc0 hr0
  have z43 : ((x0 : Int) == 43) = false := by simp; omega
  have z45 : ((x0 : Int) == 45) = false := by simp; omega
  have HY := Lib.hid (And.intro hy1 hy2)
  have y120 : (((y ||| 32 : Nat) : Int) == 120) = false := by have := HY.out.2; simp; omega
  clear hy1 hy2
  generalize hyy : y ||| 32 = yy at y120
  have HYY := Lib.hid hyy
  clear hyy
  have hb48 : ((x0 : Int) == 48) = true ∨ ((x0 : Int) == 48) = false := by cases ((x0 : Int) == 48) <;> simp
  rcases hb48 with hb48 | hb48
  all_goals
    go_enter Tryz.func35, Tryz.ntmps35
    go_wp2_with fail
    go_step3
    go_wp2_with fail
    try (refine (lower_any y HY.out.1 _).mono ?_; rintro e w1 ⟨rfl, rfl⟩; rw [HYY.out]; go_wp2_with fail)
    try go_step3
    go_wp2_with fail
    clear hc0 hp0 hr0 z43 z45 hb48 y120 hc1' hp1'
    go_loop [2, 5, 7, 9, 13, 14, 15, 16, 17] (fun m t i u sd sg nd nm dp => ∃ (k p mant n : Nat) (d : Int) (dot b : Bool), p ≤ N ∧ n ≤ 17 ∧ mant < 100000000000000000 ∧ -2000 ≤ d ∧ d ≤ 2000 ∧ m = .int .u64 mant ∧ t = .bool false ∧ i = .int .i64 p ∧ u = .bool false ∧ sd = .bool dot ∧ sg = .bool b ∧ nd = .int .i64 n ∧ nm = .int .i64 n ∧ dp = .int .i64 d ∧ Hid (p = 0 + k) ∧ Hid (St I F k mant n d dot b)) (fun _ _ i _ _ _ _ _ _ => N - (RowKit.intOf i).toNat)
    case' atStart => exact ⟨0, 0, 0, 0, 0, false, false, by omega, by omega, by decide, by omega, by omega, rfl, rfl, rfl, rfl, rfl, rfl, rfl, rfl, rfl, Lib.hid rfl, Lib.hid ⟨⟨by simp, by omega⟩, by omega, by omega, .inl ⟨rfl, by omega, rfl, by omega, by omega⟩⟩⟩
    obtain ⟨k, p, mant, n, d, dot, b, hpN, hn17, hmant, hd1, hd2, rfl, rfl, rfl, rfl, rfl, rfl, rfl, rfl, rfl, HP, HS⟩ := hrel
    rcases HS.out.at_ with ⟨rfl, hkI, hm, hdl, hdu⟩ | ⟨rfl, hF2, j, hkj, hjF, hm, hdj⟩
    · have HM := Lib.hid (And.intro hkI (And.intro hm (And.intro hdl hdu)))
      clear hkI hm hdl hdu
      rcases Nat.lt_or_ge k I.length with hk | hk
      · obtain ⟨x, hx⟩ : ∃ x : Nat, Hid (x = I[k].toNat) := ⟨_, Lib.hid rfl⟩
        have hxr : 48 ≤ x ∧ x ≤ 57 := by rw [hx.out]; exact hIr.out _ (List.getElem_mem hk)
        obtain ⟨hp, hc⟩ : ∃ hp : p < s.size, s[p].toNat = x := by have h1 := HP.out; subst h1; rw [hx.out]; exact hI.out k hk
        have hnew : Hid (10 * mant + (x - 48) = dval (I.take (k + 1))) := Lib.hid (by rw [HM.out.2.1, hx.out, ← dval_snoc, List.take_append_getElem hk])
        have hle : 10 * mant + (x - 48) < 100000000000000000 := by rw [hnew.out, ← List.take_append_of_le_length (l₂ := F) (show k + 1 ≤ I.length by omega)]; exact Nat.lt_of_le_of_lt (dval_take_le (I ++ F) (k + 1)) hv.out
        have hpN' : p < N := by omega
        have e95 : ((x : Int) == 95) = false := by simp; omega
        have e46 : ((x : Int) == 46) = false := by simp; omega
        have l48 : decide (48 ≤ x) = true := by simp; omega
        have l57 : decide (x ≤ 57) = true := by simp; omega
        have HX := Lib.hid hxr
        have hx48 : 48 ≤ x := hxr.1
        have hx57 : x ≤ 57 := hxr.2
        clear hxr
        by_cases hz : x = 48 ∧ n = 0
        · have hzz := Lib.hid hz
          have c48 : ((x : Int) == 48) = true := by simp; omega
          have n0 : ((n : Int) == 0) = true := by simp; omega
          clear hz
          go_wp2_with fail
          go_round
          case rel =>
            have hb := HS.out
            have hpk := HP.out
            have hdd := HM.out.2.2
            exact ⟨k + 1, p + 1, mant, n, d - 1, false, true, by omega, by omega, by omega, by omega, by omega, by go_num, rfl, by go_num, rfl, rfl, rfl, by go_num, by go_num, by go_num, Lib.hid (by have := HP.out; omega), Lib.hid ⟨by have h := hb.nb.lead hzz.out.2; have h2 := hb.nb.1.1 hzz.out.2; rw [h2] at h ⊢; exact h, fun _ => rfl, by have := hb.dl; omega, .inl ⟨rfl, by omega, by have := hnew.out; have h3 := hb.nb.1.1 hzz.out.2; rw [← this, hzz.out.1, h3], by omega, by omega⟩⟩⟩
          case measure => simp [RowKit.intOf]; omega
        · have hzz := Lib.hid hz
          have hz48 : (((x : Int) == 48) = true ∧ ((n : Int) == 0) = false) ∨ ((x : Int) == 48) = false := by
            by_cases h : x = 48
            · left; refine ⟨by simp; omega, ?_⟩; have : ¬ n = 0 := fun h' => hz ⟨h, h'⟩; simp; omega
            · right; simp; omega
          clear hz
          have w1 : IntKind.u64.wrap ((mant : Int) * 10) = ((10 * mant : Nat) : Int) := by rw [IntKind.wrap_u64]; omega
          rcases hz48 with ⟨c48, n0⟩ | c48
          all_goals
            go_wp2_with fail
            go_round
            case rel =>
              have hb := HS.out
              have hpk := HP.out
              have hdd := HM.out.2.2
              have hnb : NB (10 * mant + (x - 48)) (n + 1) := hb.nb.next (by have := hzz.out; omega)
              have hn17' := hnb.le hle
              exact ⟨k + 1, p + 1, 10 * mant + (x - 48), n + 1, d, false, true, by omega, hn17', hle, by omega, by omega, by go_num, rfl, by go_num, rfl, rfl, rfl, by go_num, by go_num, rfl, Lib.hid (by have := HP.out; omega), Lib.hid ⟨hnb, fun _ => rfl, hb.dl, .inl ⟨rfl, by omega, hnew.out, by omega, by omega⟩⟩⟩
            case measure => simp [RowKit.intOf]; omega
      · have hkI : k = I.length := by have := HM.out.1; omega
        by_cases hFe : F = []
        · exact absurd hFe hF0.out
        · obtain ⟨hp, hc⟩ : ∃ hp : p < s.size, s[p].toNat = 46 := by have h1 := HP.out; subst h1; rw [hkI]; exact hdot.out hFe
          have HKI := Lib.hid (And.intro hkI hFe)
          have hpN' : p < N := by omega
          clear hkI hFe hk
          go_wp2_with fail
          go_round
          case rel =>
            have hb := HS.out
            have hpk := HP.out
            have hki := HKI.out.1
            exact ⟨k + 1, p + 1, mant, n, n, true, b, by omega, by omega, by omega, by omega, by omega, rfl, rfl, by go_num, rfl, rfl, rfl, rfl, rfl, by go_num, Lib.hid (by omega), Lib.hid ⟨hb.nb, fun _ => hb.seen (by have := hI1.out; omega), by omega, .inr ⟨rfl, HKI.out.2, 0, by omega, by omega, by rw [HM.out.2.1, hki, List.take_length, List.take_zero, List.append_nil], by omega⟩⟩⟩
          case measure => simp [RowKit.intOf]; omega
    · have HM := Lib.hid (And.intro hkj (And.intro hjF (And.intro hm hdj)))
      have hF2 := Lib.hid hF2
      clear hkj hjF hm hdj
      rcases Nat.lt_or_ge j F.length with hj | hj
      · obtain ⟨x, hx⟩ : ∃ x : Nat, Hid (x = F[j].toNat) := ⟨_, Lib.hid rfl⟩
        have hxr : 48 ≤ x ∧ x ≤ 57 := by rw [hx.out]; exact hFr.out _ (List.getElem_mem hj)
        obtain ⟨hp, hc⟩ : ∃ hp : p < s.size, s[p].toNat = x := by
          have h1 : p = 0 + I.length + 1 + j := by have := HP.out; have := HM.out.1; omega
          subst h1; rw [hx.out]; exact hF.out j hj
        have hnew : Hid (10 * mant + (x - 48) = dval (I ++ F.take (j + 1))) := Lib.hid (by rw [HM.out.2.2.1, hx.out, ← dval_snoc, List.append_assoc, List.take_append_getElem hj])
        have hle : 10 * mant + (x - 48) < 100000000000000000 := by
          rw [hnew.out]
          have h1 : I ++ F.take (j + 1) = (I ++ F).take (I.length + (j + 1)) := by rw [List.take_length_add_append]
          rw [h1]
          exact Nat.lt_of_le_of_lt (dval_take_le (I ++ F) _) hv.out
        have hpN' : p < N := by omega
        have e95 : ((x : Int) == 95) = false := by simp; omega
        have e46 : ((x : Int) == 46) = false := by simp; omega
        have l48 : decide (48 ≤ x) = true := by simp; omega
        have l57 : decide (x ≤ 57) = true := by simp; omega
        have HX := Lib.hid hxr
        have hx48 : 48 ≤ x := hxr.1
        have hx57 : x ≤ 57 := hxr.2
        clear hxr
        by_cases hz : x = 48 ∧ n = 0
        · have hzz := Lib.hid hz
          have c48 : ((x : Int) == 48) = true := by simp; omega
          have n0 : ((n : Int) == 0) = true := by simp; omega
          clear hz
          go_wp2_with fail
          go_round
          case rel =>
            have hb := HS.out
            have hpk := HP.out
            have hdd := HM.out
            exact ⟨k + 1, p + 1, mant, n, d - 1, true, true, by omega, by omega, by omega, by omega, by omega, by go_num, rfl, by go_num, rfl, rfl, rfl, by go_num, by go_num, by go_num, Lib.hid (by have := HP.out; omega), Lib.hid ⟨by have h := hb.nb.lead hzz.out.2; have h2 := hb.nb.1.1 hzz.out.2; rw [h2] at h ⊢; exact h, fun _ => rfl, by have := hb.dl; omega, .inr ⟨rfl, hF2.out, j + 1, by have := HM.out.1; omega, by omega, by have := hnew.out; have h3 := hb.nb.1.1 hzz.out.2; rw [← this, hzz.out.1, h3], by have := HM.out.2.2.2; omega⟩⟩⟩
          case measure => simp [RowKit.intOf]; omega
        · have hzz := Lib.hid hz
          have hz48 : (((x : Int) == 48) = true ∧ ((n : Int) == 0) = false) ∨ ((x : Int) == 48) = false := by
            by_cases h : x = 48
            · left; refine ⟨by simp; omega, ?_⟩; have : ¬ n = 0 := fun h' => hz ⟨h, h'⟩; simp; omega
            · right; simp; omega
          clear hz
          have w1 : IntKind.u64.wrap ((mant : Int) * 10) = ((10 * mant : Nat) : Int) := by rw [IntKind.wrap_u64]; omega
          rcases hz48 with ⟨c48, n0⟩ | c48
          all_goals
            go_wp2_with fail
            go_round
            case rel =>
              have hb := HS.out
              have hpk := HP.out
              have hdd := HM.out
              have hnb : NB (10 * mant + (x - 48)) (n + 1) := hb.nb.next (by have := hzz.out; omega)
              have hn17' := hnb.le hle
              exact ⟨k + 1, p + 1, 10 * mant + (x - 48), n + 1, d, true, true, by omega, hn17', hle, by omega, by omega, by go_num, rfl, by go_num, rfl, rfl, rfl, by go_num, by go_num, rfl, Lib.hid (by have := HP.out; omega), Lib.hid ⟨hnb, fun _ => rfl, hb.dl, .inr ⟨rfl, hF2.out, j + 1, by have := HM.out.1; omega, by omega, hnew.out, by have := HM.out.2.2.2; omega⟩⟩⟩
            case measure => simp [RowKit.intOf]; omega
      · have hjF : j = F.length := by have := HM.out.2.1; omega
        have hsg' := HS.out.seen (by have := HM.out.1; omega)
        subst hsg'
        have hpN2 : p = N := by have := HP.out; have := hNN.out; have := HM.out.1; omega
        have HPN := Lib.hid hpN2
        have d9 : decide (p < N) = false := by simp; omega
        clear hpN2
        have hmF : Hid (mant = dval (I ++ F)) := Lib.hid (by rw [HM.out.2.2.1, hjF, List.take_length])
        have hdF : Hid (d - n = -(F.length : Int)) := Lib.hid (by have := HM.out.2.2.2; omega)
        clear hjF
        by_cases hm0 : mant = 0
        · have m0 : ((mant : Int) != 0) = false := by simp; omega
          have HM0 := Lib.hid hm0
          clear hm0
          go_wp2_with fail
          refine bodyPost_ret (results_tmp7 rfl _ _ _) rfl ?_
          refine ⟨?_, rfl⟩
          have e1 := hmF.out
          have e2 := hdF.out
          have e3 := HPN.out
          have e4 := HM0.out
          rw [xv, if_pos (show dval (I ++ F) = 0 by omega), ← e1, ← e3]
          rfl
        · have m0 : ((mant : Int) != 0) = true := by simp; omega
          have HM0 := Lib.hid hm0
          clear hm0
          go_wp2_with fail
          refine bodyPost_ret (results_tmp7 rfl _ _ _) rfl ?_
          refine ⟨?_, rfl⟩
          have e1 := hmF.out
          have e2 := hdF.out
          have e3 := HPN.out
          have e4 := HM0.out
          rw [xv, if_neg (show ¬ dval (I ++ F) = 0 by omega), ← e1, ← e3, ← e2]
          rfl
end Go.Proofs.YtmphnnmnbpheiaaGreatDoor
