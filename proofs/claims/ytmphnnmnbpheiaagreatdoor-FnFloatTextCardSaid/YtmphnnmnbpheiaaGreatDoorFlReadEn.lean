/- Reading a float's text with an exponent, with a sign: the walk, printed by genread2.py. -/
import Derived.Test.YtmphnnmnbpheiaaGreatDoorFlRead
namespace Go.Proofs.YtmphnnmnbpheiaaGreatDoor
open Go Go.RowKit
open Fl
set_option maxRecDepth 100000 in
set_option maxHeartbeats 8000000 in
theorem readE_neg (s : ByteArray) (N : Nat) (hN : s.size = N) (I F E : List UInt8) (xn : Bool) (hI1 : Hid (1 ≤ I.length)) (hN2 : N ≤ 1000) (hN3 : 4 ≤ N) (hIr : Hid (∀ b ∈ I, 48 ≤ b.toNat ∧ b.toNat ≤ 57)) (hFr : Hid (∀ b ∈ F, 48 ≤ b.toNat ∧ b.toNat ≤ 57)) (hv : Hid (dval (I ++ F) < 10 ^ 17))
    (h0 : ∃ h : 0 < s.size, s[0].toNat = 45) (hI : Hid (∀ k (hk : k < I.length), ∃ h : 1 + k < s.size, s[1 + k].toNat = I[k].toNat)) (hdot : Hid (F ≠ [] → ∃ h : 1 + I.length < s.size, s[1 + I.length].toNat = 46)) (hF : Hid (∀ j (hj : j < F.length), ∃ h : 1 + I.length + 1 + j < s.size, s[1 + I.length + 1 + j].toNat = F[j].toNat))
    (hnx : Hid (∃ (h : 1 + 1 < s.size) (y : Nat), s[1 + 1].toNat = y ∧ y < 256 ∧ (y ||| 32) ≠ 120)) (hnz : Hid (∀ h : 0 < I.length, I[0].toNat ≠ 48)) (hex : Hid (∃ h : 1 + I.length + (if F = [] then 0 else F.length + 1) < s.size, s[1 + I.length + (if F = [] then 0 else F.length + 1)].toNat = 101)) (hsg : Hid (∃ h : 1 + I.length + (if F = [] then 0 else F.length + 1) + 1 < s.size, s[1 + I.length + (if F = [] then 0 else F.length + 1) + 1].toNat = if xn then 45 else 43)) (hE : Hid (∀ j (hj : j < E.length), ∃ h : 1 + I.length + (if F = [] then 0 else F.length + 1) + 2 + j < s.size, s[1 + I.length + (if F = [] then 0 else F.length + 1) + 2 + j].toNat = E[j].toNat)) (hEr : Hid (∀ b ∈ E, 48 ≤ b.toNat ∧ b.toNat ≤ 57)) (hE1 : 1 ≤ E.length) (hE3 : E.length ≤ 3) (hNN : Hid (N = 1 + I.length + (if F = [] then 0 else F.length + 1) + 2 + E.length)) (w : World) :
    Calls Tryz.prog 35 #[.string s] w (RdOut (dval (I ++ F)) (xv (dval (I ++ F)) (sgv xn (dval E) - F.length)) true N w) := by
  obtain ⟨hp1, hc1⟩ := hI.out 0 hI1.out
  have hr1 := hIr.out _ (List.getElem_mem (show 0 < I.length from hI1.out))
  obtain ⟨hp0, hc0⟩ := h0
  obtain ⟨hp2, y, hc2, hy1, hy2⟩ := hnx.out
  have hnz := Lib.hid (hnz.out hI1.out)
  generalize I[0].toNat = x0 at hc1 hr1 hnz
  have z43 : ((x0 : Int) == 43) = false := by simp; omega
  have z45 : ((x0 : Int) == 45) = false := by simp; omega
  have HY := Lib.hid (And.intro hy1 hy2)
  have y120 : (((y ||| 32 : Nat) : Int) == 120) = false := by have := HY.out.2; simp; omega
  clear hy1 hy2
  generalize hyy : y ||| 32 = yy at y120
  have HYY := Lib.hid hyy
  clear hyy
  have hb48 : ((x0 : Int) == 48) = false := by have := hnz.out; simp; omega
  clear hnz
  go_enter Tryz.func35, Tryz.ntmps35
  go_wp2_with fail
  go_step3
  go_wp2_with fail
  try (refine (lower_any y HY.out.1 _).mono ?_; rintro e w1 ⟨rfl, rfl⟩; rw [HYY.out]; go_wp2_with fail)
  try go_step3
  go_wp2_with fail
  clear hc1 hp1 hr1 z43 z45 hb48 y120 hc2 hp2 hc0 hp0
  go_loop [2, 5, 7, 9, 13, 14, 15, 16, 17] (fun m t i u sd sg nd nm dp => ∃ (k p mant n : Nat) (d : Int) (dot b : Bool), p ≤ N ∧ n ≤ 17 ∧ mant < 100000000000000000 ∧ -2000 ≤ d ∧ d ≤ 2000 ∧ m = .int .u64 mant ∧ t = .bool false ∧ i = .int .i64 p ∧ u = .bool false ∧ sd = .bool dot ∧ sg = .bool b ∧ nd = .int .i64 n ∧ nm = .int .i64 n ∧ dp = .int .i64 d ∧ Hid (p = 1 + k) ∧ Hid (St I F k mant n d dot b)) (fun _ _ i _ _ _ _ _ _ => N - (RowKit.intOf i).toNat)
  case' atStart => exact ⟨0, 1, 0, 0, 0, false, false, by omega, by omega, by decide, by omega, by omega, rfl, rfl, rfl, rfl, rfl, rfl, rfl, rfl, rfl, Lib.hid rfl, Lib.hid ⟨⟨by simp, by omega⟩, by omega, by omega, .inl ⟨rfl, by omega, rfl, by omega, by omega⟩⟩⟩
  obtain ⟨k, p, mant, n, d, dot, b, hpN, hn17, hmant, hd1, hd2, rfl, rfl, rfl, rfl, rfl, rfl, rfl, rfl, rfl, HP, HS⟩ := hrel
  rcases HS.out.at_ with ⟨rfl, hkI, hm, hdl, hdu⟩ | ⟨rfl, hF2, j, hkj, hjF, hm, hdj⟩
  · have HM := Lib.hid (And.intro hkI (And.intro hm (And.intro hdl hdu)))
    clear hkI hm hdl hdu
    rcases Nat.lt_or_ge k I.length with hk | hk
    · obtain ⟨x, hx⟩ : ∃ x : Nat, Hid (x = I[k].toNat) := ⟨_, Lib.hid rfl⟩
      have hxr : 48 ≤ x ∧ x ≤ 57 := by rw [hx.out]; exact hIr.out _ (List.getElem_mem hk)
      obtain ⟨hp, hc⟩ : ∃ hp : p < s.size, s[p].toNat = x := by have h1 := HP.out; subst h1; rw [hx.out]; exact hI.out k hk
      have hnew : Hid (10 * mant + (x - 48) = dval (I.take (k + 1))) := Lib.hid (by rw [HM.out.2.1, hx.out, ← dval_snoc, List.take_append_getElem hk])
      have hle : 10 * mant + (x - 48) < 100000000000000000 := by rw [hnew.out, ← List.take_append_of_le_length (l₂ := F) (show k + 1 ≤ I.length by omega)]; exact Nat.lt_of_le_of_lt (dval_take_le (I ++ F) (k + 1)) hv.out
      have hpN' : p < N := by omega
      have e95 : ((x : Int) == 95) = false := by simp; omega
      have e46 : ((x : Int) == 46) = false := by simp; omega
      have l48 : decide (48 ≤ x) = true := by simp; omega
      have l57 : decide (x ≤ 57) = true := by simp; omega
      have HX := Lib.hid hxr
      have hx48 : 48 ≤ x := hxr.1
      have hx57 : x ≤ 57 := hxr.2
      clear hxr
      by_cases hz : x = 48 ∧ n = 0
      · have hzz := Lib.hid hz
        have c48 : ((x : Int) == 48) = true := by simp; omega
        have n0 : ((n : Int) == 0) = true := by simp; omega
        clear hz
        go_wp2_with fail
        go_round
        case rel =>
          have hb := HS.out
          have hpk := HP.out
          have hdd := HM.out.2.2
          exact ⟨k + 1, p + 1, mant, n, d - 1, false, true, by omega, by omega, by omega, by omega, by omega, by go_num, rfl, by go_num, rfl, rfl, rfl, by go_num, by go_num, by go_num, Lib.hid (by have := HP.out; omega), Lib.hid ⟨by have h := hb.nb.lead hzz.out.2; have h2 := hb.nb.1.1 hzz.out.2; rw [h2] at h ⊢; exact h, fun _ => rfl, by have := hb.dl; omega, .inl ⟨rfl, by omega, by have := hnew.out; have h3 := hb.nb.1.1 hzz.out.2; rw [← this, hzz.out.1, h3], by omega, by omega⟩⟩⟩
        case measure => simp [RowKit.intOf]; omega
      · have hzz := Lib.hid hz
        have hz48 : (((x : Int) == 48) = true ∧ ((n : Int) == 0) = false) ∨ ((x : Int) == 48) = false := by
          by_cases h : x = 48
          · left; refine ⟨by simp; omega, ?_⟩; have : ¬ n = 0 := fun h' => hz ⟨h, h'⟩; simp; omega
          · right; simp; omega
        clear hz
        have w1 : IntKind.u64.wrap ((mant : Int) * 10) = ((10 * mant : Nat) : Int) := by rw [IntKind.wrap_u64]; omega
        rcases hz48 with ⟨c48, n0⟩ | c48
        all_goals
          go_wp2_with fail
          go_round
          case rel =>
            have hb := HS.out
            have hpk := HP.out
            have hdd := HM.out.2.2
            have hnb : NB (10 * mant + (x - 48)) (n + 1) := hb.nb.next (by have := hzz.out; omega)
            have hn17' := hnb.le hle
            exact ⟨k + 1, p + 1, 10 * mant + (x - 48), n + 1, d, false, true, by omega, hn17', hle, by omega, by omega, by go_num, rfl, by go_num, rfl, rfl, rfl, by go_num, by go_num, rfl, Lib.hid (by have := HP.out; omega), Lib.hid ⟨hnb, fun _ => rfl, hb.dl, .inl ⟨rfl, by omega, hnew.out, by omega, by omega⟩⟩⟩
          case measure => simp [RowKit.intOf]; omega
    · have hkI : k = I.length := by have := HM.out.1; omega
      by_cases hFe : F = []
      · have HFE := Lib.hid (And.intro hkI hFe)
        have hsg' := HS.out.seen (by have := HFE.out.1; have := hI1.out; omega)
        subst hsg'
        clear hkI hFe hk
        have hpo : p = 1 + I.length + (if F = [] then 0 else F.length + 1) := by
          have h2 := HP.out; have h3 := HFE.out.1; rw [if_pos HFE.out.2]; omega
        obtain ⟨hp, hc⟩ : ∃ hp : p < s.size, s[p].toNat = 101 := by subst hpo; exact hex.out
        obtain ⟨hp1, hc1⟩ : ∃ hp1 : p + 1 < s.size, s[p + 1].toNat = (if xn then 45 else 43) := by subst hpo; exact hsg.out
        have hE' : Hid (∀ j (hj : j < E.length), ∃ h : p + 2 + j < s.size, s[p + 2 + j].toNat = E[j].toNat) := Lib.hid (by subst hpo; exact hE.out)
        have hNp : N = p + 2 + E.length := by have := hNN.out; omega
        have HNP := Lib.hid hNp
        have hpl : p + 2 < N ∧ p + 1 < N ∧ p < N := by omega
        obtain ⟨hpl2, hpl1, hpl0⟩ := hpl
        clear hpo hNp
        obtain ⟨hq2, hqc⟩ := hE'.out 0 (by omega)
        have hqr := hEr.out _ (List.getElem_mem (show 0 < E.length by omega))
        obtain ⟨z0, hz0⟩ : ∃ z0 : Nat, z0 = E[0].toNat := ⟨_, rfl⟩
        rw [← hz0] at hqc hqr
        simp only [Nat.add_zero] at hqc
        have hqr1 := hqr.1
        have hqr2 := hqr.2
        have d48 : decide (z0 < 48) = false := by simp; omega
        have d57 : decide (57 < z0) = false := by simp; omega
        clear hqr hz0
        have hmF : Hid (mant = dval (I ++ F)) := Lib.hid (by have h1 := HM.out.2.1; rw [HFE.out.2, List.append_nil, h1, HFE.out.1, List.take_length])
        have hdF : Hid ((n : Int) - n = -(F.length : Int)) := Lib.hid (by rw [HFE.out.2]; simp)
        cases xn
        · simp only [Bool.false_eq_true, if_false, if_true] at hc1
          go_wp2_with fail
          refine (lower_any 101 (by decide) _).mono ?_
          rintro e w1 ⟨rfl, rfl⟩
          rw [show (101 ||| 32 : Nat) = 101 from rfl]
          go_wp2_with fail
          go_loop [7, 9, 20] (fun i u ev => ∃ (t q v : Nat), t ≤ E.length ∧ q ≤ N ∧ v < 1000 ∧ i = .int .i64 q ∧ u = .bool false ∧ ev = .int .i64 v ∧ Hid (q = p + 2 + t) ∧ Hid (v = dval (E.take t))) (fun i _ _ => N - (RowKit.intOf i).toNat)
          case' atStart => exact ⟨0, p + 2, 0, by omega, by omega, by omega, by go_num, rfl, rfl, Lib.hid rfl, Lib.hid rfl⟩
          obtain ⟨t, q, v, htE, hqN, hv1000, rfl, rfl, rfl, HQ, HV⟩ := hrel
          clear hc hc1 hqc d48 d57
          rcases Nat.lt_or_ge t E.length with ht | ht
          · obtain ⟨x, hx⟩ : ∃ x : Nat, Hid (x = E[t].toNat) := ⟨_, Lib.hid rfl⟩
            have hxr : 48 ≤ x ∧ x ≤ 57 := by rw [hx.out]; exact hEr.out _ (List.getElem_mem ht)
            obtain ⟨hqp, hqc⟩ : ∃ hq : q < s.size, s[q].toNat = x := by have h1 := HQ.out; subst h1; rw [hx.out]; exact hE'.out t ht
            have hnew : Hid (10 * v + (x - 48) = dval (E.take (t + 1))) := Lib.hid (by rw [HV.out, hx.out, ← dval_snoc, List.take_append_getElem ht])
            have hle : 10 * v + (x - 48) < 1000 := by
              rw [hnew.out]
              have h1 := dval_take_le E (t + 1)
              have h2 := dval_lt E (fun b hb => (hEr.out b hb).2)
              have h3 := Nat.pow_le_pow_right (n := 10) (by decide) hE3
              omega
            have hqN' : q < N := by omega
            have hx48 : 48 ≤ x := hxr.1
            have hx57 : x ≤ 57 := hxr.2
            have e95 : ((x : Int) == 95) = false := by simp; omega
            have l48 : decide (48 ≤ x) = true := by simp; omega
            have l57 : decide (x ≤ 57) = true := by simp; omega
            have l10k : decide (v < 10000) = true := by simp; omega
            have l10k' : decide ((v : Int) < 10000) = true := by simp; omega
            have HLE := Lib.hid (And.intro hle htE)
            clear hxr hle htE
            go_wp2_with fail
            go_round
            case rel => exact ⟨t + 1, q + 1, 10 * v + (x - 48), by omega, by omega, HLE.out.1, by go_num, rfl, by go_num, Lib.hid (by have := HQ.out; omega), hnew⟩
            case measure => simp [RowKit.intOf]; omega
          · have htE' : t = E.length := by omega
            have HVE : Hid (v = dval E) := Lib.hid (by rw [HV.out, htE', List.take_length])
            have hqN2 : q = N := by have := HQ.out; have := HNP.out; omega
            have HQN := Lib.hid hqN2
            have d9 : decide (q < N) = false := by simp; omega
            clear hqN2 htE' ht
            by_cases hm0 : mant = 0
            · have m0 : ((mant : Int) != 0) = false := by simp; omega
              have HM0 := Lib.hid hm0
              clear hm0
              go_wp2_with fail
              refine bodyPost_ret (results_tmp7 rfl _ _ _) rfl ?_
              refine ⟨?_, rfl⟩
              have e1 := hmF.out
              have e2 := hdF.out
              have e3 := HQN.out
              have e4 := HM0.out
              have e5 := HVE.out
              rw [xv, if_pos (show dval (I ++ F) = 0 by omega), ← e1, ← e3]
              rfl
            · have m0 : ((mant : Int) != 0) = true := by simp; omega
              have HM0 := Lib.hid hm0
              clear hm0
              go_wp2_with fail
              refine bodyPost_ret (results_tmp7 rfl _ _ _) rfl ?_
              refine ⟨?_, rfl⟩
              have e1 := hmF.out
              have e2 := hdF.out
              have e3 := HQN.out
              have e4 := HM0.out
              have e5 := HVE.out
              rw [xv, if_neg (show ¬ dval (I ++ F) = 0 by omega), ← e1, ← e3, ← e5, show sgv false v = (v : Int) from rfl]
              have e6 : ∀ y : Int, y = (v : Int) - F.length → Ending.returned (.tuple #[.int .u64 (mant : Int), .int .i64 y, .bool true, .bool false, .bool false, .int .i64 (q : Int), .bool true]) = Ending.returned (.tuple #[.int .u64 (mant : Int), .int .i64 ((v : Int) - F.length), .bool true, .bool false, .bool false, .int .i64 (q : Int), .bool true]) := fun y h => by rw [h]
              exact e6 _ (by omega)
        · simp only [if_true] at hc1
          go_wp2_with fail
          refine (lower_any 101 (by decide) _).mono ?_
          rintro e w1 ⟨rfl, rfl⟩
          rw [show (101 ||| 32 : Nat) = 101 from rfl]
          go_wp2_with fail
          go_loop [7, 9, 20] (fun i u ev => ∃ (t q v : Nat), t ≤ E.length ∧ q ≤ N ∧ v < 1000 ∧ i = .int .i64 q ∧ u = .bool false ∧ ev = .int .i64 v ∧ Hid (q = p + 2 + t) ∧ Hid (v = dval (E.take t))) (fun i _ _ => N - (RowKit.intOf i).toNat)
          case' atStart => exact ⟨0, p + 2, 0, by omega, by omega, by omega, by go_num, rfl, rfl, Lib.hid rfl, Lib.hid rfl⟩
          obtain ⟨t, q, v, htE, hqN, hv1000, rfl, rfl, rfl, HQ, HV⟩ := hrel
          clear hc hc1 hqc d48 d57
          rcases Nat.lt_or_ge t E.length with ht | ht
          · obtain ⟨x, hx⟩ : ∃ x : Nat, Hid (x = E[t].toNat) := ⟨_, Lib.hid rfl⟩
            have hxr : 48 ≤ x ∧ x ≤ 57 := by rw [hx.out]; exact hEr.out _ (List.getElem_mem ht)
            obtain ⟨hqp, hqc⟩ : ∃ hq : q < s.size, s[q].toNat = x := by have h1 := HQ.out; subst h1; rw [hx.out]; exact hE'.out t ht
            have hnew : Hid (10 * v + (x - 48) = dval (E.take (t + 1))) := Lib.hid (by rw [HV.out, hx.out, ← dval_snoc, List.take_append_getElem ht])
            have hle : 10 * v + (x - 48) < 1000 := by
              rw [hnew.out]
              have h1 := dval_take_le E (t + 1)
              have h2 := dval_lt E (fun b hb => (hEr.out b hb).2)
              have h3 := Nat.pow_le_pow_right (n := 10) (by decide) hE3
              omega
            have hqN' : q < N := by omega
            have hx48 : 48 ≤ x := hxr.1
            have hx57 : x ≤ 57 := hxr.2
            have e95 : ((x : Int) == 95) = false := by simp; omega
            have l48 : decide (48 ≤ x) = true := by simp; omega
            have l57 : decide (x ≤ 57) = true := by simp; omega
            have l10k : decide (v < 10000) = true := by simp; omega
            have l10k' : decide ((v : Int) < 10000) = true := by simp; omega
            have HLE := Lib.hid (And.intro hle htE)
            clear hxr hle htE
            go_wp2_with fail
            go_round
            case rel => exact ⟨t + 1, q + 1, 10 * v + (x - 48), by omega, by omega, HLE.out.1, by go_num, rfl, by go_num, Lib.hid (by have := HQ.out; omega), hnew⟩
            case measure => simp [RowKit.intOf]; omega
          · have htE' : t = E.length := by omega
            have HVE : Hid (v = dval E) := Lib.hid (by rw [HV.out, htE', List.take_length])
            have hqN2 : q = N := by have := HQ.out; have := HNP.out; omega
            have HQN := Lib.hid hqN2
            have d9 : decide (q < N) = false := by simp; omega
            clear hqN2 htE' ht
            by_cases hm0 : mant = 0
            · have m0 : ((mant : Int) != 0) = false := by simp; omega
              have HM0 := Lib.hid hm0
              clear hm0
              go_wp2_with fail
              refine bodyPost_ret (results_tmp7 rfl _ _ _) rfl ?_
              refine ⟨?_, rfl⟩
              have e1 := hmF.out
              have e2 := hdF.out
              have e3 := HQN.out
              have e4 := HM0.out
              have e5 := HVE.out
              rw [xv, if_pos (show dval (I ++ F) = 0 by omega), ← e1, ← e3]
              rfl
            · have m0 : ((mant : Int) != 0) = true := by simp; omega
              have HM0 := Lib.hid hm0
              clear hm0
              go_wp2_with fail
              refine bodyPost_ret (results_tmp7 rfl _ _ _) rfl ?_
              refine ⟨?_, rfl⟩
              have e1 := hmF.out
              have e2 := hdF.out
              have e3 := HQN.out
              have e4 := HM0.out
              have e5 := HVE.out
              rw [xv, if_neg (show ¬ dval (I ++ F) = 0 by omega), ← e1, ← e3, ← e5, show sgv true v = -(v : Int) from rfl]
              have e6 : ∀ y : Int, y = -(v : Int) - F.length → Ending.returned (.tuple #[.int .u64 (mant : Int), .int .i64 y, .bool true, .bool false, .bool false, .int .i64 (q : Int), .bool true]) = Ending.returned (.tuple #[.int .u64 (mant : Int), .int .i64 (-(v : Int) - F.length), .bool true, .bool false, .bool false, .int .i64 (q : Int), .bool true]) := fun y h => by rw [h]
              exact e6 _ (by omega)
      · obtain ⟨hp, hc⟩ : ∃ hp : p < s.size, s[p].toNat = 46 := by have h1 := HP.out; subst h1; rw [hkI]; exact hdot.out hFe
        have HKI := Lib.hid (And.intro hkI hFe)
        have hpN' : p < N := by omega
        clear hkI hFe hk
        go_wp2_with fail
        go_round
        case rel =>
          have hb := HS.out
          have hpk := HP.out
          have hki := HKI.out.1
          exact ⟨k + 1, p + 1, mant, n, n, true, b, by omega, by omega, by omega, by omega, by omega, rfl, rfl, by go_num, rfl, rfl, rfl, rfl, rfl, by go_num, Lib.hid (by omega), Lib.hid ⟨hb.nb, fun _ => hb.seen (by have := hI1.out; omega), by omega, .inr ⟨rfl, HKI.out.2, 0, by omega, by omega, by rw [HM.out.2.1, hki, List.take_length, List.take_zero, List.append_nil], by omega⟩⟩⟩
        case measure => simp [RowKit.intOf]; omega
  · have HM := Lib.hid (And.intro hkj (And.intro hjF (And.intro hm hdj)))
    have hF2 := Lib.hid hF2
    clear hkj hjF hm hdj
    rcases Nat.lt_or_ge j F.length with hj | hj
    · obtain ⟨x, hx⟩ : ∃ x : Nat, Hid (x = F[j].toNat) := ⟨_, Lib.hid rfl⟩
      have hxr : 48 ≤ x ∧ x ≤ 57 := by rw [hx.out]; exact hFr.out _ (List.getElem_mem hj)
      obtain ⟨hp, hc⟩ : ∃ hp : p < s.size, s[p].toNat = x := by
        have h1 : p = 1 + I.length + 1 + j := by have := HP.out; have := HM.out.1; omega
        subst h1; rw [hx.out]; exact hF.out j hj
      have hnew : Hid (10 * mant + (x - 48) = dval (I ++ F.take (j + 1))) := Lib.hid (by rw [HM.out.2.2.1, hx.out, ← dval_snoc, List.append_assoc, List.take_append_getElem hj])
      have hle : 10 * mant + (x - 48) < 100000000000000000 := by
        rw [hnew.out]
        have h1 : I ++ F.take (j + 1) = (I ++ F).take (I.length + (j + 1)) := by rw [List.take_length_add_append]
        rw [h1]
        exact Nat.lt_of_le_of_lt (dval_take_le (I ++ F) _) hv.out
      have hpN' : p < N := by omega
      have e95 : ((x : Int) == 95) = false := by simp; omega
      have e46 : ((x : Int) == 46) = false := by simp; omega
      have l48 : decide (48 ≤ x) = true := by simp; omega
      have l57 : decide (x ≤ 57) = true := by simp; omega
      have HX := Lib.hid hxr
      have hx48 : 48 ≤ x := hxr.1
      have hx57 : x ≤ 57 := hxr.2
      clear hxr
      by_cases hz : x = 48 ∧ n = 0
      · have hzz := Lib.hid hz
        have c48 : ((x : Int) == 48) = true := by simp; omega
        have n0 : ((n : Int) == 0) = true := by simp; omega
        clear hz
        go_wp2_with fail
        go_round
        case rel =>
          have hb := HS.out
          have hpk := HP.out
          have hdd := HM.out
          exact ⟨k + 1, p + 1, mant, n, d - 1, true, true, by omega, by omega, by omega, by omega, by omega, by go_num, rfl, by go_num, rfl, rfl, rfl, by go_num, by go_num, by go_num, Lib.hid (by have := HP.out; omega), Lib.hid ⟨by have h := hb.nb.lead hzz.out.2; have h2 := hb.nb.1.1 hzz.out.2; rw [h2] at h ⊢; exact h, fun _ => rfl, by have := hb.dl; omega, .inr ⟨rfl, hF2.out, j + 1, by have := HM.out.1; omega, by omega, by have := hnew.out; have h3 := hb.nb.1.1 hzz.out.2; rw [← this, hzz.out.1, h3], by have := HM.out.2.2.2; omega⟩⟩⟩
        case measure => simp [RowKit.intOf]; omega
      · have hzz := Lib.hid hz
        have hz48 : (((x : Int) == 48) = true ∧ ((n : Int) == 0) = false) ∨ ((x : Int) == 48) = false := by
          by_cases h : x = 48
          · left; refine ⟨by simp; omega, ?_⟩; have : ¬ n = 0 := fun h' => hz ⟨h, h'⟩; simp; omega
          · right; simp; omega
        clear hz
        have w1 : IntKind.u64.wrap ((mant : Int) * 10) = ((10 * mant : Nat) : Int) := by rw [IntKind.wrap_u64]; omega
        rcases hz48 with ⟨c48, n0⟩ | c48
        all_goals
          go_wp2_with fail
          go_round
          case rel =>
            have hb := HS.out
            have hpk := HP.out
            have hdd := HM.out
            have hnb : NB (10 * mant + (x - 48)) (n + 1) := hb.nb.next (by have := hzz.out; omega)
            have hn17' := hnb.le hle
            exact ⟨k + 1, p + 1, 10 * mant + (x - 48), n + 1, d, true, true, by omega, hn17', hle, by omega, by omega, by go_num, rfl, by go_num, rfl, rfl, rfl, by go_num, by go_num, rfl, Lib.hid (by have := HP.out; omega), Lib.hid ⟨hnb, fun _ => rfl, hb.dl, .inr ⟨rfl, hF2.out, j + 1, by have := HM.out.1; omega, by omega, hnew.out, by have := HM.out.2.2.2; omega⟩⟩⟩
          case measure => simp [RowKit.intOf]; omega
    · have hjF : j = F.length := by have := HM.out.2.1; omega
      have hsg' := HS.out.seen (by have := HM.out.1; omega)
      subst hsg'
      have hpo : p = 1 + I.length + (if F = [] then 0 else F.length + 1) := by
        have h2 := HP.out; have h3 := HM.out.1
        by_cases hFF : F = []
        · exfalso; exact hF2.out hFF
        · rw [if_neg hFF]; omega
      obtain ⟨hp, hc⟩ : ∃ hp : p < s.size, s[p].toNat = 101 := by subst hpo; exact hex.out
      obtain ⟨hp1, hc1⟩ : ∃ hp1 : p + 1 < s.size, s[p + 1].toNat = (if xn then 45 else 43) := by subst hpo; exact hsg.out
      have hE' : Hid (∀ j (hj : j < E.length), ∃ h : p + 2 + j < s.size, s[p + 2 + j].toNat = E[j].toNat) := Lib.hid (by subst hpo; exact hE.out)
      have hNp : N = p + 2 + E.length := by have := hNN.out; omega
      have HNP := Lib.hid hNp
      have hpl : p + 2 < N ∧ p + 1 < N ∧ p < N := by omega
      obtain ⟨hpl2, hpl1, hpl0⟩ := hpl
      clear hpo hNp
      obtain ⟨hq2, hqc⟩ := hE'.out 0 (by omega)
      have hqr := hEr.out _ (List.getElem_mem (show 0 < E.length by omega))
      obtain ⟨z0, hz0⟩ : ∃ z0 : Nat, z0 = E[0].toNat := ⟨_, rfl⟩
      rw [← hz0] at hqc hqr
      simp only [Nat.add_zero] at hqc
      have hqr1 := hqr.1
      have hqr2 := hqr.2
      have d48 : decide (z0 < 48) = false := by simp; omega
      have d57 : decide (57 < z0) = false := by simp; omega
      clear hqr hz0
      have hmF : Hid (mant = dval (I ++ F)) := Lib.hid (by rw [HM.out.2.2.1, hjF, List.take_length])
      have hdF : Hid (d - n = -(F.length : Int)) := Lib.hid (by have := HM.out.2.2.2; omega)
      clear hjF
      cases xn
      · simp only [Bool.false_eq_true, if_false, if_true] at hc1
        go_wp2_with fail
        refine (lower_any 101 (by decide) _).mono ?_
        rintro e w1 ⟨rfl, rfl⟩
        rw [show (101 ||| 32 : Nat) = 101 from rfl]
        go_wp2_with fail
        go_loop [7, 9, 20] (fun i u ev => ∃ (t q v : Nat), t ≤ E.length ∧ q ≤ N ∧ v < 1000 ∧ i = .int .i64 q ∧ u = .bool false ∧ ev = .int .i64 v ∧ Hid (q = p + 2 + t) ∧ Hid (v = dval (E.take t))) (fun i _ _ => N - (RowKit.intOf i).toNat)
        case' atStart => exact ⟨0, p + 2, 0, by omega, by omega, by omega, by go_num, rfl, rfl, Lib.hid rfl, Lib.hid rfl⟩
        obtain ⟨t, q, v, htE, hqN, hv1000, rfl, rfl, rfl, HQ, HV⟩ := hrel
        clear hc hc1 hqc d48 d57
        rcases Nat.lt_or_ge t E.length with ht | ht
        · obtain ⟨x, hx⟩ : ∃ x : Nat, Hid (x = E[t].toNat) := ⟨_, Lib.hid rfl⟩
          have hxr : 48 ≤ x ∧ x ≤ 57 := by rw [hx.out]; exact hEr.out _ (List.getElem_mem ht)
          obtain ⟨hqp, hqc⟩ : ∃ hq : q < s.size, s[q].toNat = x := by have h1 := HQ.out; subst h1; rw [hx.out]; exact hE'.out t ht
          have hnew : Hid (10 * v + (x - 48) = dval (E.take (t + 1))) := Lib.hid (by rw [HV.out, hx.out, ← dval_snoc, List.take_append_getElem ht])
          have hle : 10 * v + (x - 48) < 1000 := by
            rw [hnew.out]
            have h1 := dval_take_le E (t + 1)
            have h2 := dval_lt E (fun b hb => (hEr.out b hb).2)
            have h3 := Nat.pow_le_pow_right (n := 10) (by decide) hE3
            omega
          have hqN' : q < N := by omega
          have hx48 : 48 ≤ x := hxr.1
          have hx57 : x ≤ 57 := hxr.2
          have e95 : ((x : Int) == 95) = false := by simp; omega
          have l48 : decide (48 ≤ x) = true := by simp; omega
          have l57 : decide (x ≤ 57) = true := by simp; omega
          have l10k : decide (v < 10000) = true := by simp; omega
          have l10k' : decide ((v : Int) < 10000) = true := by simp; omega
          have HLE := Lib.hid (And.intro hle htE)
          clear hxr hle htE
          go_wp2_with fail
          go_round
          case rel => exact ⟨t + 1, q + 1, 10 * v + (x - 48), by omega, by omega, HLE.out.1, by go_num, rfl, by go_num, Lib.hid (by have := HQ.out; omega), hnew⟩
          case measure => simp [RowKit.intOf]; omega
        · have htE' : t = E.length := by omega
          have HVE : Hid (v = dval E) := Lib.hid (by rw [HV.out, htE', List.take_length])
          have hqN2 : q = N := by have := HQ.out; have := HNP.out; omega
          have HQN := Lib.hid hqN2
          have d9 : decide (q < N) = false := by simp; omega
          clear hqN2 htE' ht
          by_cases hm0 : mant = 0
          · have m0 : ((mant : Int) != 0) = false := by simp; omega
            have HM0 := Lib.hid hm0
            clear hm0
            go_wp2_with fail
            refine bodyPost_ret (results_tmp7 rfl _ _ _) rfl ?_
            refine ⟨?_, rfl⟩
            have e1 := hmF.out
            have e2 := hdF.out
            have e3 := HQN.out
            have e4 := HM0.out
            have e5 := HVE.out
            rw [xv, if_pos (show dval (I ++ F) = 0 by omega), ← e1, ← e3]
            rfl
          · have m0 : ((mant : Int) != 0) = true := by simp; omega
            have HM0 := Lib.hid hm0
            clear hm0
            go_wp2_with fail
            refine bodyPost_ret (results_tmp7 rfl _ _ _) rfl ?_
            refine ⟨?_, rfl⟩
            have e1 := hmF.out
            have e2 := hdF.out
            have e3 := HQN.out
            have e4 := HM0.out
            have e5 := HVE.out
            rw [xv, if_neg (show ¬ dval (I ++ F) = 0 by omega), ← e1, ← e3, ← e5, show sgv false v = (v : Int) from rfl]
            have e6 : ∀ y : Int, y = (v : Int) - F.length → Ending.returned (.tuple #[.int .u64 (mant : Int), .int .i64 y, .bool true, .bool false, .bool false, .int .i64 (q : Int), .bool true]) = Ending.returned (.tuple #[.int .u64 (mant : Int), .int .i64 ((v : Int) - F.length), .bool true, .bool false, .bool false, .int .i64 (q : Int), .bool true]) := fun y h => by rw [h]
            exact e6 _ (by omega)
      · simp only [if_true] at hc1
        go_wp2_with fail
        refine (lower_any 101 (by decide) _).mono ?_
        rintro e w1 ⟨rfl, rfl⟩
        rw [show (101 ||| 32 : Nat) = 101 from rfl]
        go_wp2_with fail
        go_loop [7, 9, 20] (fun i u ev => ∃ (t q v : Nat), t ≤ E.length ∧ q ≤ N ∧ v < 1000 ∧ i = .int .i64 q ∧ u = .bool false ∧ ev = .int .i64 v ∧ Hid (q = p + 2 + t) ∧ Hid (v = dval (E.take t))) (fun i _ _ => N - (RowKit.intOf i).toNat)
        case' atStart => exact ⟨0, p + 2, 0, by omega, by omega, by omega, by go_num, rfl, rfl, Lib.hid rfl, Lib.hid rfl⟩
        obtain ⟨t, q, v, htE, hqN, hv1000, rfl, rfl, rfl, HQ, HV⟩ := hrel
        clear hc hc1 hqc d48 d57
        rcases Nat.lt_or_ge t E.length with ht | ht
        · obtain ⟨x, hx⟩ : ∃ x : Nat, Hid (x = E[t].toNat) := ⟨_, Lib.hid rfl⟩
          have hxr : 48 ≤ x ∧ x ≤ 57 := by rw [hx.out]; exact hEr.out _ (List.getElem_mem ht)
          obtain ⟨hqp, hqc⟩ : ∃ hq : q < s.size, s[q].toNat = x := by have h1 := HQ.out; subst h1; rw [hx.out]; exact hE'.out t ht
          have hnew : Hid (10 * v + (x - 48) = dval (E.take (t + 1))) := Lib.hid (by rw [HV.out, hx.out, ← dval_snoc, List.take_append_getElem ht])
          have hle : 10 * v + (x - 48) < 1000 := by
            rw [hnew.out]
            have h1 := dval_take_le E (t + 1)
            have h2 := dval_lt E (fun b hb => (hEr.out b hb).2)
            have h3 := Nat.pow_le_pow_right (n := 10) (by decide) hE3
            omega
          have hqN' : q < N := by omega
          have hx48 : 48 ≤ x := hxr.1
          have hx57 : x ≤ 57 := hxr.2
          have e95 : ((x : Int) == 95) = false := by simp; omega
          have l48 : decide (48 ≤ x) = true := by simp; omega
          have l57 : decide (x ≤ 57) = true := by simp; omega
          have l10k : decide (v < 10000) = true := by simp; omega
          have l10k' : decide ((v : Int) < 10000) = true := by simp; omega
          have HLE := Lib.hid (And.intro hle htE)
          clear hxr hle htE
          go_wp2_with fail
          go_round
          case rel => exact ⟨t + 1, q + 1, 10 * v + (x - 48), by omega, by omega, HLE.out.1, by go_num, rfl, by go_num, Lib.hid (by have := HQ.out; omega), hnew⟩
          case measure => simp [RowKit.intOf]; omega
        · have htE' : t = E.length := by omega
          have HVE : Hid (v = dval E) := Lib.hid (by rw [HV.out, htE', List.take_length])
          have hqN2 : q = N := by have := HQ.out; have := HNP.out; omega
          have HQN := Lib.hid hqN2
          have d9 : decide (q < N) = false := by simp; omega
          clear hqN2 htE' ht
          by_cases hm0 : mant = 0
          · have m0 : ((mant : Int) != 0) = false := by simp; omega
            have HM0 := Lib.hid hm0
            clear hm0
            go_wp2_with fail
            refine bodyPost_ret (results_tmp7 rfl _ _ _) rfl ?_
            refine ⟨?_, rfl⟩
            have e1 := hmF.out
            have e2 := hdF.out
            have e3 := HQN.out
            have e4 := HM0.out
            have e5 := HVE.out
            rw [xv, if_pos (show dval (I ++ F) = 0 by omega), ← e1, ← e3]
            rfl
          · have m0 : ((mant : Int) != 0) = true := by simp; omega
            have HM0 := Lib.hid hm0
            clear hm0
            go_wp2_with fail
            refine bodyPost_ret (results_tmp7 rfl _ _ _) rfl ?_
            refine ⟨?_, rfl⟩
            have e1 := hmF.out
            have e2 := hdF.out
            have e3 := HQN.out
            have e4 := HM0.out
            have e5 := HVE.out
            rw [xv, if_neg (show ¬ dval (I ++ F) = 0 by omega), ← e1, ← e3, ← e5, show sgv true v = -(v : Int) from rfl]
            have e6 : ∀ y : Int, y = -(v : Int) - F.length → Ending.returned (.tuple #[.int .u64 (mant : Int), .int .i64 y, .bool true, .bool false, .bool false, .int .i64 (q : Int), .bool true]) = Ending.returned (.tuple #[.int .u64 (mant : Int), .int .i64 (-(v : Int) - F.length), .bool true, .bool false, .bool false, .int .i64 (q : Int), .bool true]) := fun y h => by rw [h]
            exact e6 _ (by omega)
end Go.Proofs.YtmphnnmnbpheiaaGreatDoor
