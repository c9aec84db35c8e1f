/- The special texts: infinities and no number. -/
import Derived.Test.YtmphnnmnbpheiaaGreatDoorFlReadAny
import Derived.Test.YtmphnnmnbpheiaaGreatDoorFlParseW
namespace Go.Proofs.YtmphnnmnbpheiaaGreatDoor
open Go Go.RowKit
open Fl
def lowc (c : Nat) : Nat := if 65 ≤ c ∧ c ≤ 90 then c + 32 else c
/-- How far two texts agree. -/
def Agree (s p : ByteArray) (n : Nat) : Prop := n ≤ s.size ∧ n ≤ p.size ∧ (∀ j (h1 : j < s.size) (h2 : j < p.size), j < n → lowc s[j].toNat = p[j].toNat) ∧ ∀ (h1 : n < s.size) (h2 : n < p.size), lowc s[n].toNat ≠ p[n].toNat
set_option maxRecDepth 10000 in
theorem common_any (s p : ByteArray) (N P : Nat) (hN : s.size = N) (hP : p.size = P) (hN2 : N ≤ 1000) (hP2 : P ≤ 8) (w : World) :
    Calls Tryz.prog 52 #[.string s, .string p] w fun e w' => ∃ n : Nat, e = .returned (.int .i64 n) ∧ Agree s p n ∧ w' = w := by
  obtain ⟨M, hM⟩ : ∃ M : Nat, M = min P N := ⟨_, rfl⟩
  have hmin : min (P : Int) (N : Int) = (M : Int) := by rw [hM]; omega
  have hMP : M ≤ P := by omega
  have hMN : M ≤ N := by omega
  have HM := Lib.hid hM
  clear hM
  go_enter Tryz.func52, Tryz.ntmps52
  go_wp2_with fail
  go_loop [6] (fun i => ∃ k : Nat, k ≤ M ∧ Hid (∀ j (h1 : j < s.size) (h2 : j < p.size), j < k → lowc s[j].toNat = p[j].toNat) ∧ i = .int .i64 k) (fun i => M - (RowKit.intOf i).toNat)
  case atStart => exact ⟨0, by omega, Lib.hid (fun j _ _ h => absurd h (by omega)), rfl⟩
  case round =>
    obtain ⟨k, hk, H0, rfl⟩ := hrel
    rcases Nat.lt_or_ge k M with hkM | hkM
    · have hk1 : k < s.size := by omega
      have hk2 : k < p.size := by omega
      obtain ⟨x, hx⟩ : ∃ x : Nat, s[k].toNat = x := ⟨_, rfl⟩
      obtain ⟨y, hy⟩ : ∃ y : Nat, p[k].toNat = y := ⟨_, rfl⟩
      have hx256 : x < 256 := by rw [← hx]; exact UInt8.toNat_lt _
      have d1 : decide (k < M) = true := by simp; omega
      obtain ⟨c, hc⟩ : ∃ c, c = lowc x := ⟨_, rfl⟩
      have hcx : (65 ≤ x ∧ x ≤ 90 ∧ c = x + 32) ∨ (65 ≤ x ∧ 90 < x ∧ c = x) ∨ (x < 65 ∧ c = x) := by rw [hc]; unfold lowc; split <;> omega
      have hdone : Hid (k + 1 ≤ M → c = y → ∀ j (h1 : j < s.size) (h2 : j < p.size), j < k + 1 → lowc s[j].toNat = p[j].toNat) := Lib.hid (by
        intro _ hcy j h1 h2 hj
        rcases Nat.lt_or_ge j k with h | h
        · exact H0.out j h1 h2 h
        · obtain rfl : j = k := by omega
          rw [hx, hy, ← hc]; exact hcy)
      have hstop : Hid (c ≠ y → Agree s p k) := Lib.hid (by
        intro hcy
        refine ⟨by omega, by omega, fun j h1 h2 h => H0.out j h1 h2 h, fun h1 h2 => ?_⟩
        rw [hx, hy, ← hc]; exact hcy)
      clear hc
      by_cases hcy : c = y
      · have HCY := Lib.hid hcy
        have hne : ((c : Int) != (y : Int)) = false := by simp; omega
        clear hcy
        rcases hcx with ⟨c1, c2, c3⟩ | ⟨c1, c2, c3⟩ | ⟨c1, c3⟩
        all_goals
          subst c3
          try push_cast at hne
          go_wp2_with fail
          refine ⟨⟨k + 1, by omega, Lib.hid (hdone.out (by omega) HCY.out), by go_num⟩, by simp [RowKit.intOf]; omega⟩
      · have HCY := Lib.hid hcy
        have hne : ((c : Int) != (y : Int)) = true := by simp; omega
        clear hcy
        rcases hcx with ⟨c1, c2, c3⟩ | ⟨c1, c2, c3⟩ | ⟨c1, c3⟩
        all_goals
          subst c3
          try push_cast at hne
          go_wp2_with fail
          go_ret
          exact ⟨k, rfl, hstop.out HCY.out, rfl⟩
    · have hkM' : k = M := by omega
      have HK := Lib.hid hkM'
      have d1 : decide (k < M) = false := by simp; omega
      clear hkM'
      go_wp2_with fail
      go_ret
      exact ⟨M, rfl, ⟨by omega, by omega, fun j h1 h2 h => H0.out j h1 h2 (by have := HK.out; omega), fun h1 h2 => absurd h1 (by have := HM.out; have := HK.out; omega)⟩, rfl⟩
set_option maxRecDepth 10000 in
theorem special_pos (s : ByteArray) (N : Nat) (hN : s.size = N) (hN1 : 1 ≤ N) (hN2 : N ≤ 1000) (x : Nat) (hx : ∃ h : 0 < s.size, s[0].toNat = x) (hx1 : 48 ≤ x) (hx2 : x ≤ 57) (w : World) :
    Calls Tryz.prog 34 #[.string s] w fun e w' => e = .returned (.tuple #[.float .f64 0, .int .i64 0, .bool false]) ∧ w' = w := by
  obtain ⟨h0, hx⟩ := hx
  have n1 : ((x : Int) == 43) = false := by simp; omega
  have n2 : ((x : Int) == 45) = false := by simp; omega
  have n3 : ((x : Int) == 105) = false := by simp; omega
  have n4 : ((x : Int) == 73) = false := by simp; omega
  have n5 : ((x : Int) == 110) = false := by simp; omega
  have n6 : ((x : Int) == 78) = false := by simp; omega
  go_enter Tryz.func34, Tryz.ntmps34
  go_wp2_with fail
  refine bodyPost_ret (results_tmp3 rfl _ _ _) rfl ?_
  exact ⟨rfl, rfl⟩
theorem ext_at (s : ByteArray) (N k : Nat) (hN : s.size = N) (hk : 1 + k < s.size) (h : k < (s.extract 1 N).size) : (s.extract 1 N)[k] = s[1 + k] := by
  rw [ByteArray.getElem_extract]
theorem ext_size (s : ByteArray) (N : Nat) (hN : s.size = N) : (s.extract 1 N).size = N - 1 := by
  rw [ByteArray.size_extract, hN, Nat.min_self]
/-- The word that is looked for. -/
def infw : ByteArray := ⟨#[105, 110, 102, 105, 110, 105, 116, 121]⟩
def nanw : ByteArray := ⟨#[110, 97, 110]⟩
theorem agree_none {s p : ByteArray} {n x y : Nat} (h : Agree s p n) (h1 : ∃ h : 0 < s.size, s[0].toNat = x) (h2 : ∃ h : 0 < p.size, p[0].toNat = y) (hne : lowc x ≠ y) : n = 0 := by
  rcases Nat.eq_zero_or_pos n with h0 | h0
  · exact h0
  · exfalso
    obtain ⟨a1, a2⟩ := h1
    obtain ⟨b1, b2⟩ := h2
    have := h.2.2.1 0 a1 b1 h0
    rw [a2, b2] at this
    exact hne this
set_option maxRecDepth 10000 in
theorem special_neg (s : ByteArray) (N : Nat) (hN : s.size = N) (hN1 : 2 ≤ N) (hN2 : N ≤ 1000) (hx0 : ∃ h : 0 < s.size, s[0].toNat = 45) (x : Nat) (hx : Hid (∃ h : 1 < s.size, s[1].toNat = x)) (hx1 : 48 ≤ x) (hx2 : x ≤ 57) (w : World) :
    Calls Tryz.prog 34 #[.string s] w fun e w' => e = .returned (.tuple #[.float .f64 0, .int .i64 0, .bool false]) ∧ w' = w := by
  obtain ⟨h0, hx0⟩ := hx0
  go_enter Tryz.func34, Tryz.ntmps34
  go_wp2_with fail
  refine (common_any (s.extract 1 N) ⟨#[105, 110, 102, 105, 110, 105, 116, 121]⟩ (N - 1) 8 (ext_size s N hN) rfl (by omega) (by decide) w).mono ?_
  rintro e w1 ⟨n, rfl, hA, rfl⟩
  have hn : n = 0 := by
    refine agree_none (x := x) (y := 105) hA ?_ ⟨by decide, by decide⟩ (by unfold lowc; rw [if_neg (by omega)]; omega)
    obtain ⟨a1, a2⟩ := hx.out
    have h1 : 0 < (s.extract 1 N).size := by rw [ext_size s N hN]; omega
    refine ⟨h1, ?_⟩
    rw [ext_at s N 0 hN a1 h1]
    exact a2
  subst hn
  go_wp2_with fail
  refine bodyPost_ret (results_tmp3 rfl _ _ _) rfl ?_
  exact ⟨rfl, rfl⟩
set_option maxRecDepth 10000 in
theorem inf_pos (w : World) : Calls Tryz.prog 53 #[.int .i64 1] w fun e w' => e = .returned (.float .f64 9218868437227405312) ∧ w' = w := by
  have H : ∀ w, (callFunc 44 #[.int .u64 9218868437227405312]).run Tryz.prog w = .ok (.value (.float .f64 9218868437227405312)) w := fun w => ifrom_run 9218868437227405312 w
  go_enter Tryz.func53, Tryz.ntmps53
  go_wp2_with (simp only [H])
  go_ret
  exact ⟨rfl, rfl⟩
set_option maxRecDepth 10000 in
theorem inf_neg (w : World) : Calls Tryz.prog 53 #[.int .i64 (-1)] w fun e w' => e = .returned (.float .f64 18442240474082181120) ∧ w' = w := by
  have H : ∀ w, (callFunc 44 #[.int .u64 18442240474082181120]).run Tryz.prog w = .ok (.value (.float .f64 18442240474082181120)) w := fun w => ifrom_run 18442240474082181120 w
  go_enter Tryz.func53, Tryz.ntmps53
  go_wp2_with (simp only [H])
  go_ret
  exact ⟨rfl, rfl⟩
set_option maxRecDepth 10000 in
theorem nan_any (w : World) : Calls Tryz.prog 54 #[] w fun e w' => e = .returned (.float .f64 9221120237041090561) ∧ w' = w := by
  have H : ∀ w, (callFunc 44 #[.int .u64 9221120237041090561]).run Tryz.prog w = .ok (.value (.float .f64 9221120237041090561)) w := fun w => ifrom_run 9221120237041090561 w
  go_enter Tryz.func54, Tryz.ntmps54
  go_wp2_with (simp only [H])
  go_ret
  exact ⟨rfl, rfl⟩
theorem agree3 {s p : ByteArray} {n : Nat} (h : Agree s p n) (hs : s.size = 3) (hp : 3 ≤ p.size) (he : ∀ j (h1 : j < s.size) (h2 : j < p.size), lowc s[j].toNat = p[j].toNat) : n = 3 := by
  have h1 := h.1
  rcases Nat.lt_or_ge n 3 with h3 | h3
  · exact absurd (he n (by omega) (by omega)) (h.2.2.2 (by omega) (by omega))
  · omega
theorem inf_agree : ∀ j (h1 : j < (⟨#[105, 110, 102]⟩ : ByteArray).size) (h2 : j < (⟨#[105, 110, 102, 105, 110, 105, 116, 121]⟩ : ByteArray).size), lowc (⟨#[105, 110, 102]⟩ : ByteArray)[j].toNat = (⟨#[105, 110, 102, 105, 110, 105, 116, 121]⟩ : ByteArray)[j].toNat := by
  intro j h1 h2
  have h3 : j < 3 := h1
  have hj : j = 0 ∨ j = 1 ∨ j = 2 := by omega
  rcases hj with rfl | rfl | rfl <;> rfl
theorem nan_agree : ∀ j (h1 : j < (⟨#[110, 97, 110]⟩ : ByteArray).size) (h2 : j < (⟨#[110, 97, 110]⟩ : ByteArray).size), lowc (⟨#[110, 97, 110]⟩ : ByteArray)[j].toNat = (⟨#[110, 97, 110]⟩ : ByteArray)[j].toNat := by
  intro j h1 h2
  have h3 : j < 3 := h1
  have hj : j = 0 ∨ j = 1 ∨ j = 2 := by omega
  rcases hj with rfl | rfl | rfl <;> rfl
/-- A special text. -/
def Spec (b n : Nat) (w : World) (e : Ending) (w' : World) : Prop := e = .returned (.tuple #[.float .f64 b, .int .i64 n, .bool true]) ∧ w' = w
set_option maxRecDepth 10000 in
theorem special_pinf (w : World) : Calls Tryz.prog 34 #[.string ⟨#[43, 105, 110, 102]⟩] w (Spec 9218868437227405312 4 w) := by
  obtain ⟨s, hs⟩ : ∃ s : ByteArray, s = ⟨#[43, 105, 110, 102]⟩ := ⟨_, rfl⟩
  have hN : s.size = 4 := by rw [hs]; rfl
  have he : s.extract 1 4 = ⟨#[105, 110, 102]⟩ := by rw [hs]; rfl
  have h0 : 0 < s.size := by omega
  have hx0 : s[0].toNat = 43 := by subst hs; rfl
  rw [← hs]
  clear hs
  go_enter Tryz.func34, Tryz.ntmps34
  go_wp2_with fail
  try rw [he]
  refine (common_any ⟨#[105, 110, 102]⟩ ⟨#[105, 110, 102, 105, 110, 105, 116, 121]⟩ 3 8 rfl rfl (by omega) (by decide) w).mono ?_
  rintro e w1 ⟨n, rfl, hA, rfl⟩
  obtain rfl := agree3 hA rfl (by decide) inf_agree
  go_wp2_with fail
  refine (inf_pos _).mono ?_
  rintro e w2 ⟨rfl, rfl⟩
  go_wp2_with fail
  refine bodyPost_ret (results_tmp3 rfl _ _ _) rfl ?_
  exact ⟨rfl, rfl⟩
set_option maxRecDepth 10000 in
theorem special_ninf (w : World) : Calls Tryz.prog 34 #[.string ⟨#[45, 105, 110, 102]⟩] w (Spec 18442240474082181120 4 w) := by
  obtain ⟨s, hs⟩ : ∃ s : ByteArray, s = ⟨#[45, 105, 110, 102]⟩ := ⟨_, rfl⟩
  have hN : s.size = 4 := by rw [hs]; rfl
  have he : s.extract 1 4 = ⟨#[105, 110, 102]⟩ := by rw [hs]; rfl
  have h0 : 0 < s.size := by omega
  have hx0 : s[0].toNat = 45 := by subst hs; rfl
  rw [← hs]
  clear hs
  go_enter Tryz.func34, Tryz.ntmps34
  go_wp2_with fail
  try rw [he]
  refine (common_any ⟨#[105, 110, 102]⟩ ⟨#[105, 110, 102, 105, 110, 105, 116, 121]⟩ 3 8 rfl rfl (by omega) (by decide) w).mono ?_
  rintro e w1 ⟨n, rfl, hA, rfl⟩
  obtain rfl := agree3 hA rfl (by decide) inf_agree
  go_wp2_with fail
  refine (inf_neg _).mono ?_
  rintro e w2 ⟨rfl, rfl⟩
  go_wp2_with fail
  refine bodyPost_ret (results_tmp3 rfl _ _ _) rfl ?_
  exact ⟨rfl, rfl⟩
set_option maxRecDepth 10000 in
theorem special_nan (w : World) : Calls Tryz.prog 34 #[.string ⟨#[110, 97, 110]⟩] w (Spec 9221120237041090561 3 w) := by
  obtain ⟨s, hs⟩ : ∃ s : ByteArray, s = ⟨#[110, 97, 110]⟩ := ⟨_, rfl⟩
  have hN : s.size = 3 := by rw [hs]; rfl
  have h0 : 0 < s.size := by omega
  have hx0 : s[0].toNat = 110 := by subst hs; rfl
  have HS := Lib.hid hs
  rw [← hs]
  clear hs
  go_enter Tryz.func34, Tryz.ntmps34
  go_wp2_with fail
  rw [HS.out]
  refine (common_any ⟨#[110, 97, 110]⟩ ⟨#[110, 97, 110]⟩ 3 3 rfl rfl (by omega) (by decide) w).mono ?_
  rintro e w1 ⟨n, rfl, hA, rfl⟩
  obtain rfl := agree3 hA rfl (by decide) nan_agree
  go_wp2_with fail
  refine (nan_any _).mono ?_
  rintro e w2 ⟨rfl, rfl⟩
  go_wp2_with fail
  refine bodyPost_ret (results_tmp3 rfl _ _ _) rfl ?_
  exact ⟨rfl, rfl⟩
end Go.Proofs.YtmphnnmnbpheiaaGreatDoor
