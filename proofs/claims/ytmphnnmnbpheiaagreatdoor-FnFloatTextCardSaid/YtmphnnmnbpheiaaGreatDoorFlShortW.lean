/- The shortest digits: the code walked, once for each of its three ways in. -/
import Derived.Test.YtmphnnmnbpheiaaGreatDoorFlUscale
import Derived.Test.YtmphnnmnbpheiaaGreatDoorFlPick
namespace Go.Proofs.YtmphnnmnbpheiaaGreatDoor
open Go Go.RowKit
open Fl
theorem prescaleP_any (p : Int) (i : Nat) (h l : Nat) (hp : Hid (p = (i : Int) - 348)) (hi : Hid (Go.Pinned.pow10Rows[i]? = some (h, l))) (e lp : Int) (he : -5000 ≤ e) (he' : e ≤ 5000) (hl : -5000 ≤ lp) (hl' : lp ≤ 5000) (g : Nat) (x0 x1 x2 : Value) (w : World)
    (hT : PowTab w) (hg : 10 < g) (hb : Blk w g 105 #[x0, x1, x2]) :
    Calls Tryz.prog 59 #[.pointer (some ⟨g, 0, none⟩), .int .i64 e, .int .i64 p, .int .i64 lp] w fun r w' =>
      r = .returned (.tuple #[]) ∧ Blk w' g 105 #[.int .u64 (h : Nat), .int .u64 (l : Nat), .int .i64 (-(e + lp + 3))] ∧ w.grownBy w' (some g) ∧ w'.heap.size = w.heap.size := by
  rw [hp.out]
  exact prescale_any i h l hi.out e lp he he' hl hl' g x0 x1 x2 w hT hg hb
theorem PowTab.below {w w' : World} {B : Nat} (h : PowTab w) (hb : Below B w w') (hB : 10 < B) : PowTab w' := by
  intro i a b hi
  obtain ⟨h1, h2⟩ := h i a b hi
  exact ⟨(hb.cell (p := ⟨_, i * 2, none⟩) hB).trans h1, (hb.cell (p := ⟨_, i * 2 + 1, none⟩) hB).trans h2⟩
theorem unr_bound {i h l x s : Nat} (R : Row (N i) D1 h l) (hx : x < 18446744073709551616) (hs : 5 ≤ s) : unr (x * N i) (Q1 * 2 ^ s) ≤ 576460752303423488 := by
  have hQ : 0 < Q1 * 2 ^ s := Nat.mul_pos Q1_pos (Nat.pow_pos (by decide))
  rw [unr_le hQ (by decide)]
  have h1 : N i ≤ Q1 := Nat.le_trans R.small (by
    have : Q1 = 2 ^ 128 * D1 := by unfold Q1; rw [← Nat.mul_assoc]
    rw [this]
    exact Nat.mul_le_mul_right _ (by decide))
  obtain ⟨t, rfl⟩ : ∃ t, s = 5 + t := ⟨s - 5, by omega⟩
  have h2 := Nat.one_le_two_pow (n := t)
  rw [Nat.pow_add]
  calc x * N i ≤ (576460752303423488 * 2 ^ 5) * Q1 := Nat.mul_le_mul (by omega) h1
    _ = 576460752303423488 * (Q1 * (2 ^ 5 * 1)) := by grind
    _ ≤ 576460752303423488 * (Q1 * (2 ^ 5 * 2 ^ t)) := Nat.mul_le_mul_left _ (Nat.mul_le_mul_left _ (Nat.mul_le_mul_left _ h2))
theorem unr_pos {i x s : Nat} (hx : 0 < x) : 1 ≤ unr (x * N i) (Q1 * 2 ^ s) := by
  have hQ : 0 < Q1 * 2 ^ s := Nat.mul_pos Q1_pos (Nat.pow_pos (by decide))
  have := (unr_gt (Z := x * N i) (c := 0) hQ rfl).2 (by rw [Nat.zero_mul]; exact Nat.mul_pos hx (N_pos i))
  omega
theorem uscaleN_any (i h l s x g : Nat) (w : World) (R : Row (N i) D1 h l) (hx : x < 18446744073709551616) (h128 : x % 128 = 0) (hx2 : 2 ≤ x) (hs5 : 5 ≤ s) (hs : s < 64)
    (hb : Blk w g 105 #[.int .u64 h, .int .u64 l, .int .i64 s]) :
    Calls Tryz.prog 60 #[.int .u64 x, .pointer (some ⟨g, 0, none⟩)] w fun r w' =>
      r = .returned (.int .u64 (unr (x * N i) (Q1 * 2 ^ s) : Nat)) ∧ ∃ k, w' = w.drewN k := by
  have hxh : 18446744073709551616 ≤ x * h := by
    have := Nat.mul_le_mul hx2 R.top
    omega
  have e := us_row R D1_pos hx h128 hxh hs5
  rw [show 2 ^ 64 * (2 ^ 64 * D1) = Q1 from rfl] at e
  rw [← e]
  exact uscale_any x h l s hx R.hw R.lw hs hxh g w hb
set_option maxRecDepth 10000 in
theorem nudgeUp_any (u o : Nat) (ho : o ≤ 1) (h2 : u + o < 18446744073709551616) (w : World) :
    Calls Tryz.prog 92 #[.int .u64 u, .int .i64 o] w fun e w' => e = .returned (.int .u64 (u + o : Nat)) ∧ w' = w :=
  nudge_any u o (by omega) (by omega) (by omega) (by omega) w
theorem nudgeDn_any (u o : Nat) (ho : o ≤ 1) (h1 : o ≤ u) (h2 : u < 18446744073709551616) (w : World) :
    Calls Tryz.prog 92 #[.int .u64 u, .int .i64 (-(o : Int))] w fun e w' => e = .returned (.int .u64 (u - o : Nat)) ∧ w' = w := by
  have h := nudge_any u (-(o : Int)) (by omega) (by omega) (by omega) (by omega) w
  rw [show (u : Int) + -(o : Int) = ((u - o : Nat) : Int) by omega] at h
  exact h
theorem pick_eq (lo hi r : Nat) : pick lo hi r = if lo ≤ hi / 10 * 10 then (hi / 10, 1) else if lo < hi then (r, 0) else (lo, 0) := rfl
/-- The digits and their exponent, as handed back. -/
def Short (w : World) (i lo hi r : Nat) (e : Ending) (w' : World) : Prop :=
  e = .returned (.tuple #[.int .u64 ((pick lo hi r).1 : Nat), .int .i64 (348 - (i : Int) + ((pick lo hi r).2 : Nat))]) ∧ Below w.heap.size w w'
set_option maxRecDepth 10000 in
set_option maxHeartbeats 4000000 in
theorem shortC_walk (i h l s E x0 x1 o u0 u1 lo hi r : Nat) (m z : Nat) (hE51 : E ≤ 51) (hz : z = 63 - E) (hie : i = 672) (s0 : IntKind.u64.wrap ((m : Int) - IntKind.u64.wrap (2 ^ ((11 + (-1085 - ((E : Int) - 1137))).toNat - 1))) = (x0 : Int)) (s1 : IntKind.u64.wrap ((m : Int) + IntKind.u64.wrap (2 ^ ((11 + (-1085 - ((E : Int) - 1137))).toNat - 1))) = (x1 : Int)) (so : bits .and .i64 (wrap64 ((m : Int) / 2 ^ (11 + (-1085 - ((E : Int) - 1137))).toNat)) 1 = (o : Int)) (hrow : Hid (Go.Pinned.pow10Rows[i]? = some (h, l))) (R : Hid (Row (N i) D1 h l)) (hi6 : i ≤ 672) (hs5 : 5 ≤ s) (hs6 : s < 64) (hE : E ≤ 2200)
    (hsE' : Hid (-((E : Int) - 1137 + ((i : Int) - 348) * 108853 / 32768 + 3) = (s : Int))) (ho : o ≤ 1)
    (hx0 : Hid (x0 < 18446744073709551616 ∧ x0 % 128 = 0 ∧ 2 ≤ x0)) (hx1 : Hid (x1 < 18446744073709551616 ∧ x1 % 128 = 0 ∧ 2 ≤ x1)) (hxm : Hid (m < 18446744073709551616 ∧ m % 128 = 0 ∧ 2 ≤ m))
    (eu0 : Hid (u0 = unr (x0 * N i) (Q1 * 2 ^ s))) (eu1 : Hid (u1 = unr (x1 * N i) (Q1 * 2 ^ s))) (hu0 : u0 ≤ 576460752303423488) (hu1 : u1 ≤ 576460752303423488) (hu1' : 1 ≤ u1)
    (elo : Hid (lo = (u0 + o + 3) / 4)) (ehi : Hid (hi = (u1 - o) / 4)) (um : Nat) (eum : Hid (um = unr (m * N i) (Q1 * 2 ^ s))) (hum : um ≤ 576460752303423488) (er : Hid (r = (um + 1 + um / 4 % 2) / 4)) (hlo : lo ≤ 576460752303423488) (hhi : hi ≤ 576460752303423488)
    (w : World) (hT : PowTab w) (hw : 10 < w.heap.size) :
    Calls Tryz.prog 81 #[.int .u64 m, .int .i64 ((E : Int) - 1137)] w (Short w i lo hi r) := by
  have hb : ((m : Int) == 9223372036854775808) = true ∨ ((m : Int) == 9223372036854775808) = false := by cases ((m : Int) == 9223372036854775808) <;> simp
  have H10 := log10Pow2_any (-1074) (by omega) (by omega) w
  rw [show (-1074 : Int) * 78913 / 262144 = -324 by decide] at H10
  generalize hq : (-324 : Int) = q at H10
  have hq1 : -1000 ≤ q ∧ q ≤ 1000 := by omega
  have hqi : Hid (-q = (i : Int) - 348) := Lib.hid (by omega)
  have hsE : Hid (-((E : Int) - 1137 + -q * 108853 / 32768 + 3) = (s : Int)) := Lib.hid (by rw [hqi.out]; exact hsE'.out)
  clear hq
  rcases hb with hb | hb
  all_goals
    go_enter Tryz.func81, Tryz.ntmps81
    go_wp2_with fail
    rw [show (E : Int) - 1137 + (11 + (-1085 - ((E : Int) - 1137))) = -1074 by omega]
    refine H10.mono ?_
    rintro e w1 ⟨rfl, rfl⟩
    go_wp2_with fail
    refine gen1 (M := fun W => Calls _ _ _ W _) fun W1 hB1 b1 hz1 => ?_
    have hT1 := hT.below hB1 (by omega)
    refine (log2Pow10_any (-q) (by omega) (by omega) W1).mono ?_
    rintro e w2 ⟨rfl, rfl⟩
    have HB := Lib.hid (And.intro hB1 (And.intro hz1 (And.intro hT1 b1)))
    clear hB1 hz1 hT1 b1
    go_wp2_with fail
    refine (prescaleP_any (-q) i h l hqi hrow ((E : Int) - 1137) (-q * 108853 / 32768) (by omega) (by omega) (by omega) (by omega) w1.heap.size _ _ _ w2 HB.out.2.2.1 (by omega) HB.out.2.2.2).mono ?_
    rintro e w3 ⟨rfl, b3, g3, z3⟩
    rw [hsE.out] at b3
    have HB3 := Lib.hid (And.intro (HB.out.1.grown g3 (by have := HB.out.2.1; omega) (fun _ e => by cases e; exact Nat.le_refl _)) b3)
    clear b3 g3 z3 HB
    go_wp2_with fail
    refine (uscaleN_any i h l s x0 w1.heap.size w3 R.out hx0.out.1 hx0.out.2.1 hx0.out.2.2 hs5 hs6 HB3.out.2).mono ?_
    rintro e w4 ⟨rfl, k4, rfl⟩
    rw [← eu0.out]
    go_wp2_with fail
    refine (nudgeUp_any u0 o ho (by omega) _).mono ?_
    rintro e w5 ⟨rfl, rfl⟩
    go_wp2_with fail
    refine (ceil_any (u0 + o) (by omega) _).mono ?_
    rintro e w5 ⟨rfl, rfl⟩
    rw [← elo.out]
    go_wp2_with fail
    refine (uscaleN_any i h l s x1 w1.heap.size _ R.out hx1.out.1 hx1.out.2.1 hx1.out.2.2 hs5 hs6 (HB3.out.2.drewN k4)).mono ?_
    rintro e w5 ⟨rfl, k5, rfl⟩
    rw [← eu1.out]
    go_wp2_with fail
    refine (nudgeDn_any u1 o ho (by omega) (by omega) _).mono ?_
    rintro e w5 ⟨rfl, rfl⟩
    go_wp2_with fail
    refine (floor_any (u1 - o) (by omega) _).mono ?_
    rintro e w5 ⟨rfl, rfl⟩
    rw [← ehi.out]
    by_cases c1 : lo ≤ hi / 10 * 10
    · have c1' : decide ((lo : Int) ≤ (hi : Int) / 10 * 10) = true := by simp; omega
      have hp : Hid (pick lo hi r = (hi / 10, 1)) := Lib.hid (by rw [pick_eq, if_pos c1])
      go_wp2_with fail
      go_ret2
      refine ⟨?_, HB3.out.1.drewN_ _⟩
      rw [hp.out]
      show Ending.returned (.tuple #[.int .u64 ((hi : Int) / 10), .int .i64 (-(-q - 1))]) = _
      rw [show -(-q - 1) = 348 - (i : Int) + ((1 : Nat) : Int) by have := hqi.out; omega]
      rfl
    · have c1' : decide ((lo : Int) ≤ (hi : Int) / 10 * 10) = false := by simp; omega
      by_cases c2 : lo < hi
      · have hp : Hid (pick lo hi r = (r, 0)) := Lib.hid (by rw [pick_eq, if_neg c1, if_pos c2])
        go_wp2_with fail
        refine (uscaleN_any i h l s m w1.heap.size _ R.out hxm.out.1 hxm.out.2.1 hxm.out.2.2 hs5 hs6 (HB3.out.2.drewN (k4 + k5))).mono ?_
        rintro e w5 ⟨rfl, k6, rfl⟩
        rw [← eum.out]
        go_wp2_with fail
        refine (round_any um (by omega) _).mono ?_
        rintro e w5 ⟨rfl, rfl⟩
        rw [← er.out]
        go_wp2_with fail
        go_ret2
        refine ⟨?_, (HB3.out.1.drewN_ _)⟩
        rw [hp.out]
        show Ending.returned (.tuple #[.int .u64 (r : Int), .int .i64 q]) = _
        rw [show q = 348 - (i : Int) + ((0 : Nat) : Int) by have := hqi.out; omega]
      · have hp : Hid (pick lo hi r = (lo, 0)) := Lib.hid (by rw [pick_eq, if_neg c1, if_neg c2])
        go_wp2_with fail
        go_ret2
        refine ⟨?_, HB3.out.1.drewN_ _⟩
        rw [hp.out]
        show Ending.returned (.tuple #[.int .u64 (lo : Int), .int .i64 q]) = _
        rw [show q = 348 - (i : Int) + ((0 : Nat) : Int) by have := hqi.out; omega]
set_option maxRecDepth 10000 in
set_option maxHeartbeats 4000000 in
theorem shortB_walk (i h l s E x0 x1 o u0 u1 lo hi r : Nat) (m j : Nat) (hEj : Hid (E = j + 52)) (hE1 : 52 ≤ E) (hE2 : E ≤ 2097) (hij : Hid (i = 672 - l10 j)) (s0 : IntKind.u64.wrap ((m : Int) - 1024) = (x0 : Int)) (s1 : IntKind.u64.wrap ((m : Int) + 1024) = (x1 : Int)) (so : bits .and .i64 (wrap64 ((m : Int) / 2048)) 1 = (o : Int)) (hb : ((m : Int) == 9223372036854775808) = false) (hrow : Hid (Go.Pinned.pow10Rows[i]? = some (h, l))) (R : Hid (Row (N i) D1 h l)) (hi6 : i ≤ 672) (hs5 : 5 ≤ s) (hs6 : s < 64) (hE : E ≤ 2200)
    (hsE' : Hid (-((E : Int) - 1137 + ((i : Int) - 348) * 108853 / 32768 + 3) = (s : Int))) (ho : o ≤ 1)
    (hx0 : Hid (x0 < 18446744073709551616 ∧ x0 % 128 = 0 ∧ 2 ≤ x0)) (hx1 : Hid (x1 < 18446744073709551616 ∧ x1 % 128 = 0 ∧ 2 ≤ x1)) (hxm : Hid (m < 18446744073709551616 ∧ m % 128 = 0 ∧ 2 ≤ m))
    (eu0 : Hid (u0 = unr (x0 * N i) (Q1 * 2 ^ s))) (eu1 : Hid (u1 = unr (x1 * N i) (Q1 * 2 ^ s))) (hu0 : u0 ≤ 576460752303423488) (hu1 : u1 ≤ 576460752303423488) (hu1' : 1 ≤ u1)
    (elo : Hid (lo = (u0 + o + 3) / 4)) (ehi : Hid (hi = (u1 - o) / 4)) (um : Nat) (eum : Hid (um = unr (m * N i) (Q1 * 2 ^ s))) (hum : um ≤ 576460752303423488) (er : Hid (r = (um + 1 + um / 4 % 2) / 4)) (hlo : lo ≤ 576460752303423488) (hhi : hi ≤ 576460752303423488)
    (w : World) (hT : PowTab w) (hw : 10 < w.heap.size) :
    Calls Tryz.prog 81 #[.int .u64 m, .int .i64 ((E : Int) - 1137)] w (Short w i lo hi r) := by
  have H10 := log10Pow2_any ((E : Int) - 1137 + 11) (by omega) (by omega) w
  generalize hq : ((E : Int) - 1137 + 11) * 78913 / 262144 = q at H10
  have hq1 : -1000 ≤ q ∧ q ≤ 1000 := by omega
  have hqi : Hid (-q = (i : Int) - 348) := Lib.hid (by have := hij.out; have := hEj.out; unfold l10 at *; omega)
  have hsE : Hid (-((E : Int) - 1137 + -q * 108853 / 32768 + 3) = (s : Int)) := Lib.hid (by rw [hqi.out]; exact hsE'.out)
  clear hq
  go_enter Tryz.func81, Tryz.ntmps81
  go_wp2_with fail
  refine H10.mono ?_
  rintro e w1 ⟨rfl, rfl⟩
  go_wp2_with fail
  refine gen1 (M := fun W => Calls _ _ _ W _) fun W1 hB1 b1 hz1 => ?_
  have hT1 := hT.below hB1 (by omega)
  refine (log2Pow10_any (-q) (by omega) (by omega) W1).mono ?_
  rintro e w2 ⟨rfl, rfl⟩
  have HB := Lib.hid (And.intro hB1 (And.intro hz1 (And.intro hT1 b1)))
  clear hB1 hz1 hT1 b1
  go_wp2_with fail
  refine (prescaleP_any (-q) i h l hqi hrow ((E : Int) - 1137) (-q * 108853 / 32768) (by omega) (by omega) (by omega) (by omega) w1.heap.size _ _ _ w2 HB.out.2.2.1 (by omega) HB.out.2.2.2).mono ?_
  rintro e w3 ⟨rfl, b3, g3, z3⟩
  rw [hsE.out] at b3
  have HB3 := Lib.hid (And.intro (HB.out.1.grown g3 (by have := HB.out.2.1; omega) (fun _ e => by cases e; exact Nat.le_refl _)) b3)
  clear b3 g3 z3 HB
  go_wp2_with fail
  refine (uscaleN_any i h l s x0 w1.heap.size w3 R.out hx0.out.1 hx0.out.2.1 hx0.out.2.2 hs5 hs6 HB3.out.2).mono ?_
  rintro e w4 ⟨rfl, k4, rfl⟩
  rw [← eu0.out]
  go_wp2_with fail
  refine (nudgeUp_any u0 o ho (by omega) _).mono ?_
  rintro e w5 ⟨rfl, rfl⟩
  go_wp2_with fail
  refine (ceil_any (u0 + o) (by omega) _).mono ?_
  rintro e w5 ⟨rfl, rfl⟩
  rw [← elo.out]
  go_wp2_with fail
  refine (uscaleN_any i h l s x1 w1.heap.size _ R.out hx1.out.1 hx1.out.2.1 hx1.out.2.2 hs5 hs6 (HB3.out.2.drewN k4)).mono ?_
  rintro e w5 ⟨rfl, k5, rfl⟩
  rw [← eu1.out]
  go_wp2_with fail
  refine (nudgeDn_any u1 o ho (by omega) (by omega) _).mono ?_
  rintro e w5 ⟨rfl, rfl⟩
  go_wp2_with fail
  refine (floor_any (u1 - o) (by omega) _).mono ?_
  rintro e w5 ⟨rfl, rfl⟩
  rw [← ehi.out]
  by_cases c1 : lo ≤ hi / 10 * 10
  · have c1' : decide ((lo : Int) ≤ (hi : Int) / 10 * 10) = true := by simp; omega
    have hp : Hid (pick lo hi r = (hi / 10, 1)) := Lib.hid (by rw [pick_eq, if_pos c1])
    go_wp2_with fail
    go_ret2
    refine ⟨?_, HB3.out.1.drewN_ _⟩
    rw [hp.out]
    show Ending.returned (.tuple #[.int .u64 ((hi : Int) / 10), .int .i64 (-(-q - 1))]) = _
    rw [show -(-q - 1) = 348 - (i : Int) + ((1 : Nat) : Int) by have := hqi.out; omega]
    rfl
  · have c1' : decide ((lo : Int) ≤ (hi : Int) / 10 * 10) = false := by simp; omega
    by_cases c2 : lo < hi
    · have hp : Hid (pick lo hi r = (r, 0)) := Lib.hid (by rw [pick_eq, if_neg c1, if_pos c2])
      go_wp2_with fail
      refine (uscaleN_any i h l s m w1.heap.size _ R.out hxm.out.1 hxm.out.2.1 hxm.out.2.2 hs5 hs6 (HB3.out.2.drewN (k4 + k5))).mono ?_
      rintro e w5 ⟨rfl, k6, rfl⟩
      rw [← eum.out]
      go_wp2_with fail
      refine (round_any um (by omega) _).mono ?_
      rintro e w5 ⟨rfl, rfl⟩
      rw [← er.out]
      go_wp2_with fail
      go_ret2
      refine ⟨?_, (HB3.out.1.drewN_ _)⟩
      rw [hp.out]
      show Ending.returned (.tuple #[.int .u64 (r : Int), .int .i64 q]) = _
      rw [show q = 348 - (i : Int) + ((0 : Nat) : Int) by have := hqi.out; omega]
    · have hp : Hid (pick lo hi r = (lo, 0)) := Lib.hid (by rw [pick_eq, if_neg c1, if_neg c2])
      go_wp2_with fail
      go_ret2
      refine ⟨?_, HB3.out.1.drewN_ _⟩
      rw [hp.out]
      show Ending.returned (.tuple #[.int .u64 (lo : Int), .int .i64 q]) = _
      rw [show q = 348 - (i : Int) + ((0 : Nat) : Int) by have := hqi.out; omega]
set_option maxRecDepth 10000 in
set_option maxHeartbeats 4000000 in
theorem shortB0_walk (i h l s E x0 x1 o u0 u1 lo hi r : Nat) (m j : Nat) (hEj : Hid (E = j + 52)) (hE1 : 52 ≤ E) (hE2 : E ≤ 2097) (hij : Hid (i = 672 - l10 j)) (s0 : IntKind.u64.wrap ((m : Int) - 1024) = (x0 : Int)) (s1 : IntKind.u64.wrap ((m : Int) + 1024) = (x1 : Int)) (so : bits .and .i64 (wrap64 ((m : Int) / 2048)) 1 = (o : Int)) (hb : ((m : Int) == 9223372036854775808) = true) (hj0 : E ≤ 52) (hrow : Hid (Go.Pinned.pow10Rows[i]? = some (h, l))) (R : Hid (Row (N i) D1 h l)) (hi6 : i ≤ 672) (hs5 : 5 ≤ s) (hs6 : s < 64) (hE : E ≤ 2200)
    (hsE' : Hid (-((E : Int) - 1137 + ((i : Int) - 348) * 108853 / 32768 + 3) = (s : Int))) (ho : o ≤ 1)
    (hx0 : Hid (x0 < 18446744073709551616 ∧ x0 % 128 = 0 ∧ 2 ≤ x0)) (hx1 : Hid (x1 < 18446744073709551616 ∧ x1 % 128 = 0 ∧ 2 ≤ x1)) (hxm : Hid (m < 18446744073709551616 ∧ m % 128 = 0 ∧ 2 ≤ m))
    (eu0 : Hid (u0 = unr (x0 * N i) (Q1 * 2 ^ s))) (eu1 : Hid (u1 = unr (x1 * N i) (Q1 * 2 ^ s))) (hu0 : u0 ≤ 576460752303423488) (hu1 : u1 ≤ 576460752303423488) (hu1' : 1 ≤ u1)
    (elo : Hid (lo = (u0 + o + 3) / 4)) (ehi : Hid (hi = (u1 - o) / 4)) (um : Nat) (eum : Hid (um = unr (m * N i) (Q1 * 2 ^ s))) (hum : um ≤ 576460752303423488) (er : Hid (r = (um + 1 + um / 4 % 2) / 4)) (hlo : lo ≤ 576460752303423488) (hhi : hi ≤ 576460752303423488)
    (w : World) (hT : PowTab w) (hw : 10 < w.heap.size) :
    Calls Tryz.prog 81 #[.int .u64 m, .int .i64 ((E : Int) - 1137)] w (Short w i lo hi r) := by
  have H10 := log10Pow2_any ((E : Int) - 1137 + 11) (by omega) (by omega) w
  generalize hq : ((E : Int) - 1137 + 11) * 78913 / 262144 = q at H10
  have hq1 : -1000 ≤ q ∧ q ≤ 1000 := by omega
  have hqi : Hid (-q = (i : Int) - 348) := Lib.hid (by have := hij.out; have := hEj.out; unfold l10 at *; omega)
  have hsE : Hid (-((E : Int) - 1137 + -q * 108853 / 32768 + 3) = (s : Int)) := Lib.hid (by rw [hqi.out]; exact hsE'.out)
  clear hq
  go_enter Tryz.func81, Tryz.ntmps81
  go_wp2_with fail
  refine H10.mono ?_
  rintro e w1 ⟨rfl, rfl⟩
  go_wp2_with fail
  refine gen1 (M := fun W => Calls _ _ _ W _) fun W1 hB1 b1 hz1 => ?_
  have hT1 := hT.below hB1 (by omega)
  refine (log2Pow10_any (-q) (by omega) (by omega) W1).mono ?_
  rintro e w2 ⟨rfl, rfl⟩
  have HB := Lib.hid (And.intro hB1 (And.intro hz1 (And.intro hT1 b1)))
  clear hB1 hz1 hT1 b1
  go_wp2_with fail
  refine (prescaleP_any (-q) i h l hqi hrow ((E : Int) - 1137) (-q * 108853 / 32768) (by omega) (by omega) (by omega) (by omega) w1.heap.size _ _ _ w2 HB.out.2.2.1 (by omega) HB.out.2.2.2).mono ?_
  rintro e w3 ⟨rfl, b3, g3, z3⟩
  rw [hsE.out] at b3
  have HB3 := Lib.hid (And.intro (HB.out.1.grown g3 (by have := HB.out.2.1; omega) (fun _ e => by cases e; exact Nat.le_refl _)) b3)
  clear b3 g3 z3 HB
  go_wp2_with fail
  refine (uscaleN_any i h l s x0 w1.heap.size w3 R.out hx0.out.1 hx0.out.2.1 hx0.out.2.2 hs5 hs6 HB3.out.2).mono ?_
  rintro e w4 ⟨rfl, k4, rfl⟩
  rw [← eu0.out]
  go_wp2_with fail
  refine (nudgeUp_any u0 o ho (by omega) _).mono ?_
  rintro e w5 ⟨rfl, rfl⟩
  go_wp2_with fail
  refine (ceil_any (u0 + o) (by omega) _).mono ?_
  rintro e w5 ⟨rfl, rfl⟩
  rw [← elo.out]
  go_wp2_with fail
  refine (uscaleN_any i h l s x1 w1.heap.size _ R.out hx1.out.1 hx1.out.2.1 hx1.out.2.2 hs5 hs6 (HB3.out.2.drewN k4)).mono ?_
  rintro e w5 ⟨rfl, k5, rfl⟩
  rw [← eu1.out]
  go_wp2_with fail
  refine (nudgeDn_any u1 o ho (by omega) (by omega) _).mono ?_
  rintro e w5 ⟨rfl, rfl⟩
  go_wp2_with fail
  refine (floor_any (u1 - o) (by omega) _).mono ?_
  rintro e w5 ⟨rfl, rfl⟩
  rw [← ehi.out]
  by_cases c1 : lo ≤ hi / 10 * 10
  · have c1' : decide ((lo : Int) ≤ (hi : Int) / 10 * 10) = true := by simp; omega
    have hp : Hid (pick lo hi r = (hi / 10, 1)) := Lib.hid (by rw [pick_eq, if_pos c1])
    go_wp2_with fail
    go_ret2
    refine ⟨?_, HB3.out.1.drewN_ _⟩
    rw [hp.out]
    show Ending.returned (.tuple #[.int .u64 ((hi : Int) / 10), .int .i64 (-(-q - 1))]) = _
    rw [show -(-q - 1) = 348 - (i : Int) + ((1 : Nat) : Int) by have := hqi.out; omega]
    rfl
  · have c1' : decide ((lo : Int) ≤ (hi : Int) / 10 * 10) = false := by simp; omega
    by_cases c2 : lo < hi
    · have hp : Hid (pick lo hi r = (r, 0)) := Lib.hid (by rw [pick_eq, if_neg c1, if_pos c2])
      go_wp2_with fail
      refine (uscaleN_any i h l s m w1.heap.size _ R.out hxm.out.1 hxm.out.2.1 hxm.out.2.2 hs5 hs6 (HB3.out.2.drewN (k4 + k5))).mono ?_
      rintro e w5 ⟨rfl, k6, rfl⟩
      rw [← eum.out]
      go_wp2_with fail
      refine (round_any um (by omega) _).mono ?_
      rintro e w5 ⟨rfl, rfl⟩
      rw [← er.out]
      go_wp2_with fail
      go_ret2
      refine ⟨?_, (HB3.out.1.drewN_ _)⟩
      rw [hp.out]
      show Ending.returned (.tuple #[.int .u64 (r : Int), .int .i64 q]) = _
      rw [show q = 348 - (i : Int) + ((0 : Nat) : Int) by have := hqi.out; omega]
    · have hp : Hid (pick lo hi r = (lo, 0)) := Lib.hid (by rw [pick_eq, if_neg c1, if_neg c2])
      go_wp2_with fail
      go_ret2
      refine ⟨?_, HB3.out.1.drewN_ _⟩
      rw [hp.out]
      show Ending.returned (.tuple #[.int .u64 (lo : Int), .int .i64 q]) = _
      rw [show q = 348 - (i : Int) + ((0 : Nat) : Int) by have := hqi.out; omega]
set_option maxRecDepth 10000 in
set_option maxHeartbeats 4000000 in
theorem shortA_walk (i h l s E x0 x1 o u0 u1 lo hi r : Nat) (m j : Nat) (hEj : Hid (E = j + 52)) (hE1 : 52 ≤ E) (hE2 : E ≤ 2097) (hij : Hid (i = 672 - l10s j)) (s0 : IntKind.u64.wrap ((m : Int) - 512) = (x0 : Int)) (s1 : IntKind.u64.wrap ((m : Int) + 1024) = (x1 : Int)) (so : bits .and .i64 (wrap64 ((m : Int) / 2048)) 1 = (o : Int)) (hb : ((m : Int) == 9223372036854775808) = true) (hj0 : 53 ≤ E) (hrow : Hid (Go.Pinned.pow10Rows[i]? = some (h, l))) (R : Hid (Row (N i) D1 h l)) (hi6 : i ≤ 672) (hs5 : 5 ≤ s) (hs6 : s < 64) (hE : E ≤ 2200)
    (hsE' : Hid (-((E : Int) - 1137 + ((i : Int) - 348) * 108853 / 32768 + 3) = (s : Int))) (ho : o ≤ 1)
    (hx0 : Hid (x0 < 18446744073709551616 ∧ x0 % 128 = 0 ∧ 2 ≤ x0)) (hx1 : Hid (x1 < 18446744073709551616 ∧ x1 % 128 = 0 ∧ 2 ≤ x1)) (hxm : Hid (m < 18446744073709551616 ∧ m % 128 = 0 ∧ 2 ≤ m))
    (eu0 : Hid (u0 = unr (x0 * N i) (Q1 * 2 ^ s))) (eu1 : Hid (u1 = unr (x1 * N i) (Q1 * 2 ^ s))) (hu0 : u0 ≤ 576460752303423488) (hu1 : u1 ≤ 576460752303423488) (hu1' : 1 ≤ u1)
    (elo : Hid (lo = (u0 + o + 3) / 4)) (ehi : Hid (hi = (u1 - o) / 4)) (um : Nat) (eum : Hid (um = unr (m * N i) (Q1 * 2 ^ s))) (hum : um ≤ 576460752303423488) (er : Hid (r = (um + 1 + um / 4 % 2) / 4)) (hlo : lo ≤ 576460752303423488) (hhi : hi ≤ 576460752303423488)
    (w : World) (hT : PowTab w) (hw : 10 < w.heap.size) :
    Calls Tryz.prog 81 #[.int .u64 m, .int .i64 ((E : Int) - 1137)] w (Short w i lo hi r) := by
  have H10 := skewed_any ((E : Int) - 1137 + 11) (by omega) (by omega) w
  generalize hq : (((E : Int) - 1137 + 11) * 631305 - 261663) / 2097152 = q at H10
  have hq1 : -1000 ≤ q ∧ q ≤ 1000 := by omega
  have hqi : Hid (-q = (i : Int) - 348) := Lib.hid (by have := hij.out; have := hEj.out; unfold l10s at *; omega)
  have hsE : Hid (-((E : Int) - 1137 + -q * 108853 / 32768 + 3) = (s : Int)) := Lib.hid (by rw [hqi.out]; exact hsE'.out)
  clear hq
  go_enter Tryz.func81, Tryz.ntmps81
  go_wp2_with fail
  refine H10.mono ?_
  rintro e w1 ⟨rfl, rfl⟩
  go_wp2_with fail
  refine gen1 (M := fun W => Calls _ _ _ W _) fun W1 hB1 b1 hz1 => ?_
  have hT1 := hT.below hB1 (by omega)
  refine (log2Pow10_any (-q) (by omega) (by omega) W1).mono ?_
  rintro e w2 ⟨rfl, rfl⟩
  have HB := Lib.hid (And.intro hB1 (And.intro hz1 (And.intro hT1 b1)))
  clear hB1 hz1 hT1 b1
  go_wp2_with fail
  refine (prescaleP_any (-q) i h l hqi hrow ((E : Int) - 1137) (-q * 108853 / 32768) (by omega) (by omega) (by omega) (by omega) w1.heap.size _ _ _ w2 HB.out.2.2.1 (by omega) HB.out.2.2.2).mono ?_
  rintro e w3 ⟨rfl, b3, g3, z3⟩
  rw [hsE.out] at b3
  have HB3 := Lib.hid (And.intro (HB.out.1.grown g3 (by have := HB.out.2.1; omega) (fun _ e => by cases e; exact Nat.le_refl _)) b3)
  clear b3 g3 z3 HB
  go_wp2_with fail
  refine (uscaleN_any i h l s x0 w1.heap.size w3 R.out hx0.out.1 hx0.out.2.1 hx0.out.2.2 hs5 hs6 HB3.out.2).mono ?_
  rintro e w4 ⟨rfl, k4, rfl⟩
  rw [← eu0.out]
  go_wp2_with fail
  refine (nudgeUp_any u0 o ho (by omega) _).mono ?_
  rintro e w5 ⟨rfl, rfl⟩
  go_wp2_with fail
  refine (ceil_any (u0 + o) (by omega) _).mono ?_
  rintro e w5 ⟨rfl, rfl⟩
  rw [← elo.out]
  go_wp2_with fail
  refine (uscaleN_any i h l s x1 w1.heap.size _ R.out hx1.out.1 hx1.out.2.1 hx1.out.2.2 hs5 hs6 (HB3.out.2.drewN k4)).mono ?_
  rintro e w5 ⟨rfl, k5, rfl⟩
  rw [← eu1.out]
  go_wp2_with fail
  refine (nudgeDn_any u1 o ho (by omega) (by omega) _).mono ?_
  rintro e w5 ⟨rfl, rfl⟩
  go_wp2_with fail
  refine (floor_any (u1 - o) (by omega) _).mono ?_
  rintro e w5 ⟨rfl, rfl⟩
  rw [← ehi.out]
  by_cases c1 : lo ≤ hi / 10 * 10
  · have c1' : decide ((lo : Int) ≤ (hi : Int) / 10 * 10) = true := by simp; omega
    have hp : Hid (pick lo hi r = (hi / 10, 1)) := Lib.hid (by rw [pick_eq, if_pos c1])
    go_wp2_with fail
    go_ret2
    refine ⟨?_, HB3.out.1.drewN_ _⟩
    rw [hp.out]
    show Ending.returned (.tuple #[.int .u64 ((hi : Int) / 10), .int .i64 (-(-q - 1))]) = _
    rw [show -(-q - 1) = 348 - (i : Int) + ((1 : Nat) : Int) by have := hqi.out; omega]
    rfl
  · have c1' : decide ((lo : Int) ≤ (hi : Int) / 10 * 10) = false := by simp; omega
    by_cases c2 : lo < hi
    · have hp : Hid (pick lo hi r = (r, 0)) := Lib.hid (by rw [pick_eq, if_neg c1, if_pos c2])
      go_wp2_with fail
      refine (uscaleN_any i h l s m w1.heap.size _ R.out hxm.out.1 hxm.out.2.1 hxm.out.2.2 hs5 hs6 (HB3.out.2.drewN (k4 + k5))).mono ?_
      rintro e w5 ⟨rfl, k6, rfl⟩
      rw [← eum.out]
      go_wp2_with fail
      refine (round_any um (by omega) _).mono ?_
      rintro e w5 ⟨rfl, rfl⟩
      rw [← er.out]
      go_wp2_with fail
      go_ret2
      refine ⟨?_, (HB3.out.1.drewN_ _)⟩
      rw [hp.out]
      show Ending.returned (.tuple #[.int .u64 (r : Int), .int .i64 q]) = _
      rw [show q = 348 - (i : Int) + ((0 : Nat) : Int) by have := hqi.out; omega]
    · have hp : Hid (pick lo hi r = (lo, 0)) := Lib.hid (by rw [pick_eq, if_neg c1, if_neg c2])
      go_wp2_with fail
      go_ret2
      refine ⟨?_, HB3.out.1.drewN_ _⟩
      rw [hp.out]
      show Ending.returned (.tuple #[.int .u64 (lo : Int), .int .i64 q]) = _
      rw [show q = 348 - (i : Int) + ((0 : Nat) : Int) by have := hqi.out; omega]
end Go.Proofs.YtmphnnmnbpheiaaGreatDoor
