/- Comparison of two values of one kind. Conditions: none. -/
import Derived.Test.YtkmeckimmfbkiaaGreatDoorJFin
import Derived.Stop.Asserts
namespace Go.Proofs.YtkmeckimmfbkiaaGreatDoor
open Go Go.RowKit
set_option maxRecDepth 10000 in
theorem intCmp_same (g : Nat) (w : World) : Calls Tryz.prog 114 #[.pointer (some ⟨g, 0, none⟩), .pointer (some ⟨g, 0, none⟩)] w fun e w' => e = .returned (.int .i64 0) ∧ ∃ k, w' = w.drewN k := by
  obtain ⟨i, hi, hi0⟩ := info97
  have hq := run_eq_ptr_same (P := Tryz.prog) (a := ⟨g, 0, none⟩) w Tryz.underlying90 hi hi0
  clear hi hi0
  go_enter Tryz.func114, Tryz.ntmps114
  go_wp2
  go_ret
  exact ⟨rfl, 0, rfl⟩
theorem Reads.same {w : World} {B B' n : Nat} {A : Option Addr} {xs ys : List Value} (h : Reads w B 1 A n xs) (h' : Reads w B' 1 A n ys) : xs = ys := by
  have l1 := h.1
  have l2 := h'.1
  apply List.ext_getElem?
  intro k
  rcases Nat.lt_or_ge k n with hk | hk
  · obtain ⟨ad, u, rfl, _, hu, hc⟩ := h.at_ hk
    obtain ⟨ad', v, e, _, hv, hd⟩ := h'.at_ hk
    cases e
    rw [hu, hv, ← hc, ← hd]
  · rw [List.getElem?_eq_none (by omega), List.getElem?_eq_none (by omega)]
theorem wv_inj : ∀ (l r : List Nat), wv l = wv r → l = r
  | [], [], _ => rfl
  | a :: l, b :: r, h => by
    simp only [wv, List.map_cons, List.cons.injEq, Value.int.injEq, true_and] at h
    rw [wv_inj l r h.2, Int.ofNat_inj.1 h.1]
  | [], b :: r, h => by simp [wv] at h
  | a :: l, [], h => by simp [wv] at h
/-- Integers by their pointers, whether two or one. -/
theorem intCmp_two (gx gy : Nat) (x y : Int) (w : World) (hx : IntAt w w.heap.size gx (decide (x < 0)) x.natAbs) (hy : IntAt w w.heap.size gy (decide (y < 0)) y.natAbs) (hsx : (limbs x.natAbs).length ≤ 2147483000) :
    Calls Tryz.prog 114 #[.pointer (some ⟨gx, 0, none⟩), .pointer (some ⟨gy, 0, none⟩)] w fun e w' => e = .returned (.int .i64 (cmpI x y)) ∧ ∃ k, w' = w.drewN k := by
  have sg : ∀ z : Int, sgn (decide (z < 0)) z.natAbs = z := fun z => by
    by_cases h : z < 0
    · rw [decide_eq_true h, sgn_true]; omega
    · rw [decide_eq_false h, sgn_false]; omega
  by_cases hne : gx = gy
  · subst hne
    have hxy : x = y := by
      obtain ⟨A, c, b1, _, r1, _⟩ := hx
      obtain ⟨D, d, b2, _, r2, _⟩ := hy
      have e := Option.some.inj ((show w.heap[gx]? = _ from b1).symm.trans b2)
      injection e with e1
      have e2 := congrArg Array.toList e1
      simp only [List.cons.injEq, Value.bool.injEq, Value.slice.injEq, and_true] at e2
      obtain ⟨s1, rfl, s2, rfl⟩ := e2
      rw [← s2] at r2
      have hl := congrArg natV (wv_inj _ _ (r1.same r2))
      rw [natV_limbs, natV_limbs] at hl
      have := (decide_eq_decide (p := x < 0) (q := y < 0)).1 s1
      omega
    subst hxy
    have h0 : cmpI x x = 0 := by unfold cmpI; rw [Fl.cmp_eq rfl]; rfl
    rw [h0]
    exact intCmp_same gx w
  · have h := intCmp_any gx gy x.natAbs y.natAbs (decide (x < 0)) (decide (y < 0)) w hx hy hsx hne (fun h => by have := of_decide_eq_true h; omega) (fun h => by have := of_decide_eq_true h; omega)
    rw [sg, sg] at h
    exact h
/-- The bigInt of any integer. -/
def BigOf (w : World) (x : Int) (e : Ending) (w' : World) : Prop := ∃ g, e = .returned (.pointer (some ⟨g, 0, none⟩)) ∧ IntAt w' w'.heap.size g (decide (x < 0)) x.natAbs ∧ Below w.heap.size w w'
theorem bigInt_any (x a : Int) (p : Option Addr) (w : World) (h : SInt w w.heap.size x a p) : Calls Tryz.prog 277 #[.agg #[.int .i64 a, .pointer p]] w (BigOf w x) := by
  rcases h with ⟨rfl, rfl, h1, h2⟩ | ⟨g, rfl, rfl, iz, hx⟩
  · refine (bigInt_small a (by omega) (by omega) w).mono ?_
    rintro e w1 ⟨g, rfl, hg, iz, hB⟩
    exact ⟨g, rfl, iz, hB⟩
  · refine (bigInt_big g 0 w).mono ?_
    rintro e w1 ⟨rfl, hB⟩
    exact ⟨g, rfl, (iz.below hB).more hB.size, hB⟩
set_option maxRecDepth 10000 in
set_option maxHeartbeats 400000 in
theorem intCmpM_small (x y d : Int) (w : World) (h1 : -2147483648 ≤ x) (h2 : x ≤ 2147483647) (h3 : -2147483648 ≤ y) (h4 : y ≤ 2147483647) :
    Calls Tryz.prog 271 #[.agg #[.int .i64 x, .pointer none], .iface 94 (.agg #[.int .i64 y, .pointer none]), .int .i64 d] w fun e w' => e = .returned (.tuple #[.int .i64 (cmpI x y), .nilIface]) ∧ Below w.heap.size w w' := by
  have HT : ∀ w, (Instr.typeAssert (.iface 94 (.agg #[.int .i64 y, .pointer none])) 43 94 false).run Tryz.prog w = .ok (.agg #[.int .i64 y, .pointer none]) w := fun w => by kernel_rfl
  have hw : wrap64 (x - y) = x - y := by unfold wrap64; omega
  have he : cmpI (x - y) 0 = cmpI x y := by
    unfold cmpI
    rcases Int.lt_trichotomy x y with h | h | h
    · rw [Fl.cmp_lt h, Fl.cmp_lt (show x - y < 0 by omega)]
    · rw [Fl.cmp_eq h, Fl.cmp_eq (show x - y = 0 by omega)]
    · rw [Fl.cmp_gt h, Fl.cmp_gt (show 0 < x - y by omega)]
  have HS := fun W => signum64_any (x - y) (by omega) (by omega) W
  rw [he] at HS
  have HS := Lib.hid HS
  clear he
  generalize cmpI x y = R at *
  go_enter Tryz.func271, Tryz.ntmps271
  go_wp2_with fail
  refine gen2 (M := fun W => Calls _ _ _ W _) fun W hB b1 b2 hz => ?_
  refine (get_any _ _ W).mono ?_
  rintro e w1 ⟨rfl, hB1⟩
  have y2 := b2.below hB1 (by omega)
  obtain ⟨k0, k1, z0, z1⟩ := y2.c2
  have hs1 := hB1.size
  have HB := Lib.hid (hB.trans (hB1.mono (by omega)))
  clear hB b1 b2 hB1 y2
  go_wp2_with fail
  refine (get_any _ _ w1).mono ?_
  rintro e w2 ⟨rfl, hB2⟩
  have HB2 := Lib.hid (HB.out.trans (hB2.mono (by omega)))
  clear HB hB2 k0 k1 z0 z1
  go_wp2_with fail
  refine (HS.out w2).mono ?_
  rintro e w3 ⟨rfl, rfl⟩
  go_wp2
  go_ret2
  exact ⟨rfl, HB2.out⟩
set_option maxRecDepth 10000 in
set_option maxHeartbeats 400000 in
theorem intCmpM_big (x y a b d : Int) (p q : Option Addr) (w : World) (hx : SInt w w.heap.size x a p) (hy : SInt w w.heap.size y b q) (hpq : ¬ (p = none ∧ q = none)) (hsx : (limbs x.natAbs).length ≤ 2147483000) :
    Calls Tryz.prog 271 #[.agg #[.int .i64 a, .pointer p], .iface 94 (.agg #[.int .i64 b, .pointer q]), .int .i64 d] w fun e w' => e = .returned (.tuple #[.int .i64 (cmpI x y), .nilIface]) ∧ Below w.heap.size w w' := by
  have HT : ∀ w, (Instr.typeAssert (.iface 94 (.agg #[.int .i64 b, .pointer q])) 43 94 false).run Tryz.prog w = .ok (.agg #[.int .i64 b, .pointer q]) w := fun w => by kernel_rfl
  have HX := Lib.hid (And.intro hx hy)
  have HC : Hid (∀ g g' W, IntAt W W.heap.size g (decide (x < 0)) x.natAbs → IntAt W W.heap.size g' (decide (y < 0)) y.natAbs → Calls Tryz.prog 114 #[.pointer (some ⟨g, 0, none⟩), .pointer (some ⟨g', 0, none⟩)] W fun e w' => e = .returned (.int .i64 (cmpI x y)) ∧ Below W.heap.size W w') :=
    Lib.hid fun g g' W h h' => (intCmp_two g g' x y W h h' hsx).mono fun _ _ ⟨he, k, hk⟩ => ⟨he, by rw [hk]; exact (Below.refl _ _).drewN_ k⟩
  clear hx hy hsx
  generalize cmpI x y = R at *
  cases p with
  | some p0 =>
    clear hpq
    go_enter Tryz.func271, Tryz.ntmps271
    go_wp2_with fail
    refine gen2 (M := fun W => Calls _ _ _ W _) fun W hB b1 b2 hz => ?_
    obtain ⟨g1, hg1⟩ : ∃ g1, g1 = w.heap.size := ⟨_, rfl⟩
    have hwg : w.heap.size ≤ g1 := by omega
    have hlt := b2.lt
    rw [← hg1] at b1 b2 hlt ⊢
    clear hg1
    refine (get_any _ _ W).mono ?_
    rintro e w1 ⟨rfl, hB1⟩
    have y1 := b1.below hB1 (by omega)
    have y2 := b2.below hB1 (by omega)
    obtain ⟨k0, k1, z0, z1⟩ := y2.c2
    have hs1 := hB1.size
    have HB := Lib.hid (hB.trans (hB1.mono (by omega)))
    have HY := Lib.hid (And.intro y1 y2)
    clear hB b1 b2 hB1 y1 y2
    go_wp2_with fail
    refine (get_any _ _ w1).mono ?_
    rintro e w2 ⟨rfl, hB2⟩
    have y1 := HY.out.1.below hB2 (by omega)
    have y2 := HY.out.2.below hB2 (by omega)
    have hs2 := hB2.size
    have HB2 := Lib.hid (HB.out.trans (hB2.mono (by omega)))
    have HY2 := Lib.hid (And.intro y1 y2)
    clear HB HY hB2 k0 k1 z0 z1
    have x2 : SInt w2.drew w2.drew.heap.size x a (some p0) := (HX.out.1.below HB2.out.drew).more HB2.out.size
    obtain ⟨k0, k1, _, _⟩ := y1.c2
    obtain ⟨k2, k3, _, _⟩ := y2.c2
    clear y1 y2
    go_wp2_with fail
    go_region_held3 (fun w' => w'.cell? ⟨g1, 0, none⟩ = some (.int .i64 a) ∧ w'.cell? ⟨g1, 1, none⟩ = some (.pointer (some p0)) ∧ w'.cell? ⟨g1 + 1, 0, none⟩ = some (.int .i64 b) ∧ w'.cell? ⟨g1 + 1, 1, none⟩ = some (.pointer q))
      (exact ⟨k0, k1, k2, k3⟩)
      ((first
        | (go_at_call 277; with_reducible refine (bigInt_any x a _ w2.drew x2).mono ?_
           rintro e w3 ⟨g, rfl, ig, hB3⟩
           have hB3 : Below w2.heap.size w2 w3 := ⟨hB3.os, hB3.tape, hB3.output, hB3.size, hB3.block⟩
           have y1 := HY2.out.1.below hB3 (by omega)
           have y2 := HY2.out.2.below hB3 (by omega)
           obtain ⟨k0, k1, _, _⟩ := y1.c2
           obtain ⟨k2, k3, _, _⟩ := y2.c2
           have hs3 := hB3.size
           have HB3 := Lib.hid (HB2.out.trans (hB3.mono (by omega)))
           have HY3 := Lib.hid (And.intro y1 y2)
           have IG := Lib.hid ig
           have y3 : SInt w3 w3.heap.size y b q := (HX.out.2.below HB3.out).more HB3.out.size
           clear hB3 ig y1 y2)
        | (go_at_call 277; with_reducible refine (bigInt_any y b _ w3 y3).mono ?_
           rintro e w4 ⟨g4, rfl, ig4, hB4⟩
           have y1 := HY3.out.1.below hB4 (by omega)
           have y2 := HY3.out.2.below hB4 (by omega)
           obtain ⟨k0, k1, _, _⟩ := y1.c2
           obtain ⟨k2, k3, _, _⟩ := y2.c2
           have hs4 := hB4.size
           have HB4 := Lib.hid (HB3.out.trans (hB4.mono (by omega)))
           have IG4 := Lib.hid (And.intro ((IG.out.below hB4).more hs4) ig4)
           have HY4 := Lib.hid (And.intro y1 y2)
           clear hB4 ig4 y1 y2)
        | (go_at_call 114; refine (HC.out g g4 w4 IG4.out.1 IG4.out.2).mono ?_
           rintro e w5 ⟨rfl, hB5⟩
           have y1 := HY4.out.1.below hB5 (by omega)
           have y2 := HY4.out.2.below hB5 (by omega)
           obtain ⟨k0, k1, _, _⟩ := y1.c2
           obtain ⟨k2, k3, _, _⟩ := y2.c2
           have hs5 := hB5.size
           have HB5 := Lib.hid (HB4.out.trans (hB5.mono (by omega)))
           clear hB5 y1 y2)))
    go_wp2
    go_ret2
    exact ⟨rfl, HB5.out⟩
  | none =>
    cases q with
    | none => exact absurd ⟨rfl, rfl⟩ hpq
    | some q0 =>
      clear hpq
      go_enter Tryz.func271, Tryz.ntmps271
      go_wp2_with fail
      refine gen2 (M := fun W => Calls _ _ _ W _) fun W hB b1 b2 hz => ?_
      obtain ⟨g1, hg1⟩ : ∃ g1, g1 = w.heap.size := ⟨_, rfl⟩
      have hwg : w.heap.size ≤ g1 := by omega
      have hlt := b2.lt
      rw [← hg1] at b1 b2 hlt ⊢
      clear hg1
      refine (get_any _ _ W).mono ?_
      rintro e w1 ⟨rfl, hB1⟩
      have y1 := b1.below hB1 (by omega)
      have y2 := b2.below hB1 (by omega)
      obtain ⟨k0, k1, z0, z1⟩ := y2.c2
      have hs1 := hB1.size
      have HB := Lib.hid (hB.trans (hB1.mono (by omega)))
      have HY := Lib.hid (And.intro y1 y2)
      clear hB b1 b2 hB1 y1 y2
      go_wp2_with fail
      refine (get_any _ _ w1).mono ?_
      rintro e w2 ⟨rfl, hB2⟩
      have y1 := HY.out.1.below hB2 (by omega)
      have y2 := HY.out.2.below hB2 (by omega)
      have hs2 := hB2.size
      have HB2 := Lib.hid (HB.out.trans (hB2.mono (by omega)))
      have HY2 := Lib.hid (And.intro y1 y2)
      clear HB HY hB2 k0 k1 z0 z1
      have x2 : SInt w2.drew w2.drew.heap.size x a none := (HX.out.1.below HB2.out.drew).more HB2.out.size
      obtain ⟨k0, k1, _, _⟩ := y1.c2
      obtain ⟨k2, k3, _, _⟩ := y2.c2
      clear y1 y2
      go_wp2_with fail
      go_region_held3 (fun w' => w'.cell? ⟨g1, 0, none⟩ = some (.int .i64 a) ∧ w'.cell? ⟨g1, 1, none⟩ = some (.pointer none) ∧ w'.cell? ⟨g1 + 1, 0, none⟩ = some (.int .i64 b) ∧ w'.cell? ⟨g1 + 1, 1, none⟩ = some (.pointer (some q0)))
        (exact ⟨k0, k1, k2, k3⟩)
        ((first
          | (go_at_call 277; with_reducible refine (bigInt_any x a _ w2.drew x2).mono ?_
             rintro e w3 ⟨g, rfl, ig, hB3⟩
             have hB3 : Below w2.heap.size w2 w3 := ⟨hB3.os, hB3.tape, hB3.output, hB3.size, hB3.block⟩
             have y1 := HY2.out.1.below hB3 (by omega)
             have y2 := HY2.out.2.below hB3 (by omega)
             obtain ⟨k0, k1, _, _⟩ := y1.c2
             obtain ⟨k2, k3, _, _⟩ := y2.c2
             have hs3 := hB3.size
             have HB3 := Lib.hid (HB2.out.trans (hB3.mono (by omega)))
             have HY3 := Lib.hid (And.intro y1 y2)
             have IG := Lib.hid ig
             have y3 : SInt w3 w3.heap.size y b (some q0) := (HX.out.2.below HB3.out).more HB3.out.size
             clear hB3 ig y1 y2)
          | (go_at_call 277; with_reducible refine (bigInt_any y b _ w3 y3).mono ?_
             rintro e w4 ⟨g4, rfl, ig4, hB4⟩
             have y1 := HY3.out.1.below hB4 (by omega)
             have y2 := HY3.out.2.below hB4 (by omega)
             obtain ⟨k0, k1, _, _⟩ := y1.c2
             obtain ⟨k2, k3, _, _⟩ := y2.c2
             have hs4 := hB4.size
             have HB4 := Lib.hid (HB3.out.trans (hB4.mono (by omega)))
             have IG4 := Lib.hid (And.intro ((IG.out.below hB4).more hs4) ig4)
             have HY4 := Lib.hid (And.intro y1 y2)
             clear hB4 ig4 y1 y2)
          | (go_at_call 114; refine (HC.out g g4 w4 IG4.out.1 IG4.out.2).mono ?_
             rintro e w5 ⟨rfl, hB5⟩
             have y1 := HY4.out.1.below hB5 (by omega)
             have y2 := HY4.out.2.below hB5 (by omega)
             obtain ⟨k0, k1, _, _⟩ := y1.c2
             obtain ⟨k2, k3, _, _⟩ := y2.c2
             have hs5 := hB5.size
             have HB5 := Lib.hid (HB4.out.trans (hB5.mono (by omega)))
             clear hB5 y1 y2)))
      go_wp2
      go_ret2
      exact ⟨rfl, HB5.out⟩
end Go.Proofs.YtkmeckimmfbkiaaGreatDoor
namespace Go.Proofs.YtkmeckimmfbkiaaGreatDoor
open Go Go.RowKit
/-- A new quotient. -/
def NewR (w : World) (x : Int) (e : Ending) (w' : World) : Prop := ∃ g, e = .returned (.pointer (some ⟨g, 0, none⟩)) ∧ w.heap.size ≤ g ∧ RatAt w' w'.heap.size g (decide (x < 0)) x.natAbs 1 ∧ Below w.heap.size w w'
set_option maxRecDepth 10000 in
theorem intRat_small (x : Int) (h1 : -2147483648 ≤ x) (h2 : x ≤ 2147483647) (w : World) : Calls Tryz.prog 103 #[.agg #[.int .i64 x, .pointer none]] w (NewR w x) := by
  have HC := Lib.hid fun g W hb => ratSetInt64_any g x (by omega) (by omega) W hb
  unfold NewR
  generalize x.natAbs = m at *
  generalize decide (x < 0) = neg at *
  clear h1 h2
  go_enter Tryz.func103, Tryz.ntmps103
  go_wp2_with fail
  refine gen1 (M := fun W => Calls _ _ _ W _) fun W hB bk hz => ?_
  refine (get_any _ _ W).mono ?_
  rintro e w1 ⟨rfl, hB1⟩
  have HB := Lib.hid (hB.trans (hB1.mono (by omega)))
  clear hB bk hz hB1
  go_wp2_with fail
  refine gen1 (M := fun W => Calls _ _ _ W _) fun W2 hB2 bk2 hz2 => ?_
  refine (HC.out _ W2 bk2).mono ?_
  rintro e w2 ⟨rfl, hr, hg⟩
  have hs := HB.out.size
  have hB3 : Below w.heap.size w w2 := (HB.out.trans (hB2.mono hs)).grown hg (by omega) (fun k e => by cases e; exact hs)
  have H3 := Lib.hid (And.intro hr hB3)
  clear hr hB3 hg bk2 hB2 HB
  go_wp2
  go_ret
  exact ⟨_, rfl, hs, H3.out.1, H3.out.2⟩
set_option maxRecDepth 10000 in
theorem intRat_big (x : Int) (g : Nat) (w : World) (hx : IntAt w w.heap.size g (decide (x < 0)) x.natAbs) (hs : (limbs x.natAbs).length ≤ 2147483640) : Calls Tryz.prog 103 #[.agg #[.int .i64 0, .pointer (some ⟨g, 0, none⟩)]] w (NewR w x) := by
  have hgl : g < w.heap.size := by obtain ⟨_, _, b, _⟩ := hx; exact b.lt
  have HC := Lib.hid fun g' W (hx : IntAt W W.heap.size g (decide (x < 0)) x.natAbs) hne hb => ratSetInt_any g' g x.natAbs (decide (x < 0)) W hx hs hne hb
  have HX := Lib.hid hx
  clear hx hs
  unfold NewR
  generalize x.natAbs = m at *
  generalize decide (x < 0) = neg at *
  go_enter Tryz.func103, Tryz.ntmps103
  go_wp2_with fail
  refine gen1 (M := fun W => Calls _ _ _ W _) fun W hB bk hz => ?_
  refine (get_any _ _ W).mono ?_
  rintro e w1 ⟨rfl, hB1⟩
  have HB := Lib.hid (hB.trans (hB1.mono (by omega)))
  clear hB bk hz hB1
  go_wp2_with fail
  refine gen1 (M := fun W => Calls _ _ _ W _) fun W2 hB2 bk2 hz2 => ?_
  have hs := HB.out.size
  have hs2 := hB2.size
  refine (HC.out _ W2 ((HX.out.below (HB.out.trans (hB2.mono hs))).more (by omega)) (by omega) bk2).mono ?_
  rintro e w2 ⟨rfl, hr, hg⟩
  have hB3 : Below w.heap.size w w2 := (HB.out.trans (hB2.mono hs)).grown hg (by omega) (fun k e => by cases e; exact hs)
  have H3 := Lib.hid (And.intro hr hB3)
  clear hr hB3 hg bk2 hB2 HB
  go_wp2
  go_ret
  exact ⟨_, rfl, hs, H3.out.1, H3.out.2⟩
theorem intRat_any (x a : Int) (p : Option Addr) (w : World) (h : SInt w w.heap.size x a p) (hs : (limbs x.natAbs).length ≤ 2147483640) : Calls Tryz.prog 103 #[.agg #[.int .i64 a, .pointer p]] w (NewR w x) := by
  rcases h with ⟨rfl, rfl, h1, h2⟩ | ⟨g, rfl, rfl, iz, hx⟩
  · exact intRat_small a h1 h2 w
  · exact intRat_big x g w iz hs
set_option maxRecDepth 10000 in
theorem b2i_any (b : Bool) (w : World) : Calls Tryz.prog 269 #[.bool b] w fun e w' => e = .returned (.int .i64 (if b then 1 else 0)) ∧ w' = w := by
  cases b
  all_goals
    go_enter Tryz.func269, Tryz.ntmps269
    go_wp2
    go_ret
    exact ⟨rfl, rfl⟩
theorem compareBytes_zero : ∀ (l r : List UInt8), Lib.compareBytes l r = 0 ↔ l = r
  | [], [] => by simp [Lib.compareBytes]
  | [], b :: r => by simp [Lib.compareBytes]
  | a :: l, [] => by simp [Lib.compareBytes]
  | a :: l, b :: r => by
    simp only [Lib.compareBytes]
    by_cases h1 : a < b
    · rw [if_pos h1]
      have : a ≠ b := by intro e; subst e; exact absurd h1 (UInt8.lt_irrefl a)
      simp [this]
    · rw [if_neg h1]
      by_cases h2 : b < a
      · rw [if_pos h2]
        have : a ≠ b := by intro e; subst e; exact absurd h2 (UInt8.lt_irrefl a)
        simp [this]
      · rw [if_neg h2, compareBytes_zero l r]
        have : a = b := UInt8.le_antisymm (UInt8.not_lt.1 h2) (UInt8.not_lt.1 h1)
        simp [this]
theorem strCompare_any (a b : ByteArray) (w : World) : Calls Tryz.prog 299 #[.string a, .string b] w fun e w' => (∃ k : Int, e = .returned (.int .i64 k) ∧ (decide (k = 0)) = decide (a = b)) ∧ w' = w := by
  refine (Go.Proofs.Tryz.strings_Compare a b w).mono ?_
  rintro e w1 ⟨rfl, rfl⟩
  refine ⟨⟨_, rfl, ?_⟩, rfl⟩
  rw [decide_eq_decide, compareBytes_zero]
  constructor
  · intro h
    have h2 : a.data = b.data := Array.toList_inj.1 h
    cases a; cases b; simpa using h2
  · rintro rfl; rfl
/-- Bool.CompareSameType, asked for ==. -/
theorem boolCmp_any (a b : Bool) (d : Int) (w : World) : Calls Tryz.prog 263 #[.bool a, .int .i8 37, .iface 89 (.bool b), .int .i64 d] w fun e w' => e = .returned (.tuple #[.bool (a == b), .nilIface]) ∧ w' = w := by
  have HT : ∀ w, (Instr.typeAssert (.iface 89 (.bool b)) 43 89 false).run Tryz.prog w = .ok (.bool b) w := fun w => by kernel_rfl
  have hk : decide ((if a then (1 : Int) else 0) - (if b then 1 else 0) = 0) = (a == b) := by cases a <;> cases b <;> rfl
  have hw : wrap64 ((if a then (1 : Int) else 0) - (if b then 1 else 0)) = (if a then (1 : Int) else 0) - (if b then 1 else 0) := by unfold wrap64; cases a <;> cases b <;> simp
  have H1 := Lib.hid (b2i_any a w)
  have H2 := Lib.hid (b2i_any b w)
  have H3 := Lib.hid (threeway_eql ((if a then (1 : Int) else 0) - (if b then 1 else 0)) w)
  rw [hk] at H3
  generalize (a == b) = R at *
  generalize (if a then (1 : Int) else 0) = x at *
  generalize (if b then (1 : Int) else 0) = y at *
  clear hk
  go_enter Tryz.func263, Tryz.ntmps263
  go_wp2_with fail
  refine H1.out.mono ?_
  rintro e w1 ⟨rfl, rfl⟩
  go_wp2_with fail
  refine H2.out.mono ?_
  rintro e w2 ⟨rfl, rfl⟩
  go_wp2_with fail
  refine H3.out.mono ?_
  rintro e w3 ⟨rfl, rfl⟩
  go_wp2
  go_ret2
  exact ⟨rfl, rfl⟩
set_option maxRecDepth 10000 in
theorem strCmp_any (a b : ByteArray) (d : Int) (w : World) : Calls Tryz.prog 292 #[.string a, .int .i8 37, .iface 98 (.string b), .int .i64 d] w fun e w' => e = .returned (.tuple #[.bool (decide (a = b)), .nilIface]) ∧ w' = w := by
  have HT : ∀ w, (Instr.typeAssert (.iface 98 (.string b)) 43 98 false).run Tryz.prog w = .ok (.string b) w := fun w => by kernel_rfl
  have HC := Lib.hid (strCompare_any a b w)
  generalize decide (a = b) = R at *
  go_enter Tryz.func292, Tryz.ntmps292
  go_wp2_with fail
  refine HC.out.mono ?_
  rintro e w1 ⟨⟨k, rfl, hk⟩, rfl⟩
  have H3 := Lib.hid (threeway_eql k w1)
  rw [hk] at H3
  clear hk HC
  go_wp2_with fail
  refine H3.out.mono ?_
  rintro e w3 ⟨rfl, rfl⟩
  go_wp2
  go_ret2
  exact ⟨rfl, rfl⟩
set_option maxRecDepth 10000 in
theorem bytesCmp_any (a b : ByteArray) (d : Int) (w : World) : Calls Tryz.prog 306 #[.string a, .int .i8 37, .iface 99 (.string b), .int .i64 d] w fun e w' => e = .returned (.tuple #[.bool (decide (a = b)), .nilIface]) ∧ w' = w := by
  have HT : ∀ w, (Instr.typeAssert (.iface 99 (.string b)) 43 99 false).run Tryz.prog w = .ok (.string b) w := fun w => by kernel_rfl
  have HC := Lib.hid (strCompare_any a b w)
  generalize decide (a = b) = R at *
  go_enter Tryz.func306, Tryz.ntmps306
  go_wp2_with fail
  refine HC.out.mono ?_
  rintro e w1 ⟨⟨k, rfl, hk⟩, rfl⟩
  have H3 := Lib.hid (threeway_eql k w1)
  rw [hk] at H3
  clear hk HC
  go_wp2_with fail
  refine H3.out.mono ?_
  rintro e w3 ⟨rfl, rfl⟩
  go_wp2
  go_ret2
  exact ⟨rfl, rfl⟩
end Go.Proofs.YtkmeckimmfbkiaaGreatDoor
namespace Go.Proofs.YtkmeckimmfbkiaaGreatDoor
open Go Go.RowKit
theorem notCmp_none (v : Value) (w : World) : (Instr.typeAssert (.iface 88 v) 43 179 true).run Tryz.prog w = .ok (.tuple #[.nilIface, .bool false]) w := run_typeAssert_lacksB Tryz.underlying179 (by kernel_rfl) (by kernel_rfl) v _ w
theorem notOrd_none (v : Value) (w : World) : (Instr.typeAssert (.iface 88 v) 43 183 true).run Tryz.prog w = .ok (.tuple #[.nilIface, .bool false]) w := run_typeAssert_lacksB Tryz.underlying183 (by kernel_rfl) (by kernel_rfl) v _ w
theorem notCmp_int (v : Value) (w : World) : (Instr.typeAssert (.iface 94 v) 43 179 true).run Tryz.prog w = .ok (.tuple #[.nilIface, .bool false]) w := run_typeAssert_lacksB Tryz.underlying179 (by kernel_rfl) (by kernel_rfl) v _ w
theorem isOrd_int (v : Value) (w : World) : (Instr.typeAssert (.iface 94 v) 43 183 true).run Tryz.prog w = .ok (.tuple #[.iface 94 v, .bool true]) w := run_typeAssert_hasB Tryz.underlying183 (by kernel_rfl) v _ w
theorem notCmp_float (v : Value) (w : World) : (Instr.typeAssert (.iface 96 v) 43 179 true).run Tryz.prog w = .ok (.tuple #[.nilIface, .bool false]) w := run_typeAssert_lacksB Tryz.underlying179 (by kernel_rfl) (by kernel_rfl) v _ w
theorem isOrd_float (v : Value) (w : World) : (Instr.typeAssert (.iface 96 v) 43 183 true).run Tryz.prog w = .ok (.tuple #[.iface 96 v, .bool true]) w := run_typeAssert_hasB Tryz.underlying183 (by kernel_rfl) v _ w
theorem isCmp_bool (v : Value) (w : World) : (Instr.typeAssert (.iface 89 v) 43 179 true).run Tryz.prog w = .ok (.tuple #[.iface 89 v, .bool true]) w := run_typeAssert_hasB Tryz.underlying179 (by kernel_rfl) v _ w
theorem isCmp_str (v : Value) (w : World) : (Instr.typeAssert (.iface 98 v) 43 179 true).run Tryz.prog w = .ok (.tuple #[.iface 98 v, .bool true]) w := run_typeAssert_hasB Tryz.underlying179 (by kernel_rfl) v _ w
theorem isCmp_bytes (v : Value) (w : World) : (Instr.typeAssert (.iface 99 v) 43 179 true).run Tryz.prog w = .ok (.tuple #[.iface 99 v, .bool true]) w := run_typeAssert_hasB Tryz.underlying179 (by kernel_rfl) v _ w
theorem isCmp_tuple (v : Value) (w : World) : (Instr.typeAssert (.iface 73 v) 43 179 true).run Tryz.prog w = .ok (.tuple #[.iface 73 v, .bool true]) w := run_typeAssert_hasB Tryz.underlying179 (by kernel_rfl) v _ w
/-- What a comparison for == answers. -/
def Eqd (w : World) (R : Bool) (e : Ending) (w' : World) : Prop := e = .returned (.tuple #[.bool R, .nilIface]) ∧ Below w.heap.size w w'
def SameT (w : World) (u v : Value) (R : Bool) : Prop := Calls Tryz.prog 101 #[u, v] w fun e w' => e = .returned (.bool R) ∧ Below w.heap.size w w'
set_option maxRecDepth 10000 in
set_option maxHeartbeats 400000 in
theorem depth_comparable (u v : Value) (f : FuncId) (r : Value) (d : Nat) (R : Bool) (w : World) (hd : 1 ≤ d) (h : HasM u "CompareSameType" f r)
    (ht : ∀ w, (Instr.typeAssert u 43 179 true).run Tryz.prog w = .ok (.tuple #[u, .bool true]) w) (hs : SameT w u v true)
    (hc : ∀ W, Below w.heap.size w W → Calls Tryz.prog f #[r, .int .i8 37, v, .int .i64 d] W (Eqd W R)) :
    Calls Tryz.prog 97 #[.int .i8 37, u, v, .int .i64 d] w (Eqd w R) := by
  obtain ⟨t1, x1, rfl, m1, q1⟩ := h
  have HS := Lib.hid hs
  have HC := Lib.hid hc
  have hd1 : ¬ (d : Int) < 1 := by omega
  clear hs hc
  go_enter Tryz.func97, Tryz.ntmps97
  go_wp2_with fail
  refine HS.out.mono ?_
  rintro e w1 ⟨rfl, hB⟩
  have HB := Lib.hid hB
  clear hB HS
  go_wp2_with fail
  refine (HC.out w1 HB.out).mono ?_
  rintro e w2 ⟨rfl, hB2⟩
  have HB2 := Lib.hid (HB.out.trans (hB2.mono HB.out.size))
  clear hB2 HB HC
  go_wp2
  go_ret2
  exact ⟨rfl, HB2.out⟩
set_option maxRecDepth 10000 in
set_option maxHeartbeats 400000 in
theorem depth_ordered (u v : Value) (f : FuncId) (r : Value) (d : Nat) (k : Int) (w : World) (hd : 1 ≤ d) (h : HasM u "Cmp" f r)
    (hn : ∀ w, (Instr.typeAssert u 43 179 true).run Tryz.prog w = .ok (.tuple #[.nilIface, .bool false]) w) (ht : ∀ w, (Instr.typeAssert u 43 183 true).run Tryz.prog w = .ok (.tuple #[u, .bool true]) w) (hs : SameT w u v true)
    (hc : ∀ W, Below w.heap.size w W → Calls Tryz.prog f #[r, v, .int .i64 d] W fun e w' => e = .returned (.tuple #[.int .i64 k, .nilIface]) ∧ Below W.heap.size W w') :
    Calls Tryz.prog 97 #[.int .i8 37, u, v, .int .i64 d] w (Eqd w (decide (k = 0))) := by
  obtain ⟨t1, x1, rfl, m1, q1⟩ := h
  have HS := Lib.hid hs
  have HC := Lib.hid hc
  have HT := Lib.hid fun W => threeway_eql k W
  have hd1 : ¬ (d : Int) < 1 := by omega
  clear hs hc
  generalize decide (k = 0) = R at *
  go_enter Tryz.func97, Tryz.ntmps97
  go_wp2_with fail
  refine HS.out.mono ?_
  rintro e w1 ⟨rfl, hB⟩
  have HB := Lib.hid hB
  clear hB HS
  go_wp2_with fail
  refine (HC.out w1 HB.out).mono ?_
  rintro e w2 ⟨rfl, hB2⟩
  have HB2 := Lib.hid (HB.out.trans (hB2.mono HB.out.size))
  clear hB2 HB HC
  go_wp2_with fail
  refine (HT.out w2).mono ?_
  rintro e w3 ⟨rfl, rfl⟩
  go_wp2
  go_ret2
  exact ⟨rfl, HB2.out⟩
set_option maxRecDepth 10000 in
set_option maxHeartbeats 400000 in
theorem depth_none (d : Nat) (w : World) (hd : 1 ≤ d) (hs : SameT w (.iface 88 (.int .u8 0)) (.iface 88 (.int .u8 0)) true) :
    Calls Tryz.prog 97 #[.int .i8 37, .iface 88 (.int .u8 0), .iface 88 (.int .u8 0), .int .i64 d] w (Eqd w true) := by
  have hn := notCmp_none (.int .u8 0)
  have ht := notOrd_none (.int .u8 0)
  have he : ∀ w, (binOp .eql 43 (.iface 88 (.int .u8 0)) (.iface 88 (.int .u8 0))).run Tryz.prog w = .ok (.bool true) w := fun w => by kernel_rfl
  have HS := Lib.hid hs
  have hd1 : ¬ (d : Int) < 1 := by omega
  clear hs
  go_enter Tryz.func97, Tryz.ntmps97
  go_wp2_with fail
  refine HS.out.mono ?_
  rintro e w1 ⟨rfl, hB⟩
  have HB := Lib.hid hB
  clear hB HS
  go_wp2_with fail
  go_ret2
  exact ⟨rfl, HB.out⟩
set_option maxRecDepth 10000 in
set_option maxHeartbeats 400000 in
theorem depth_other (u v z1 z2 : Value) (d : Nat) (w : World) (hd : 1 ≤ d)
    (h1 : ∀ w, (Instr.typeAssert u 43 94 true).run Tryz.prog w = .ok (.tuple #[z1, .bool false]) w) (h2 : ∀ w, (Instr.typeAssert u 43 96 true).run Tryz.prog w = .ok (.tuple #[z2, .bool false]) w) (hs : SameT w u v false) :
    Calls Tryz.prog 97 #[.int .i8 37, u, v, .int .i64 d] w (Eqd w false) := by
  have HS := Lib.hid hs
  have hd1 : ¬ (d : Int) < 1 := by omega
  clear hs
  go_enter Tryz.func97, Tryz.ntmps97
  go_wp2_with fail
  refine HS.out.mono ?_
  rintro e w1 ⟨rfl, hB⟩
  have HB := Lib.hid hB
  clear hB HS
  go_wp2_with fail
  go_ret2
  exact ⟨rfl, HB.out⟩
set_option maxRecDepth 10000 in
set_option maxHeartbeats 400000 in
theorem depth_int_other (a : Int) (p : Option Addr) (v : Value) (d : Nat) (w : World) (hd : 1 ≤ d)
    (h2 : ∀ w, (Instr.typeAssert v 43 96 true).run Tryz.prog w = .ok (.tuple #[.float .f64 0, .bool false]) w) (hs : SameT w (.iface 94 (.agg #[.int .i64 a, .pointer p])) v false) :
    Calls Tryz.prog 97 #[.int .i8 37, .iface 94 (.agg #[.int .i64 a, .pointer p]), v, .int .i64 d] w (Eqd w false) := by
  have h1 : ∀ w, (Instr.typeAssert (.iface 94 (.agg #[.int .i64 a, .pointer p])) 43 94 true).run Tryz.prog w = .ok (.tuple #[.agg #[.int .i64 a, .pointer p], .bool true]) w := fun w => by kernel_rfl
  have HS := Lib.hid hs
  have hd1 : ¬ (d : Int) < 1 := by omega
  clear hs
  go_enter Tryz.func97, Tryz.ntmps97
  go_wp2_with fail
  refine HS.out.mono ?_
  rintro e w1 ⟨rfl, hB⟩
  have HB := Lib.hid hB
  clear hB HS
  go_wp2_with fail
  refine gen1 (M := fun W => bodyPost _ _ _ _ _ W) fun W hB b hz => ?_
  go_ret2
  exact ⟨rfl, HB.out.trans (hB.mono HB.out.size)⟩
set_option maxRecDepth 10000 in
set_option maxHeartbeats 400000 in
theorem depth_float_other (b : Nat) (v : Value) (d : Nat) (w : World) (hd : 1 ≤ d)
    (h2 : ∀ w, (Instr.typeAssert v 43 94 true).run Tryz.prog w = .ok (.tuple #[.agg #[.int .i64 0, .pointer none], .bool false]) w) (hs : SameT w (.iface 96 (.float .f64 b)) v false) :
    Calls Tryz.prog 97 #[.int .i8 37, .iface 96 (.float .f64 b), v, .int .i64 d] w (Eqd w false) := by
  have h0 : ∀ w, (Instr.typeAssert (.iface 96 (.float .f64 b)) 43 94 true).run Tryz.prog w = .ok (.tuple #[.agg #[.int .i64 0, .pointer none], .bool false]) w := fun w => by kernel_rfl
  have h1 : ∀ w, (Instr.typeAssert (.iface 96 (.float .f64 b)) 43 96 true).run Tryz.prog w = .ok (.tuple #[.float .f64 b, .bool true]) w := fun w => by kernel_rfl
  have HS := Lib.hid hs
  have hd1 : ¬ (d : Int) < 1 := by omega
  clear hs
  go_enter Tryz.func97, Tryz.ntmps97
  go_wp2_with fail
  refine HS.out.mono ?_
  rintro e w1 ⟨rfl, hB⟩
  have HB := Lib.hid hB
  clear hB HS
  go_wp2_with fail
  refine gen1 (M := fun W => bodyPost _ _ _ _ _ W) fun W hB b hz => ?_
  go_ret2
  exact ⟨rfl, HB.out.trans (hB.mono HB.out.size)⟩
end Go.Proofs.YtkmeckimmfbkiaaGreatDoor
namespace Go.Proofs.YtkmeckimmfbkiaaGreatDoor
open Go Go.RowKit
open Fl
theorem sgn_mul (n : Bool) (a b : Nat) : sgn n (a * b) = sgn n a * b := by cases n <;> simp [sgn, Int.neg_mul]
theorem sgn_abs (z : Int) : sgn (decide (z < 0)) z.natAbs = z := by
  by_cases h : z < 0
  · rw [decide_eq_true h, sgn_true]; omega
  · rw [decide_eq_false h, sgn_false]; omega
theorem cmpI_zero (a b : Int) : cmpI a b = 0 ↔ a = b := by
  unfold cmpI
  rw [ordI_zero]
  rcases Int.lt_trichotomy a b with h | h | h
  · rw [Fl.cmp_lt h]; constructor <;> intro e <;> first | (cases e; done) | omega
  · subst h; simp
  · rw [Fl.cmp_gt h]; constructor <;> intro e <;> first | (cases e; done) | omega
theorem sv_abs (n : Bool) (r : Nat) : (sv n r).natAbs = fv r := by cases n <;> simp [sv]
theorem cross_zero (t : Nat) (hU : unitF = 2 ^ t) (x : Int) (g c dd : Nat) (hf : g % 2 ^ 63 < 2047 * 2 ^ 52) (h : c * 2 ^ t = fv (g % 2 ^ 63) * dd) (hd : 0 < dd) :
    sgn (decide (x < 0)) (x.natAbs * dd) = sgn (decide (sv (decide (2 ^ 63 ≤ g)) (g % 2 ^ 63) < 0)) (c * 1) ↔ W.num (x * unitF) = wf g := by
  rw [wf_num hf, sgn_mul, sgn_abs, Nat.mul_one, W.num.injEq]
  generalize hV : sv (decide (2 ^ 63 ≤ g)) (g % 2 ^ 63) = V
  have hVa : V.natAbs = fv (g % 2 ^ 63) := by rw [← hV, sv_abs]
  rw [← hVa] at h
  have hA : sgn (decide (V < 0)) c * unitF = V * dd := by
    rw [hU]
    have := congrArg (fun z : Nat => sgn (decide (V < 0)) z) h
    simp only [sgn_mul, sgn_abs] at this
    rw [← this, Int.natCast_pow]; rfl
  have hUp := U_pos
  have hd' : (0 : Int) < dd := by omega
  have hx := cross_cmp x _ V dd unitF hd' hUp hA
  constructor
  · intro e
    rw [e, Fl.cmp_eq rfl] at hx
    rcases Int.lt_trichotomy (x * unitF) V with h | h | h
    · rw [Fl.cmp_lt h] at hx; cases hx
    · exact h
    · rw [Fl.cmp_gt h] at hx; cases hx
  · intro e
    rw [Fl.cmp_eq e] at hx
    rcases Int.lt_trichotomy (x * dd) (sgn (decide (V < 0)) c) with h | h | h
    · rw [Fl.cmp_lt h] at hx; cases hx
    · exact h
    · rw [Fl.cmp_gt h] at hx; cases hx
set_option maxRecDepth 10000 in
theorem isInf_zero (b : Nat) (hb : b < 2 ^ 64) (w : World) : Calls Tryz.prog 46 #[.float .f64 b, .int .i64 0] w fun e w' => e = .returned (.bool (decide (b % 2 ^ 63 = 2047 * 2 ^ 52))) ∧ w' = w := by
  have HA := Lib.hid (abs_any b hb w)
  have HL := Lib.hid (gt_max (b := b % 2 ^ 63) (by omega))
  generalize b % 2 ^ 63 = r at *
  clear hb
  go_enter Tryz.func46, Tryz.ntmps46
  go_wp2_with fail
  refine HA.out.mono ?_
  rintro e w1 ⟨rfl, rfl⟩
  go_wp2_with fail
  go_ret
  exact ⟨congrArg Ending.returned (congrArg Value.bool HL.out), rfl⟩
end Go.Proofs.YtkmeckimmfbkiaaGreatDoor
namespace Go.Proofs.YtkmeckimmfbkiaaGreatDoor
open Go Go.RowKit
open Fl
theorem limbs_mul_le (a b m n k : Nat) (ha : (limbs a).length ≤ m) (hb : (limbs b).length ≤ n) (hk : m + n ≤ k) : (limbs (a * b)).length ≤ k := by
  apply limbs_len_le
  have h1 := natV_lt (limbs a) (limbs_lt a)
  have h2 := natV_lt (limbs b) (limbs_lt b)
  rw [natV_limbs] at h1 h2
  have h3 : a * b < 18446744073709551616 ^ (limbs a).length * 18446744073709551616 ^ (limbs b).length := Nat.mul_lt_mul'' h1 h2
  rw [← Nat.pow_add] at h3
  exact Nat.lt_of_lt_of_le h3 (Nat.pow_le_pow_right (by omega) (by omega))
/-- How the two quotients stand: one told zero just if they are one. -/
def CmpZ (R : Bool) (w : World) (e : Ending) (w' : World) : Prop := (∃ k : Int, e = .returned (.int .i64 k) ∧ decide (k = 0) = R) ∧ Below w.heap.size w w'
theorem neg_pos (g c dd t : Nat) (hd : 0 < dd) (h : c * 2 ^ t = fv (g % 2 ^ 63) * dd) : decide (sv (decide (2 ^ 63 ≤ g)) (g % 2 ^ 63) < 0) = true → 0 < c := by
  intro hn
  have hn := of_decide_eq_true hn
  rcases Nat.eq_zero_or_pos c with h0 | h0
  · subst h0
    rw [Nat.zero_mul] at h
    have h1 : fv (g % 2 ^ 63) = 0 := by
      rcases Nat.mul_eq_zero.1 h.symm with h1 | h1
      · exact h1
      · omega
    have h2 := sv_abs (decide (2 ^ 63 ≤ g)) (g % 2 ^ 63)
    omega
  · exact h0
theorem ratEq_any (t : Nat) (hU : unitF = 2 ^ t) (x : Int) (g c dd gx gy : Nat) (w : World) (hf : g % 2 ^ 63 < 2047 * 2 ^ 52) (hX : (limbs x.natAbs).length ≤ 5) (rx : RatAt w w.heap.size gx (decide (x < 0)) x.natAbs 1)
    (ry : RatAt w w.heap.size gy (decide (sv (decide (2 ^ 63 ≤ g)) (g % 2 ^ 63) < 0)) c dd) (hd : 0 < dd) (h : c * 2 ^ t = fv (g % 2 ^ 63) * dd) (lc : (limbs c).length ≤ 20) (ld : (limbs dd).length ≤ 20) (hk : KT w) :
    Calls Tryz.prog 104 #[.pointer (some ⟨gx, 0, none⟩), .pointer (some ⟨gy, 0, none⟩)] w (CmpZ (decide (W.num (x * unitF) = wf g)) w) := by
  refine (ratCmp_any gx gy x.natAbs 1 c dd _ _ w rx ry (by omega) hd (fun hn => by have := of_decide_eq_true hn; omega) (neg_pos g c dd t hd h) (by omega) (by rw [limbs_one 1 (by decide) (by decide)]; decide) (by omega) (by omega)
    (Nat.le_trans (limbs_mul_le _ _ 5 20 25 hX ld (by omega)) (by omega)) hk).mono ?_
  rintro e w' ⟨rfl, hB⟩
  refine ⟨⟨_, rfl, ?_⟩, hB⟩
  rw [decide_eq_decide, cmpI_zero]
  exact cross_zero t hU x g c dd hf h hd
theorem ratEq'_any (t : Nat) (hU : unitF = 2 ^ t) (x : Int) (g c dd gx gy : Nat) (w : World) (hf : g % 2 ^ 63 < 2047 * 2 ^ 52) (hX : (limbs x.natAbs).length ≤ 5) (rx : RatAt w w.heap.size gx (decide (x < 0)) x.natAbs 1)
    (ry : RatAt w w.heap.size gy (decide (sv (decide (2 ^ 63 ≤ g)) (g % 2 ^ 63) < 0)) c dd) (hd : 0 < dd) (h : c * 2 ^ t = fv (g % 2 ^ 63) * dd) (lc : (limbs c).length ≤ 20) (ld : (limbs dd).length ≤ 20) (hk : KT w) :
    Calls Tryz.prog 104 #[.pointer (some ⟨gy, 0, none⟩), .pointer (some ⟨gx, 0, none⟩)] w (CmpZ (decide (wf g = W.num (x * unitF))) w) := by
  refine (ratCmp_any gy gx c dd x.natAbs 1 _ _ w ry rx hd (by omega) (neg_pos g c dd t hd h) (fun hn => by have := of_decide_eq_true hn; omega) (by omega) (by omega) (by omega) (by rw [limbs_one 1 (by decide) (by decide)]; decide)
    (by rw [Nat.mul_one]; omega) hk).mono ?_
  rintro e w' ⟨rfl, hB⟩
  refine ⟨⟨_, rfl, ?_⟩, hB⟩
  rw [decide_eq_decide, cmpI_zero, eq_comm, cross_zero t hU x g c dd hf h hd, eq_comm]
end Go.Proofs.YtkmeckimmfbkiaaGreatDoor
