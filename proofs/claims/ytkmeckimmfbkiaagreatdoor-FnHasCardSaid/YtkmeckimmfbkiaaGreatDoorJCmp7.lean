/- Comparison of integers with floats, and of rows. Conditions: the package variable karatsubaThreshold holds 40. -/
import Derived.Test.YtkmeckimmfbkiaaGreatDoorJCmp2
namespace Go.Proofs.YtkmeckimmfbkiaaGreatDoor
open Go Go.RowKit
open Fl
theorem int_int (a : Int) (p : Option Addr) (w : World) : (Instr.typeAssert (.iface 94 (.agg #[.int .i64 a, .pointer p])) 43 94 true).run Tryz.prog w = .ok (.tuple #[.agg #[.int .i64 a, .pointer p], .bool true]) w := by kernel_rfl
theorem float_float (g : Nat) (w : World) : (Instr.typeAssert (.iface 96 (.float .f64 g)) 43 96 true).run Tryz.prog w = .ok (.tuple #[.float .f64 g, .bool true]) w := by kernel_rfl
theorem float_int (g : Nat) (w : World) : (Instr.typeAssert (.iface 96 (.float .f64 g)) 43 94 true).run Tryz.prog w = .ok (.tuple #[.agg #[.int .i64 0, .pointer none], .bool false]) w := by kernel_rfl
theorem int_float (a : Int) (p : Option Addr) (w : World) : (Instr.typeAssert (.iface 94 (.agg #[.int .i64 a, .pointer p])) 43 96 true).run Tryz.prog w = .ok (.tuple #[.float .f64 0, .bool false]) w := by kernel_rfl
theorem ne_self {g : Nat} (hg : g < 2 ^ 64) : (FloatKind.f64.format.order g g != some .eq) = decide (2047 * 2 ^ 52 < g % 2 ^ 63) := by
  show (Ieee.double.order g g != some .eq) = _
  rw [bne, Fl.eq_self hg]
  by_cases h : g % 2 ^ 63 ≤ 2047 * 2 ^ 52
  · rw [decide_eq_true h, decide_eq_false (by omega)]; rfl
  · rw [decide_eq_false h, decide_eq_true (by omega)]; rfl
theorem gt_zero {g : Nat} (hg : g < 2 ^ 64) (h : g % 2 ^ 63 = 2047 * 2 ^ 52) : (FloatKind.f64.format.order g 0 == some .gt) = decide (g < 2 ^ 63) := by
  show (Ieee.double.order g 0 == some .gt) = _
  rw [order_wf hg (by decide), wf_inf h, wf_num (by decide)]
  by_cases hn : g < 2 ^ 63
  · have e1 : decide (2 ^ 63 ≤ g) = false := decide_eq_false (by omega)
    rw [e1, decide_eq_true hn]; rfl
  · have e1 : decide (2 ^ 63 ≤ g) = true := decide_eq_true (by omega)
    rw [e1, decide_eq_false hn]; rfl
set_option maxRecDepth 10000 in
set_option maxHeartbeats 1000000 in
theorem depth_int_float (x a : Int) (p : Option Addr) (g d : Nat) (w : World) (hd : 1 ≤ d) (hg : g < 2 ^ 64) (hS : SInt w w.heap.size x a p) (hX : (limbs x.natAbs).length ≤ 5) (hk : KT w)
    (hs : SameT w (.iface 94 (.agg #[.int .i64 a, .pointer p])) (.iface 96 (.float .f64 g)) false) :
    Calls Tryz.prog 97 #[.int .i8 37, .iface 94 (.agg #[.int .i64 a, .pointer p]), .iface 96 (.float .f64 g), .int .i64 d] w (Eqd w (decide (W.num (x * unitF) = wf g))) := by
  have h1 := int_int a p
  have h2 := float_float g
  have HS := Lib.hid hs
  have hd1 : ¬ (d : Int) < 1 := by omega
  have HI := Lib.hid fun W => isInf_zero g hg W
  have h5 := ne_self hg
  rcases Nat.lt_trichotomy (g % 2 ^ 63) (2047 * 2 ^ 52) with hf | hf | hf
  · rw [decide_eq_false (show ¬ g % 2 ^ 63 = 2047 * 2 ^ 52 by omega)] at HI
    rw [decide_eq_false (show ¬ 2047 * 2 ^ 52 < g % 2 ^ 63 by omega)] at h5
    have HX := Lib.hid (And.intro hS hk)
    have HF := Lib.hid fun W => floatRat_any g hg hf W
    have HJ := Lib.hid fun W h => intRat_any x a p W h (by omega)
    have HC := Lib.hid fun c dd gx gy W rx ry h1 h2 h3 h4 h5 => ratEq_any 1074 rfl x g c dd gx gy W hf hX rx ry h1 h2 h3 h4 h5
    generalize decide (W.num (x * unitF) = wf g) = R at *
    unfold NewR at HJ
    generalize x.natAbs = X at *
    generalize decide (x < 0) = nx at *
    generalize decide (sv (decide (2 ^ 63 ≤ g)) (g % 2 ^ 63) < 0) = N at *
    clear hS hk hf hX
    clear hs hg
    go_enter Tryz.func97, Tryz.ntmps97
    go_wp2_with fail
    refine HS.out.mono ?_
    rintro e w1 ⟨rfl, hB⟩
    have HB := Lib.hid hB
    clear hB HS
    go_wp2_with fail
    refine gen1 (M := fun W => Calls _ _ _ W _) fun W hB b1 hz => ?_
    obtain ⟨g1, hg1⟩ : ∃ g1, g1 = w1.heap.size := ⟨_, rfl⟩
    have hlt := b1.lt
    have hg1w : w.heap.size ≤ g1 := by rw [hg1]; exact HB.out.size
    rw [← hg1] at b1 hlt ⊢
    refine (HI.out W).mono ?_
    rintro e w2 ⟨rfl, rfl⟩
    have HBW := Lib.hid (HB.out.trans (hB.mono HB.out.size))
    clear hB HB hg1
    obtain ⟨k0, k1, _, _⟩ := b1.c2
    clear b1
    have xS : SInt w2 w2.heap.size x a p := (HX.out.1.below HBW.out).more HBW.out.size
    go_wp2_with fail
    refine (HJ.out w2 xS).mono ?_
    rintro e w3 ⟨gi, rfl, _, ri, hB3⟩
    have hs3 := hB3.size
    have HB3 := Lib.hid (HBW.out.trans (hB3.mono HBW.out.size))
    have RI := Lib.hid ri
    clear hB3 ri
    go_wp2_with fail
    refine (HF.out w3).mono ?_
    rintro e w4 ⟨gf, c, dd, rfl, _, rf, hB4, hd0, hcd, lc, ld, _⟩
    have hs4 := hB4.size
    have HB4 := Lib.hid (HB3.out.trans (hB4.mono HB3.out.size))
    have RF := Lib.hid (And.intro ((RI.out.below hB4).more hs4) (And.intro rf (And.intro hd0 (And.intro hcd (And.intro lc ld)))))
    clear hB4 rf hcd
    go_wp2_with fail
    refine (HC.out c dd gi gf w4 RF.out.1 RF.out.2.1 RF.out.2.2.1 RF.out.2.2.2.1 RF.out.2.2.2.2.1 RF.out.2.2.2.2.2 (HX.out.2.below HB4.out)).mono ?_
    rintro e w5 ⟨⟨k, rfl, hk⟩, hB5⟩
    have HB5 := Lib.hid (HB4.out.trans (hB5.mono HB4.out.size))
    have HT := Lib.hid (threeway_eql k w5)
    rw [hk] at HT
    clear hB5 hk
    go_wp2_with fail
    refine HT.out.mono ?_
    rintro e w6 ⟨rfl, rfl⟩
    go_wp2
    go_ret2
    exact ⟨rfl, HB5.out⟩
  · have hR : (decide (W.num (x * unitF) = wf g)) = false := by rw [wf_inf hf]; exact decide_eq_false (by intro h; cases h)
    rw [hR]
    rw [decide_eq_true hf] at HI
    rw [decide_eq_false (show ¬ 2047 * 2 ^ 52 < g % 2 ^ 63 by omega)] at h5
    have h6 := gt_zero hg hf
    clear hR hf hS hX hk
    rcases hn : decide (g < 2 ^ 63) with _ | _
    · rw [hn] at h6
      clear hs hg
      go_enter Tryz.func97, Tryz.ntmps97
      go_wp2_with fail
      refine HS.out.mono ?_
      rintro e w1 ⟨rfl, hB⟩
      have HB := Lib.hid hB
      clear hB HS
      go_wp2_with fail
      refine gen1 (M := fun W => Calls _ _ _ W _) fun W hB b1 hz => ?_
      refine (HI.out W).mono ?_
      rintro e w2 ⟨rfl, rfl⟩
      have HBW := Lib.hid (HB.out.trans (hB.mono HB.out.size))
      clear hB HB b1 hz
      go_wp2_with fail
      refine (threeway_eql (1) w2).mono ?_
      rintro e w3 ⟨rfl, rfl⟩
      go_wp2
      go_ret2
      exact ⟨rfl, HBW.out⟩
    · rw [hn] at h6
      clear hs hg
      go_enter Tryz.func97, Tryz.ntmps97
      go_wp2_with fail
      refine HS.out.mono ?_
      rintro e w1 ⟨rfl, hB⟩
      have HB := Lib.hid hB
      clear hB HS
      go_wp2_with fail
      refine gen1 (M := fun W => Calls _ _ _ W _) fun W hB b1 hz => ?_
      refine (HI.out W).mono ?_
      rintro e w2 ⟨rfl, rfl⟩
      have HBW := Lib.hid (HB.out.trans (hB.mono HB.out.size))
      clear hB HB b1 hz
      go_wp2_with fail
      refine (threeway_eql (-1) w2).mono ?_
      rintro e w3 ⟨rfl, rfl⟩
      go_wp2
      go_ret2
      exact ⟨rfl, HBW.out⟩
  · have hR : (decide (W.num (x * unitF) = wf g)) = false := by rw [wf_nan hf]; exact decide_eq_false (by intro h; cases h)
    rw [hR]
    rw [decide_eq_true hf] at h5
    clear hR hf hS hX hk HI
    clear hs hg
    go_enter Tryz.func97, Tryz.ntmps97
    go_wp2_with fail
    refine HS.out.mono ?_
    rintro e w1 ⟨rfl, hB⟩
    have HB := Lib.hid hB
    clear hB HS
    go_wp2_with fail
    refine gen1 (M := fun W => Calls _ _ _ W _) fun W hB b1 hz => ?_
    refine (threeway_eql (-1) W).mono ?_
    rintro e w3 ⟨rfl, rfl⟩
    have HBW := Lib.hid (HB.out.trans (hB.mono HB.out.size))
    clear hB HB b1 hz
    go_wp2
    go_ret2
    exact ⟨rfl, HBW.out⟩
set_option maxRecDepth 10000 in
set_option maxHeartbeats 1000000 in
theorem depth_float_int (x a : Int) (p : Option Addr) (g d : Nat) (w : World) (hd : 1 ≤ d) (hg : g < 2 ^ 64) (hS : SInt w w.heap.size x a p) (hX : (limbs x.natAbs).length ≤ 5) (hk : KT w)
    (hs : SameT w (.iface 96 (.float .f64 g)) (.iface 94 (.agg #[.int .i64 a, .pointer p])) false) :
    Calls Tryz.prog 97 #[.int .i8 37, .iface 96 (.float .f64 g), .iface 94 (.agg #[.int .i64 a, .pointer p]), .int .i64 d] w (Eqd w (decide (wf g = W.num (x * unitF)))) := by
  have h1 := int_int a p
  have h2 := float_float g
  have h4 := float_int g
  have HS := Lib.hid hs
  have hd1 : ¬ (d : Int) < 1 := by omega
  have HI := Lib.hid fun W => isInf_zero g hg W
  have h5 := ne_self hg
  rcases Nat.lt_trichotomy (g % 2 ^ 63) (2047 * 2 ^ 52) with hf | hf | hf
  · rw [decide_eq_false (show ¬ g % 2 ^ 63 = 2047 * 2 ^ 52 by omega)] at HI
    rw [decide_eq_false (show ¬ 2047 * 2 ^ 52 < g % 2 ^ 63 by omega)] at h5
    have HX := Lib.hid (And.intro hS hk)
    have HF := Lib.hid fun W => floatRat_any g hg hf W
    have HJ := Lib.hid fun W h => intRat_any x a p W h (by omega)
    have HC := Lib.hid fun c dd gx gy W rx ry h1 h2 h3 h4 h5 => ratEq'_any 1074 rfl x g c dd gx gy W hf hX rx ry h1 h2 h3 h4 h5
    generalize decide (wf g = W.num (x * unitF)) = R at *
    unfold NewR at HJ
    generalize x.natAbs = X at *
    generalize decide (x < 0) = nx at *
    generalize decide (sv (decide (2 ^ 63 ≤ g)) (g % 2 ^ 63) < 0) = N at *
    clear hS hk hf hX
    clear hs hg
    go_enter Tryz.func97, Tryz.ntmps97
    go_wp2_with fail
    refine HS.out.mono ?_
    rintro e w1 ⟨rfl, hB⟩
    have HB := Lib.hid hB
    clear hB HS
    go_wp2_with fail
    refine gen1 (M := fun W => Calls _ _ _ W _) fun W hB b1 hz => ?_
    obtain ⟨g1, hg1⟩ : ∃ g1, g1 = w1.heap.size := ⟨_, rfl⟩
    have hlt := b1.lt
    have hg1w : w.heap.size ≤ g1 := by rw [hg1]; exact HB.out.size
    rw [← hg1] at b1 hlt ⊢
    refine (HI.out W).mono ?_
    rintro e w2 ⟨rfl, rfl⟩
    have HBW := Lib.hid (HB.out.trans (hB.mono HB.out.size))
    clear hB HB hg1
    obtain ⟨k0, k1, _, _⟩ := b1.c2
    have HY := Lib.hid b1
    clear b1
    have xS : SInt w2.drew w2.drew.heap.size x a p := (HX.out.1.below HBW.out.drew).more HBW.out.size
    go_wp2_with fail
    go_region_held3 (fun w' => w'.cell? ⟨g1, 0, none⟩ = some (.int .i64 a) ∧ w'.cell? ⟨g1, 1, none⟩ = some (.pointer p))
      (exact ⟨k0, k1⟩)
      ((first
        | (go_at_call 105; refine (HF.out w2.drew).mono ?_
           rintro e w3 ⟨gf, c, dd, rfl, _, rf, hB3, hd0, hcd, lc, ld, _⟩
           have hB3 : Below w2.heap.size w2 w3 := ⟨hB3.os, hB3.tape, hB3.output, hB3.size, hB3.block⟩
           have y1 := HY.out.below hB3 (by omega)
           obtain ⟨k0, k1, _, _⟩ := y1.c2
           have hs3 := hB3.size
           have HB3 := Lib.hid (HBW.out.trans (hB3.mono HBW.out.size))
           have HY3 := Lib.hid y1
           have xS : SInt w3 w3.heap.size x a p := (HX.out.1.below HB3.out).more HB3.out.size
           have RF := Lib.hid (And.intro rf (And.intro hd0 (And.intro hcd (And.intro lc ld))))
           clear hB3 rf y1 hcd)
        | (go_at_call 103; refine (HJ.out w3 xS).mono ?_
           rintro e w4 ⟨gi, rfl, _, ri, hB4⟩
           have y1 := HY3.out.below hB4 (by omega)
           obtain ⟨k0, k1, _, _⟩ := y1.c2
           have hs4 := hB4.size
           have HB4 := Lib.hid (HB3.out.trans (hB4.mono HB3.out.size))
           have HY4 := Lib.hid y1
           have RI := Lib.hid (And.intro ri ((RF.out.1.below hB4).more hs4))
           clear hB4 ri y1)
        | (go_at_call 104; refine (HC.out c dd gi gf w4 RI.out.1 RI.out.2 RF.out.2.1 RF.out.2.2.1 RF.out.2.2.2.1 RF.out.2.2.2.2 (HX.out.2.below HB4.out)).mono ?_
           rintro e w5 ⟨⟨k, rfl, hk⟩, hB5⟩
           have y1 := HY4.out.below hB5 (by omega)
           obtain ⟨k0, k1, _, _⟩ := y1.c2
           have HB5 := Lib.hid (HB4.out.trans (hB5.mono HB4.out.size))
           have HT := Lib.hid (threeway_eql k w5)
           rw [hk] at HT
           clear hB5 y1 hk)))
    go_wp2_with fail
    refine HT.out.mono ?_
    rintro e w6 ⟨rfl, rfl⟩
    go_wp2
    go_ret2
    exact ⟨rfl, HB5.out⟩
  · have hR : (decide (wf g = W.num (x * unitF))) = false := by rw [wf_inf hf]; exact decide_eq_false (by intro h; cases h)
    rw [hR]
    rw [decide_eq_true hf] at HI
    rw [decide_eq_false (show ¬ 2047 * 2 ^ 52 < g % 2 ^ 63 by omega)] at h5
    have h6 := gt_zero hg hf
    clear hR hf hS hX hk
    rcases hn : decide (g < 2 ^ 63) with _ | _
    · rw [hn] at h6
      clear hs hg
      go_enter Tryz.func97, Tryz.ntmps97
      go_wp2_with fail
      refine HS.out.mono ?_
      rintro e w1 ⟨rfl, hB⟩
      have HB := Lib.hid hB
      clear hB HS
      go_wp2_with fail
      refine gen1 (M := fun W => Calls _ _ _ W _) fun W hB b1 hz => ?_
      refine (HI.out W).mono ?_
      rintro e w2 ⟨rfl, rfl⟩
      have HBW := Lib.hid (HB.out.trans (hB.mono HB.out.size))
      clear hB HB b1 hz
      go_wp2_with fail
      refine (threeway_eql (-1) w2).mono ?_
      rintro e w3 ⟨rfl, rfl⟩
      go_wp2
      go_ret2
      exact ⟨rfl, HBW.out⟩
    · rw [hn] at h6
      clear hs hg
      go_enter Tryz.func97, Tryz.ntmps97
      go_wp2_with fail
      refine HS.out.mono ?_
      rintro e w1 ⟨rfl, hB⟩
      have HB := Lib.hid hB
      clear hB HS
      go_wp2_with fail
      refine gen1 (M := fun W => Calls _ _ _ W _) fun W hB b1 hz => ?_
      refine (HI.out W).mono ?_
      rintro e w2 ⟨rfl, rfl⟩
      have HBW := Lib.hid (HB.out.trans (hB.mono HB.out.size))
      clear hB HB b1 hz
      go_wp2_with fail
      refine (threeway_eql (1) w2).mono ?_
      rintro e w3 ⟨rfl, rfl⟩
      go_wp2
      go_ret2
      exact ⟨rfl, HBW.out⟩
  · have hR : (decide (wf g = W.num (x * unitF))) = false := by rw [wf_nan hf]; exact decide_eq_false (by intro h; cases h)
    rw [hR]
    rw [decide_eq_true hf] at h5
    clear hR hf hS hX hk HI
    clear hs hg
    go_enter Tryz.func97, Tryz.ntmps97
    go_wp2_with fail
    refine HS.out.mono ?_
    rintro e w1 ⟨rfl, hB⟩
    have HB := Lib.hid hB
    clear hB HS
    go_wp2_with fail
    refine gen1 (M := fun W => Calls _ _ _ W _) fun W hB b1 hz => ?_
    refine (threeway_eql (1) W).mono ?_
    rintro e w3 ⟨rfl, rfl⟩
    have HBW := Lib.hid (HB.out.trans (hB.mono HB.out.size))
    clear hB HB b1 hz
    go_wp2
    go_ret2
    exact ⟨rfl, HBW.out⟩
end Go.Proofs.YtkmeckimmfbkiaaGreatDoor
namespace Go.Proofs.YtkmeckimmfbkiaaGreatDoor
open Go Go.RowKit
mutual
/-- The integers in a value are of at most five words. -/
def fitS : S → Prop
  | .int x => (limbs x.natAbs).length ≤ 5
  | .list l => fitL l
  | .tuple l => fitL l
  | .dict l => fitL l
  | .set l => fitL l
  | _ => True
def fitL : List S → Prop
  | [] => True
  | a :: l => fitS a ∧ fitL l
end
theorem fitL_get : ∀ (l : List S) (k : Nat) (a : S), l[k]? = some a → fitL l → fitS a
  | a :: l, 0, x, h, hk => by simp at h; subst h; exact hk.1
  | a :: l, k + 1, x, h, hk => fitL_get l k x (by simpa using h) hk.2
  | [], k, x, h, _ => by simp at h
set_option maxRecDepth 10000 in
set_option maxHeartbeats 400000 in
theorem sliceCompare_any (A D : Option Addr) (n m c1 c2 d : Nat) (xs ys : List Value) (R : Nat → Bool) (T : Bool) (w : World) (hn : n ≤ 16) (hm : m ≤ 16) (hd : d ≤ 10) (hx : Reads w w.heap.size 1 A n xs) (hy : Reads w w.heap.size 1 D m ys)
    (hne : n ≠ m → T = false) (hf : ∀ k, k < n → R k = false → T = false) (ht : n = m → (∀ k, k < n → R k = true) → T = true)
    (ih : ∀ (k : Nat) (u v : Value), xs[k]? = some u → ys[k]? = some v → ∀ W, Below w.heap.size w W → Calls Tryz.prog 91 #[u, v, .int .i64 ((d : Int) - 1)] W (Eqd W (R k))) :
    Calls Tryz.prog 223 #[.int .i8 37, .slice A n c1, .slice D m c2, .int .i64 d] w (Eqd w T) := by
  have HX := Lib.hid (And.intro hx (And.intro hy ih))
  have HR := Lib.hid (And.intro hne (And.intro hf ht))
  clear hx hy ih hne hf ht
  rcases Nat.decEq n m with hnm | hnm
  · have hT := HR.out.1 hnm
    have h1 : ((n : Int) != (m : Int)) = true := by rw [bne_iff_ne]; omega
    rw [hT]
    clear hT HR HX
    go_enter Tryz.func223, Tryz.ntmps223
    go_wp2_with fail
    go_ret2
    exact ⟨rfl, Below.refl _ _⟩
  · subst hnm
    have h1 : ((n : Int) != (n : Int)) = false := by rw [bne_eq_false_iff_eq]
    have HF := Lib.hid HR.out.2.1
    have HTt := Lib.hid (HR.out.2.2 rfl)
    clear HR
    go_enter Tryz.func223, Tryz.ntmps223
    go_wp2_with fail
    go_loopw [10] (fun vi wr => ∃ k : Nat, vi = .int .i64 k ∧ k ≤ n ∧ (∀ j, j < k → R j = true) ∧ Below w.heap.size w wr) (fun vi _ => n - (intOf vi).toNat)
    case atStart => exact ⟨0, rfl, by omega, fun j hj => by omega, Below.refl _ _⟩
    case round =>
      obtain ⟨k, rfl, hk, hall, hB⟩ := hrel
      rcases Nat.lt_or_ge k n with hlt | hge
      · have hki : (k : Int) < (n : Int) := by omega
        have w1 : IntKind.i64.wrap ((k : Int) + 1) = (k : Int) + 1 := by rw [IntKind.wrap_i64]; omega
        have w2 : IntKind.i64.wrap ((d : Int) - 1) = (d : Int) - 1 := by rw [IntKind.wrap_i64]; omega
        obtain ⟨ad, u, rfl, had, hu, hcell0⟩ := HX.out.1.at_ hlt
        obtain ⟨bd, v, rfl, hbd, hv, hcell20⟩ := HX.out.2.1.at_ hlt
        have hcell := (hB.cell (p := ad.add k) (by rw [block_of_add]; exact had)).trans hcell0
        have hcell2 := (hB.cell (p := bd.add k) (by rw [block_of_add]; exact hbd)).trans hcell20
        have HC := Lib.hid (HX.out.2.2 k u v hu hv wr.drew hB.drew)
        have HB := Lib.hid (And.intro hB hall)
        have hF := Lib.hid (HF.out k hlt)
        clear hB hu hv hall
        go_wp2_with fail
        rcases hRe : R k with _ | _
        · rw [hRe] at HC
          have hT := Lib.hid (hF.out hRe)
          clear hRe hF
          go_region_held3 (fun w' => w'.cell? (ad.add k) = some u ∧ w'.cell? (bd.add k) = some v) (exact ⟨hcell, hcell2⟩)
            ((go_at_call 91; refine HC.out.mono ?_
              rintro e w5 ⟨rfl, hB5⟩
              have hB5 : Below w.heap.size w w5 := HB.out.1.trans (Below.mono ⟨hB5.os, hB5.tape, hB5.output, hB5.size, hB5.block⟩ HB.out.1.size)
              have hcell := (hB5.cell (p := ad.add k) (by rw [block_of_add]; exact had)).trans hcell0
              have hcell2 := (hB5.cell (p := bd.add k) (by rw [block_of_add]; exact hbd)).trans hcell20
              have HB5 := Lib.hid hB5
              clear hB5))
          go_wp2
          go_ret2
          refine ⟨?_, HB5.out⟩
          rw [hT.out]
          rfl
        · rw [hRe] at HC
          have hRk := Lib.hid hRe
          clear hRe hF
          go_region_held3 (fun w' => w'.cell? (ad.add k) = some u ∧ w'.cell? (bd.add k) = some v) (exact ⟨hcell, hcell2⟩)
            ((go_at_call 91; refine HC.out.mono ?_
              rintro e w5 ⟨rfl, hB5⟩
              have hB5 : Below w.heap.size w w5 := HB.out.1.trans (Below.mono ⟨hB5.os, hB5.tape, hB5.output, hB5.size, hB5.block⟩ HB.out.1.size)
              have hcell := (hB5.cell (p := ad.add k) (by rw [block_of_add]; exact had)).trans hcell0
              have hcell2 := (hB5.cell (p := bd.add k) (by rw [block_of_add]; exact hbd)).trans hcell20
              have HB5 := Lib.hid hB5
              clear hB5))
          go_wp2
          refine ⟨⟨k + 1, rfl, by omega, fun j hj => ?_, HB5.out⟩, by simp only [intOf]; omega⟩
          rcases Nat.lt_or_eq_of_le (Nat.le_of_lt_succ hj) with h | h
          · exact HB.out.2 j h
          · subst h; exact hRk.out
      · have hki : ¬ (k : Int) < (n : Int) := by omega
        have hkn : k = n := by omega
        subst hkn
        have hT := Lib.hid (HTt.out hall)
        have HT := Lib.hid (threeway_eql 0 wr)
        have HB := Lib.hid hB
        clear HTt HF HX hall hB
        go_wp2_with fail
        refine HT.out.mono ?_
        rintro e w3 ⟨rfl, rfl⟩
        go_wp2
        go_ret2
        refine ⟨?_, HB.out⟩
        rw [hT.out]
        rfl
end Go.Proofs.YtkmeckimmfbkiaaGreatDoor
