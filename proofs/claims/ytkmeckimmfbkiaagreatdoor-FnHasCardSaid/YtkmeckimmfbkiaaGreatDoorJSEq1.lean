/- The reference's numbers, and Find. Conditions: none. -/
import Derived.Test.YtkmeckimmfbkiaaGreatDoorJSWhole
import Derived.Test.YtkmeckimmfbkiaaGreatDoorJVMem
import Derived.Test.YtkmeckimmfbkiaaGreatDoorJPure
import Derived.Deep.RegionHeld3
namespace Go.Proofs.YtkmeckimmfbkiaaGreatDoor
open Go Go.RowKit
set_option maxRecDepth 10000 in
set_option maxHeartbeats 400000 in
theorem num_any (x : Int) (v : Value) (w : World) (hv : VAt w w.heap.size (.int x) v) : Calls Tryz.prog 27 #[v] w (OwnsSI w x 40) := by
  simp only [VAt] at hv
  obtain ⟨A, c, l, rfl, h1, h2, h3, h4, h5⟩ := hv
  unfold valV
  have HR := Lib.hid h5
  have HQ := Lib.hid (show sgn (decide (x < 0)) (beNat l) = x by rw [h1, sgn_self])
  clear h5 h1 h2
  go_enter Tryz.func27, Tryz.ntmps27
  go_wp2_with fail
  refine gen2 (M := fun W => Calls _ _ _ W _) fun W hB b1 b2 hz => ?_
  have hz1 : w.heap.size + 1 < W.heap.size := by omega
  clear hz
  have hOf := of_si (decide (x < 0)) l A l.length c W rfl (by omega) h4 ((HR.out.below hB).more hB.size)
  rw [HQ.out] at hOf
  refine hOf.mono ?_
  rintro e w5 ⟨v5, rfl, hs5, hB5⟩
  have HS5 := Lib.hid hs5
  obtain ⟨A5, c5, l5, rfl, s1, s2, s3, s4, s5⟩ := hs5
  have br := b2.below hB5 (by omega)
  obtain ⟨r0, r1, f0, f1⟩ := br.c2
  have HBr := Lib.hid (And.intro br (hB.trans (hB5.mono hB.size)))
  clear br s1 s2 s3 s4 s5 hB5 b1 b2 hOf hB
  go_wp2
  refine gen_set2 (M := fun V => bodyPost _ _ _ _ _ V) HBr.out.1 fun W6 b6 hg6 hz6 => ?_
  exact ret_row rfl _ b6 rfl Tryz.underlying39 rfl size24 rfl ⟨_, rfl, ((HS5.out.set2 HBr.out.1 hg6 (Nat.le_refl _)).more (by omega)).wide (by omega), below_grown HBr.out.2 hg6 (by omega) HBr.out.2.size⟩
set_option maxRecDepth 10000 in
theorem fl_any (f : Nat) (v : Value) (w : World) (hv : VAt w w.heap.size (.float f) v) : Calls Tryz.prog 32 #[v] w fun e w' => e = .returned (.float .f64 f) ∧ Below w.heap.size w w' := by
  simp only [VAt] at hv
  obtain ⟨rfl, hf⟩ := hv
  unfold valV nilS noT
  have H := fun w => mfrom_run f w
  go_enter Tryz.func32, Tryz.ntmps32
  go_wp2_with (simp only [H])
  go_ret
  exact ⟨rfl, (Below.refl _ _).alloc (Nat.le_refl _) _⟩
set_option maxRecDepth 10000 in
theorem number_any (k : Int) (neg : Bool) (A : Option Addr) (n c : Nat) (bits : Int) (t : ByteArray) (K : Option Addr) (kn kc : Nat) (w : World) :
    Calls Tryz.prog 57 #[.agg #[.int .i64 k, .bool neg, .slice A n c, .int .u64 bits, .string t, .slice K kn kc]] w fun e w' => e = .returned (.bool (k == 2 || k == 3)) ∧ Below w.heap.size w w' := by
  go_enter Tryz.func57, Tryz.ntmps57
  by_cases h2 : k = 2
  · subst h2
    go_wp2
    go_ret
    exact ⟨rfl, (Below.refl _ _).alloc (Nat.le_refl _) _⟩
  · have h3 : (k == 2) = false := by rw [beq_eq_false_iff_ne]; exact h2
    go_wp2
    go_ret
    exact ⟨by rw [h3]; rfl, (Below.refl _ _).alloc (Nat.le_refl _) _⟩
theorem cmpW_small (B C : W) : -1 ≤ Fl.cmpW B C ∧ Fl.cmpW B C ≤ 1 := by
  rw [cmpW_code]
  split
  · omega
  · split <;> omega
theorem wrap64_neg_cmp (B C : W) : IntKind.i64.wrap (-(Fl.cmpW B C)) = -(Fl.cmpW B C) := by
  have := cmpW_small B C
  rw [IntKind.wrap_i64]
  omega
set_option maxRecDepth 10000 in
set_option maxHeartbeats 1000000 in
theorem cmpN_ii (x : Int) (y : Int) (u v : Value) (w : World) (hx : VAt w w.heap.size (.int x) u) (hy : VAt w w.heap.size (.int y) v) :
    Calls Tryz.prog 58 #[u, v] w fun e w' => e = .returned (.int .i64 (Fl.ordI (compare x y))) ∧ Below w.heap.size w w' := by
  have Cx : Hid (∀ V, Below w.heap.size w V → Calls Tryz.prog 27 #[u] V (OwnsSI V x 40)) := Lib.hid fun V hV => num_any x u V ((hx.below hV).more hV.size)
  have Cy : Hid (∀ V, Below w.heap.size w V → Calls Tryz.prog 27 #[v] V (OwnsSI V y 40)) := Lib.hid fun V hV => num_any y v V ((hy.below hV).more hV.size)
  simp only [VAt] at hx
  obtain ⟨A, ca, a, rfl, q1, q2, q3, q4, q5⟩ := hx
  generalize ha : a.length = la at Cx ⊢
  clear q1 q2 q3 q4 q5 ha
  simp only [VAt] at hy
  obtain ⟨D, cb, b, rfl, q1, q2, q3, q4, q5⟩ := hy
  generalize hb : b.length = lb at Cy ⊢
  clear q1 q2 q3 q4 q5 hb
  unfold valV at *
  go_enter Tryz.func58, Tryz.ntmps58
  go_wp2_with fail
  refine gen2 (M := fun W => Code.wp _ _ _ _ W) fun W hB b1 b2 hz => ?_
  have hz1 : w.heap.size + 1 < W.heap.size := by omega
  clear hz
  obtain ⟨x0, x1, x2, x3, x4, x5, _, _, _, _, _, _⟩ := b1.c6
  obtain ⟨y0, y1, y2, y3, y4, y5, _, _, _, _, _, _⟩ := b2.c6
  have HB0 := Lib.hid (And.intro hB (And.intro b1 b2))
  clear hB b1 b2
  go_region_held3 (fun w' => w'.cell? ⟨w.heap.size, 0, none⟩ = some (Value.int .i64 2) ∧ w'.cell? ⟨w.heap.size, 1, none⟩ = some (.bool (decide (x < 0))) ∧ w'.cell? ⟨w.heap.size, 2, none⟩ = some (.slice A la ca) ∧ w'.cell? ⟨w.heap.size, 3, none⟩ = some (.int .u64 0) ∧ w'.cell? ⟨w.heap.size, 4, none⟩ = some (.string noT) ∧ w'.cell? ⟨w.heap.size, 5, none⟩ = some (nilS) ∧ w'.cell? ⟨w.heap.size + 1, 0, none⟩ = some (Value.int .i64 2) ∧ w'.cell? ⟨w.heap.size + 1, 1, none⟩ = some (.bool (decide (y < 0))) ∧ w'.cell? ⟨w.heap.size + 1, 2, none⟩ = some (.slice D lb cb) ∧ w'.cell? ⟨w.heap.size + 1, 3, none⟩ = some (.int .u64 0) ∧ w'.cell? ⟨w.heap.size + 1, 4, none⟩ = some (.string noT) ∧ w'.cell? ⟨w.heap.size + 1, 5, none⟩ = some (nilS))
    (exact ⟨x0, x1, x2, x3, x4, x5, y0, y1, y2, y3, y4, y5⟩)
    ((first
        | (go_at_call 27; refine (Cx.out _ HB0.out.1.drew).mono ?_
           rintro e w5 ⟨v5, rfl, hs5, hB5⟩
           have hB5 : Below W.heap.size W w5 := ⟨hB5.os, hB5.tape, hB5.output, hB5.size, hB5.block⟩
           have b1 := HB0.out.2.1.below hB5 (by omega)
           have b2 := HB0.out.2.2.below hB5 (by omega)
           obtain ⟨x0, x1, x2, x3, x4, x5, _, _, _, _, _, _⟩ := b1.c6
           obtain ⟨y0, y1, y2, y3, y4, y5, _, _, _, _, _, _⟩ := b2.c6
           have hzz5 := hB5.size
           have HB5 := Lib.hid (And.intro (HB0.out.1.trans (hB5.mono HB0.out.1.size)) (And.intro b1 b2))
           have HS5 := Lib.hid hs5
           clear hs5
           clear hB5 b1 b2)
        | (go_at_call 27; refine (Cy.out _ HB5.out.1).mono ?_
           rintro e w6 ⟨v6, rfl, hs6, hB6⟩
           have HS5 := Lib.hid ((HS5.out.below hB6).more hB6.size)
           have b1 := HB5.out.2.1.below hB6 (by omega)
           have b2 := HB5.out.2.2.below hB6 (by omega)
           obtain ⟨x0, x1, x2, x3, x4, x5, _, _, _, _, _, _⟩ := b1.c6
           obtain ⟨y0, y1, y2, y3, y4, y5, _, _, _, _, _, _⟩ := b2.c6
           have hzz6 := hB6.size
           have HB6 := Lib.hid (And.intro (HB5.out.1.trans (hB6.mono HB5.out.1.size)) (And.intro b1 b2))
           have HS6 := Lib.hid hs6
           clear hs6
           clear hB6 b1 b2)
        | (go_at_call 33; refine (spCmp_any x y 40 40 v5 v6 w6 (by omega) (by omega) HS5.out HS6.out).mono ?_
           rintro e w7 ⟨rfl, hB7⟩
           have b1 := HB6.out.2.1.below hB7 (by omega)
           have b2 := HB6.out.2.2.below hB7 (by omega)
           obtain ⟨x0, x1, x2, x3, x4, x5, _, _, _, _, _, _⟩ := b1.c6
           obtain ⟨y0, y1, y2, y3, y4, y5, _, _, _, _, _, _⟩ := b2.c6
           have hzz7 := hB7.size
           have HB7 := Lib.hid (And.intro (HB6.out.1.trans (hB7.mono HB6.out.1.size)) (And.intro b1 b2))
           clear hB7 b1 b2)))
  go_wp2
  go_ret
  exact ⟨rfl, HB7.out.1⟩
set_option maxRecDepth 10000 in
set_option maxHeartbeats 1000000 in
theorem cmpN_if (x : Int) (g : Nat) (u v : Value) (w : World) (hx : VAt w w.heap.size (.int x) u) (hy : VAt w w.heap.size (.float g) v) :
    Calls Tryz.prog 58 #[u, v] w fun e w' => e = .returned (.int .i64 (Fl.cmpW (.num (x * unitF)) (wf g))) ∧ Below w.heap.size w w' := by
  have Cx : Hid (∀ V, Below w.heap.size w V → Calls Tryz.prog 27 #[u] V (OwnsSI V x 40)) := Lib.hid fun V hV => num_any x u V ((hx.below hV).more hV.size)
  have Cy : Hid (∀ V, Below w.heap.size w V → Calls Tryz.prog 32 #[v] V fun e w' => e = .returned (.float .f64 g) ∧ Below V.heap.size V w') := Lib.hid fun V hV => fl_any g v V ((hy.below hV).more hV.size)
  simp only [VAt] at hx
  obtain ⟨A, ca, a, rfl, q1, q2, q3, q4, q5⟩ := hx
  generalize ha : a.length = la at Cx ⊢
  clear q1 q2 q3 q4 q5 ha
  simp only [VAt] at hy
  obtain ⟨rfl, hg⟩ := hy
  unfold valV at *
  go_enter Tryz.func58, Tryz.ntmps58
  go_wp2_with fail
  refine gen2 (M := fun W => Code.wp _ _ _ _ W) fun W hB b1 b2 hz => ?_
  have hz1 : w.heap.size + 1 < W.heap.size := by omega
  clear hz
  obtain ⟨x0, x1, x2, x3, x4, x5, _, _, _, _, _, _⟩ := b1.c6
  obtain ⟨y0, y1, y2, y3, y4, y5, _, _, _, _, _, _⟩ := b2.c6
  have HB0 := Lib.hid (And.intro hB (And.intro b1 b2))
  clear hB b1 b2
  go_region_held3 (fun w' => w'.cell? ⟨w.heap.size, 0, none⟩ = some (Value.int .i64 2) ∧ w'.cell? ⟨w.heap.size, 1, none⟩ = some (.bool (decide (x < 0))) ∧ w'.cell? ⟨w.heap.size, 2, none⟩ = some (.slice A la ca) ∧ w'.cell? ⟨w.heap.size, 3, none⟩ = some (.int .u64 0) ∧ w'.cell? ⟨w.heap.size, 4, none⟩ = some (.string noT) ∧ w'.cell? ⟨w.heap.size, 5, none⟩ = some (nilS) ∧ w'.cell? ⟨w.heap.size + 1, 0, none⟩ = some (Value.int .i64 3) ∧ w'.cell? ⟨w.heap.size + 1, 1, none⟩ = some (.bool false) ∧ w'.cell? ⟨w.heap.size + 1, 2, none⟩ = some (nilS) ∧ w'.cell? ⟨w.heap.size + 1, 3, none⟩ = some (.int .u64 (g : Int)) ∧ w'.cell? ⟨w.heap.size + 1, 4, none⟩ = some (.string noT) ∧ w'.cell? ⟨w.heap.size + 1, 5, none⟩ = some (nilS))
    (exact ⟨x0, x1, x2, x3, x4, x5, y0, y1, y2, y3, y4, y5⟩)
    ((first
        | (go_at_call 27; refine (Cx.out _ HB0.out.1.drew).mono ?_
           rintro e w5 ⟨v5, rfl, hs5, hB5⟩
           have hB5 : Below W.heap.size W w5 := ⟨hB5.os, hB5.tape, hB5.output, hB5.size, hB5.block⟩
           have b1 := HB0.out.2.1.below hB5 (by omega)
           have b2 := HB0.out.2.2.below hB5 (by omega)
           obtain ⟨x0, x1, x2, x3, x4, x5, _, _, _, _, _, _⟩ := b1.c6
           obtain ⟨y0, y1, y2, y3, y4, y5, _, _, _, _, _, _⟩ := b2.c6
           have hzz5 := hB5.size
           have HB5 := Lib.hid (And.intro (HB0.out.1.trans (hB5.mono HB0.out.1.size)) (And.intro b1 b2))
           have HS5 := Lib.hid hs5
           clear hs5
           clear hB5 b1 b2)
        | (go_at_call 32; refine (Cy.out _ HB5.out.1).mono ?_
           rintro e w6 ⟨rfl, hB6⟩
           have HS5 := Lib.hid ((HS5.out.below hB6).more hB6.size)
           have b1 := HB5.out.2.1.below hB6 (by omega)
           have b2 := HB5.out.2.2.below hB6 (by omega)
           obtain ⟨x0, x1, x2, x3, x4, x5, _, _, _, _, _, _⟩ := b1.c6
           obtain ⟨y0, y1, y2, y3, y4, y5, _, _, _, _, _, _⟩ := b2.c6
           have hzz6 := hB6.size
           have HB6 := Lib.hid (And.intro (HB5.out.1.trans (hB6.mono HB5.out.1.size)) (And.intro b1 b2))
           clear hB6 b1 b2)
        | (go_at_call 68; refine (cmpFloat_any x 40 g v5 w6 (by omega) hg HS5.out).mono ?_
           rintro e w7 ⟨rfl, hB7⟩
           have b1 := HB6.out.2.1.below hB7 (by omega)
           have b2 := HB6.out.2.2.below hB7 (by omega)
           obtain ⟨x0, x1, x2, x3, x4, x5, _, _, _, _, _, _⟩ := b1.c6
           obtain ⟨y0, y1, y2, y3, y4, y5, _, _, _, _, _, _⟩ := b2.c6
           have hzz7 := hB7.size
           have HB7 := Lib.hid (And.intro (HB6.out.1.trans (hB7.mono HB6.out.1.size)) (And.intro b1 b2))
           clear hB7 b1 b2)))
  go_wp2
  go_ret
  exact ⟨rfl, HB7.out.1⟩
set_option maxRecDepth 10000 in
set_option maxHeartbeats 1000000 in
theorem cmpN_fi (f : Nat) (y : Int) (u v : Value) (w : World) (hx : VAt w w.heap.size (.float f) u) (hy : VAt w w.heap.size (.int y) v) :
    Calls Tryz.prog 58 #[u, v] w fun e w' => e = .returned (.int .i64 (-(Fl.cmpW (.num (y * unitF)) (wf f)))) ∧ Below w.heap.size w w' := by
  have Cx : Hid (∀ V, Below w.heap.size w V → Calls Tryz.prog 32 #[u] V fun e w' => e = .returned (.float .f64 f) ∧ Below V.heap.size V w') := Lib.hid fun V hV => fl_any f u V ((hx.below hV).more hV.size)
  have Cy : Hid (∀ V, Below w.heap.size w V → Calls Tryz.prog 27 #[v] V (OwnsSI V y 40)) := Lib.hid fun V hV => num_any y v V ((hy.below hV).more hV.size)
  simp only [VAt] at hx
  obtain ⟨rfl, hf⟩ := hx
  simp only [VAt] at hy
  obtain ⟨D, cb, b, rfl, q1, q2, q3, q4, q5⟩ := hy
  generalize hb : b.length = lb at Cy ⊢
  clear q1 q2 q3 q4 q5 hb
  unfold valV at *
  go_enter Tryz.func58, Tryz.ntmps58
  go_wp2_with fail
  refine gen2 (M := fun W => Code.wp _ _ _ _ W) fun W hB b1 b2 hz => ?_
  have hz1 : w.heap.size + 1 < W.heap.size := by omega
  clear hz
  obtain ⟨x0, x1, x2, x3, x4, x5, _, _, _, _, _, _⟩ := b1.c6
  obtain ⟨y0, y1, y2, y3, y4, y5, _, _, _, _, _, _⟩ := b2.c6
  have HB0 := Lib.hid (And.intro hB (And.intro b1 b2))
  clear hB b1 b2
  go_region_held3 (fun w' => w'.cell? ⟨w.heap.size, 0, none⟩ = some (Value.int .i64 3) ∧ w'.cell? ⟨w.heap.size, 1, none⟩ = some (.bool false) ∧ w'.cell? ⟨w.heap.size, 2, none⟩ = some (nilS) ∧ w'.cell? ⟨w.heap.size, 3, none⟩ = some (.int .u64 (f : Int)) ∧ w'.cell? ⟨w.heap.size, 4, none⟩ = some (.string noT) ∧ w'.cell? ⟨w.heap.size, 5, none⟩ = some (nilS) ∧ w'.cell? ⟨w.heap.size + 1, 0, none⟩ = some (Value.int .i64 2) ∧ w'.cell? ⟨w.heap.size + 1, 1, none⟩ = some (.bool (decide (y < 0))) ∧ w'.cell? ⟨w.heap.size + 1, 2, none⟩ = some (.slice D lb cb) ∧ w'.cell? ⟨w.heap.size + 1, 3, none⟩ = some (.int .u64 0) ∧ w'.cell? ⟨w.heap.size + 1, 4, none⟩ = some (.string noT) ∧ w'.cell? ⟨w.heap.size + 1, 5, none⟩ = some (nilS))
    (exact ⟨x0, x1, x2, x3, x4, x5, y0, y1, y2, y3, y4, y5⟩)
    ((first
        | (go_at_call 27; refine (Cy.out _ HB0.out.1.drew).mono ?_
           rintro e w5 ⟨v5, rfl, hs5, hB5⟩
           have hB5 : Below W.heap.size W w5 := ⟨hB5.os, hB5.tape, hB5.output, hB5.size, hB5.block⟩
           have b1 := HB0.out.2.1.below hB5 (by omega)
           have b2 := HB0.out.2.2.below hB5 (by omega)
           obtain ⟨x0, x1, x2, x3, x4, x5, _, _, _, _, _, _⟩ := b1.c6
           obtain ⟨y0, y1, y2, y3, y4, y5, _, _, _, _, _, _⟩ := b2.c6
           have hzz5 := hB5.size
           have HB5 := Lib.hid (And.intro (HB0.out.1.trans (hB5.mono HB0.out.1.size)) (And.intro b1 b2))
           have HS5 := Lib.hid hs5
           clear hs5
           clear hB5 b1 b2)
        | (go_at_call 32; refine (Cx.out _ HB5.out.1).mono ?_
           rintro e w6 ⟨rfl, hB6⟩
           have HS5 := Lib.hid ((HS5.out.below hB6).more hB6.size)
           have b1 := HB5.out.2.1.below hB6 (by omega)
           have b2 := HB5.out.2.2.below hB6 (by omega)
           obtain ⟨x0, x1, x2, x3, x4, x5, _, _, _, _, _, _⟩ := b1.c6
           obtain ⟨y0, y1, y2, y3, y4, y5, _, _, _, _, _, _⟩ := b2.c6
           have hzz6 := hB6.size
           have HB6 := Lib.hid (And.intro (HB5.out.1.trans (hB6.mono HB5.out.1.size)) (And.intro b1 b2))
           clear hB6 b1 b2)
        | (go_at_call 68; refine (cmpFloat_any y 40 f v5 w6 (by omega) hf HS5.out).mono ?_
           rintro e w7 ⟨rfl, hB7⟩
           have b1 := HB6.out.2.1.below hB7 (by omega)
           have b2 := HB6.out.2.2.below hB7 (by omega)
           obtain ⟨x0, x1, x2, x3, x4, x5, _, _, _, _, _, _⟩ := b1.c6
           obtain ⟨y0, y1, y2, y3, y4, y5, _, _, _, _, _, _⟩ := b2.c6
           have hzz7 := hB7.size
           have HB7 := Lib.hid (And.intro (HB6.out.1.trans (hB7.mono HB6.out.1.size)) (And.intro b1 b2))
           clear hB7 b1 b2)))
  go_wp2
  go_ret
  exact ⟨by rw [wrap64_neg_cmp]; rfl, HB7.out.1⟩
set_option maxRecDepth 10000 in
set_option maxHeartbeats 1000000 in
theorem cmpN_ff (f : Nat) (g : Nat) (u v : Value) (w : World) (hx : VAt w w.heap.size (.float f) u) (hy : VAt w w.heap.size (.float g) v) :
    Calls Tryz.prog 58 #[u, v] w fun e w' => e = .returned (.int .i64 (Fl.cmpW (wf f) (wf g))) ∧ Below w.heap.size w w' := by
  have Cx : Hid (∀ V, Below w.heap.size w V → Calls Tryz.prog 32 #[u] V fun e w' => e = .returned (.float .f64 f) ∧ Below V.heap.size V w') := Lib.hid fun V hV => fl_any f u V ((hx.below hV).more hV.size)
  have Cy : Hid (∀ V, Below w.heap.size w V → Calls Tryz.prog 32 #[v] V fun e w' => e = .returned (.float .f64 g) ∧ Below V.heap.size V w') := Lib.hid fun V hV => fl_any g v V ((hy.below hV).more hV.size)
  simp only [VAt] at hx
  obtain ⟨rfl, hf⟩ := hx
  simp only [VAt] at hy
  obtain ⟨rfl, hg⟩ := hy
  unfold valV at *
  go_enter Tryz.func58, Tryz.ntmps58
  go_wp2_with fail
  refine gen2 (M := fun W => Code.wp _ _ _ _ W) fun W hB b1 b2 hz => ?_
  have hz1 : w.heap.size + 1 < W.heap.size := by omega
  clear hz
  obtain ⟨x0, x1, x2, x3, x4, x5, _, _, _, _, _, _⟩ := b1.c6
  obtain ⟨y0, y1, y2, y3, y4, y5, _, _, _, _, _, _⟩ := b2.c6
  have HB0 := Lib.hid (And.intro hB (And.intro b1 b2))
  clear hB b1 b2
  go_region_held3 (fun w' => w'.cell? ⟨w.heap.size, 0, none⟩ = some (Value.int .i64 3) ∧ w'.cell? ⟨w.heap.size, 1, none⟩ = some (.bool false) ∧ w'.cell? ⟨w.heap.size, 2, none⟩ = some (nilS) ∧ w'.cell? ⟨w.heap.size, 3, none⟩ = some (.int .u64 (f : Int)) ∧ w'.cell? ⟨w.heap.size, 4, none⟩ = some (.string noT) ∧ w'.cell? ⟨w.heap.size, 5, none⟩ = some (nilS) ∧ w'.cell? ⟨w.heap.size + 1, 0, none⟩ = some (Value.int .i64 3) ∧ w'.cell? ⟨w.heap.size + 1, 1, none⟩ = some (.bool false) ∧ w'.cell? ⟨w.heap.size + 1, 2, none⟩ = some (nilS) ∧ w'.cell? ⟨w.heap.size + 1, 3, none⟩ = some (.int .u64 (g : Int)) ∧ w'.cell? ⟨w.heap.size + 1, 4, none⟩ = some (.string noT) ∧ w'.cell? ⟨w.heap.size + 1, 5, none⟩ = some (nilS))
    (exact ⟨x0, x1, x2, x3, x4, x5, y0, y1, y2, y3, y4, y5⟩)
    ((first
        | (go_at_call 32; refine (Cx.out _ HB0.out.1.drew).mono ?_
           rintro e w5 ⟨rfl, hB5⟩
           have hB5 : Below W.heap.size W w5 := ⟨hB5.os, hB5.tape, hB5.output, hB5.size, hB5.block⟩
           have b1 := HB0.out.2.1.below hB5 (by omega)
           have b2 := HB0.out.2.2.below hB5 (by omega)
           obtain ⟨x0, x1, x2, x3, x4, x5, _, _, _, _, _, _⟩ := b1.c6
           obtain ⟨y0, y1, y2, y3, y4, y5, _, _, _, _, _, _⟩ := b2.c6
           have hzz5 := hB5.size
           have HB5 := Lib.hid (And.intro (HB0.out.1.trans (hB5.mono HB0.out.1.size)) (And.intro b1 b2))
           clear hB5 b1 b2)
        | (go_at_call 32; refine (Cy.out _ HB5.out.1).mono ?_
           rintro e w6 ⟨rfl, hB6⟩
           have b1 := HB5.out.2.1.below hB6 (by omega)
           have b2 := HB5.out.2.2.below hB6 (by omega)
           obtain ⟨x0, x1, x2, x3, x4, x5, _, _, _, _, _, _⟩ := b1.c6
           obtain ⟨y0, y1, y2, y3, y4, y5, _, _, _, _, _, _⟩ := b2.c6
           have hzz6 := hB6.size
           have HB6 := Lib.hid (And.intro (HB5.out.1.trans (hB6.mono HB5.out.1.size)) (And.intro b1 b2))
           clear hB6 b1 b2)
        | (go_at_call 69; refine (cmpFloats_any f g hf hg w6).mono ?_
           rintro e w7 ⟨rfl, rfl⟩)))
  go_wp2
  go_ret
  exact ⟨rfl, HB6.out.1⟩
end Go.Proofs.YtkmeckimmfbkiaaGreatDoor
namespace Go.Proofs.YtkmeckimmfbkiaaGreatDoor
open Go Go.RowKit
/-- A bool is handed back. -/
def RetB (w : World) (b : Bool) (e : Ending) (w' : World) : Prop := e = .returned (.bool b) ∧ Below w.heap.size w w'
/-- Row i of six cells. -/
def RowV (xs : List Value) (i : Nat) (v : Value) : Prop := ∃ c0 c1 c2 c3 c4 c5, v = .agg #[c0, c1, c2, c3, c4, c5] ∧ xs[6 * i]? = some c0 ∧ xs[6 * i + 1]? = some c1 ∧ xs[6 * i + 2]? = some c2 ∧ xs[6 * i + 3]? = some c3 ∧ xs[6 * i + 4]? = some c4 ∧ xs[6 * i + 5]? = some c5
/-- Six cells at an address. -/
def SixAt (w : World) (p : Addr) (c0 c1 c2 c3 c4 c5 : Value) : Prop :=
  w.cell? p = some c0 ∧ w.cell? ⟨p.block, p.off + 1, none⟩ = some c1 ∧ w.cell? ⟨p.block, p.off + 2, none⟩ = some c2 ∧ w.cell? ⟨p.block, p.off + 3, none⟩ = some c3 ∧ w.cell? ⟨p.block, p.off + 4, none⟩ = some c4 ∧ w.cell? ⟨p.block, p.off + 5, none⟩ = some c5
theorem SixAt.below {w w' : World} {B : Nat} {p : Addr} {c0 c1 c2 c3 c4 c5 : Value} (h : SixAt w p c0 c1 c2 c3 c4 c5) (hb : Below B w w') (hp : p.block < B) : SixAt w' p c0 c1 c2 c3 c4 c5 := by
  obtain ⟨h0, h1, h2, h3, h4, h5⟩ := h
  exact ⟨(hb.cell hp).trans h0, (hb.cell (p := ⟨p.block, p.off + 1, none⟩) hp).trans h1, (hb.cell (p := ⟨p.block, p.off + 2, none⟩) hp).trans h2, (hb.cell (p := ⟨p.block, p.off + 3, none⟩) hp).trans h3, (hb.cell (p := ⟨p.block, p.off + 4, none⟩) hp).trans h4, (hb.cell (p := ⟨p.block, p.off + 5, none⟩) hp).trans h5⟩
theorem Reads.six2 {w : World} {B n k : Nat} {A : Option Addr} {xs : List Value} (h : Reads w B 6 A n xs) (hk : k < n) :
    ∃ ad c0 c1 c2 c3 c4 c5, A = some ad ∧ (ad.add (k * 6)).block < B ∧ RowV xs k (.agg #[c0, c1, c2, c3, c4, c5]) ∧ SixAt w (ad.add (k * 6)) c0 c1 c2 c3 c4 c5 := by
  obtain ⟨ad, c0, c1, c2, c3, c4, c5, rfl, had, e0, e1, e2, e3, e4, e5, hc⟩ := h.six hk
  rw [Nat.mul_comm 6 k] at hc
  have g : ∀ j v, [c0, c1, c2, c3, c4, c5][j]? = some v → 0 < j → w.cell? ⟨(ad.add (k * 6)).block, (ad.add (k * 6)).off + j, none⟩ = some v := fun j v hv hj => by
    have := hc j v hv
    rwa [Addr.add, if_neg (by omega)] at this
  refine ⟨ad, c0, c1, c2, c3, c4, c5, rfl, by rw [block_of_add]; exact had, ⟨c0, c1, c2, c3, c4, c5, rfl, e0, e1, e2, e3, e4, e5⟩, ?_, g 1 _ rfl (by decide), g 2 _ rfl (by decide), g 3 _ rfl (by decide), g 4 _ rfl (by decide), g 5 _ rfl (by decide)⟩
  have := hc 0 c0 rfl
  simpa [Addr.add] using this
set_option maxRecDepth 10000 in
set_option maxHeartbeats 1000000 in
theorem find_any (step n c : Nat) (A : Option Addr) (xs : List Value) (k0 k1 k2 k3 k4 k5 : Value) (R : Nat → Bool) (w : World) (hs : 0 < step) (hs2 : step ≤ 2) (hn : n ≤ 16) (hr : Reads w w.heap.size 6 A n xs) (h1 : ∀ u ∈ [k0, k1, k2, k3, k4, k5], u.oneCell' = true)
    (ih : ∀ (i : Nat) (v : Value), i < n → RowV xs i v → ∀ W, Below w.heap.size w W → Calls Tryz.prog 41 #[v, .agg #[k0, k1, k2, k3, k4, k5]] W (RetB W (R i))) :
    Calls Tryz.prog 23 #[.slice A n c, .int .i64 step, .agg #[k0, k1, k2, k3, k4, k5]] w fun e w' => ∃ r : Int, e = .returned (.int .i64 r) ∧ Below w.heap.size w w' ∧ ((r = -1 ∧ ∀ i, i < n → i % step = 0 → R i = false) ∨ ∃ i : Nat, r = (i : Int) ∧ i < n ∧ i % step = 0 ∧ R i = true) := by
  have HX := Lib.hid (And.intro hr ih)
  have o0 := h1 k0 (by simp)
  have o1 := h1 k1 (by simp)
  have o2 := h1 k2 (by simp)
  have o3 := h1 k3 (by simp)
  have o4 := h1 k4 (by simp)
  have o5 := h1 k5 (by simp)
  clear hr ih h1
  go_enter Tryz.func23, Tryz.ntmps23
  go_wp2_with fail
  refine gen1 (M := fun W => Code.wp _ _ _ _ W) fun W hB b1 hz => ?_
  have hz1 : w.heap.size < W.heap.size := by omega
  clear hz
  have HB := Lib.hid (And.intro hB b1)
  clear hB b1
  go_loopw [7] (fun vi wr => ∃ i : Nat, vi = .int .i64 i ∧ i ≤ n + 1 ∧ i % step = 0 ∧ (∀ j, j < i → j % step = 0 → R j = false) ∧ Below W.heap.size W wr) (fun vi _ => n + 2 - (intOf vi).toNat)
  case atStart => exact ⟨0, rfl, by omega, by simp, fun j hj => by omega, Below.refl _ _⟩
  case round =>
    obtain ⟨i, rfl, hk, him, hall, hB⟩ := hrel
    rcases Nat.lt_or_ge i n with hlt | hge
    · have bi : (i : Int) < (n : Int) := by omega
      have w1 : IntKind.i64.wrap ((i : Int) + (step : Int)) = (i : Int) + (step : Int) := by rw [IntKind.wrap_i64]; omega
      obtain ⟨ad, c0, c1, c2, c3, c4, c5, rfl, had, hrow, hsix⟩ := HX.out.1.six2 hlt
      obtain ⟨x0, x1, x2, x3, x4, x5, _, _, _, _, _, _⟩ := (HB.out.2.below hB (by omega)).c6
      have hBW := HB.out.1.trans (hB.mono HB.out.1.size)
      have HC := Lib.hid (HX.out.2 i _ hlt hrow wr.drew hBW.drew)
      have HS := Lib.hid (And.intro hsix had)
      obtain ⟨y0, y1, y2, y3, y4, y5⟩ := hsix.below hBW had
      have HH := Lib.hid (And.intro hall (And.intro him hB))
      clear hsix hBW hall him hB hrow
      go_wp2_with fail
      go_region_held3 (fun w' => (w'.cell? ⟨w.heap.size, 0, none⟩ = some k0 ∧ w'.cell? ⟨w.heap.size, 1, none⟩ = some k1 ∧ w'.cell? ⟨w.heap.size, 2, none⟩ = some k2 ∧ w'.cell? ⟨w.heap.size, 3, none⟩ = some k3 ∧ w'.cell? ⟨w.heap.size, 4, none⟩ = some k4 ∧ w'.cell? ⟨w.heap.size, 5, none⟩ = some k5) ∧
          w'.cell? (ad.add (i * 6)) = some c0 ∧ w'.cell? ⟨(ad.add (i * 6)).block, (ad.add (i * 6)).off + 1, none⟩ = some c1 ∧ w'.cell? ⟨(ad.add (i * 6)).block, (ad.add (i * 6)).off + 2, none⟩ = some c2 ∧ w'.cell? ⟨(ad.add (i * 6)).block, (ad.add (i * 6)).off + 3, none⟩ = some c3 ∧ w'.cell? ⟨(ad.add (i * 6)).block, (ad.add (i * 6)).off + 4, none⟩ = some c4 ∧ w'.cell? ⟨(ad.add (i * 6)).block, (ad.add (i * 6)).off + 5, none⟩ = some c5)
        (exact ⟨⟨x0, x1, x2, x3, x4, x5⟩, y0, y1, y2, y3, y4, y5⟩)
        ((go_at_call 41; refine HC.out.mono ?_
          rintro e w5 ⟨rfl, hB5⟩
          have hB5 : Below W.heap.size W w5 := HH.out.2.2.trans (Below.mono ⟨hB5.os, hB5.tape, hB5.output, hB5.size, hB5.block⟩ HH.out.2.2.size)
          obtain ⟨x0, x1, x2, x3, x4, x5, _, _, _, _, _, _⟩ := (HB.out.2.below hB5 (by omega)).c6
          obtain ⟨y0, y1, y2, y3, y4, y5⟩ := HS.out.1.below (HB.out.1.trans (hB5.mono HB.out.1.size)) HS.out.2
          have HB5 := Lib.hid hB5
          clear hB5))
      rcases hRe : R i with _ | _
      · have HRe := Lib.hid hRe
        clear hRe
        go_wp2
        go_roundw
        case rel =>
          refine ⟨i + step, by go_num, by omega, by rw [Nat.add_mod_right]; exact HH.out.2.1, fun j hj hjm => ?_, HB5.out⟩
          rcases Nat.lt_or_ge j i with h | h
          · exact HH.out.1 j h hjm
          · have hji : j = i := by
              have him := HH.out.2.1
              rcases (show step = 1 ∨ step = 2 by omega) with h | h
              · subst h; omega
              · subst h; omega
            rw [hji]; exact HRe.out
        case measure => simp [intOf]; omega
      · have HRe := Lib.hid hRe
        clear hRe
        go_wp2
        go_ret
        exact ⟨i, rfl, HB.out.1.trans (HB5.out.mono HB.out.1.size), .inr ⟨i, rfl, hlt, HH.out.2.1, HRe.out⟩⟩
    · have bi : ¬ (i : Int) < (n : Int) := by omega
      have HH := Lib.hid (And.intro hall hB)
      clear hall hB
      go_wp2
      go_ret
      exact ⟨-1, rfl, HB.out.1.trans (HH.out.2.mono HB.out.1.size), .inl ⟨rfl, fun j hj hjm => HH.out.1 j (by omega) hjm⟩⟩
end Go.Proofs.YtkmeckimmfbkiaaGreatDoor
