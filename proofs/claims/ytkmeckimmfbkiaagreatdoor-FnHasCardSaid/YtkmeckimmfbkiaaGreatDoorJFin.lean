/- Integers and floats of the language as rationals. Conditions: none. -/
import Derived.Test.YtkmeckimmfbkiaaGreatDoorSetF
import Derived.Test.YtkmeckimmfbkiaaGreatDoorJVMem
import Derived.Test.YtkmeckimmfbkiaaGreatDoorJPure
namespace Go.Proofs.YtkmeckimmfbkiaaGreatDoor
open Go Go.RowKit
set_option maxRecDepth 10000 in
set_option maxHeartbeats 400000 in
theorem divOne_any (gz g X : Nat) (nx : Bool) (w : World) (hx : RatAt w w.heap.size g nx X 1) (hz : Blk w gz 132 #[.bool false, .slice none 0 0]) (hX0 : 0 < X) (hX : (limbs X).length ≤ 1000) (hne : gz ≠ g) :
    Calls Tryz.prog 158 #[.pointer (some ⟨gz, 0, none⟩), .pointer (some ⟨g, 0, none⟩), .pointer (some ⟨g, 2, none⟩)] w (SetInt w gz nx X) := by
  have HX := Lib.hid hx
  obtain ⟨A, ca, D, cd, bx, lx, ra, hca, rd, hcd⟩ := hx
  obtain ⟨x0, x1, x2, x3, z0, z1, z2, z3⟩ := bx.c4
  have HB := Lib.hid (And.intro bx hz)
  have hzl := hz.lt
  clear bx ra rd hca hcd hz
  go_enter Tryz.func158, Tryz.ntmps158
  go_wp2_with fail
  refine gen1 (M := fun W => Calls _ _ _ W _) fun W hB b hs => ?_
  have l1 : limbs 1 = [1] := limbs_one 1 (by decide) (by decide)
  have hXW := (HX.out.below hB).more (B' := W.heap.size) (by omega)
  refine (quoRem_any gz g 0 g 2 w.heap.size X 1 nx false false false W _ _ _ _ hXW.num hXW.den (HB.out.1.below hB lx) (HB.out.1.below hB lx) (HB.out.2.below hB hzl) b (.inr rfl) (by omega) (by decide) hX0 (by decide) (by omega) hne hne (by omega) (by omega)).mono ?_
  rintro e w1 ⟨rfl, iq, ir, hs1, ho1, ht1, hu1, hk1⟩
  rw [Nat.div_one, decide_eq_true hX0, Bool.true_and, Bool.bne_false] at iq
  rw [Nat.mod_one] at ir
  have ir : IntAt w1 w1.heap.size w.heap.size false 0 := ir
  obtain ⟨A3, c3, b3, _⟩ := ir
  obtain ⟨r0, r1, r2, r3⟩ := b3.c2
  have HQ := Lib.hid (And.intro iq (show w.grownBy w1 (some gz) from ⟨ho1.trans hB.os, ht1.trans hB.tape, hu1.trans hB.output, by have := hB.size; omega, fun i hi hne => (hk1 i (by have := hB.size; omega) (by intro e; exact hne (by rw [e])) (by omega)).trans (hB.block i hi)⟩))
  clear iq hs1 ho1 ht1 hu1 hk1 hB b hs hXW b3 l1
  go_wp2
  go_ret
  exact ⟨rfl, HQ.out.1, HQ.out.2⟩
set_option maxRecDepth 10000 in
set_option maxHeartbeats 400000 in
theorem newInt64_any (x : Int) (h0 : x ≠ 0) (h1 : -9223372036854775808 ≤ x) (h2 : x < 9223372036854775808) (w : World) : Calls Tryz.prog 136 #[.int .i64 x] w (NewI w x) := by
  rcases Int.lt_or_eq_of_le h1 with h | h
  · exact newInt_any x h0 h h2 w
  · subst h
    go_enter Tryz.func136, Tryz.ntmps136
    go_wp2
    refine gen2 (M := fun W => bodyPost _ _ _ _ _ W) fun W hB b7 b8 hz => ?_
    go_ret
    refine ⟨_, rfl, Nat.le_succ _, ?_, hB⟩
    exact intAt_word (x := 9223372036854775808) b8 b7.c1.1 (by show w.heap.size < _; omega) (Nat.le_refl _) (by decide) (by decide)
set_option maxRecDepth 10000 in
set_option maxHeartbeats 400000 in
theorem makeInt64_any (x : Int) (h1 : -9223372036854775808 ≤ x) (h2 : x < 9223372036854775808) (w : World) : Calls Tryz.prog 289 #[.int .i64 x] w (MadeInt w x) := by
  by_cases hsm : -2147483648 ≤ x ∧ x ≤ 2147483647
  · obtain ⟨h3, h4⟩ := hsm
    go_enter Tryz.func289, Tryz.ntmps289
    go_wp2_with fail
    refine gen1 (M := fun W => Calls _ _ _ W _) fun W hB b hz => ?_
    refine (makeSmall_any x W).mono ?_
    rintro e w1 ⟨rfl, hB1⟩
    have b1 := b.below hB1 (by omega)
    obtain ⟨k0, k1, z0, z1⟩ := b1.c2
    have hB2 := hB.trans (hB1.mono (by omega))
    clear hB b hB1
    go_wp2
    refine gen_set2 (M := fun V => bodyPost _ _ _ _ _ V) b1 fun W2 b2 hg2 hz2 => ?_
    exact ret_row rfl _ b2 rfl Tryz.underlying94 rfl size63 rfl ⟨_, _, rfl, .inl ⟨rfl, rfl, h3, h4⟩, below_grown hB2 hg2 (Nat.le_refl _) hB2.size⟩
  · have H := fun W => newInt64_any x (by omega) h1 h2 W
    have HN := Lib.hid H
    clear H
    have hd : -2147483648 ≤ x → 2147483647 < x := by omega
    go_enter Tryz.func289, Tryz.ntmps289
    go_wp2_with fail
    all_goals
      refine gen1 (M := fun W => Calls _ _ _ W _) fun W hB b hz => ?_
      refine (HN.out W).mono ?_
      rintro e w1 ⟨g, rfl, hg, iI, hB1⟩
      have b1 := b.below hB1 (by omega)
      have hB2 := hB.trans (hB1.mono (by omega))
      have H1 := Lib.hid (And.intro iI (And.intro b1 hB2))
      have hgl : w.heap.size < w1.heap.size := b1.lt
      clear hB b hB1 iI b1 hB2
      go_wp2_with fail
      refine (makeBig_any (some ⟨g, 0, none⟩) w1).mono ?_
      rintro e w2 ⟨rfl, hB3⟩
      obtain ⟨iI, b1, hB2⟩ := H1.out
      have b2 := b1.below hB3 hgl
      have i2 := (iI.below hB3).more hB3.size
      have hB4 := hB2.trans (hB3.mono hB2.size)
      obtain ⟨k0, k1, z0, z1⟩ := b2.c2
      clear iI b1 hB2 hB3 H1
      go_wp2
      refine gen_set2 (M := fun V => bodyPost _ _ _ _ _ V) b2 fun W2 b3 hg2 hz2 => ?_
      refine ret_row rfl _ b3 rfl Tryz.underlying94 rfl size63 rfl ⟨_, _, rfl, .inr ⟨_, rfl, rfl, ?_, hsm⟩, below_grown hB4 hg2 (Nat.le_refl _) hB4.size⟩
      obtain ⟨A, c, j1, j2, j3, j4⟩ := i2
      exact ⟨A, c, j1.grown hg2 (by simp; omega), by omega, (j3.grown63 b2 hg2).more (by omega), j4⟩
set_option maxRecDepth 10000 in
set_option maxHeartbeats 400000 in
theorem floatRat_any (b : Nat) (hb : b < 2 ^ 64) (hf : b % 2 ^ 63 < 2047 * 2 ^ 52) (w : World) : Calls Tryz.prog 105 #[.float .f64 b] w fun e w' => ∃ g a d, e = .returned (.pointer (some ⟨g, 0, none⟩)) ∧ w.heap.size ≤ g ∧ RatAt w' w'.heap.size g (decide (Fl.sv (decide (2 ^ 63 ≤ b)) (b % 2 ^ 63) < 0)) a d ∧ Below w.heap.size w w' ∧ 0 < d ∧ a * 2 ^ 1074 = Fl.fv (b % 2 ^ 63) * d ∧ (limbs a).length ≤ 20 ∧ (limbs d).length ≤ 20 ∧ (1074 ≤ Fl.pOf (b % 2 ^ 63) → d = 1) := by
  have HC := Lib.hid fun g W h => setFloat_any g b hb hf W h
  generalize decide (Fl.sv (decide (2 ^ 63 ≤ b)) (b % 2 ^ 63) < 0) = N at *
  clear hf hb
  go_enter Tryz.func105, Tryz.ntmps105
  go_wp2_with fail
  refine gen1 (M := fun W => Calls _ _ _ W _) fun W hB bz hs => ?_
  refine (HC.out w.heap.size W bz).mono ?_
  rintro e w1 ⟨a, d, ⟨rfl, hR, hg⟩, h1, h2, h3, h4, h5⟩
  have HR := Lib.hid (And.intro hR (And.intro (hB.grown hg (by omega) (fun k e => by cases e; exact Nat.le_refl _)) (And.intro h1 (And.intro h2 (And.intro h3 (And.intro h4 h5))))))
  clear hR hg hB bz h1 h2 h3 h4 h5
  go_wp2
  go_ret
  exact ⟨_, a, d, rfl, Nat.le_refl _, HR.out⟩
set_option maxRecDepth 10000 in
theorem ratNum_any (g : Nat) (w : World) : Calls Tryz.prog 290 #[.pointer (some ⟨g, 0, none⟩)] w fun e w' => e = .returned (.pointer (some ⟨g, 0, none⟩)) ∧ w' = w := by
  go_enter Tryz.func290, Tryz.ntmps290
  go_wp2
  go_ret
  exact ⟨rfl, rfl⟩
set_option maxRecDepth 10000 in
theorem ratDenom_any (g n c : Nat) (D : Option Addr) (w : World) (h : w.cell? ⟨g, 3, none⟩ = some (.slice D n c)) (hn : 0 < n) : Calls Tryz.prog 291 #[.pointer (some ⟨g, 0, none⟩)] w fun e w' => e = .returned (.pointer (some ⟨g, 2, none⟩)) ∧ w' = w := by
  have h0 : ((n : Int) == 0) = false := by rw [beq_eq_false_iff_ne]; omega
  go_enter Tryz.func291, Tryz.ntmps291
  go_wp2
  go_ret
  exact ⟨rfl, rfl⟩
set_option maxRecDepth 10000 in
set_option maxHeartbeats 400000 in
theorem finite_any (b : Nat) (hb : b < 2 ^ 64) (hf : b % 2 ^ 63 < 2047 * 2 ^ 52) (w : World) : Calls Tryz.prog 288 #[.float .f64 b] w fun e w' => ∃ x, MadeInt w x e w' := by
  rcases hr : Fl.inRange b with _ | _
  · obtain ⟨hp, hm⟩ := Fl.conv_out hb hf hr
    have HR := Lib.hid fun W => floatRat_any b hb hf W
    have HP := Lib.hid (And.intro hp hm)
    unfold Fl.inRange at hr
    rw [Bool.and_eq_false_iff] at hr
    have hor : (FloatKind.f64.format.order 14114281232179134464 b == some .lt || FloatKind.f64.format.order 14114281232179134464 b == some .eq) = false ∨ ((FloatKind.f64.format.order 14114281232179134464 b == some .lt || FloatKind.f64.format.order 14114281232179134464 b == some .eq) = true ∧ (FloatKind.f64.format.order b 4890909195324358656 == some .lt) = false) := by
      rcases h : (FloatKind.f64.format.order 14114281232179134464 b == some .lt || FloatKind.f64.format.order 14114281232179134464 b == some .eq) with _ | _
      · exact .inl rfl
      · rw [h] at hr
        exact .inr ⟨rfl, hr.resolve_left (by decide)⟩
    clear hr hp hm hf
    rcases hor with o1 | ⟨o1, o2⟩
    · go_enter Tryz.func288, Tryz.ntmps288
      go_wp2_with (simp only [o1])
      refine gen1 (M := fun W => Calls _ _ _ W _) fun W hB bz hs => ?_
      refine (HR.out W).mono ?_
      rintro e w1 ⟨g, a, d, rfl, hg, hR, hB1, h1, h2, h3, h4, h5⟩
      have hd1 : d = 1 := h5 HP.out.1
      subst hd1
      have ha0 : 0 < a := Fl.num_pos h2 HP.out.2 (by decide)
      generalize decide (Fl.sv (decide (2 ^ 63 ≤ b)) (b % 2 ^ 63) < 0) = N at *
      have b1 := bz.below hB1 (by omega)
      have hB2 := hB.trans (hB1.mono (by omega))
      have y3 : ∃ D c, w1.cell? ⟨g, 3, none⟩ = some (.slice D (limbs 1).length c) := by obtain ⟨A, ca, D, cd, bx, _⟩ := hR; exact ⟨D, cd, bx.cell 3⟩
      obtain ⟨D, cd, y3⟩ := y3
      have hdn : 0 < (limbs 1).length := by rw [limbs_one 1 (by decide) (by decide)]; decide
      have H1 := Lib.hid (And.intro hR (And.intro b1 hB2))
      have hwl : w.heap.size < w1.heap.size := b1.lt
      clear hB bz hs hB1 h1 h2 h4 h5 hR b1 hB2
      go_wp2_with fail
      refine gen1 (M := fun W => Calls _ _ _ W _) fun W2 hB3 bz hs2 => ?_
      have y3 : W2.cell? ⟨g, 3, none⟩ = some (.slice D (limbs 1).length cd) := (hB3.cell (p := ⟨g, 3, none⟩) (by obtain ⟨_, _, _, _, _, h, _⟩ := H1.out.1; exact h)).trans y3
      have hgl : g < w1.heap.size := by obtain ⟨_, _, _, _, _, h, _⟩ := H1.out.1; exact h
      have H2 := Lib.hid (And.intro hB3 (And.intro bz hs2))
      clear hB3 bz
      refine (ratNum_any g W2).mono ?_
      rintro e w2 ⟨rfl, rfl⟩
      go_wp2_with fail
      refine (ratDenom_any g _ cd D w2 y3 hdn).mono ?_
      rintro e w3 ⟨rfl, rfl⟩
      go_wp2_with fail
      refine (divOne_any w1.heap.size g a N w3 ((H1.out.1.below H2.out.1).more (by omega)) H2.out.2.1 ha0 (by omega) (by omega)).mono ?_
      rintro e w4 ⟨rfl, iz, hg3⟩
      have hB5 : Below w1.heap.size w1 w4 := H2.out.1.grown hg3 (by omega) (fun k e => by cases e; exact Nat.le_refl _)
      have b4 := H1.out.2.1.below hB5 hwl
      have HB5 := Lib.hid (And.intro hB5 (And.intro b4 (H1.out.2.2.trans (hB5.mono H1.out.2.2.size))))
      have hs4 := hB5.size
      clear hB5 b4 hg3
      go_wp2_with fail
      refine (makeBigInt_any w1.heap.size a N w4 iz (by omega) (fun _ => ha0)).mono ?_
      rintro e w5 ⟨small, bp, rfl, hS, hB6⟩
      have b6 := HB5.out.2.1.below hB6 (by omega)
      have hB7 := HB5.out.2.2.trans (hB6.mono (by omega))
      obtain ⟨k0, k1, z0, z1⟩ := b6.c2
      clear hB6 iz HB5 H1 H2 y3
      go_wp2
      refine gen_set2 (M := fun V => bodyPost _ _ _ _ _ V) b6 fun W3 b7 hg7 hz7 => ?_
      exact ret_row rfl _ b7 rfl Tryz.underlying94 rfl size63 rfl ⟨sgn N a, small, bp, rfl, (hS.grown63 b6 hg7).more (by omega), below_grown hB7 hg7 (Nat.le_refl _) hB7.size⟩
    · go_enter Tryz.func288, Tryz.ntmps288
      go_wp2_with (simp only [o1, o2])
      refine gen1 (M := fun W => Calls _ _ _ W _) fun W hB bz hs => ?_
      refine (HR.out W).mono ?_
      rintro e w1 ⟨g, a, d, rfl, hg, hR, hB1, h1, h2, h3, h4, h5⟩
      have hd1 : d = 1 := h5 HP.out.1
      subst hd1
      have ha0 : 0 < a := Fl.num_pos h2 HP.out.2 (by decide)
      generalize decide (Fl.sv (decide (2 ^ 63 ≤ b)) (b % 2 ^ 63) < 0) = N at *
      have b1 := bz.below hB1 (by omega)
      have hB2 := hB.trans (hB1.mono (by omega))
      have y3 : ∃ D c, w1.cell? ⟨g, 3, none⟩ = some (.slice D (limbs 1).length c) := by obtain ⟨A, ca, D, cd, bx, _⟩ := hR; exact ⟨D, cd, bx.cell 3⟩
      obtain ⟨D, cd, y3⟩ := y3
      have hdn : 0 < (limbs 1).length := by rw [limbs_one 1 (by decide) (by decide)]; decide
      have H1 := Lib.hid (And.intro hR (And.intro b1 hB2))
      have hwl : w.heap.size < w1.heap.size := b1.lt
      clear hB bz hs hB1 h1 h2 h4 h5 hR b1 hB2
      go_wp2_with fail
      refine gen1 (M := fun W => Calls _ _ _ W _) fun W2 hB3 bz hs2 => ?_
      have y3 : W2.cell? ⟨g, 3, none⟩ = some (.slice D (limbs 1).length cd) := (hB3.cell (p := ⟨g, 3, none⟩) (by obtain ⟨_, _, _, _, _, h, _⟩ := H1.out.1; exact h)).trans y3
      have hgl : g < w1.heap.size := by obtain ⟨_, _, _, _, _, h, _⟩ := H1.out.1; exact h
      have H2 := Lib.hid (And.intro hB3 (And.intro bz hs2))
      clear hB3 bz
      refine (ratNum_any g W2).mono ?_
      rintro e w2 ⟨rfl, rfl⟩
      go_wp2_with fail
      refine (ratDenom_any g _ cd D w2 y3 hdn).mono ?_
      rintro e w3 ⟨rfl, rfl⟩
      go_wp2_with fail
      refine (divOne_any w1.heap.size g a N w3 ((H1.out.1.below H2.out.1).more (by omega)) H2.out.2.1 ha0 (by omega) (by omega)).mono ?_
      rintro e w4 ⟨rfl, iz, hg3⟩
      have hB5 : Below w1.heap.size w1 w4 := H2.out.1.grown hg3 (by omega) (fun k e => by cases e; exact Nat.le_refl _)
      have b4 := H1.out.2.1.below hB5 hwl
      have HB5 := Lib.hid (And.intro hB5 (And.intro b4 (H1.out.2.2.trans (hB5.mono H1.out.2.2.size))))
      have hs4 := hB5.size
      clear hB5 b4 hg3
      go_wp2_with fail
      refine (makeBigInt_any w1.heap.size a N w4 iz (by omega) (fun _ => ha0)).mono ?_
      rintro e w5 ⟨small, bp, rfl, hS, hB6⟩
      have b6 := HB5.out.2.1.below hB6 (by omega)
      have hB7 := HB5.out.2.2.trans (hB6.mono (by omega))
      obtain ⟨k0, k1, z0, z1⟩ := b6.c2
      clear hB6 iz HB5 H1 H2 y3
      go_wp2
      refine gen_set2 (M := fun V => bodyPost _ _ _ _ _ V) b6 fun W3 b7 hg7 hz7 => ?_
      exact ret_row rfl _ b7 rfl Tryz.underlying94 rfl size63 rfl ⟨sgn N a, small, bp, rfl, (hS.grown63 b6 hg7).more (by omega), below_grown hB7 hg7 (Nat.le_refl _) hB7.size⟩
  · obtain ⟨n, hn, hn1, hn2⟩ := Fl.conv_in hb hf hr
    have HCv : ∀ W, (convert 96 2 (.float .f64 b)).run Tryz.prog W = .ok (.int .i64 n) W := fun W => run_convert_float_int W 96 2 .f64 .i64 b n rfl rfl hn
    unfold Fl.inRange at hr
    rw [Bool.and_eq_true] at hr
    obtain ⟨o1, o2⟩ := hr
    clear hn
    have HM := Lib.hid fun W => makeInt64_any n hn1 hn2 W
    go_enter Tryz.func288, Tryz.ntmps288
    go_wp2_with (simp only [o1, o2])
    refine gen1 (M := fun W => Calls _ _ _ W _) fun W hB b hs => ?_
    refine (HM.out W).mono ?_
    rintro e w1 ⟨small, bp, rfl, hS, hB1⟩
    have b1 := b.below hB1 (by omega)
    have hB2 := hB.trans (hB1.mono (by omega))
    obtain ⟨k0, k1, z0, z1⟩ := b1.c2
    clear hB b hB1
    go_wp2
    refine gen_set2 (M := fun V => bodyPost _ _ _ _ _ V) b1 fun W2 b3 hg2 hz2 => ?_
    exact ret_row rfl _ b3 rfl Tryz.underlying94 rfl size63 rfl ⟨n, small, bp, rfl, (hS.grown63 b1 hg2).more (by omega), below_grown hB2 hg2 (Nat.le_refl _) hB2.size⟩
end Go.Proofs.YtkmeckimmfbkiaaGreatDoor
namespace Go.Proofs.YtkmeckimmfbkiaaGreatDoor
open Go Go.RowKit
set_option maxRecDepth 10000 in
set_option maxHeartbeats 400000 in
theorem hash_float (b : Nat) (hb : b < 2 ^ 64) (w : World) : Calls Tryz.prog 282 #[.float .f64 b] w (Hashed w) := by
  have HI := Lib.hid (isFinite_any b hb w)
  by_cases hf : b % 2 ^ 63 < 2047 * 2 ^ 52
  · rw [decide_eq_true hf] at HI
    have HF := Lib.hid (finite_any b hb hf w)
    clear hb hf
    go_enter Tryz.func282, Tryz.ntmps282
    go_wp2_with fail
    refine HI.out.mono ?_
    rintro e w1 ⟨rfl, rfl⟩
    go_wp2_with fail
    refine HF.out.mono ?_
    rintro e w2 ⟨x, small, bp, rfl, hS, hB⟩
    have HB := Lib.hid hB
    have hs := hB.size
    clear HF HI
    rcases hS with ⟨rfl, rfl, _⟩ | ⟨g, rfl, rfl, iz, hx⟩
    · go_wp2_with fail
      refine (hash_int_small _ w2).mono ?_
      rintro e w3 ⟨⟨h, hh, rfl⟩, hB3⟩
      have HB3 := Lib.hid (HB.out.trans (hB3.mono hs))
      clear hB3 hB HB
      go_wp2
      go_ret2
      exact ⟨⟨h, hh, rfl⟩, HB3.out⟩
    · go_wp2_with fail
      refine (hash_int_big g x.natAbs _ 0 w2 iz (by omega)).mono ?_
      rintro e w3 ⟨⟨h, hh, rfl⟩, hB3⟩
      have HB3 := Lib.hid (HB.out.trans (hB3.mono hs))
      clear hB3 hB HB iz
      go_wp2
      go_ret2
      exact ⟨⟨h, hh, rfl⟩, HB3.out⟩
  · rw [decide_eq_false hf] at HI
    clear hb hf
    go_enter Tryz.func282, Tryz.ntmps282
    go_wp2_with fail
    refine HI.out.mono ?_
    rintro e w1 ⟨rfl, rfl⟩
    go_wp2
    go_ret2
    exact ⟨⟨1618033, by decide, rfl⟩, Below.refl _ _⟩
theorem xor32 (a b : Int) : ∃ y : Nat, y < 4294967296 ∧ bits .xor .u32 a b = (y : Int) := by
  have h : bits .xor .u32 a b = IntKind.u32.wrap ((BitVec.ofInt 32 a ^^^ BitVec.ofInt 32 b).toNat : Int) := rfl
  rw [h, IntKind.wrap_u32]
  generalize ((BitVec.ofInt 32 a ^^^ BitVec.ofInt 32 b).toNat : Int) = X
  exact ⟨(X % 4294967296).toNat, by omega, by omega⟩
/-- A value's hash, as a call through the interface asks it. -/
def HashM (w : World) (u : Value) : Prop := ∃ f r, HasM u "Hash" f r ∧ Calls Tryz.prog f #[r] w (Hashed w)
set_option maxRecDepth 10000 in
set_option maxHeartbeats 400000 in
theorem hash_tuple (A : Option Addr) (n c : Nat) (xs : List Value) (w : World) (hn : n ≤ 16) (_hc : n ≤ c) (hr : Reads w w.heap.size 1 A n xs) (hm : ∀ (k : Nat) (u : Value), xs[k]? = some u → (∃ t v, u = .iface t v) ∧ ∀ W, Below w.heap.size w W → HashM W u) :
    Calls Tryz.prog 227 #[.slice A n c] w (Hashed w) := by
  have HM := Lib.hid (And.intro hr hm)
  clear hr hm
  go_enter Tryz.func227, Tryz.ntmps227
  go_wp2_with fail
  go_loopw [4, 5, 12] (fun vx vm vi wr => ∃ (x m k : Nat), vx = .int .u32 x ∧ x < 4294967296 ∧ vm = .int .u32 m ∧ vi = .int .i64 k ∧ k ≤ n ∧ Below w.heap.size w wr) (fun _ _ vi _ => n - (intOf vi).toNat)
  case atStart => exact ⟨3430008, 1000003, 0, rfl, by decide, rfl, rfl, by omega, Below.refl _ _⟩
  case round =>
    obtain ⟨x, m, k, rfl, hx, rfl, rfl, hk, hB⟩ := hrel
    rcases Nat.lt_or_ge k n with hlt | hge
    · have hki : (k : Int) < (n : Int) := by omega
      have w1 : IntKind.i64.wrap ((k : Int) + 1) = (k : Int) + 1 := by rw [IntKind.wrap_i64]; omega
      have w2 : IntKind.i64.wrap ((n : Int) + n) = (n : Int) + n := by rw [IntKind.wrap_i64]; omega
      obtain ⟨ad, u, rfl, had, hu, hcell⟩ := (HM.out.1.below hB).at_ hlt
      obtain ⟨⟨t, v, rfl⟩, hmm⟩ := HM.out.2 k u hu
      obtain ⟨f, r, ⟨t', v', he, m1, q1⟩, C⟩ := hmm wr hB
      cases he
      have C1 := Lib.hid C
      have HB := Lib.hid hB
      clear C hB hu
      go_wp2_with fail
      refine C1.out.mono ?_
      rintro e w3 ⟨⟨h, hh, rfl⟩, hB3⟩
      have HB3 := Lib.hid (HB.out.trans (hB3.mono HB.out.size))
      clear hB3 HB C1
      go_wp2
      obtain ⟨y, hy, ey⟩ := xor32 x (h * m % 4294967296)
      generalize (82520 + ((n : Int) + n)) = Z
      exact ⟨⟨y, (((m : Int) + Z) % 4294967296).toNat, k + 1, by rw [ey], hy, by rw [Int.toNat_of_nonneg (by omega)], rfl, by omega, HB3.out⟩, by simp only [intOf]; omega⟩
    · have hki : ¬ (k : Int) < (n : Int) := by omega
      go_wp2
      go_ret2
      exact ⟨⟨x, hx, rfl⟩, hB⟩
theorem hasH_none (v : Value) : HasM (.iface 88 v) "Hash" 259 v := ⟨_, _, rfl, fun w => by kernel_rfl, fun args w => by kernel_rfl⟩
theorem hasH_bool (v : Value) : HasM (.iface 89 v) "Hash" 265 v := ⟨_, _, rfl, fun w => by kernel_rfl, fun args w => by kernel_rfl⟩
theorem hasH_int (v : Value) : HasM (.iface 94 v) "Hash" 273 v := ⟨_, _, rfl, fun w => by kernel_rfl, fun args w => by kernel_rfl⟩
theorem hasH_float (v : Value) : HasM (.iface 96 v) "Hash" 282 v := ⟨_, _, rfl, fun w => by kernel_rfl, fun args w => by kernel_rfl⟩
theorem hasH_str (v : Value) : HasM (.iface 98 v) "Hash" 295 v := ⟨_, _, rfl, fun w => by kernel_rfl, fun args w => by kernel_rfl⟩
theorem hasH_bytes (v : Value) : HasM (.iface 99 v) "Hash" 309 v := ⟨_, _, rfl, fun w => by kernel_rfl, fun args w => by kernel_rfl⟩
theorem hasH_tuple (v : Value) : HasM (.iface 73 v) "Hash" 227 v := ⟨_, _, rfl, fun w => by kernel_rfl, fun args w => by kernel_rfl⟩
mutual
/-- Every value that can be a key has a hash. -/
theorem hashM_any : ∀ (s : S) (u : Value) (w : World), SAt w w.heap.size s u → keyS s = true → HashM w u
  | .none, u, w, h, _ => by simp only [SAt] at h; subst h; exact ⟨_, _, hasH_none _, hash_none _ w⟩
  | .bool b, u, w, h, _ => by simp only [SAt] at h; subst h; exact ⟨_, _, hasH_bool _, hash_bool b w⟩
  | .int x, u, w, h, _ => by
    simp only [SAt] at h
    obtain ⟨small, bp, rfl, hS⟩ := h
    refine ⟨_, _, hasH_int _, ?_⟩
    rcases hS with ⟨rfl, rfl, _⟩ | ⟨g, rfl, rfl, iz, hx⟩
    · exact hash_int_small _ w
    · exact hash_int_big g x.natAbs _ 0 w iz (by omega)
  | .float f, u, w, h, _ => by simp only [SAt] at h; obtain ⟨rfl, hf⟩ := h; exact ⟨_, _, hasH_float _, hash_float f hf w⟩
  | .str s, u, w, h, _ => by simp only [SAt] at h; obtain ⟨rfl, hs⟩ := h; exact ⟨_, _, hasH_str _, hash_str s hs w⟩
  | .bytes s, u, w, h, _ => by simp only [SAt] at h; obtain ⟨rfl, hs⟩ := h; exact ⟨_, _, hasH_bytes _, hash_bytes s hs w⟩
  | .tuple l, u, w, h, hk => by
    simp only [SAt] at h
    obtain ⟨A, c, xs, rfl, hl, hc, hr, he⟩ := h
    simp only [keyS] at hk
    exact ⟨_, _, hasH_tuple _, hash_tuple A l.length c xs w hl hc hr fun k u hu => hashL_any l xs w he hk k u hu⟩
  | .list l, u, w, h, hk => by simp [keyS] at hk
  | .dict l, u, w, h, hk => by simp [keyS] at hk
  | .set l, u, w, h, hk => by simp [keyS] at hk
theorem hashL_any : ∀ (l : List S) (xs : List Value) (w : World), ElemsV w w.heap.size l xs → keyL l = true → ∀ (k : Nat) (u : Value), xs[k]? = some u → (∃ t v, u = .iface t v) ∧ ∀ W, Below w.heap.size w W → HashM W u
  | [], xs, w, h, _, k, u, hu => by simp only [ElemsV] at h; subst h; simp at hu
  | s :: l, xs, w, h, hk, 0, u, hu => by
    simp only [ElemsV] at h
    obtain ⟨v, ys, rfl, h2, h3⟩ := h
    simp only [keyL, Bool.and_eq_true] at hk
    simp at hu
    subst hu
    exact ⟨h2.iface, fun W hB => hashM_any s v W ((h2.below hB).more hB.size) hk.1⟩
  | s :: l, xs, w, h, hk, k + 1, u, hu => by
    simp only [ElemsV] at h
    obtain ⟨v, ys, rfl, h2, h3⟩ := h
    simp only [keyL, Bool.and_eq_true] at hk
    exact hashL_any l ys w h3 hk.2 k u (by simpa using hu)
end
end Go.Proofs.YtkmeckimmfbkiaaGreatDoor
namespace Go.Proofs.YtkmeckimmfbkiaaGreatDoor
open Go Go.RowKit
open Fl
set_option maxRecDepth 10000 in
theorem floatCmp_any (b c : Nat) (hb : b < 2 ^ 64) (hc : c < 2 ^ 64) (w : World) : Calls Tryz.prog 286 #[.float .f64 b, .float .f64 c] w fun e w' => e = .returned (.int .i64 (cmpW (wf b) (wf c))) ∧ w' = w := by
  have H := cmp_cases hb hc
  generalize cmpW (wf b) (wf c) = R at *
  clear hb hc
  rcases H with ⟨h1, rfl⟩ | ⟨h1, h2, rfl⟩ | ⟨h1, h2, h3, rfl⟩ | ⟨h1, h2, h3, h4, rfl⟩ | ⟨h1, h2, h3, h4, h5, rfl⟩ | ⟨h1, h2, h3, h4, h5, rfl⟩
  all_goals
    change (FloatKind.f64.format.order b c == some .gt) = _ at h1
    try change (FloatKind.f64.format.order b c == some .lt) = _ at h2
    try change (FloatKind.f64.format.order b c == some .eq) = _ at h3
    try change (FloatKind.f64.format.order b b == some .eq) = _ at h4
    try change (FloatKind.f64.format.order c c == some .eq) = _ at h5
    go_enter Tryz.func286, Tryz.ntmps286
    go_wp2
    go_ret
    exact ⟨rfl, rfl⟩
set_option maxRecDepth 10000 in
theorem floatCmpM_any (b c : Nat) (hb : b < 2 ^ 64) (hc : c < 2 ^ 64) (d : Int) (w : World) : Calls Tryz.prog 280 #[.float .f64 b, .iface 96 (.float .f64 c), .int .i64 d] w fun e w' => e = .returned (.tuple #[.int .i64 (cmpW (wf b) (wf c)), .nilIface]) ∧ w' = w := by
  have HC := Lib.hid (floatCmp_any b c hb hc)
  have HT : ∀ w, (Instr.typeAssert (.iface 96 (.float .f64 c)) 43 96 false).run Tryz.prog w = .ok (.float .f64 c) w := fun w => by kernel_rfl
  generalize cmpW (wf b) (wf c) = R at *
  clear hb hc
  go_enter Tryz.func280, Tryz.ntmps280
  go_wp2_with fail
  refine (HC.out w).mono ?_
  rintro e w1 ⟨rfl, rfl⟩
  go_wp2
  go_ret2
  exact ⟨rfl, rfl⟩
set_option maxRecDepth 10000 in
theorem threeway_eql (k : Int) (w : World) : Calls Tryz.prog 102 #[.int .i8 37, .int .i64 k] w fun e w' => e = .returned (.bool (decide (k = 0))) ∧ w' = w := by
  go_enter Tryz.func102, Tryz.ntmps102
  go_wp2
  go_ret
  exact ⟨rfl, rfl⟩
theorem sb_lo : wrap64 (bits BinOp.or IntKind.u64 ((18446744073709551615 : Nat) : Int) ((0 : Nat) : Int)) = -1 := by kernel_rfl
theorem sb_hi : wrap64 (bits BinOp.or IntKind.u64 ((0 : Nat) : Int) ((1 : Nat) : Int)) = 1 := by kernel_rfl
theorem sign_bits (x : Int) (h1 : -9223372036854775808 < x) (h2 : x < 9223372036854775808) : wrap64 (bits BinOp.or IntKind.u64 (IntKind.u64.wrap (x / 9223372036854775808)) (IntKind.u64.wrap (-x) / 9223372036854775808)) = cmpI x 0 := by
  rcases Int.lt_trichotomy x 0 with h | h | h
  · have e1 : IntKind.u64.wrap (x / 9223372036854775808) = (18446744073709551615 : Nat) := by rw [IntKind.wrap_u64]; omega
    have e2 : IntKind.u64.wrap (-x) / 9223372036854775808 = (0 : Nat) := by rw [IntKind.wrap_u64]; omega
    rw [e1, e2]
    unfold cmpI
    rw [Fl.cmp_lt h]
    rw [sb_lo]
    rfl
  · subst h; kernel_rfl
  · have e1 : IntKind.u64.wrap (x / 9223372036854775808) = (0 : Nat) := by rw [IntKind.wrap_u64]; omega
    have e2 : IntKind.u64.wrap (-x) / 9223372036854775808 = (1 : Nat) := by rw [IntKind.wrap_u64]; omega
    rw [e1, e2]
    unfold cmpI
    rw [Fl.cmp_gt h]
    rw [sb_hi]
    rfl
set_option maxRecDepth 10000 in
theorem signum64_any (x : Int) (h : -9223372036854775808 < x) (h2 : x < 9223372036854775808) (w : World) : Calls Tryz.prog 278 #[.int .i64 x] w fun e w' => e = .returned (.int .i64 (cmpI x 0)) ∧ w' = w := by
  go_enter Tryz.func278, Tryz.ntmps278
  go_wp2
  go_ret
  exact ⟨congrArg (fun z => Ending.returned (.int .i64 z)) (sign_bits x h h2), rfl⟩
theorem natAbs_small {x : Int} (h1 : -9223372036854775808 ≤ x) (h2 : x < 9223372036854775808) : x.natAbs ≤ 9223372036854775808 := by omega
set_option maxRecDepth 10000 in
theorem bigInt_small (x : Int) (h1 : -9223372036854775808 ≤ x) (h2 : x < 9223372036854775808) (w : World) : Calls Tryz.prog 277 #[.agg #[.int .i64 x, .pointer none]] w (NewI w x) := by
  have HN : Hid (∀ W, Calls Tryz.prog 136 #[.int .i64 x] W (NewI W x)) := by
    refine Lib.hid fun W => ?_
    by_cases h0 : x = 0
    · subst h0
      refine (newInt_zero W).mono ?_
      rintro e w1 ⟨rfl, hb, hB, _⟩
      refine ⟨_, rfl, Nat.le_refl _, ⟨none, 0, ?_, ?_, ?_, ?_⟩, hB⟩
      · simpa [limbs_zero] using hb
      · exact hb.lt
      · simpa [limbs_zero, wv] using Reads.none_
      · simp [limbs_zero]
    · exact newInt64_any x h0 h1 h2 W
  go_enter Tryz.func277, Tryz.ntmps277
  go_wp2_with fail
  refine gen1 (M := fun W => Calls _ _ _ W _) fun W hB bk hz => ?_
  refine (get_any _ _ W).mono ?_
  rintro e w1 ⟨rfl, hB1⟩
  have HB := Lib.hid (hB.trans (hB1.mono (by omega)))
  clear hB bk hz hB1
  go_wp2_with fail
  refine (HN.out w1).mono ?_
  rintro e w2 ⟨g, rfl, hg, iz, hB2⟩
  go_wp2
  go_ret
  have hs := HB.out.size
  exact ⟨g, rfl, by omega, iz, HB.out.trans (hB2.mono hs)⟩
set_option maxRecDepth 10000 in
theorem bigInt_big (g : Nat) (a : Int) (w : World) : Calls Tryz.prog 277 #[.agg #[.int .i64 a, .pointer (some ⟨g, 0, none⟩)]] w fun e w' => e = .returned (.pointer (some ⟨g, 0, none⟩)) ∧ Below w.heap.size w w' := by
  go_enter Tryz.func277, Tryz.ntmps277
  go_wp2_with fail
  refine gen1 (M := fun W => Calls _ _ _ W _) fun W hB bk hz => ?_
  refine (get_any _ _ W).mono ?_
  rintro e w1 ⟨rfl, hB1⟩
  have HB := Lib.hid (hB.trans (hB1.mono (by omega)))
  clear hB bk hz hB1
  go_wp2
  go_ret
  exact ⟨rfl, HB.out⟩
end Go.Proofs.YtkmeckimmfbkiaaGreatDoor
