/- FnHas's law: the thin package's Has against the reference's. Conditions: the package variables karatsubaThreshold and CompareLimit hold 40 and 10. -/
import Derived.Test.YtkmeckimmfbkiaaGreatDoorHSpecs
import Derived.Test.YtkmeckimmfbkiaaGreatDoorKTwo
import Derived.Test.YtkmeckimmfbkiaaGreatDoorJSCl4
namespace Go.Proofs.YtkmeckimmfbkiaaGreatDoor
open Go Go.RowKit
theorem conS_kind (s : S) (h : conS s = true) : decide (kindN s < 4) = false ∧ (kindN s == 8) = false := by cases s <;> first | (simp [conS] at h; done) | exact ⟨rfl, rfl⟩
theorem conS_not (s : S) (h : conS s = false) : decide (kindN s < 4) = true ∨ (decide (kindN s < 4) = false ∧ (kindN s == 8) = true) := by
  cases s
  case dict => exact .inr ⟨rfl, rfl⟩
  all_goals first | (simp [conS] at h; done) | exact .inl rfl
/-- The tuple of one value. -/
theorem one_tuple {w : World} {t : S} {g : Nat} {y0 y1 y2 y3 y4 y5 : Value} (hg : g < w.heap.size) (hb : Blk w g 26 #[y0, y1, y2, y3, y4, y5]) (hv : VAt w w.heap.size t (.agg #[y0, y1, y2, y3, y4, y5])) :
    VAt w w.heap.size (.tuple [t]) (.agg #[.int .i64 7, .bool false, .slice none 0 0, .int .u64 0, .string ⟨#[]⟩, .slice (some ⟨g, 0, none⟩) 1 1]) := by
  simp only [VAt]
  refine ⟨some ⟨g, 0, none⟩, 1, [y0, y1, y2, y3, y4, y5], rfl, by simp, by simp, ⟨by simp, fun _ => ⟨_, rfl, hg, fun j u hu => ?_⟩⟩, ?_⟩
  · have h := hb.cell j
    rw [show (Addr.add ⟨g, 0, none⟩ j) = ⟨g, 0 + j, none⟩ by unfold Addr.add; split <;> simp_all, Nat.zero_add, h]
    simpa using hu
  · simp only [KidsV]
    exact ⟨_, _, _, _, _, _, [], rfl, hv, rfl⟩
set_option maxRecDepth 10000 in
set_option maxHeartbeats 12000000 in
theorem hasLaw_any (x y : Value) (w : World) (hx : InVal w w.heap.size 3 x) (hy : InVal w w.heap.size 2 y) (hkt : KT w) (hkl : KL w) : Calls Tryz.prog 3 #[x, y] w fun e w' => e = .returned (.bool true) ∧ Below w.heap.size w w' := by
  have HV := Lib.hid (And.intro hx (And.intro hy (And.intro fits_any (And.intro (clean_any 3 (by omega)) (clean_any 2 (by omega))))))
  have HE := Lib.hid (And.intro hkt hkl)
  obtain ⟨k, neg, A, n, c, b, t, K, m, d, rfl⟩ : ∃ k neg A n c b t K m d, x = .agg #[.int .i64 k, .bool neg, .slice A n c, .int .u64 b, .string t, .slice K m d] := by
    unfold InVal at hx
    obtain ⟨k, neg, A, l, c, bits, t, K, kn, kc, rfl, _⟩ := hx
    exact ⟨_, _, _, _, _, _, _, _, _, _, rfl⟩
  obtain ⟨k', neg', A', n', c', b', t', K', m', d', rfl⟩ : ∃ k neg A n c b t K m d, y = .agg #[.int .i64 k, .bool neg, .slice A n c, .int .u64 b, .string t, .slice K m d] := by
    unfold InVal at hy
    obtain ⟨k, neg, A, l, c, bits, t, K, kn, kc, rfl, _⟩ := hy
    exact ⟨_, _, _, _, _, _, _, _, _, _, rfl⟩
  clear hx hy hkt hkl
  go_enter Tryz.func3, Tryz.ntmps3
  go_wp2_with fail
  refine gen2 (M := fun W => Calls _ _ _ W _) fun W hB b1 b2 hz => ?_
  have hz1 : w.heap.size + 1 < W.heap.size := by omega
  clear hz
  refine (HV.out.2.2.1 k neg A n c b t K m d W).mono ?_
  rintro e w1 ⟨q, rfl, hB1⟩
  have b3 := b1.below hB1 (by omega)
  have b4 := b2.below hB1 (by omega)
  have hB2 := hB.trans (hB1.mono (by omega))
  have hs1 := hB1.size
  have hz2 : w.heap.size + 1 < w1.heap.size := by omega
  have HB := Lib.hid hB2
  have BB := Lib.hid (And.intro b3 b4)
  clear hB hB1 b1 b2 hB2 hs1 hz1
  obtain ⟨k0, k1, k2, k3, k4, k5, _, _, _, _, _, _⟩ := b3.c6
  obtain ⟨l0, l1, l2, l3, l4, l5, _, _, _, _, _, _⟩ := b4.c6
  clear b3 b4
  cases q
  · go_wp2
    go_ret
    exact ⟨rfl, HB.out⟩
  · go_wp2_with fail
    refine (HV.out.2.2.1 k' neg' A' n' c' b' t' K' m' d' w1).mono ?_
    rintro e w2 ⟨q, rfl, hB2⟩
    cases q
    · have HB2 := Lib.hid (HB.out.trans (hB2.mono (by omega)))
      clear hB2
      go_wp2
      go_ret
      exact ⟨rfl, HB2.out⟩
    · have b3 := BB.out.1.below hB2 (by omega)
      have b4 := BB.out.2.below hB2 (by omega)
      have HB2 := Lib.hid (And.intro b3 (And.intro b4 (And.intro (HB.out.trans (hB2.mono (by omega))) (show w.heap.size + 1 < w2.heap.size from Nat.lt_of_lt_of_le hz2 hB2.size))))
      clear hB2 b3 b4 k0 k1 k2 k3 k4 k5 l0 l1 l2 l3 l4 l5
      go_wp2_with fail
      have HI := Lib.hid (And.intro HV.out.1 HV.out.2.1)
      have HC1 := Lib.hid HV.out.2.2.2.1
      have HC2 := Lib.hid HV.out.2.2.2.2
      clear HV HB BB
      refine wp_region_inv' (by kernel_rfl) (fun a0 l a w' => ∃ v25 v26 v27 v28 v5 v6, a = (((((a0.put (some 20) v25).put (some 21) v26).put (some 22) v27).put (some 23) v28).put (some 5) v5).put (some 6) v6 ∧
        ((∃ b0 b1 b2 b3 b4 b5, l = #[b0, b1, b2, b3, b4, b5, false, false] ∧ (b3 = true → b2 = true) ∧ StA w2.heap.size w2 4 3 (.agg #[.int .i64 k, .bool neg, .slice A n c, .int .u64 b, .string t, .slice K m d]) (.agg #[.int .i64 k', .bool neg', .slice A' n' c', .int .u64 b', .string t', .slice K' m' d']) b0 b1 b2 b3 b4 b5 v25 v26 v27 v28 v5 v6 w') ∨
         (l = #[true, true, true, true, true, true, true, false] ∧ StB w2.heap.size w2 4 3 v26 v28 v5 v6 w') ∨
         (l = #[true, true, true, true, true, true, true, true] ∧ StC w2.heap.size w2 4 3 v26 v28 v5 v6 w'))) ?_ ?_ ?_
      · exact ⟨undef, undef, undef, undef, undef, undef, rfl, .inl ⟨false, false, false, false, false, false, rfl, fun e => by simp at e, StA.start (Nat.le_refl _) (Below.refl _ _).drew⟩⟩
      · intro l a w3 i hi hI
        obtain ⟨v25, v26, v27, v28, v5, v6, rfl, hI⟩ := hI
        have h8 : i < 8 := ready_lt hi
        generalize Exit.then _ _ = Q
        obtain rfl | rfl | rfl | rfl | rfl | rfl | rfl | rfl : i = 0 ∨ i = 1 ∨ i = 2 ∨ i = 3 ∨ i = 4 ∨ i = 5 ∨ i = 6 ∨ i = 7 := by omega
        · rcases hI with ⟨b0, b1, b2, b3, b4, b5, rfl, hcl, hst⟩ | ⟨rfl, hst⟩ | ⟨rfl, hst⟩
          rotate_left
          · exact absurd (ready_at hi rfl).1 (by decide)
          · exact absurd (ready_at hi rfl).1 (by decide)
          have bl := HB2.out.1.below hst.1 (HB2.out.1).lt
          obtain ⟨k0, k1, k2, k3, k4, k5, _, _, _, _, _, _⟩ := bl.c6
          have HS := Lib.hid (And.intro hcl hst)
          clear bl hst hcl hi
          refine wpOp_step rfl fun K' hK' => ?_
          have HK := Lib.hid hK'
          clear hK'
          go_simp
          exact HK.out _ _ ⟨_, v26, v27, v28, v5, v6, rfl, .inl ⟨true, b1, b2, b3, b4, b5, rfl, HS.out.1, HS.out.2.load1⟩⟩
        · rcases hI with ⟨b0, b1, b2, b3, b4, b5, rfl, hcl, hst⟩ | ⟨rfl, hst⟩ | ⟨rfl, hst⟩
          rotate_left
          · exact absurd (ready_at hi rfl).1 (by decide)
          · exact absurd (ready_at hi rfl).1 (by decide)
          have e0 : b0 = true := (ready_at hi rfl).2 ⟨0, .data⟩ (by simp) rfl
          obtain rfl := hst.2.2.1 e0
          have hBw := HB2.out.2.2.1.trans (hst.1.mono HB2.out.2.2.1.size)
          have HIN := Lib.hid ((HI.out.1.below hBw).more hBw.size)
          have HS := Lib.hid (And.intro hcl hst)
          clear hst hcl hi hBw
          refine wpOp_step rfl fun K' hK' => ?_
          have HK := Lib.hid hK'
          clear hK'
          go_simp
          refine (HC1.out _ w3 HIN.out).mono ?_
          intro e w4 h
          obtain ⟨v, rfl, hB, hm⟩ := MadeV.of HS.out.2.2.1 h
          exact HK.out _ _ ⟨_, v, v27, v28, v5, v6, rfl, .inl ⟨b0, true, b2, b3, b4, b5, rfl, HS.out.1, HS.out.2.call1 hB hm⟩⟩
        · rcases hI with ⟨b0, b1, b2, b3, b4, b5, rfl, hcl, hst⟩ | ⟨rfl, hst⟩ | ⟨rfl, hst⟩
          rotate_left
          · exact absurd (ready_at hi rfl).1 (by decide)
          · exact absurd (ready_at hi rfl).1 (by decide)
          have bl := HB2.out.2.1.below hst.1 (HB2.out.2.1).lt
          obtain ⟨k0, k1, k2, k3, k4, k5, _, _, _, _, _, _⟩ := bl.c6
          have HS := Lib.hid (And.intro hcl hst)
          clear bl hst hcl hi
          refine wpOp_step rfl fun K' hK' => ?_
          have HK := Lib.hid hK'
          clear hK'
          go_simp
          exact HK.out _ _ ⟨v25, v26, _, v28, v5, v6, rfl, .inl ⟨b0, b1, true, b3, b4, b5, rfl, fun _ => rfl, HS.out.2.load2⟩⟩
        · rcases hI with ⟨b0, b1, b2, b3, b4, b5, rfl, hcl, hst⟩ | ⟨rfl, hst⟩ | ⟨rfl, hst⟩
          rotate_left
          · exact absurd (ready_at hi rfl).1 (by decide)
          · exact absurd (ready_at hi rfl).1 (by decide)
          have e0 : b2 = true := (ready_at hi rfl).2 ⟨2, .data⟩ (by simp) rfl
          obtain rfl := hst.2.2.2.1 e0
          have hBw := HB2.out.2.2.1.trans (hst.1.mono HB2.out.2.2.1.size)
          have HIN := Lib.hid ((HI.out.2.below hBw).more hBw.size)
          have HS := Lib.hid (And.intro hcl hst)
          clear hst hcl hi hBw
          refine wpOp_step rfl fun K' hK' => ?_
          have HK := Lib.hid hK'
          clear hK'
          go_simp
          refine (HC2.out _ w3 HIN.out).mono ?_
          intro e w4 h
          obtain ⟨v, rfl, hB, hm⟩ := MadeV.of HS.out.2.2.1 h
          exact HK.out _ _ ⟨v25, v26, _, v, v5, v6, rfl, .inl ⟨b0, b1, b2, true, b4, b5, rfl, fun _ => e0, HS.out.2.call2 hB hm⟩⟩
        · rcases hI with ⟨b0, b1, b2, b3, b4, b5, rfl, hcl, hst⟩ | ⟨rfl, hst⟩ | ⟨rfl, hst⟩
          rotate_left
          · exact absurd (ready_at hi rfl).1 (by decide)
          · exact absurd (ready_at hi rfl).1 (by decide)
          have HS := Lib.hid (And.intro hcl hst)
          clear hst hcl hi
          refine wpOp_step rfl fun K' hK' => ?_
          have HK := Lib.hid hK'
          clear hK'
          go_simp
          exact HK.out _ _ ⟨v25, v26, v27, v28, _, v6, rfl, .inl ⟨b0, b1, b2, b3, true, b5, rfl, HS.out.1, HS.out.2.alloc1⟩⟩
        · rcases hI with ⟨b0, b1, b2, b3, b4, b5, rfl, hcl, hst⟩ | ⟨rfl, hst⟩ | ⟨rfl, hst⟩
          rotate_left
          · exact absurd (ready_at hi rfl).1 (by decide)
          · exact absurd (ready_at hi rfl).1 (by decide)
          have HS := Lib.hid (And.intro hcl hst)
          clear hst hcl hi
          refine wpOp_step rfl fun K' hK' => ?_
          have HK := Lib.hid hK'
          clear hK'
          go_simp
          exact HK.out _ _ ⟨v25, v26, v27, v28, v5, _, rfl, .inl ⟨b0, b1, b2, b3, b4, true, rfl, HS.out.1, HS.out.2.alloc2⟩⟩
        · rcases hI with ⟨b0, b1, b2, b3, b4, b5, rfl, hcl, hst⟩ | ⟨rfl, hst⟩ | ⟨rfl, hst⟩
          rotate_left
          · exact absurd (ready_at hi rfl).1 (by decide)
          · exact absurd (ready_at hi rfl).1 (by decide)
          obtain ⟨_, hr⟩ := ready_at hi rfl
          obtain rfl : b0 = true := hr ⟨0, .phase⟩ (by simp) rfl
          obtain rfl : b1 = true := hr ⟨1, .phase⟩ (by simp) rfl
          obtain rfl : b3 = true := hr ⟨3, .chain⟩ (by simp) rfl
          obtain rfl : b4 = true := hr ⟨4, .phase⟩ (by simp) rfl
          obtain rfl : b5 = true := hr ⟨5, .phase⟩ (by simp) rfl
          obtain rfl : b2 = true := hcl rfl
          clear hr hi hcl
          have HS := Lib.hid hst
          obtain ⟨_, _, h3, h4, lo1, hi1, lo2, hi2, p5, p6, m1, m2, r1, r2, _⟩ := hst
          obtain ⟨z0, z1, z2, z3, z4, z5, z6, z7, z8, z9, rfl⟩ := (m1 rfl).six
          obtain ⟨rfl, _, _, bp⟩ := r1 rfl
          have BP := Lib.hid bp
          obtain ⟨k0, k1, k2, k3, k4, k5, f0, f1, f2, f3, f4, f5⟩ := bp.c6
          clear m1 m2 r1 r2 bp h3 h4
          refine wpOp_step rfl fun K' hK' => ?_
          have HK := Lib.hid hK'
          clear hK'
          go_simp
          refine gen_set6 (M := fun V => K' _ V) BP.out fun W6 b6 hg6 _ => ?_
          exact HK.out _ _ ⟨v25, _, v27, v28, _, v6, rfl, .inr (.inl ⟨rfl, HS.out.store rfl rfl b6 hg6⟩)⟩
        · rcases hI with ⟨b0, b1, b2, b3, b4, b5, rfl, hcl, hst⟩ | ⟨rfl, hst⟩ | ⟨rfl, hst⟩
          · exact absurd ((ready_at hi rfl).2 ⟨6, .phase⟩ (by simp) rfl) (by simp)
          rotate_left
          · exact absurd (ready_at hi rfl).1 (by decide)
          clear hi
          have HS := Lib.hid hst
          obtain ⟨_, _, lo1, hi1, lo2, hi2, p5, p6, x0, x1, x2, x3, x4, x5, h3, m1, m2, r1, r2, _⟩ := hst
          obtain ⟨z0, z1, z2, z3, z4, z5, z6, z7, z8, z9, rfl⟩ := m2.six
          obtain ⟨rfl, _, _, bp⟩ := r2
          have BP := Lib.hid bp
          obtain ⟨k0, k1, k2, k3, k4, k5, f0, f1, f2, f3, f4, f5⟩ := bp.c6
          clear m1 m2 r1 bp h3
          refine wpOp_step rfl fun K' hK' => ?_
          have HK := Lib.hid hK'
          clear hK'
          go_simp
          refine gen_set6 (M := fun V => K' _ V) BP.out fun W6 b6 hg6 _ => ?_
          exact HK.out _ _ ⟨v25, v26, v27, _, v5, _, rfl, .inr (.inr ⟨rfl, HS.out.store rfl rfl b6 hg6⟩)⟩
      · intro l a w3 hi hI
        obtain ⟨v25, v26, v27, v28, v5, v6, rfl, hI⟩ := hI
        rcases hI with ⟨b0, b1, b2, b3, b4, b5, rfl, _, _⟩ | ⟨rfl, _⟩ | ⟨rfl, hst⟩
        · cases b0 <;> cases b1 <;> cases b2 <;> cases b3 <;> cases b4 <;> cases b5 <;> exact absurd hi (by decide +kernel)
        · exact absurd hi (by decide +kernel)
        clear hi
        obtain ⟨hB3, hn3, lo1, hi1, lo2, hi2, p5, p6, x0, x1, x2, x3, x4, x5, y0, y1, y2, y3, y4, y5, rfl, rfl, m1, m2, ⟨rfl, hnp5, hp5, bx⟩, ⟨rfl, _, hp6, by0⟩, hne, hap⟩ := hst
        have M2 := Lib.hid m2
        obtain ⟨s, gs, ls, _, hs1, vs⟩ := m1
        obtain ⟨t0, gt, lt, _, ht1, vt⟩ := m2
        have VX : VAt w3 w3.heap.size s (.agg #[x0, x1, x2, x3, x4, x5]) := VN.toV (B := w3.heap.size) (fun b hb => by rcases hb with h | h; exact h.elim; omega) _ _ vs
        have VY : VAt w3 w3.heap.size t0 (.agg #[y0, y1, y2, y3, y4, y5]) := VN.toV (B := w3.heap.size) (fun b hb => by rcases hb with h | h; exact h.elim; omega) _ _ vt
        obtain ⟨e1, e2, e3, e4, e5, e6, e7, e8, e9, ex⟩ := VX.shape
        obtain ⟨f1, f2, f3, f4, f5, f6, f7, f8, f9, ey⟩ := VY.shape
        injection ex with ex
        injection ey with ey
        simp only [Array.mk.injEq, List.cons.injEq, and_true] at ex ey
        obtain ⟨rfl, rfl, rfl, rfl, rfl, rfl⟩ := ex
        obtain ⟨rfl, rfl, rfl, rfl, rfl, rfl⟩ := ey
        have hBw := HB2.out.2.2.1.trans (hB3.mono HB2.out.2.2.1.size)
        have HBW := Lib.hid hBw
        have HQ := Lib.hid (And.intro hnp5 (And.intro hne hap))
        simp only [Act.put, List.setIfInBounds_toArray, List.set_cons_zero, List.set_cons_succ]
        rcases hcs : conS s with _ | _
        · obtain ⟨q0, q1, q2, q3, q4, q5, _, _, _, _, _, _⟩ := bx.c6
          obtain ⟨r0, r1, r2, r3, r4, r5, _, _, _, _, _, _⟩ := by0.c6
          have HBB := Lib.hid (And.intro bx by0)
          have hcn := conS_not s hcs
          clear bx by0 VX VY gs ls vs gt lt vt hB3 hn3 hBw hcs hs1 ht1 hap
          rcases hcn with hk | ⟨hk, hk2⟩
          · go_wp2_with fail
            refine gen_set6 (M := fun V => Calls _ _ _ (V.alloc _) _) HBB.out.1 fun W6 b6 hg6 hz6 => ?_
            refine gen1 (M := fun V => Calls _ _ _ V _) fun W hB b1 hz => ?_
            rw [hz6] at b1
            have HBX := Lib.hid (And.intro (b6.below hB b6.lt) ((HBB.out.2.grown hg6 (fun e => HQ.out.2.1 (by injection e with e; exact e.symm))).below hB (by rw [hz6]; exact hp6)))
            obtain ⟨t1, gt, lt, _, ht1, vt⟩ := (M2.out.grown hg6 HQ.out.2.2).below hB
            have VY := VN.toV (B := W.heap.size) (fun b hb => by rcases hb with h | h; exact h.elim; omega) _ _ vt
            have VX := one_tuple b1.lt b1 VY
            have HX := Lib.hid (And.intro (show good (.tuple [t1]) from ⟨by simp, gt, trivial⟩) (And.intro gt (And.intro VX (And.intro VY (And.intro (show lev (.tuple [t1]) ≤ 10 by simp only [lev, levL]; omega) (And.intro (show lev t1 ≤ 10 by omega) (show conS (.tuple [t1]) = true from rfl)))))))
            have hBw2 := (below_grown HBW.out hg6 (by have := HQ.out.1; have := HB2.out.2.2.2; omega) HBW.out.size).trans (hB.mono (by rw [hz6]; exact HBW.out.size))
            have HK := Lib.hid (And.intro (HE.out.1.below hBw2) (HE.out.2.below hBw2))
            have HBW := Lib.hid hBw2
            replace hp5 : p5 < W.heap.size := by omega
            replace hp6 : p6 < W.heap.size := by omega
            clear hB b1 hz hz6 hg6 b6 gt lt vt VX VY hBw2 ht1 hnp5 hne q0 q1 q2 q3 q4 q5 r0 r1 r2 r3 r4 r5
            obtain ⟨k0, k1, k2, k3, k4, k5, _, _, _, _, _, _⟩ := HBX.out.1.c6
            obtain ⟨l0, l1, l2, l3, l4, l5, _, _, _, _, _, _⟩ := HBX.out.2.c6
            refine (open_any _ _ _ _ _ _ _ _ _ _ _ _ _ _ _ _ _ _ _ _ W fun V hV => long_any 10 t1 _ V HX.out.2.2.2.2.2.1 HX.out.2.1 ((HX.out.2.2.2.1.below hV).more hV.size)).mono ?_
            rintro e w4 ⟨rfl, hB4⟩
            obtain ⟨k0, k1, k2, k3, k4, k5, _, _, _, _, _, _⟩ := (HBX.out.1.below hB4 hp5).c6
            obtain ⟨l0, l1, l2, l3, l4, l5, _, _, _, _, _, _⟩ := (HBX.out.2.below hB4 hp6).c6
            have HB4 := Lib.hid hB4
            clear hB4
            go_wp2_with fail
            obtain ⟨o, ho⟩ : ∃ o, hasV (.tuple [t1]) t1 = o := ⟨_, rfl⟩
            have hi := implHas_any (.tuple [t1]) t1 _ _ w4 HX.out.2.2.2.2.2.2 HX.out.2.2.2.2.1 HX.out.2.2.2.2.2.1 HX.out.1 HX.out.2.1 (HK.out.1.below HB4.out) (HK.out.2.below HB4.out) ((HX.out.2.2.1.below HB4.out).more HB4.out.size) ((HX.out.2.2.2.1.below HB4.out).more HB4.out.size)
            rw [ho] at hi
            have HO := Lib.hid ho
            refine hi.mono ?_
            clear hi ho
            rintro e w5 ⟨h, hB5⟩
            replace hB5 := HB4.out.trans (hB5.mono HB4.out.size)
            obtain ⟨k0, k1, k2, k3, k4, k5, _, _, _, _, _, _⟩ := (HBX.out.1.below hB5 hp5).c6
            obtain ⟨l0, l1, l2, l3, l4, l5, _, _, _, _, _, _⟩ := (HBX.out.2.below hB5 hp6).c6
            have HB5 := Lib.hid hB5
            clear hB5
            have hs := specHas_any (.tuple [t1]) t1 _ _ w5 HX.out.2.2.2.2.2.2 HX.out.2.2.2.2.1 HX.out.2.2.2.2.2.1 HX.out.1 HX.out.2.1 ((HX.out.2.2.1.below HB5.out).more HB5.out.size) ((HX.out.2.2.2.1.below HB5.out).more HB5.out.size)
            rw [HO.out] at hs
            have HS := Lib.hid hs
            clear hs HO
            cases o with
            | none =>
              obtain rfl := h
              go_wp2_with fail
              refine HS.out.mono ?_
              rintro e w6 ⟨⟨q, rfl⟩, hB6⟩
              have HB6 := Lib.hid (HBW.out.trans ((HB5.out.trans (hB6.mono HB5.out.size)).mono HBW.out.size))
              clear hB6 k0 k1 k2 k3 k4 k5 l0 l1 l2 l3 l4 l5
              go_wp2
              go_ret
              exact ⟨rfl, HB6.out⟩
            | some R =>
              obtain rfl := h
              go_wp2_with fail
              refine HS.out.mono ?_
              rintro e w6 ⟨rfl, hB6⟩
              have HB6 := Lib.hid (HBW.out.trans ((HB5.out.trans (hB6.mono HB5.out.size)).mono HBW.out.size))
              clear hB6 k0 k1 k2 k3 k4 k5 l0 l1 l2 l3 l4 l5
              cases R
              · go_wp2
                go_ret
                exact ⟨rfl, HB6.out⟩
              · go_wp2
                go_ret
                exact ⟨rfl, HB6.out⟩
          · go_wp2_with fail
            refine gen_set6 (M := fun V => Calls _ _ _ (V.alloc _) _) HBB.out.1 fun W6 b6 hg6 hz6 => ?_
            refine gen1 (M := fun V => Calls _ _ _ V _) fun W hB b1 hz => ?_
            rw [hz6] at b1
            have HBX := Lib.hid (And.intro (b6.below hB b6.lt) ((HBB.out.2.grown hg6 (fun e => HQ.out.2.1 (by injection e with e; exact e.symm))).below hB (by rw [hz6]; exact hp6)))
            obtain ⟨t1, gt, lt, _, ht1, vt⟩ := (M2.out.grown hg6 HQ.out.2.2).below hB
            have VY := VN.toV (B := W.heap.size) (fun b hb => by rcases hb with h | h; exact h.elim; omega) _ _ vt
            have VX := one_tuple b1.lt b1 VY
            have HX := Lib.hid (And.intro (show good (.tuple [t1]) from ⟨by simp, gt, trivial⟩) (And.intro gt (And.intro VX (And.intro VY (And.intro (show lev (.tuple [t1]) ≤ 10 by simp only [lev, levL]; omega) (And.intro (show lev t1 ≤ 10 by omega) (show conS (.tuple [t1]) = true from rfl)))))))
            have hBw2 := (below_grown HBW.out hg6 (by have := HQ.out.1; have := HB2.out.2.2.2; omega) HBW.out.size).trans (hB.mono (by rw [hz6]; exact HBW.out.size))
            have HK := Lib.hid (And.intro (HE.out.1.below hBw2) (HE.out.2.below hBw2))
            have HBW := Lib.hid hBw2
            replace hp5 : p5 < W.heap.size := by omega
            replace hp6 : p6 < W.heap.size := by omega
            clear hB b1 hz hz6 hg6 b6 gt lt vt VX VY hBw2 ht1 hnp5 hne q0 q1 q2 q3 q4 q5 r0 r1 r2 r3 r4 r5
            obtain ⟨k0, k1, k2, k3, k4, k5, _, _, _, _, _, _⟩ := HBX.out.1.c6
            obtain ⟨l0, l1, l2, l3, l4, l5, _, _, _, _, _, _⟩ := HBX.out.2.c6
            refine (open_any _ _ _ _ _ _ _ _ _ _ _ _ _ _ _ _ _ _ _ _ W fun V hV => long_any 10 t1 _ V HX.out.2.2.2.2.2.1 HX.out.2.1 ((HX.out.2.2.2.1.below hV).more hV.size)).mono ?_
            rintro e w4 ⟨rfl, hB4⟩
            obtain ⟨k0, k1, k2, k3, k4, k5, _, _, _, _, _, _⟩ := (HBX.out.1.below hB4 hp5).c6
            obtain ⟨l0, l1, l2, l3, l4, l5, _, _, _, _, _, _⟩ := (HBX.out.2.below hB4 hp6).c6
            have HB4 := Lib.hid hB4
            clear hB4
            go_wp2_with fail
            obtain ⟨o, ho⟩ : ∃ o, hasV (.tuple [t1]) t1 = o := ⟨_, rfl⟩
            have hi := implHas_any (.tuple [t1]) t1 _ _ w4 HX.out.2.2.2.2.2.2 HX.out.2.2.2.2.1 HX.out.2.2.2.2.2.1 HX.out.1 HX.out.2.1 (HK.out.1.below HB4.out) (HK.out.2.below HB4.out) ((HX.out.2.2.1.below HB4.out).more HB4.out.size) ((HX.out.2.2.2.1.below HB4.out).more HB4.out.size)
            rw [ho] at hi
            have HO := Lib.hid ho
            refine hi.mono ?_
            clear hi ho
            rintro e w5 ⟨h, hB5⟩
            replace hB5 := HB4.out.trans (hB5.mono HB4.out.size)
            obtain ⟨k0, k1, k2, k3, k4, k5, _, _, _, _, _, _⟩ := (HBX.out.1.below hB5 hp5).c6
            obtain ⟨l0, l1, l2, l3, l4, l5, _, _, _, _, _, _⟩ := (HBX.out.2.below hB5 hp6).c6
            have HB5 := Lib.hid hB5
            clear hB5
            have hs := specHas_any (.tuple [t1]) t1 _ _ w5 HX.out.2.2.2.2.2.2 HX.out.2.2.2.2.1 HX.out.2.2.2.2.2.1 HX.out.1 HX.out.2.1 ((HX.out.2.2.1.below HB5.out).more HB5.out.size) ((HX.out.2.2.2.1.below HB5.out).more HB5.out.size)
            rw [HO.out] at hs
            have HS := Lib.hid hs
            clear hs HO
            cases o with
            | none =>
              obtain rfl := h
              go_wp2_with fail
              refine HS.out.mono ?_
              rintro e w6 ⟨⟨q, rfl⟩, hB6⟩
              have HB6 := Lib.hid (HBW.out.trans ((HB5.out.trans (hB6.mono HB5.out.size)).mono HBW.out.size))
              clear hB6 k0 k1 k2 k3 k4 k5 l0 l1 l2 l3 l4 l5
              go_wp2
              go_ret
              exact ⟨rfl, HB6.out⟩
            | some R =>
              obtain rfl := h
              go_wp2_with fail
              refine HS.out.mono ?_
              rintro e w6 ⟨rfl, hB6⟩
              have HB6 := Lib.hid (HBW.out.trans ((HB5.out.trans (hB6.mono HB5.out.size)).mono HBW.out.size))
              clear hB6 k0 k1 k2 k3 k4 k5 l0 l1 l2 l3 l4 l5
              cases R
              · go_wp2
                go_ret
                exact ⟨rfl, HB6.out⟩
              · go_wp2
                go_ret
                exact ⟨rfl, HB6.out⟩
        · obtain ⟨hk1, hk2⟩ := conS_kind s hcs
          have HX := Lib.hid (And.intro gs (And.intro gt (And.intro VX (And.intro VY (And.intro (show lev s ≤ 10 by omega) (And.intro (show lev t0 ≤ 10 by omega) hcs))))))
          have HK := Lib.hid (And.intro (HE.out.1.below hBw) (HE.out.2.below hBw))
          have HBX := Lib.hid (And.intro bx by0)
          clear hB3 hn3 gs ls vs gt lt vt VX VY hBw bx by0 hs1 ht1 hcs HQ hnp5 hne hap M2
          obtain ⟨k0, k1, k2, k3, k4, k5, _, _, _, _, _, _⟩ := HBX.out.1.c6
          obtain ⟨l0, l1, l2, l3, l4, l5, _, _, _, _, _, _⟩ := HBX.out.2.c6
          go_wp2_with fail
          refine (open_any _ _ _ _ _ _ _ _ _ _ _ _ _ _ _ _ _ _ _ _ w3 fun V hV => long_any 10 t0 _ V HX.out.2.2.2.2.2.1 HX.out.2.1 ((HX.out.2.2.2.1.below hV).more hV.size)).mono ?_
          rintro e w4 ⟨rfl, hB4⟩
          obtain ⟨k0, k1, k2, k3, k4, k5, _, _, _, _, _, _⟩ := (HBX.out.1.below hB4 hp5).c6
          obtain ⟨l0, l1, l2, l3, l4, l5, _, _, _, _, _, _⟩ := (HBX.out.2.below hB4 hp6).c6
          have HB4 := Lib.hid hB4
          clear hB4
          go_wp2_with fail
          obtain ⟨o, ho⟩ : ∃ o, hasV s t0 = o := ⟨_, rfl⟩
          have hi := implHas_any s t0 _ _ w4 HX.out.2.2.2.2.2.2 HX.out.2.2.2.2.1 HX.out.2.2.2.2.2.1 HX.out.1 HX.out.2.1 (HK.out.1.below HB4.out) (HK.out.2.below HB4.out) ((HX.out.2.2.1.below HB4.out).more HB4.out.size) ((HX.out.2.2.2.1.below HB4.out).more HB4.out.size)
          rw [ho] at hi
          have HO := Lib.hid ho
          refine hi.mono ?_
          clear hi ho
          rintro e w5 ⟨h, hB5⟩
          replace hB5 := HB4.out.trans (hB5.mono HB4.out.size)
          obtain ⟨k0, k1, k2, k3, k4, k5, _, _, _, _, _, _⟩ := (HBX.out.1.below hB5 hp5).c6
          obtain ⟨l0, l1, l2, l3, l4, l5, _, _, _, _, _, _⟩ := (HBX.out.2.below hB5 hp6).c6
          have HB5 := Lib.hid hB5
          clear hB5
          have hs := specHas_any s t0 _ _ w5 HX.out.2.2.2.2.2.2 HX.out.2.2.2.2.1 HX.out.2.2.2.2.2.1 HX.out.1 HX.out.2.1 ((HX.out.2.2.1.below HB5.out).more HB5.out.size) ((HX.out.2.2.2.1.below HB5.out).more HB5.out.size)
          rw [HO.out] at hs
          have HS := Lib.hid hs
          clear hs HO
          cases o with
          | none =>
            obtain rfl := h
            go_wp2_with fail
            refine HS.out.mono ?_
            rintro e w6 ⟨⟨q, rfl⟩, hB6⟩
            have HB6 := Lib.hid (HBW.out.trans ((HB5.out.trans (hB6.mono HB5.out.size)).mono HBW.out.size))
            clear hB6 k0 k1 k2 k3 k4 k5 l0 l1 l2 l3 l4 l5
            go_wp2
            go_ret
            exact ⟨rfl, HB6.out⟩
          | some R =>
            obtain rfl := h
            go_wp2_with fail
            refine HS.out.mono ?_
            rintro e w6 ⟨rfl, hB6⟩
            have HB6 := Lib.hid (HBW.out.trans ((HB5.out.trans (hB6.mono HB5.out.size)).mono HBW.out.size))
            clear hB6 k0 k1 k2 k3 k4 k5 l0 l1 l2 l3 l4 l5
            cases R
            · go_wp2
              go_ret
              exact ⟨rfl, HB6.out⟩
            · go_wp2
              go_ret
              exact ⟨rfl, HB6.out⟩
end Go.Proofs.YtkmeckimmfbkiaaGreatDoor
