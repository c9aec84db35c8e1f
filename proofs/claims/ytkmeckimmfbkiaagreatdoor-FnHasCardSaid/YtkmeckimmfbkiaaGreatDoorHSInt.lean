/- The reference's integers as machine numbers: Small, low, Int64. Conditions: none. -/
import Derived.Test.YtkmeckimmfbkiaaGreatDoorJSEq1
namespace Go.Proofs.YtkmeckimmfbkiaaGreatDoor
open Go Go.RowKit
/-- Num of a value that is no integer. -/
theorem numNone_any (k : Int) (neg : Bool) (c : Nat) (b : Int) (t : ByteArray) (K : Option Addr) (m d : Nat) (w : World) :
    Calls Tryz.prog 27 #[.agg #[.int .i64 k, .bool neg, .slice none 0 c, .int .u64 b, .string t, .slice K m d]] w (OwnsSI w 0 40) := by
  go_enter Tryz.func27, Tryz.ntmps27
  go_wp2_with fail
  refine gen2 (M := fun W => Calls _ _ _ W _) fun W hB b1 b2 hz => ?_
  have hz1 : w.heap.size + 1 < W.heap.size := by omega
  clear hz
  have hOf := of_si neg [] none 0 c W rfl (by omega) (by omega) Reads.none_
  rw [show sgn neg (beNat []) = 0 by cases neg <;> rfl] at hOf
  refine hOf.mono ?_
  rintro e w5 ⟨v5, rfl, hs5, hB5⟩
  have HS5 := Lib.hid hs5
  obtain ⟨A5, c5, l5, rfl, s1, s2, s3, s4, s5⟩ := hs5
  have br := b2.below hB5 (by omega)
  obtain ⟨r0, r1, f0, f1⟩ := br.c2
  have HBr := Lib.hid (And.intro br (hB.trans (hB5.mono hB.size)))
  clear br s1 s2 s3 s4 s5 hB5 b1 b2 hOf hB
  go_wp2
  refine gen_set2 (M := fun V => bodyPost _ _ _ _ _ V) HBr.out.1 fun W6 b6 hg6 hz6 => ?_
  exact ret_row rfl _ b6 rfl Tryz.underlying39 rfl size24 rfl ⟨_, rfl, ((HS5.out.set2 HBr.out.1 hg6 (Nat.le_refl _)).more (by omega)).wide (by omega), below_grown HBr.out.2 hg6 (by omega) HBr.out.2.size⟩
theorem high_step (l : List UInt8) (i : Nat) (_hl : l.length ≤ 8) (_hi : i < 8) : leV ((dgs l).drop i) = dg l i + 256 * leV ((dgs l).drop (i + 1)) := by
  by_cases h : i < l.length
  · have hd : i < (dgs l).length := by rw [dgs_len]; exact h
    rw [List.drop_eq_getElem_cons hd]
    have e := dgs_get l i h
    rw [List.getElem?_eq_getElem hd] at e
    injection e with e
    rw [e]
    rfl
  · rw [List.drop_eq_nil_of_le (by rw [dgs_len]; omega), List.drop_eq_nil_of_le (by rw [dgs_len]; omega), dg, dif_neg h]
    rfl
theorem high_lt (l : List UInt8) (i : Nat) (hl : l.length ≤ 8) : leV ((dgs l).drop (i + 1)) < 72057594037927936 := by
  have h := leV_lt ((dgs l).drop (i + 1)) (fun x hx => dgs_lt l x (List.mem_of_mem_drop hx))
  rw [List.length_drop, dgs_len] at h
  exact Nat.lt_of_lt_of_le h (Nat.le_trans (Nat.pow_le_pow_right (by decide) (show l.length - (i + 1) ≤ 7 by omega)) (by decide))
theorem or_byte (u d : Nat) (hu : u < 72057594037927936) (hd : d < 256) : bits .or .u64 ((u * 256 : Nat) : Int) (d : Int) = ((d + 256 * u : Nat) : Int) := by
  rw [u64_or_nat _ _ (by omega) (by omega), nat_join 8 _ _ (by omega) (by omega)]
  congr 1
  omega
set_option maxRecDepth 10000 in
set_option maxHeartbeats 1000000 in
theorem low_any (x : Int) (v : Value) (w : World) (hx : SI w w.heap.size x 8 v) : Calls Tryz.prog 42 #[v] w fun e w' => e = .returned (.int .u64 (x.natAbs : Int)) ∧ Below w.heap.size w w' := by
  obtain ⟨A, c, l, rfl, h2, h3, h4, h5, h6⟩ := hx
  have HR := Lib.hid (And.intro h6 (And.intro h4 (show leV ((dgs l).drop 0) = x.natAbs by rw [List.drop_zero, leV_dgs, h2])))
  clear h2 h3 h4 h5 h6
  generalize decide (x < 0) = sg
  obtain ⟨n, hn⟩ : ∃ n, n = l.length := ⟨_, rfl⟩
  rw [← hn]
  have HN := Lib.hid hn
  clear hn
  go_enter Tryz.func42, Tryz.ntmps42
  go_wp2_with fail
  refine gen1 (M := fun W => Code.wp _ _ _ _ W) fun W hB b1 hz => ?_
  have hz1 : w.heap.size < W.heap.size := by omega
  clear hz
  obtain ⟨k0, k1, _, _⟩ := b1.c2
  have HB := Lib.hid hB
  clear hB b1
  go_loopw [3, 4] (fun vu vi wr => ∃ i : Nat, vu = .int .u64 (leV ((dgs l).drop i) : Int) ∧ vi = .int .i64 ((i : Int) - 1) ∧ i ≤ 8 ∧ wr = W) (fun _ vi _ => (intOf vi + 1).toNat)
  case atStart => exact ⟨8, by rw [List.drop_eq_nil_of_le (by rw [dgs_len]; exact HR.out.2.1)]; rfl, rfl, by omega, rfl⟩
  case round =>
    obtain ⟨i, rfl, rfl, hi, rfl⟩ := hrel
    cases i with
    | zero =>
      have hki : ¬ (0 : Int) ≤ ((0 : Nat) : Int) - 1 := by omega
      have hq := HR.out.2.2
      generalize leV ((dgs l).drop 0) = u at *
      subst hq
      go_wp2
      go_ret
      exact ⟨rfl, HB.out⟩
    | succ i =>
      have e1 : ((i + 1 : Nat) : Int) - 1 = (i : Int) := by omega
      have hki : (0 : Int) ≤ (i : Int) := by omega
      have w1 : IntKind.i64.wrap ((i : Int) - 1) = (i : Int) - 1 := by rw [IntKind.wrap_i64]; omega
      have hlt := high_lt l i HR.out.2.1
      have hst := high_step l i HR.out.2.1 (by omega)
      have hd := dg_lt l i
      have HD := Lib.hid (digit_any l A n c i wr (by have := HR.out.2.1; have := HN.out; omega) (by omega) ((by have h := HR.out.1; rw [← HN.out] at h; exact (h.below HB.out).more HB.out.size)))
      rw [e1]
      generalize leV ((dgs l).drop (i + 1)) = u at *
      generalize hU : leV ((dgs l).drop i) = u' at *
      have HU := Lib.hid hU
      clear hU
      generalize dg l i = q at *
      have w2 : IntKind.u64.wrap ((u : Int) * 256) = ((u * 256 : Nat) : Int) := by rw [IntKind.wrap_u64]; omega
      have w3 : IntKind.u64.wrap (q : Int) = (q : Int) := by rw [IntKind.wrap_u64]; omega
      have w4 : bits .or .u64 ((u : Int) * 256) (q : Int) = (u' : Int) := by rw [hst, ← or_byte u q hlt hd]; rfl
      have HST := Lib.hid hst
      clear hst hlt hd
      go_wp2_with fail
      refine HD.out.mono ?_
      rintro e w5 ⟨rfl, rfl⟩
      go_wp2
      exact ⟨⟨i, by rw [HU.out], rfl, by omega, trivial⟩, by simp only [intOf]; omega⟩
set_option maxRecDepth 10000 in
set_option maxHeartbeats 400000 in
theorem small_neg (z v : Int) (u : Nat) (w : World) (hz : z < 0) (hu : u < 18446744073709551616) (h1 : IntKind.u64.wrap z = v) (h2 : IntKind.u64.wrap (-v) = (u : Int)) (hr : sgn true u = z) : Calls Tryz.prog 34 #[.int .i64 z] w (OwnsSI w z 8) := by
  have HR := Lib.hid hr
  clear hr
  go_enter Tryz.func34, Tryz.ntmps34
  go_wp2_with fail
  refine gen1 (M := fun W => Calls _ _ _ W _) fun W hB b1 hzz => ?_
  refine (bytesOf_any u W hu).mono ?_
  rintro e w1 ⟨rfl, hb, hB1⟩
  have hof := of_word true u W hu w1 hb
  rw [HR.out] at hof
  have b2 := b1.below hB1 (by omega)
  have HB := Lib.hid (And.intro b2 (hB.trans (hB1.mono (by omega))))
  have HOF := Lib.hid hof
  clear b1 hB hB1 b2 hb hof hzz
  go_wp2_with fail
  refine HOF.out.mono ?_
  rintro e w5 ⟨v5, rfl, hs5, hB5⟩
  have HS5 := Lib.hid hs5
  obtain ⟨A5, c5, l5, rfl, s1, s2, s3, s4, s5⟩ := hs5
  have br := HB.out.1.below hB5 HB.out.1.lt
  obtain ⟨r0, r1, f0, f1⟩ := br.c2
  have HBr := Lib.hid (And.intro br (HB.out.2.trans (hB5.mono HB.out.2.size)))
  clear br s1 s2 s3 s4 s5 hB5 HOF
  go_wp2
  refine gen_set2 (M := fun V => bodyPost _ _ _ _ _ V) HBr.out.1 fun W6 b6 hg6 hz6 => ?_
  exact ret_row rfl _ b6 rfl Tryz.underlying39 rfl size24 rfl ⟨_, rfl, by rw [← decide_eq_true hz]; exact SI.more (B' := W6.heap.size) (HS5.out.set2 HBr.out.1 hg6 (Nat.le_refl _)) (by rw [hz6]; exact Nat.le_refl _), below_grown HBr.out.2 hg6 (Nat.le_refl _) HBr.out.2.size⟩
set_option maxRecDepth 10000 in
set_option maxHeartbeats 400000 in
theorem small_pos (z : Int) (u : Nat) (w : World) (hz : ¬ z < 0) (hu : u < 18446744073709551616) (h1 : IntKind.u64.wrap z = (u : Int)) (hr : sgn false u = z) : Calls Tryz.prog 34 #[.int .i64 z] w (OwnsSI w z 8) := by
  have HR := Lib.hid hr
  clear hr
  go_enter Tryz.func34, Tryz.ntmps34
  go_wp2_with fail
  refine gen1 (M := fun W => Calls _ _ _ W _) fun W hB b1 hzz => ?_
  refine (bytesOf_any u W hu).mono ?_
  rintro e w1 ⟨rfl, hb, hB1⟩
  have hof := of_word false u W hu w1 hb
  rw [HR.out] at hof
  have b2 := b1.below hB1 (by omega)
  have HB := Lib.hid (And.intro b2 (hB.trans (hB1.mono (by omega))))
  have HOF := Lib.hid hof
  clear b1 hB hB1 b2 hb hof hzz
  go_wp2_with fail
  refine HOF.out.mono ?_
  rintro e w5 ⟨v5, rfl, hs5, hB5⟩
  have HS5 := Lib.hid hs5
  obtain ⟨A5, c5, l5, rfl, s1, s2, s3, s4, s5⟩ := hs5
  have br := HB.out.1.below hB5 HB.out.1.lt
  obtain ⟨r0, r1, f0, f1⟩ := br.c2
  have HBr := Lib.hid (And.intro br (HB.out.2.trans (hB5.mono HB.out.2.size)))
  clear br s1 s2 s3 s4 s5 hB5 HOF
  go_wp2
  refine gen_set2 (M := fun V => bodyPost _ _ _ _ _ V) HBr.out.1 fun W6 b6 hg6 hz6 => ?_
  exact ret_row rfl _ b6 rfl Tryz.underlying39 rfl size24 rfl ⟨_, rfl, SI.more (B' := W6.heap.size) (HS5.out.set2 HBr.out.1 hg6 (Nat.le_refl _)) (by rw [hz6]; exact Nat.le_refl _), below_grown HBr.out.2 hg6 (Nat.le_refl _) HBr.out.2.size⟩
theorem small_min : ∃ z : Int, z = -9223372036854775808 ∧ ∀ w, Calls Tryz.prog 34 #[.int .i64 (-9223372036854775808)] w (OwnsSI w z 8) := by
  obtain ⟨z, hz⟩ : ∃ z : Int, z = -9223372036854775808 := ⟨_, rfl⟩
  refine ⟨z, hz, fun w => ?_⟩
  rw [← hz]
  exact small_neg z (z + 18446744073709551616) (-z).toNat w (by omega) (by omega) (by rw [IntKind.wrap_u64]; omega) (by rw [IntKind.wrap_u64]; omega) (by show -(((-z).toNat : Nat) : Int) = z; omega)
theorem small_max : ∃ z : Int, z = 9223372036854775807 ∧ ∀ w, Calls Tryz.prog 34 #[.int .i64 9223372036854775807] w (OwnsSI w z 8) := by
  obtain ⟨z, hz⟩ : ∃ z : Int, z = 9223372036854775807 := ⟨_, rfl⟩
  refine ⟨z, hz, fun w => ?_⟩
  rw [← hz]
  exact small_pos z z.toNat w (by omega) (by omega) (by rw [IntKind.wrap_u64]; omega) (by show ((z.toNat : Nat) : Int) = z; omega)
theorem ord_ge (x y : Int) (h : y ≤ x) : 0 ≤ Fl.ordI (compare x y) := by
  rcases Int.lt_or_eq_of_le h with h | h
  · rw [Fl.cmp_gt h]; decide
  · rw [h, Fl.cmp_eq rfl]; decide
theorem ord_le (x y : Int) (h : x ≤ y) : Fl.ordI (compare x y) ≤ 0 := by
  rcases Int.lt_or_eq_of_le h with h | h
  · rw [Fl.cmp_lt h]; decide
  · rw [h, Fl.cmp_eq rfl]; decide
set_option maxRecDepth 10000 in
set_option maxHeartbeats 2000000 in
/-- The number, if it has room in 64 bits with a sign. -/
theorem int64_any (x : Int) (L : Nat) (v : Value) (w : World) (hL : L ≤ 2147483640) (hx : SI w w.heap.size x L v) : Calls Tryz.prog 28 #[v] w fun e w' => (∃ (m : Int) (ok : Bool), e = .returned (.tuple #[.int .i64 m, .bool ok]) ∧ (ok = true → m = x) ∧ (ok = false → ¬ (0 ≤ x ∧ x < 256))) ∧ Below w.heap.size w w' := by
  obtain ⟨mn, hmn, Smn⟩ := small_min
  obtain ⟨mx, hmx, Smx⟩ := small_max
  have HM := Lib.hid (And.intro Smn Smx)
  have HX := Lib.hid hx
  obtain ⟨A, c, l, rfl, hrest⟩ := hx
  clear hrest
  have HC1 := Lib.hid fun (W : World) (hW : Below w.heap.size w W) (u : Value) (hu : SI W W.heap.size mn 8 u) => spCmp_any x mn L 8 _ u W hL (by omega) ((HX.out.below hW).more hW.size) hu
  have HC2 := Lib.hid fun (W : World) (hW : Below w.heap.size w W) (u : Value) (hu : SI W W.heap.size mx 8 u) => spCmp_any x mx L 8 _ u W hL (by omega) ((HX.out.below hW).more hW.size) hu
  clear Smn Smx
  generalize hsg : decide (x < 0) = sg at *
  generalize l.length = n at *
  rcases Int.lt_or_le x mn with h1 | h1
  · have o1 : Fl.ordI (compare x mn) = -1 := by rw [Fl.cmp_lt h1]; rfl
    have HO := Lib.hid (And.intro o1 (show ¬ (0 ≤ x ∧ x < 256) by omega))
    clear o1 h1 hmn hmx HC2 hsg
    go_enter Tryz.func28, Tryz.ntmps28
    go_wp2_with fail
    refine gen1 (M := fun W => Code.wp _ _ _ _ W) fun W hB b1 hz => ?_
    have HB := Lib.hid (And.intro hB (And.intro b1 (show w.heap.size < W.heap.size by omega)))
    obtain ⟨k0, k1, _, _⟩ := b1.c2
    clear hB b1 hz
    go_region_with
      (first
      | (go_at_call 34; with_reducible refine (HM.out.1 W.drew).mono ?_
         rintro e w5 ⟨v5, rfl, hs5, hB5⟩
         have hB5 : Below W.heap.size W w5 := ⟨hB5.os, hB5.tape, hB5.output, hB5.size, hB5.block⟩
         obtain ⟨k0, k1, _, _⟩ := (HB.out.2.1.below hB5 HB.out.2.2).c2
         have HB5 := Lib.hid (And.intro hB5 hs5)
         clear hB5 hs5)
      | (go_at_call 33; with_reducible refine (HC1.out w5 (HB.out.1.trans (HB5.out.1.mono HB.out.1.size)) _ HB5.out.2).mono ?_
         rintro e w6 ⟨rfl, hB6⟩
         have hB6 : Below W.heap.size W w6 := HB5.out.1.trans (hB6.mono HB5.out.1.size)
         obtain ⟨k0, k1, _, _⟩ := (HB.out.2.1.below hB6 HB.out.2.2).c2
         rw [HO.out.1]
         have HB6 := Lib.hid hB6
         clear hB6))
    all_goals
      go_wp2
      go_ret2
      exact ⟨⟨0, false, rfl, fun h => by simp at h, fun _ => HO.out.2⟩, HB.out.1.trans (HB6.out.mono HB.out.1.size)⟩
  · obtain ⟨q, hq⟩ : ∃ q, Fl.ordI (compare x mn) = q := ⟨_, rfl⟩
    have q0 : 0 ≤ q := hq ▸ ord_ge x mn h1
    have q1 : decide (q < 0) = false := by rw [decide_eq_false_iff_not]; omega
    have HQ := Lib.hid hq
    clear hq q0
    rcases Int.lt_or_le mx x with h2 | h2
    · have hq2 : Fl.ordI (compare x mx) = 1 := by rw [Fl.cmp_gt h2]; rfl
      have HQ2 := Lib.hid hq2
      have HO := Lib.hid (show ¬ (0 ≤ x ∧ x < 256) by omega)
      clear h1 h2 hmn hmx hsg hq2
      go_enter Tryz.func28, Tryz.ntmps28
      go_wp2_with fail
      refine gen1 (M := fun W => Code.wp _ _ _ _ W) fun W hB b1 hz => ?_
      have HB := Lib.hid (And.intro hB (And.intro b1 (show w.heap.size < W.heap.size by omega)))
      obtain ⟨k0, k1, _, _⟩ := b1.c2
      clear hB b1 hz
      go_region_with
        (first
        | (go_at_call 34; with_reducible refine (HM.out.1 W.drew).mono ?_
           rintro e w5 ⟨v5, rfl, hs5, hB5⟩
           have hB5 : Below W.heap.size W w5 := ⟨hB5.os, hB5.tape, hB5.output, hB5.size, hB5.block⟩
           obtain ⟨k0, k1, _, _⟩ := (HB.out.2.1.below hB5 HB.out.2.2).c2
           have HB5 := Lib.hid (And.intro hB5 hs5)
           clear hB5 hs5)
        | (go_at_call 33; with_reducible refine (HC1.out w5 (HB.out.1.trans (HB5.out.1.mono HB.out.1.size)) _ HB5.out.2).mono ?_
           rintro e w6 ⟨rfl, hB6⟩
           have hB6 : Below W.heap.size W w6 := HB5.out.1.trans (hB6.mono HB5.out.1.size)
           obtain ⟨k0, k1, _, _⟩ := (HB.out.2.1.below hB6 HB.out.2.2).c2
           rw [HQ.out]
           have HB6 := Lib.hid hB6
           clear hB6)
        | (go_at_call 34; with_reducible refine (HM.out.2 w6).mono ?_
           rintro e w7 ⟨v7, rfl, hs7, hB7⟩
           have hB7 : Below W.heap.size W w7 := HB6.out.trans (hB7.mono HB6.out.size)
           obtain ⟨k0, k1, _, _⟩ := (HB.out.2.1.below hB7 HB.out.2.2).c2
           have HB7 := Lib.hid (And.intro hB7 hs7)
           clear hB7 hs7)
        | (go_at_call 33; with_reducible refine (HC2.out w7 (HB.out.1.trans (HB7.out.1.mono HB.out.1.size)) _ HB7.out.2).mono ?_
           rintro e w8 ⟨rfl, hB8⟩
           have hB8 : Below W.heap.size W w8 := HB7.out.1.trans (hB8.mono HB7.out.1.size)
           obtain ⟨k0, k1, _, _⟩ := (HB.out.2.1.below hB8 HB.out.2.2).c2
           rw [HQ2.out]
           have HB8 := Lib.hid hB8
           clear hB8))
      all_goals
        go_wp2
        go_ret2
        exact ⟨⟨0, false, rfl, fun h => by simp at h, fun _ => HO.out⟩, HB.out.1.trans (HB8.out.mono HB.out.1.size)⟩
    · obtain ⟨r, hr⟩ : ∃ r, Fl.ordI (compare x mx) = r := ⟨_, rfl⟩
      have r0 : r ≤ 0 := hr ▸ ord_le x mx h2
      have r1 : decide (0 < r) = false := by rw [decide_eq_false_iff_not]; omega
      have HQ2 := Lib.hid hr
      have HL := Lib.hid fun (W : World) (hW : Below w.heap.size w W) => low_any x _ W (((HX.out.short (by omega)).below hW).more hW.size)
      have HO := Lib.hid (And.intro hsg (show -9223372036854775808 ≤ x ∧ x ≤ 9223372036854775807 by omega))
      clear h1 h2 hmn hmx hsg hr r0
      go_enter Tryz.func28, Tryz.ntmps28
      go_wp2_with fail
      refine gen1 (M := fun W => Code.wp _ _ _ _ W) fun W hB b1 hz => ?_
      have HB := Lib.hid (And.intro hB (And.intro b1 (show w.heap.size < W.heap.size by omega)))
      obtain ⟨k0, k1, _, _⟩ := b1.c2
      clear hB b1 hz
      go_region_with
        (first
        | (go_at_call 34; with_reducible refine (HM.out.1 W.drew).mono ?_
           rintro e w5 ⟨v5, rfl, hs5, hB5⟩
           have hB5 : Below W.heap.size W w5 := ⟨hB5.os, hB5.tape, hB5.output, hB5.size, hB5.block⟩
           obtain ⟨k0, k1, _, _⟩ := (HB.out.2.1.below hB5 HB.out.2.2).c2
           have HB5 := Lib.hid (And.intro hB5 hs5)
           clear hB5 hs5)
        | (go_at_call 33; with_reducible refine (HC1.out w5 (HB.out.1.trans (HB5.out.1.mono HB.out.1.size)) _ HB5.out.2).mono ?_
           rintro e w6 ⟨rfl, hB6⟩
           have hB6 : Below W.heap.size W w6 := HB5.out.1.trans (hB6.mono HB5.out.1.size)
           obtain ⟨k0, k1, _, _⟩ := (HB.out.2.1.below hB6 HB.out.2.2).c2
           rw [HQ.out]
           have HB6 := Lib.hid hB6
           clear hB6)
        | (go_at_call 34; with_reducible refine (HM.out.2 w6).mono ?_
           rintro e w7 ⟨v7, rfl, hs7, hB7⟩
           have hB7 : Below W.heap.size W w7 := HB6.out.trans (hB7.mono HB6.out.size)
           obtain ⟨k0, k1, _, _⟩ := (HB.out.2.1.below hB7 HB.out.2.2).c2
           have HB7 := Lib.hid (And.intro hB7 hs7)
           clear hB7 hs7)
        | (go_at_call 33; with_reducible refine (HC2.out w7 (HB.out.1.trans (HB7.out.1.mono HB.out.1.size)) _ HB7.out.2).mono ?_
           rintro e w8 ⟨rfl, hB8⟩
           have hB8 : Below W.heap.size W w8 := HB7.out.1.trans (hB8.mono HB7.out.1.size)
           obtain ⟨k0, k1, _, _⟩ := (HB.out.2.1.below hB8 HB.out.2.2).c2
           rw [HQ2.out]
           have HB8 := Lib.hid hB8
           clear hB8))
      all_goals
        go_wp2_with fail
        refine (HL.out w8 (HB.out.1.trans (HB8.out.mono HB.out.1.size))).mono ?_
        rintro e w9 ⟨rfl, hB9⟩
        have hB9 : Below W.heap.size W w9 := HB8.out.trans (hB9.mono HB8.out.size)
        obtain ⟨k0, k1, _, _⟩ := (HB.out.2.1.below hB9 HB.out.2.2).c2
        have HB9 := Lib.hid (HB.out.1.trans (hB9.mono HB.out.1.size))
        clear hB9
        cases sg
        · have w1 : IntKind.i64.wrap (x.natAbs : Int) = x := by
            have := HO.out
            rw [decide_eq_false_iff_not] at this
            rw [IntKind.wrap_i64]; omega
          go_wp2
          go_ret2
          exact ⟨⟨x, true, rfl, fun _ => rfl, fun h => by simp at h⟩, HB9.out⟩
        · have hneg := HO.out
          rw [decide_eq_true_iff] at hneg
          have w1 : IntKind.u64.wrap (-(x.natAbs : Int)) = x + 18446744073709551616 := by rw [IntKind.wrap_u64]; omega
          have w2 : IntKind.i64.wrap (x + 18446744073709551616) = x := by rw [IntKind.wrap_i64]; omega
          clear hneg
          go_wp2
          go_ret2
          exact ⟨⟨x, true, rfl, fun _ => rfl, fun h => by simp at h⟩, HB9.out⟩
end Go.Proofs.YtkmeckimmfbkiaaGreatDoor
