/- Rat.SetFloat64. -/
import Derived.Test.YtkmeckimmfbkiaaGreatDoorJNorm
namespace Go.Proofs.YtkmeckimmfbkiaaGreatDoor
open Go Go.RowKit
theorem zero_rel (F M p t : Nat) (h : M * 2 ^ p = F) (h0 : M = 0) : 0 * 2 ^ t = F * 1 := by
  rw [← h, h0, Nat.zero_mul, Nat.zero_mul, Nat.zero_mul]
theorem pow_words (n k : Nat) (h : n < 64 * k) : 2 ^ n < 18446744073709551616 ^ k := by
  rw [show (18446744073709551616 : Nat) = 2 ^ 64 from rfl, ← Nat.pow_mul]
  exact Nat.pow_lt_pow_right (by decide) h
theorem mul_words (m n k : Nat) (hm : m < 18446744073709551616) (h : 64 + n ≤ 64 * k) : m * 2 ^ n < 18446744073709551616 ^ k := by
  rw [show (18446744073709551616 : Nat) = 2 ^ 64 from rfl, ← Nat.pow_mul]
  exact Nat.lt_of_lt_of_le (Nat.mul_lt_mul_of_pos_right (show m < 2 ^ 64 from hm) (Nat.pow_pos (by decide))) (by rw [← Nat.pow_add]; exact Nat.pow_le_pow_right (by decide) h)
theorem setAt_drew {w w' : World} {g o x : Nat} {neg : Bool} (h : SetAt w.drew g o neg x w') : SetAt w g o neg x w' := by
  obtain ⟨V, A, c, hB, hN, e⟩ := h
  exact ⟨V, A, c, ⟨hB.os, hB.tape, hB.output, hB.size, hB.block⟩, hN, e⟩
theorem Fl.neg_sv {b : Nat} (hb : b < 2 ^ 64) (hf : b % 2 ^ 63 < 2047 * 2 ^ 52) : (FloatKind.f64.format.order b 0 == some Ordering.lt) = decide (Fl.sv (decide (2 ^ 63 ≤ b)) (b % 2 ^ 63) < 0) := by
  show (Ieee.double.order b 0 == some Ordering.lt) = _
  rw [Fl.order_num hb (by decide) hf (by decide)]
  have h0 : Fl.sv (decide (2 ^ 63 ≤ 0)) (0 % 2 ^ 63) = 0 := by decide
  rw [h0]
  generalize Fl.sv (decide (2 ^ 63 ≤ b)) (b % 2 ^ 63) = v
  rcases Int.lt_trichotomy v 0 with h | h | h
  · rw [Fl.cmp_lt h, decide_eq_true h]; rfl
  · subst h; rfl
  · rw [Fl.cmp_gt h, decide_eq_false (by omega)]; rfl
theorem Fl.worth_rel {r b M p m k : Nat} (_h : r = b % 2 ^ 63 ∧ M = Fl.mOf r ∧ p = Fl.pOf r) (_hm : m * 2 ^ k = M) : True := trivial
theorem Fl.high_pos {r b M p : Nat} (h : r = b % 2 ^ 63 ∧ M = Fl.mOf r ∧ p = Fl.pOf r) (hp : 0 < p) : 0 < M := by
  obtain ⟨_, h2, h3⟩ := h
  rw [h3] at hp
  rw [h2]
  unfold Fl.mOf
  unfold Fl.pOf at hp
  split
  · rename_i h; rw [if_pos h] at hp; omega
  · omega
set_option maxRecDepth 10000 in
set_option maxHeartbeats 400000 in
theorem intOne1_any (w : World) : Calls Tryz.prog 122 #[] w fun e w' => ∃ g ad c, e = .returned (.pointer (some ⟨g, 0, none⟩)) ∧ w.heap.size ≤ g ∧ Blk w' g 132 #[.bool false, .slice (some ad) 1 c] ∧ w'.cell? ad = some (.int .u64 1) ∧ ad.block < w'.heap.size ∧ Below w.heap.size w w' := by
  refine (intOne_any w).mono ?_
  rintro e w1 ⟨g, rfl, hg, ⟨A, c, b, hl, hr, hc⟩, hB⟩
  have l1 : limbs (1 : Int).natAbs = [1] := limbs_one 1 (by decide) (by decide)
  rw [l1] at b hr
  obtain ⟨ad, rfl, h1, h2⟩ := hr.2 (by decide)
  exact ⟨g, ad, c, rfl, hg, b, h2 0 _ rfl, h1, hB⟩
set_option maxRecDepth 10000 in
set_option maxHeartbeats 4000000 in
theorem setFloat_any (g b : Nat) (hb : b < 2 ^ 64) (hf : b % 2 ^ 63 < 2047 * 2 ^ 52) (w : World) (hz : Blk w g 200 #[.bool false, .slice none 0 0, .bool false, .slice none 0 0]) :
    Calls Tryz.prog 115 #[.pointer (some ⟨g, 0, none⟩), .float .f64 b] w fun e w' => ∃ a d, SetRat w g (decide (Fl.sv (decide (2 ^ 63 ≤ b)) (b % 2 ^ 63) < 0)) a d e w' ∧ 0 < d ∧ a * 2 ^ 1074 = Fl.fv (b % 2 ^ 63) * d ∧ (limbs a).length ≤ 20 ∧ (limbs d).length ≤ 20 ∧ (1074 ≤ Fl.pOf (b % 2 ^ 63) → d = 1) := by
  obtain ⟨r, hr⟩ : ∃ r, r = b % 2 ^ 63 := ⟨_, rfl⟩
  obtain ⟨E, hE⟩ : ∃ E, E = r / 2 ^ 52 := ⟨_, rfl⟩
  obtain ⟨M, hM⟩ : ∃ M, M = Fl.mOf r := ⟨_, rfl⟩
  obtain ⟨p, hp⟩ : ∃ p, p = Fl.pOf r := ⟨_, rfl⟩
  rw [← hr] at hf ⊢
  have hEl : E < 2047 := by omega
  have hpl : p ≤ 2045 := by rw [hp]; unfold Fl.pOf; split <;> omega
  have hMl : M < 2 ^ 53 := by rw [hM]; unfold Fl.mOf; split <;> omega
  have F2 : wrap64 (bits .and .u64 ((b : Int) / 4503599627370496) 2047) = (E : Int) := by
    have h := u64_and_nat (b / 4503599627370496) 2047 (by omega) (by decide)
    rw [show 2047 = 2 ^ 11 - 1 from rfl, Nat.and_two_pow_sub_one_eq_mod] at h
    have e : ((b / 4503599627370496 : Nat) : Int) = (b : Int) / 4503599627370496 := by omega
    rw [e] at h
    rw [show (2047 : Int) = ((2 ^ 11 - 1 : Nat) : Int) from rfl, h]
    have : b / 4503599627370496 % 2 ^ 11 = E := by omega
    rw [this]
    unfold wrap64
    omega
  have F3 : bits .and .u64 (b : Int) 4503599627370495 = ((b % 2 ^ 52 : Nat) : Int) := by
    have h := u64_and_nat b 4503599627370495 (by omega) (by decide)
    rw [show 4503599627370495 = 2 ^ 52 - 1 from rfl, Nat.and_two_pow_sub_one_eq_mod] at h
    exact h
  have F4 : bits .or .u64 ((b % 2 ^ 52 : Nat) : Int) 4503599627370496 = ((2 ^ 52 + b % 2 ^ 52 : Nat) : Int) := by
    have h := u64_or_nat (b % 2 ^ 52) (2 ^ 52) (by omega) (by decide)
    rw [Nat.or_comm, ← Nat.two_pow_add_eq_or_of_lt (i := 52) (by omega) 1] at h
    simpa using h
  have H1 := fun w => mbits_run b w
  have HZ := Lib.hid hz
  have hg := hz.lt
  have HV0 := Lib.hid (And.intro hr (And.intro hM hp))
  obtain ⟨e1, he1⟩ : ∃ e1 : Int, e1 = (p : Int) - 1022 := ⟨_, rfl⟩
  obtain ⟨sh, hsh⟩ : ∃ sh : Int, sh = 1074 - (p : Int) := ⟨_, rfl⟩
  have G2 : wrap64 (52 - e1) = sh := by unfold wrap64; omega
  clear hz
  obtain ⟨N, hNe⟩ : ∃ N, N = decide (Fl.sv (decide (2 ^ 63 ≤ b)) r < 0) := ⟨_, rfl⟩
  have HN : Hid ((FloatKind.f64.format.order b 0 == some Ordering.lt) = N) := Lib.hid (by rw [hNe, hr]; exact Fl.neg_sv hb (by rw [← hr]; exact hf))
  have HFV : Hid (M * 2 ^ p = Fl.fv r) := Lib.hid (by rw [hM, hp]; rfl)
  have HM0 : Hid (M = 0 → p = 0) := Lib.hid fun h => by
    rw [hM] at h
    rw [hp]
    unfold Fl.mOf at h
    unfold Fl.pOf
    split at h
    · rename_i h1; rw [if_pos h1]
    · omega
  have HNZ : Hid (M = 0 → N = false) := Lib.hid fun h => by
    have h0 : Fl.fv r = 0 := by rw [← HFV.out, h, Nat.zero_mul]
    rw [hNe]
    unfold Fl.sv
    rw [h0]
    split <;> simp
  rw [← hNe]
  clear hNe
  have E1 : ((E : Int) == 2047) = false := by rw [beq_eq_false_iff_ne]; omega
  rcases Nat.eq_zero_or_pos E with h0 | h0
  · have E2 : ((E : Int) == 0) = true := by rw [beq_iff_eq]; omega
    have hr52 : r < 2 ^ 52 := by omega
    have hp0 : p = 0 := by rw [hp, Fl.pOf, if_pos hr52]
    have G1 : wrap64 ((E : Int) - 1022) = e1 := by unfold wrap64; omega
    have hm0 : b % 2 ^ 52 = M := by rw [hM, Fl.mOf, if_pos hr52]; omega
    rw [hm0] at F3
    clear F4 hm0
    generalize (E : Int) = Ez at *
    have HS := Lib.hid hsh
    have HF := Lib.hid hf
    clear hr hE hM hp he1 hsh h0 hp0 hr52 hf hEl
    go_enter Tryz.func115, Tryz.ntmps115
    go_wp2_with (simp only [H1])
    -- LOOP1 (by gensetf.py)
    go_loopw [6, 8] (fun vm vs wr => ∃ (m k : Nat) (s : Int), vm = .int .u64 m ∧ vs = .int .i64 s ∧ s = sh - k ∧ m * 2 ^ k = M ∧ (k = 0 ∨ 0 ≤ s) ∧ wr = w) (fun _ vs _ => (intOf vs).toNat)
    case atStart => exact ⟨M, 0, sh, rfl, congrArg (Value.int .i64) G2, by omega, by simp, .inl rfl, rfl⟩
    case round =>
      obtain ⟨m, k, s, rfl, rfl, hs, hm, hk, rfl⟩ := hrel
      have hmM : m ≤ M := by rw [← hm]; exact Nat.le_mul_of_pos_right _ (Nat.pow_pos (by decide))
      have A1 : bits .and .u64 (m : Int) 1 = ((m % 2 : Nat) : Int) := by
        have h := u64_and_nat m 1 (by omega) (by decide)
        rw [show 1 = 2 ^ 1 - 1 from rfl, Nat.and_two_pow_sub_one_eq_mod] at h
        exact h
      have HK := Lib.hid (And.intro hs (And.intro hm (And.intro hk hmM)))
      clear hs hm hk hmM
      rcases Nat.mod_two_eq_zero_or_one m with hm2 | hm2
      · rw [hm2] at A1
        rcases Int.lt_or_le 0 s with hs0 | hs0
        · have B1 : decide (0 < s) = true := decide_eq_true hs0
          obtain ⟨hs, hm, hk, hmM⟩ := HK.out
          have B2 : wrap64 (s - 1) = s - 1 := by have := HS.out; unfold wrap64; omega
          clear hs hm hk hmM
          go_wp2_with fail
          obtain ⟨hs, hm, hk, hmM⟩ := HK.out
          have e1 : (m : Int) / 2 = ((m / 2 : Nat) : Int) := by omega
          refine ⟨⟨m / 2, k + 1, s - 1, by rw [e1], by rw [B2], by omega, ?_, .inr (by omega), trivial⟩, by simp only [intOf, B2]; omega⟩
          rw [← hm, Nat.pow_succ, Nat.mul_comm (2 ^ k) 2, ← Nat.mul_assoc]
          congr 1
          omega
        · have B1 : decide (0 < s) = false := decide_eq_false (by omega)
          rcases Nat.eq_zero_or_pos m with hm0 | hm0
          · subst hm0
            rw [Nat.zero_mod] at hm2
            clear hm2
            go_wp2_with fail
            refine (setU0_rat g wr HZ.out).mono ?_
            rintro e w1 ⟨rfl, b1, g1⟩
            obtain ⟨x0, x1, x2, x3, z0, z1, z2, z3⟩ := b1.c4
            have s1 := g1.size
            have HP := Lib.hid (And.intro b1 g1)
            clear b1 g1
            go_wp2_with fail
            have hN : (FloatKind.f64.format.order b 0 == some Ordering.lt) = N := HN.out
            rw [hN]
            clear hN
            refine gen_a (M := fun W => Code.wp _ _ _ _ W) HP.out.1 fun W bW gW sW => ?_
            have HW := Lib.hid (And.intro bW (And.intro trivial (grown_trans HP.out.2 gW)))
            have hgW := bW.lt
            have hWs : wr.heap.size ≤ W.heap.size := by omega
            clear bW gW sW x0 x1 x2 x3 z0 z1 z2 z3
            go_region_held3 (fun _ => True) (trivial)
              (first
                | (go_at_call 122; refine (intOne1_any W.drew).mono ?_; rintro e w2 ⟨g4, ad4, c4, rfl, hg4, b4, h4, l4, hB4⟩
                   have hB4 : Below W.heap.size W w2 := ⟨hB4.os, hB4.tape, hB4.output, hB4.size, hB4.block⟩
                   have hg4 : W.heap.size ≤ g4 := hg4
                   have H4 := Lib.hid (And.intro b4 (And.intro h4 (And.intro l4 hB4)))
                   have s2 := hB4.size
                   clear b4 h4 l4 hB4)
                | (go_at_call 73; refine (numSet1_any g 2 g4 0 1 c4 false false ad4 w2 _ _ _ _ (HW.out.1.below H4.out.2.2.2 hgW) H4.out.1 rfl rfl rfl rfl H4.out.2.1 H4.out.2.2.1 (by omega)).mono ?_; rintro e w3 ⟨rfl, V, hBV, hbV, rfl⟩
                   obtain ⟨t1, t2, t3, t4, t5⟩ := set1_rat (HW.out.1.below H4.out.2.2.2 hgW) hBV hbV
                   generalize (V.setCell ⟨g, 2 + 1, none⟩ (.slice (some ⟨w2.heap.size, 0, none⟩) 1 1)).setCell ⟨g, 2, none⟩ (.bool false) = w3 at *
                   have H5 := Lib.hid (And.intro t1 (And.intro t2 (And.intro t3 t4)))
                   clear t1 t2 t3 t4 hBV hbV))
            have g5 := grown_trans (grown_trans HW.out.2.2 (grown_of_below H4.out.2.2.2 (some g))) H5.out.2.2.2
            have H6 := Lib.hid (And.intro H5.out.1 (And.intro g5 (And.intro H5.out.2.1 H5.out.2.2.1)))
            have hgwr : wr.heap.size ≤ w2.heap.size := by omega
            clear g5 HP HW H4 H5
            obtain ⟨hs, hm, hk, hmM⟩ := HK.out
            have hsp := HS.out
            -- shift = 0, nought
            have hM0 : M = 0 := by rw [← hm, Nat.zero_mul]
            have hpp0 := HM0.out hM0
            have hs00 : s = 0 := by
              rcases hk with h | h
              · subst h; omega
              · omega
            clear hpp0
            subst hs00
            have HQ := Lib.hid hM0
            clear hs hm hk hmM hsp hM0
            go_wp2_with fail
            go_region_held3 (fun _ => True) (trivial)
              ((go_at_call 123; refine (numLsh0_nil g 0 N w3.drew _ _ (by exact H6.out.1) rfl rfl).mono ?_; rintro e w5 ⟨rfl, hS⟩
                have hS : SetAt w3 g 0 N 0 w5 := setAt_drew hS))
            obtain ⟨D, d, b6, r6, hd6, n6, g6, s6⟩ := hS.out H6.out.1
            rw [limbs_zero] at b6
            have b6 : Blk w5 g 200 #[.bool N, .slice D 0 d, .bool false, .slice (some ⟨w2.heap.size, 0, none⟩) 1 1] := by simpa using b6
            have hgl6 := b6.lt
            have hcb := g6.block w2.heap.size t5 (by intro e; injection e with e; omega)
            have c6 := (World.cell?_of_block (a := ⟨w2.heap.size, 0, none⟩) hcb).trans H6.out.2.2.1
            have f6 := (World.frozen?_of_block (a := ⟨w2.heap.size, 0, none⟩) hcb).trans H6.out.2.2.2
            have HR := Lib.hid (And.intro b6 (And.intro c6 (And.intro f6 (grown_trans H6.out.2.1 g6))))
            clear b6 r6 hd6 n6 g6 hS hcb c6 f6
            go_wp2_with fail
            refine (norm_zero g d N D ⟨w2.heap.size, 0, none⟩ w5 HR.out.1 HR.out.2.1 HR.out.2.2.1 (by show w2.heap.size < w5.heap.size; omega) (by show w2.heap.size ≠ g; omega)).mono ?_
            rintro e w6 ⟨rfl, R7, h7, o7, t7, u7, s7⟩
            have HE := Lib.hid (And.intro R7 (And.intro h7 (And.intro o7 (And.intro t7 (And.intro u7 s7)))))
            clear R7 h7 o7 t7 u7
            go_wp2
            go_ret
            obtain ⟨R7, h7, o7, t7, u7, s7⟩ := HE.out
            have g7 := HR.out.2.2.2
            refine ⟨0, 1, ⟨rfl, by rw [HNZ.out HQ.out]; exact R7, ⟨o7.trans g7.os, t7.trans g7.tape, u7.trans g7.output, Nat.le_trans g7.size s7, fun i hi hne => (h7 i (by have := g7.size; omega) (by intro e; exact hne (by rw [e])) (by show i ≠ w2.heap.size; omega)).trans (g7.block i hi hne)⟩⟩, by decide, zero_rel _ M p 1074 HFV.out HQ.out, by rw [limbs_zero]; simp, by rw [limbs_one 1 (by decide) (by decide)]; simp, fun _ => rfl⟩
          · go_wp2_with fail
            refine (setU_rat g m wr (by have := HK.out.2.2.2; omega) HZ.out).mono ?_
            rintro e w1 ⟨rfl, A, b1, r1, n1, g1⟩
            obtain ⟨x0, x1, x2, x3, z0, z1, z2, z3⟩ := b1.c4
            have s1 := g1.size
            have HP := Lib.hid (And.intro b1 (And.intro r1 (And.intro n1 g1)))
            clear b1 r1 n1 g1
            go_wp2_with fail
            have hN : (FloatKind.f64.format.order b 0 == some Ordering.lt) = N := HN.out
            rw [hN]
            clear hN
            refine gen_a (M := fun W => Code.wp _ _ _ _ W) HP.out.1 fun W bW gW sW => ?_
            have HW := Lib.hid (And.intro bW (And.intro (HP.out.2.1.grownRat HP.out.1 gW) (grown_trans HP.out.2.2.2 gW)))
            have hgW := bW.lt
            have hWs : wr.heap.size ≤ W.heap.size := by omega
            clear bW gW sW x0 x1 x2 x3 z0 z1 z2 z3
            go_region_held3 (fun _ => True) (trivial)
              (first
                | (go_at_call 122; refine (intOne1_any W.drew).mono ?_; rintro e w2 ⟨g4, ad4, c4, rfl, hg4, b4, h4, l4, hB4⟩
                   have hB4 : Below W.heap.size W w2 := ⟨hB4.os, hB4.tape, hB4.output, hB4.size, hB4.block⟩
                   have hg4 : W.heap.size ≤ g4 := hg4
                   have H4 := Lib.hid (And.intro b4 (And.intro h4 (And.intro l4 hB4)))
                   have s2 := hB4.size
                   clear b4 h4 l4 hB4)
                | (go_at_call 73; refine (numSet1_any g 2 g4 0 1 c4 false false ad4 w2 _ _ _ _ (HW.out.1.below H4.out.2.2.2 hgW) H4.out.1 rfl rfl rfl rfl H4.out.2.1 H4.out.2.2.1 (by omega)).mono ?_; rintro e w3 ⟨rfl, V, hBV, hbV, rfl⟩
                   obtain ⟨t1, t2, t3, t4, t5⟩ := set1_rat (HW.out.1.below H4.out.2.2.2 hgW) hBV hbV
                   generalize (V.setCell ⟨g, 2 + 1, none⟩ (.slice (some ⟨w2.heap.size, 0, none⟩) 1 1)).setCell ⟨g, 2, none⟩ (.bool false) = w3 at *
                   have H5 := Lib.hid (And.intro t1 (And.intro t2 (And.intro t3 t4)))
                   clear t1 t2 t3 t4 hBV hbV))
            have r5 := ((HW.out.2.1.below H4.out.2.2.2).more H4.out.2.2.2.size).grownRat (HW.out.1.below H4.out.2.2.2 hgW) H5.out.2.2.2
            have g5 := grown_trans (grown_trans HW.out.2.2 (grown_of_below H4.out.2.2.2 (some g))) H5.out.2.2.2
            have f5 : ∀ ad, A = some ad → wr.heap.size ≤ ad.block := HP.out.2.2.1
            have H6 := Lib.hid (And.intro H5.out.1 (And.intro r5 (And.intro g5 (And.intro H5.out.2.1 (And.intro H5.out.2.2.1 f5)))))
            have hgwr : wr.heap.size ≤ w2.heap.size := by omega
            clear r5 g5 f5 HP HW H4 H5
            obtain ⟨hs, hm, hk, hmM⟩ := HK.out
            have hsp := HS.out
            have hwr := Fl.worth_rel HV0.out HK.out.2.1
            rcases Int.lt_or_eq_of_le hs0 with hs1 | hs1
            · -- shift < 0
              obtain ⟨n, hn⟩ : ∃ n : Nat, s = -(n : Int) := ⟨(-s).toNat, by omega⟩
              have hn0 : 0 < n := by omega
              have hk0 : k = 0 := by omega
              subst hk0
              rw [Nat.pow_zero, Nat.mul_one] at hm
              have hrel : p = 1074 + n := by omega
              have C3 : IntKind.i64.wrap (-s) = (n : Int) := by rw [IntKind.wrap_i64]; omega
              have C4 : IntKind.u64.wrap (n : Int) = (n : Int) := by rw [IntKind.wrap_u64]; omega
              have hm0 : 0 < m := by rw [hm]; exact Fl.high_pos HV0.out (by omega)
              have hm64 : m < 18446744073709551616 := by omega
              have hlm := limbs_one m hm64 hm0
              have HQ := Lib.hid (And.intro hm (And.intro hrel hlm))
              obtain ⟨A', rfl, wA, lA⟩ : ∃ ad, A = some ad ∧ w3.cell? ad = some (.int .u64 m) ∧ ad.block < w3.heap.size := by
                have h := H6.out.2.1
                rw [hlm] at h
                obtain ⟨ad, e, h1, h2⟩ := h.2 (by simp)
                exact ⟨ad, e, h2 0 _ rfl, h1⟩
              have hb3 : Blk w3 g 200 #[.bool N, .slice (some A') 1 1, .bool false, .slice (some ⟨w2.heap.size, 0, none⟩) 1 1] := by have h := H6.out.1; rw [hlm] at h; exact h
              have HB3 := Lib.hid hb3
              have hnl : n ≤ 971 := by omega
              clear hs hm hk hmM hsp hwr hrel hlm hb3 hn
              go_wp2_with fail
              go_region_held3 (fun _ => True) (trivial)
                ((go_at_call 123; refine (numLsh_any g 0 m n N A' w3.drew _ _ hm0 hm64 hn0 (by omega) (by exact HB3.out) rfl rfl (by exact wA) (by exact lA)).mono ?_; rintro e w5 ⟨rfl, hS⟩
                  have hS : SetAt w3 g 0 N (m * 2 ^ n) w5 := setAt_drew hS))
              obtain ⟨D, d, b6, r6, hd6, n6, g6, s6⟩ := hS.out HB3.out
              obtain ⟨hm, hrel, hlm⟩ := HQ.out
              have b6 : Blk w5 g 200 #[.bool N, .slice D (limbs (m * 2 ^ n)).length d, .bool false, .slice (some ⟨w2.heap.size, 0, none⟩) 1 1] := by simpa using b6
              have R6 : RatAt w5 w5.heap.size g N (m * 2 ^ n) 1 := ⟨D, d, some ⟨w2.heap.size, 0, none⟩, 1, by rw [limbs_one 1 (by decide) (by decide)]; exact b6, b6.lt, r6, hd6, by rw [limbs_one 1 (by decide) (by decide)]; exact (reads_word (x := 1) H6.out.2.2.2.1 (by show w2.heap.size < w3.heap.size; omega)).grownRat HB3.out g6, by rw [limbs_one 1 (by decide) (by decide)]; exact Nat.le_refl _⟩
              have HR := Lib.hid (And.intro R6 (grown_trans H6.out.2.2.1 g6))
              have l1 : (limbs 1).length ≤ 1 := by rw [limbs_one 1 (by decide) (by decide)]; simp
              have ld : (limbs (m * 2 ^ n)).length ≤ 20 := limbs_len_le 20 _ (mul_words m n 20 hm64 (by omega))
              have HX := Lib.hid (And.intro (show m * 2 ^ n * 2 ^ 1074 = M * 2 ^ p * 1 by rw [hm]; have h := Fl.high_worth M p 1074 (by omega); rw [show p - 1074 = n by omega] at h; exact h) (And.intro l1 ld))
              clear b6 r6 hd6 n6 g6 hS R6 hm hrel hlm
              go_wp2_with fail
              refine (ratNorm_any g (m * 2 ^ n) 1 N w5 HR.out.1 (Nat.mul_pos hm0 (Nat.pow_pos (by decide))) (by decide) (by omega) (by omega) (.inr (by decide)) (Nat.gcd_one_right _)).mono ?_
              rintro e w6 ⟨rfl, R7, g7⟩
              have HE := Lib.hid (And.intro R7 g7)
              clear R7 g7
              go_wp2
              go_ret
              exact ⟨m * 2 ^ n, 1, ⟨rfl, HE.out.1, grown_trans HR.out.2 HE.out.2⟩, by decide, by rw [HX.out.1, HFV.out], by have := HX.out.2.2; omega, by have := HX.out.2.1; omega, fun _ => rfl⟩
            · -- shift = 0, m > 0
              have hs00 : s = 0 := by omega
              subst hs00
              have hrel : p + k + 0 = 1074 := by omega
              have hm64 : m < 18446744073709551616 := by omega
              have hlm := limbs_one m hm64 hm0
              have HQ := Lib.hid (And.intro hm (And.intro hrel hlm))
              obtain ⟨A', rfl, wA, lA⟩ : ∃ ad, A = some ad ∧ w3.cell? ad = some (.int .u64 m) ∧ ad.block < w3.heap.size := by
                have h := H6.out.2.1
                rw [hlm] at h
                obtain ⟨ad, e, h1, h2⟩ := h.2 (by simp)
                exact ⟨ad, e, h2 0 _ rfl, h1⟩
              have hb3 : Blk w3 g 200 #[.bool N, .slice (some A') 1 1, .bool false, .slice (some ⟨w2.heap.size, 0, none⟩) 1 1] := by have h := H6.out.1; rw [hlm] at h; exact h
              have HB3 := Lib.hid hb3
              clear hs hm hk hmM hsp hwr hrel hlm hb3
              go_wp2_with fail
              go_region_held3 (fun _ => True) (trivial)
                ((go_at_call 123; refine (numLsh0_word g 0 N A' w3.drew _ _ (by exact HB3.out) rfl rfl).mono ?_; rintro e w5 ⟨rfl, b6, g6, s6⟩
                  have g6 : w3.grownBy w5 (some g) := ⟨g6.os, g6.tape, g6.output, g6.size, g6.block⟩))
              obtain ⟨hm, hrel, hlm⟩ := HQ.out
              have R6 : RatAt w5 w5.heap.size g N m 1 := ⟨some A', 1, some ⟨w2.heap.size, 0, none⟩, 1, by rw [hlm, limbs_one 1 (by decide) (by decide)]; exact b6, b6.lt, by rw [hlm]; exact (reads_word wA lA).grownRat HB3.out g6, by rw [hlm]; exact Nat.le_refl _, by rw [limbs_one 1 (by decide) (by decide)]; exact (reads_word (x := 1) H6.out.2.2.2.1 (by show w2.heap.size < w3.heap.size; omega)).grownRat HB3.out g6, by rw [limbs_one 1 (by decide) (by decide)]; exact Nat.le_refl _⟩
              have HR := Lib.hid (And.intro R6 (grown_trans H6.out.2.2.1 g6))
              have lm : (limbs m).length ≤ 1 := by rw [hlm]; simp
              have l1 : (limbs 1).length ≤ 1 := by rw [limbs_one 1 (by decide) (by decide)]; simp
              have HX := Lib.hid (And.intro (Fl.half_worth M p k 0 1074 hrel m hm) (And.intro lm l1))
              clear b6 g6 s6 R6 hm hrel hlm
              go_wp2_with fail
              refine (ratNorm_any g m 1 N w5 HR.out.1 hm0 (by decide) (by omega) (by omega) (.inl hm64) (Nat.gcd_one_right m)).mono ?_
              rintro e w6 ⟨rfl, R7, g7⟩
              have HE := Lib.hid (And.intro R7 g7)
              clear R7 g7
              go_wp2
              go_ret
              exact ⟨m, 1, ⟨rfl, HE.out.1, grown_trans HR.out.2 HE.out.2⟩, by decide, by have h := HX.out.1; rw [Nat.pow_zero] at h; rw [h, HFV.out], by have := HX.out.2.1; omega, by have := HX.out.2.2; omega, fun _ => rfl⟩
      · rw [hm2] at A1
        go_wp2_with fail
        refine (setU_rat g m wr (by have := HK.out.2.2.2; omega) HZ.out).mono ?_
        rintro e w1 ⟨rfl, A, b1, r1, n1, g1⟩
        obtain ⟨x0, x1, x2, x3, z0, z1, z2, z3⟩ := b1.c4
        have s1 := g1.size
        have HP := Lib.hid (And.intro b1 (And.intro r1 (And.intro n1 g1)))
        clear b1 r1 n1 g1
        go_wp2_with fail
        have hN : (FloatKind.f64.format.order b 0 == some Ordering.lt) = N := HN.out
        rw [hN]
        clear hN
        refine gen_a (M := fun W => Code.wp _ _ _ _ W) HP.out.1 fun W bW gW sW => ?_
        have HW := Lib.hid (And.intro bW (And.intro (HP.out.2.1.grownRat HP.out.1 gW) (grown_trans HP.out.2.2.2 gW)))
        have hgW := bW.lt
        have hWs : wr.heap.size ≤ W.heap.size := by omega
        clear bW gW sW x0 x1 x2 x3 z0 z1 z2 z3
        go_region_held3 (fun _ => True) (trivial)
          (first
            | (go_at_call 122; refine (intOne1_any W.drew).mono ?_; rintro e w2 ⟨g4, ad4, c4, rfl, hg4, b4, h4, l4, hB4⟩
               have hB4 : Below W.heap.size W w2 := ⟨hB4.os, hB4.tape, hB4.output, hB4.size, hB4.block⟩
               have hg4 : W.heap.size ≤ g4 := hg4
               have H4 := Lib.hid (And.intro b4 (And.intro h4 (And.intro l4 hB4)))
               have s2 := hB4.size
               clear b4 h4 l4 hB4)
            | (go_at_call 73; refine (numSet1_any g 2 g4 0 1 c4 false false ad4 w2 _ _ _ _ (HW.out.1.below H4.out.2.2.2 hgW) H4.out.1 rfl rfl rfl rfl H4.out.2.1 H4.out.2.2.1 (by omega)).mono ?_; rintro e w3 ⟨rfl, V, hBV, hbV, rfl⟩
               obtain ⟨t1, t2, t3, t4, t5⟩ := set1_rat (HW.out.1.below H4.out.2.2.2 hgW) hBV hbV
               generalize (V.setCell ⟨g, 2 + 1, none⟩ (.slice (some ⟨w2.heap.size, 0, none⟩) 1 1)).setCell ⟨g, 2, none⟩ (.bool false) = w3 at *
               have H5 := Lib.hid (And.intro t1 (And.intro t2 (And.intro t3 t4)))
               clear t1 t2 t3 t4 hBV hbV))
        have r5 := ((HW.out.2.1.below H4.out.2.2.2).more H4.out.2.2.2.size).grownRat (HW.out.1.below H4.out.2.2.2 hgW) H5.out.2.2.2
        have g5 := grown_trans (grown_trans HW.out.2.2 (grown_of_below H4.out.2.2.2 (some g))) H5.out.2.2.2
        have f5 : ∀ ad, A = some ad → wr.heap.size ≤ ad.block := HP.out.2.2.1
        have H6 := Lib.hid (And.intro H5.out.1 (And.intro r5 (And.intro g5 (And.intro H5.out.2.1 (And.intro H5.out.2.2.1 f5)))))
        have hgwr : wr.heap.size ≤ w2.heap.size := by omega
        clear r5 g5 f5 HP HW H4 H5
        obtain ⟨hs, hm, hk, hmM⟩ := HK.out
        have hsp := HS.out
        have hwr := Fl.worth_rel HV0.out HK.out.2.1
        rcases Int.lt_trichotomy 0 s with hs0 | hs1 | hs1
        · have B3 : (0 : Int) < s := hs0
          obtain ⟨n, hn⟩ : ∃ n : Nat, s = (n : Int) := ⟨s.toNat, by omega⟩
          have hn0 : 0 < n := by omega
          have hnl : n ≤ 1074 := by omega
          have hrel : p + k + n = 1074 := by omega
          have hp1 : p < 1074 := by omega
          have C3 : IntKind.u64.wrap s = (n : Int) := by rw [IntKind.wrap_u64]; omega
          have HQ := Lib.hid (And.intro hm (And.intro hrel hm2))
          clear hs hm hk hmM hsp hwr hn hrel hm2
          go_wp2_with fail
          go_region_held3 (fun _ => True) (trivial)
            ((go_at_call 123; refine (numLsh_any g 2 1 n false ⟨w2.heap.size, 0, none⟩ w3.drew _ _ (by decide) (by decide) hn0 (by omega) (by exact H6.out.1) rfl rfl (by exact H6.out.2.2.2.1) (by exact t5)).mono ?_; rintro e w5 ⟨rfl, hS⟩
              have hS : SetAt w3 g 2 false (1 * 2 ^ n) w5 := setAt_drew hS))
          obtain ⟨D, d, b6, r6, hd6, n6, g6, s6⟩ := hS.out H6.out.1
          rw [Nat.one_mul] at b6 r6 hd6
          have b6 : Blk w5 g 200 #[.bool N, .slice A (limbs m).length (limbs m).length, .bool false, .slice D (limbs (2 ^ n)).length d] := by simpa using b6
          have R6 : RatAt w5 w5.heap.size g N m (2 ^ n) := ⟨A, _, D, d, b6, b6.lt, H6.out.2.1.grownRat H6.out.1 g6, Nat.le_refl _, r6, hd6⟩
          obtain ⟨hm, hrel, hm2⟩ := HQ.out
          have hm0 : 0 < m := by omega
          have hm64 : m < 18446744073709551616 := by have := HK.out.2.2.2; omega
          have lm : (limbs m).length ≤ 1 := by rw [limbs_one m hm64 hm0]; simp
          have ld : (limbs (2 ^ n)).length ≤ 20 := limbs_len_le 20 _ (pow_words n 20 (by omega))
          have HR := Lib.hid (And.intro R6 (grown_trans H6.out.2.2.1 g6))
          have HX := Lib.hid (And.intro (Fl.half_worth M p k n 1074 hrel m hm) (And.intro lm ld))
          have HG := Lib.hid (Fl.gcd_odd m n hm2)
          clear b6 r6 hd6 n6 g6 hS R6 hm hrel hm2
          go_wp2_with fail
          refine (ratNorm_any g m (2 ^ n) N w5 HR.out.1 hm0 (Nat.pow_pos (by decide)) (by omega) (by omega) (.inl hm64) HG.out).mono ?_
          rintro e w6 ⟨rfl, R7, g7⟩
          have HE := Lib.hid (And.intro R7 g7)
          clear R7 g7
          go_wp2
          go_ret
          exact ⟨m, 2 ^ n, ⟨rfl, HE.out.1, grown_trans HR.out.2 HE.out.2⟩, Nat.pow_pos (by decide), by rw [HX.out.1, HFV.out], by have := HX.out.2.1; omega, HX.out.2.2, fun h => by rw [← HV0.out.2.2] at h; omega⟩
        · have B1 : decide (0 < s) = false := decide_eq_false (by omega)
          have hm0 : 0 < m := by omega
          -- shift = 0, m > 0
          have hs00 : s = 0 := by omega
          subst hs00
          have hrel : p + k + 0 = 1074 := by omega
          have hm64 : m < 18446744073709551616 := by omega
          have hlm := limbs_one m hm64 hm0
          have HQ := Lib.hid (And.intro hm (And.intro hrel hlm))
          obtain ⟨A', rfl, wA, lA⟩ : ∃ ad, A = some ad ∧ w3.cell? ad = some (.int .u64 m) ∧ ad.block < w3.heap.size := by
            have h := H6.out.2.1
            rw [hlm] at h
            obtain ⟨ad, e, h1, h2⟩ := h.2 (by simp)
            exact ⟨ad, e, h2 0 _ rfl, h1⟩
          have hb3 : Blk w3 g 200 #[.bool N, .slice (some A') 1 1, .bool false, .slice (some ⟨w2.heap.size, 0, none⟩) 1 1] := by have h := H6.out.1; rw [hlm] at h; exact h
          have HB3 := Lib.hid hb3
          clear hs hm hk hmM hsp hwr hrel hlm hb3
          go_wp2_with fail
          go_region_held3 (fun _ => True) (trivial)
            ((go_at_call 123; refine (numLsh0_word g 0 N A' w3.drew _ _ (by exact HB3.out) rfl rfl).mono ?_; rintro e w5 ⟨rfl, b6, g6, s6⟩
              have g6 : w3.grownBy w5 (some g) := ⟨g6.os, g6.tape, g6.output, g6.size, g6.block⟩))
          obtain ⟨hm, hrel, hlm⟩ := HQ.out
          have R6 : RatAt w5 w5.heap.size g N m 1 := ⟨some A', 1, some ⟨w2.heap.size, 0, none⟩, 1, by rw [hlm, limbs_one 1 (by decide) (by decide)]; exact b6, b6.lt, by rw [hlm]; exact (reads_word wA lA).grownRat HB3.out g6, by rw [hlm]; exact Nat.le_refl _, by rw [limbs_one 1 (by decide) (by decide)]; exact (reads_word (x := 1) H6.out.2.2.2.1 (by show w2.heap.size < w3.heap.size; omega)).grownRat HB3.out g6, by rw [limbs_one 1 (by decide) (by decide)]; exact Nat.le_refl _⟩
          have HR := Lib.hid (And.intro R6 (grown_trans H6.out.2.2.1 g6))
          have lm : (limbs m).length ≤ 1 := by rw [hlm]; simp
          have l1 : (limbs 1).length ≤ 1 := by rw [limbs_one 1 (by decide) (by decide)]; simp
          have HX := Lib.hid (And.intro (Fl.half_worth M p k 0 1074 hrel m hm) (And.intro lm l1))
          clear b6 g6 s6 R6 hm hrel hlm
          go_wp2_with fail
          refine (ratNorm_any g m 1 N w5 HR.out.1 hm0 (by decide) (by omega) (by omega) (.inl hm64) (Nat.gcd_one_right m)).mono ?_
          rintro e w6 ⟨rfl, R7, g7⟩
          have HE := Lib.hid (And.intro R7 g7)
          clear R7 g7
          go_wp2
          go_ret
          exact ⟨m, 1, ⟨rfl, HE.out.1, grown_trans HR.out.2 HE.out.2⟩, by decide, by have h := HX.out.1; rw [Nat.pow_zero] at h; rw [h, HFV.out], by have := HX.out.2.1; omega, by have := HX.out.2.2; omega, fun _ => rfl⟩
        · have B1 : decide (0 < s) = false := decide_eq_false (by omega)
          -- shift < 0
          obtain ⟨n, hn⟩ : ∃ n : Nat, s = -(n : Int) := ⟨(-s).toNat, by omega⟩
          have hn0 : 0 < n := by omega
          have hk0 : k = 0 := by omega
          subst hk0
          rw [Nat.pow_zero, Nat.mul_one] at hm
          have hrel : p = 1074 + n := by omega
          have C3 : IntKind.i64.wrap (-s) = (n : Int) := by rw [IntKind.wrap_i64]; omega
          have C4 : IntKind.u64.wrap (n : Int) = (n : Int) := by rw [IntKind.wrap_u64]; omega
          have hm0 : 0 < m := by rw [hm]; exact Fl.high_pos HV0.out (by omega)
          have hm64 : m < 18446744073709551616 := by omega
          have hlm := limbs_one m hm64 hm0
          have HQ := Lib.hid (And.intro hm (And.intro hrel hlm))
          obtain ⟨A', rfl, wA, lA⟩ : ∃ ad, A = some ad ∧ w3.cell? ad = some (.int .u64 m) ∧ ad.block < w3.heap.size := by
            have h := H6.out.2.1
            rw [hlm] at h
            obtain ⟨ad, e, h1, h2⟩ := h.2 (by simp)
            exact ⟨ad, e, h2 0 _ rfl, h1⟩
          have hb3 : Blk w3 g 200 #[.bool N, .slice (some A') 1 1, .bool false, .slice (some ⟨w2.heap.size, 0, none⟩) 1 1] := by have h := H6.out.1; rw [hlm] at h; exact h
          have HB3 := Lib.hid hb3
          have hnl : n ≤ 971 := by omega
          clear hs hm hk hmM hsp hwr hrel hlm hb3 hn
          go_wp2_with fail
          go_region_held3 (fun _ => True) (trivial)
            ((go_at_call 123; refine (numLsh_any g 0 m n N A' w3.drew _ _ hm0 hm64 hn0 (by omega) (by exact HB3.out) rfl rfl (by exact wA) (by exact lA)).mono ?_; rintro e w5 ⟨rfl, hS⟩
              have hS : SetAt w3 g 0 N (m * 2 ^ n) w5 := setAt_drew hS))
          obtain ⟨D, d, b6, r6, hd6, n6, g6, s6⟩ := hS.out HB3.out
          obtain ⟨hm, hrel, hlm⟩ := HQ.out
          have b6 : Blk w5 g 200 #[.bool N, .slice D (limbs (m * 2 ^ n)).length d, .bool false, .slice (some ⟨w2.heap.size, 0, none⟩) 1 1] := by simpa using b6
          have R6 : RatAt w5 w5.heap.size g N (m * 2 ^ n) 1 := ⟨D, d, some ⟨w2.heap.size, 0, none⟩, 1, by rw [limbs_one 1 (by decide) (by decide)]; exact b6, b6.lt, r6, hd6, by rw [limbs_one 1 (by decide) (by decide)]; exact (reads_word (x := 1) H6.out.2.2.2.1 (by show w2.heap.size < w3.heap.size; omega)).grownRat HB3.out g6, by rw [limbs_one 1 (by decide) (by decide)]; exact Nat.le_refl _⟩
          have HR := Lib.hid (And.intro R6 (grown_trans H6.out.2.2.1 g6))
          have l1 : (limbs 1).length ≤ 1 := by rw [limbs_one 1 (by decide) (by decide)]; simp
          have ld : (limbs (m * 2 ^ n)).length ≤ 20 := limbs_len_le 20 _ (mul_words m n 20 hm64 (by omega))
          have HX := Lib.hid (And.intro (show m * 2 ^ n * 2 ^ 1074 = M * 2 ^ p * 1 by rw [hm]; have h := Fl.high_worth M p 1074 (by omega); rw [show p - 1074 = n by omega] at h; exact h) (And.intro l1 ld))
          clear b6 r6 hd6 n6 g6 hS R6 hm hrel hlm
          go_wp2_with fail
          refine (ratNorm_any g (m * 2 ^ n) 1 N w5 HR.out.1 (Nat.mul_pos hm0 (Nat.pow_pos (by decide))) (by decide) (by omega) (by omega) (.inr (by decide)) (Nat.gcd_one_right _)).mono ?_
          rintro e w6 ⟨rfl, R7, g7⟩
          have HE := Lib.hid (And.intro R7 g7)
          clear R7 g7
          go_wp2
          go_ret
          exact ⟨m * 2 ^ n, 1, ⟨rfl, HE.out.1, grown_trans HR.out.2 HE.out.2⟩, by decide, by rw [HX.out.1, HFV.out], by have := HX.out.2.2; omega, by have := HX.out.2.1; omega, fun _ => rfl⟩
    -- END1
  · have E2 : ((E : Int) == 0) = false := by rw [beq_eq_false_iff_ne]; omega
    have hr52 : ¬ r < 2 ^ 52 := by omega
    have hp0 : p = E - 1 := by rw [hp, Fl.pOf, if_neg hr52, hE]
    have G1 : wrap64 ((E : Int) - 1023) = e1 := by unfold wrap64; omega
    have hm0 : 2 ^ 52 + b % 2 ^ 52 = M := by rw [hM, Fl.mOf, if_neg hr52]; omega
    rw [hm0] at F4
    have F4 : bits .or .u64 ((b : Int) % 4503599627370496) 4503599627370496 = (M : Int) := by
      rw [show (b : Int) % 4503599627370496 = ((b % 2 ^ 52 : Nat) : Int) by omega]
      exact F4
    generalize (E : Int) = Ez at *
    have HS := Lib.hid hsh
    have HF := Lib.hid hf
    clear hr hE hM hp he1 hsh h0 hp0 hr52 hf hEl hm0
    go_enter Tryz.func115, Tryz.ntmps115
    go_wp2_with (simp only [H1])
    -- LOOP2 (by gensetf.py)
    go_loopw [6, 8] (fun vm vs wr => ∃ (m k : Nat) (s : Int), vm = .int .u64 m ∧ vs = .int .i64 s ∧ s = sh - k ∧ m * 2 ^ k = M ∧ (k = 0 ∨ 0 ≤ s) ∧ wr = w) (fun _ vs _ => (intOf vs).toNat)
    case atStart => exact ⟨M, 0, sh, rfl, congrArg (Value.int .i64) G2, by omega, by simp, .inl rfl, rfl⟩
    case round =>
      obtain ⟨m, k, s, rfl, rfl, hs, hm, hk, rfl⟩ := hrel
      have hmM : m ≤ M := by rw [← hm]; exact Nat.le_mul_of_pos_right _ (Nat.pow_pos (by decide))
      have A1 : bits .and .u64 (m : Int) 1 = ((m % 2 : Nat) : Int) := by
        have h := u64_and_nat m 1 (by omega) (by decide)
        rw [show 1 = 2 ^ 1 - 1 from rfl, Nat.and_two_pow_sub_one_eq_mod] at h
        exact h
      have HK := Lib.hid (And.intro hs (And.intro hm (And.intro hk hmM)))
      clear hs hm hk hmM
      rcases Nat.mod_two_eq_zero_or_one m with hm2 | hm2
      · rw [hm2] at A1
        rcases Int.lt_or_le 0 s with hs0 | hs0
        · have B1 : decide (0 < s) = true := decide_eq_true hs0
          obtain ⟨hs, hm, hk, hmM⟩ := HK.out
          have B2 : wrap64 (s - 1) = s - 1 := by have := HS.out; unfold wrap64; omega
          clear hs hm hk hmM
          go_wp2_with fail
          obtain ⟨hs, hm, hk, hmM⟩ := HK.out
          have e1 : (m : Int) / 2 = ((m / 2 : Nat) : Int) := by omega
          refine ⟨⟨m / 2, k + 1, s - 1, by rw [e1], by rw [B2], by omega, ?_, .inr (by omega), trivial⟩, by simp only [intOf, B2]; omega⟩
          rw [← hm, Nat.pow_succ, Nat.mul_comm (2 ^ k) 2, ← Nat.mul_assoc]
          congr 1
          omega
        · have B1 : decide (0 < s) = false := decide_eq_false (by omega)
          rcases Nat.eq_zero_or_pos m with hm0 | hm0
          · subst hm0
            rw [Nat.zero_mod] at hm2
            clear hm2
            go_wp2_with fail
            refine (setU0_rat g wr HZ.out).mono ?_
            rintro e w1 ⟨rfl, b1, g1⟩
            obtain ⟨x0, x1, x2, x3, z0, z1, z2, z3⟩ := b1.c4
            have s1 := g1.size
            have HP := Lib.hid (And.intro b1 g1)
            clear b1 g1
            go_wp2_with fail
            have hN : (FloatKind.f64.format.order b 0 == some Ordering.lt) = N := HN.out
            rw [hN]
            clear hN
            refine gen_a (M := fun W => Code.wp _ _ _ _ W) HP.out.1 fun W bW gW sW => ?_
            have HW := Lib.hid (And.intro bW (And.intro trivial (grown_trans HP.out.2 gW)))
            have hgW := bW.lt
            have hWs : wr.heap.size ≤ W.heap.size := by omega
            clear bW gW sW x0 x1 x2 x3 z0 z1 z2 z3
            go_region_held3 (fun _ => True) (trivial)
              (first
                | (go_at_call 122; refine (intOne1_any W.drew).mono ?_; rintro e w2 ⟨g4, ad4, c4, rfl, hg4, b4, h4, l4, hB4⟩
                   have hB4 : Below W.heap.size W w2 := ⟨hB4.os, hB4.tape, hB4.output, hB4.size, hB4.block⟩
                   have hg4 : W.heap.size ≤ g4 := hg4
                   have H4 := Lib.hid (And.intro b4 (And.intro h4 (And.intro l4 hB4)))
                   have s2 := hB4.size
                   clear b4 h4 l4 hB4)
                | (go_at_call 73; refine (numSet1_any g 2 g4 0 1 c4 false false ad4 w2 _ _ _ _ (HW.out.1.below H4.out.2.2.2 hgW) H4.out.1 rfl rfl rfl rfl H4.out.2.1 H4.out.2.2.1 (by omega)).mono ?_; rintro e w3 ⟨rfl, V, hBV, hbV, rfl⟩
                   obtain ⟨t1, t2, t3, t4, t5⟩ := set1_rat (HW.out.1.below H4.out.2.2.2 hgW) hBV hbV
                   generalize (V.setCell ⟨g, 2 + 1, none⟩ (.slice (some ⟨w2.heap.size, 0, none⟩) 1 1)).setCell ⟨g, 2, none⟩ (.bool false) = w3 at *
                   have H5 := Lib.hid (And.intro t1 (And.intro t2 (And.intro t3 t4)))
                   clear t1 t2 t3 t4 hBV hbV))
            have g5 := grown_trans (grown_trans HW.out.2.2 (grown_of_below H4.out.2.2.2 (some g))) H5.out.2.2.2
            have H6 := Lib.hid (And.intro H5.out.1 (And.intro g5 (And.intro H5.out.2.1 H5.out.2.2.1)))
            have hgwr : wr.heap.size ≤ w2.heap.size := by omega
            clear g5 HP HW H4 H5
            obtain ⟨hs, hm, hk, hmM⟩ := HK.out
            have hsp := HS.out
            -- shift = 0, nought
            have hM0 : M = 0 := by rw [← hm, Nat.zero_mul]
            have hpp0 := HM0.out hM0
            have hs00 : s = 0 := by
              rcases hk with h | h
              · subst h; omega
              · omega
            clear hpp0
            subst hs00
            have HQ := Lib.hid hM0
            clear hs hm hk hmM hsp hM0
            go_wp2_with fail
            go_region_held3 (fun _ => True) (trivial)
              ((go_at_call 123; refine (numLsh0_nil g 0 N w3.drew _ _ (by exact H6.out.1) rfl rfl).mono ?_; rintro e w5 ⟨rfl, hS⟩
                have hS : SetAt w3 g 0 N 0 w5 := setAt_drew hS))
            obtain ⟨D, d, b6, r6, hd6, n6, g6, s6⟩ := hS.out H6.out.1
            rw [limbs_zero] at b6
            have b6 : Blk w5 g 200 #[.bool N, .slice D 0 d, .bool false, .slice (some ⟨w2.heap.size, 0, none⟩) 1 1] := by simpa using b6
            have hgl6 := b6.lt
            have hcb := g6.block w2.heap.size t5 (by intro e; injection e with e; omega)
            have c6 := (World.cell?_of_block (a := ⟨w2.heap.size, 0, none⟩) hcb).trans H6.out.2.2.1
            have f6 := (World.frozen?_of_block (a := ⟨w2.heap.size, 0, none⟩) hcb).trans H6.out.2.2.2
            have HR := Lib.hid (And.intro b6 (And.intro c6 (And.intro f6 (grown_trans H6.out.2.1 g6))))
            clear b6 r6 hd6 n6 g6 hS hcb c6 f6
            go_wp2_with fail
            refine (norm_zero g d N D ⟨w2.heap.size, 0, none⟩ w5 HR.out.1 HR.out.2.1 HR.out.2.2.1 (by show w2.heap.size < w5.heap.size; omega) (by show w2.heap.size ≠ g; omega)).mono ?_
            rintro e w6 ⟨rfl, R7, h7, o7, t7, u7, s7⟩
            have HE := Lib.hid (And.intro R7 (And.intro h7 (And.intro o7 (And.intro t7 (And.intro u7 s7)))))
            clear R7 h7 o7 t7 u7
            go_wp2
            go_ret
            obtain ⟨R7, h7, o7, t7, u7, s7⟩ := HE.out
            have g7 := HR.out.2.2.2
            refine ⟨0, 1, ⟨rfl, by rw [HNZ.out HQ.out]; exact R7, ⟨o7.trans g7.os, t7.trans g7.tape, u7.trans g7.output, Nat.le_trans g7.size s7, fun i hi hne => (h7 i (by have := g7.size; omega) (by intro e; exact hne (by rw [e])) (by show i ≠ w2.heap.size; omega)).trans (g7.block i hi hne)⟩⟩, by decide, zero_rel _ M p 1074 HFV.out HQ.out, by rw [limbs_zero]; simp, by rw [limbs_one 1 (by decide) (by decide)]; simp, fun _ => rfl⟩
          · go_wp2_with fail
            refine (setU_rat g m wr (by have := HK.out.2.2.2; omega) HZ.out).mono ?_
            rintro e w1 ⟨rfl, A, b1, r1, n1, g1⟩
            obtain ⟨x0, x1, x2, x3, z0, z1, z2, z3⟩ := b1.c4
            have s1 := g1.size
            have HP := Lib.hid (And.intro b1 (And.intro r1 (And.intro n1 g1)))
            clear b1 r1 n1 g1
            go_wp2_with fail
            have hN : (FloatKind.f64.format.order b 0 == some Ordering.lt) = N := HN.out
            rw [hN]
            clear hN
            refine gen_a (M := fun W => Code.wp _ _ _ _ W) HP.out.1 fun W bW gW sW => ?_
            have HW := Lib.hid (And.intro bW (And.intro (HP.out.2.1.grownRat HP.out.1 gW) (grown_trans HP.out.2.2.2 gW)))
            have hgW := bW.lt
            have hWs : wr.heap.size ≤ W.heap.size := by omega
            clear bW gW sW x0 x1 x2 x3 z0 z1 z2 z3
            go_region_held3 (fun _ => True) (trivial)
              (first
                | (go_at_call 122; refine (intOne1_any W.drew).mono ?_; rintro e w2 ⟨g4, ad4, c4, rfl, hg4, b4, h4, l4, hB4⟩
                   have hB4 : Below W.heap.size W w2 := ⟨hB4.os, hB4.tape, hB4.output, hB4.size, hB4.block⟩
                   have hg4 : W.heap.size ≤ g4 := hg4
                   have H4 := Lib.hid (And.intro b4 (And.intro h4 (And.intro l4 hB4)))
                   have s2 := hB4.size
                   clear b4 h4 l4 hB4)
                | (go_at_call 73; refine (numSet1_any g 2 g4 0 1 c4 false false ad4 w2 _ _ _ _ (HW.out.1.below H4.out.2.2.2 hgW) H4.out.1 rfl rfl rfl rfl H4.out.2.1 H4.out.2.2.1 (by omega)).mono ?_; rintro e w3 ⟨rfl, V, hBV, hbV, rfl⟩
                   obtain ⟨t1, t2, t3, t4, t5⟩ := set1_rat (HW.out.1.below H4.out.2.2.2 hgW) hBV hbV
                   generalize (V.setCell ⟨g, 2 + 1, none⟩ (.slice (some ⟨w2.heap.size, 0, none⟩) 1 1)).setCell ⟨g, 2, none⟩ (.bool false) = w3 at *
                   have H5 := Lib.hid (And.intro t1 (And.intro t2 (And.intro t3 t4)))
                   clear t1 t2 t3 t4 hBV hbV))
            have r5 := ((HW.out.2.1.below H4.out.2.2.2).more H4.out.2.2.2.size).grownRat (HW.out.1.below H4.out.2.2.2 hgW) H5.out.2.2.2
            have g5 := grown_trans (grown_trans HW.out.2.2 (grown_of_below H4.out.2.2.2 (some g))) H5.out.2.2.2
            have f5 : ∀ ad, A = some ad → wr.heap.size ≤ ad.block := HP.out.2.2.1
            have H6 := Lib.hid (And.intro H5.out.1 (And.intro r5 (And.intro g5 (And.intro H5.out.2.1 (And.intro H5.out.2.2.1 f5)))))
            have hgwr : wr.heap.size ≤ w2.heap.size := by omega
            clear r5 g5 f5 HP HW H4 H5
            obtain ⟨hs, hm, hk, hmM⟩ := HK.out
            have hsp := HS.out
            have hwr := Fl.worth_rel HV0.out HK.out.2.1
            rcases Int.lt_or_eq_of_le hs0 with hs1 | hs1
            · -- shift < 0
              obtain ⟨n, hn⟩ : ∃ n : Nat, s = -(n : Int) := ⟨(-s).toNat, by omega⟩
              have hn0 : 0 < n := by omega
              have hk0 : k = 0 := by omega
              subst hk0
              rw [Nat.pow_zero, Nat.mul_one] at hm
              have hrel : p = 1074 + n := by omega
              have C3 : IntKind.i64.wrap (-s) = (n : Int) := by rw [IntKind.wrap_i64]; omega
              have C4 : IntKind.u64.wrap (n : Int) = (n : Int) := by rw [IntKind.wrap_u64]; omega
              have hm0 : 0 < m := by rw [hm]; exact Fl.high_pos HV0.out (by omega)
              have hm64 : m < 18446744073709551616 := by omega
              have hlm := limbs_one m hm64 hm0
              have HQ := Lib.hid (And.intro hm (And.intro hrel hlm))
              obtain ⟨A', rfl, wA, lA⟩ : ∃ ad, A = some ad ∧ w3.cell? ad = some (.int .u64 m) ∧ ad.block < w3.heap.size := by
                have h := H6.out.2.1
                rw [hlm] at h
                obtain ⟨ad, e, h1, h2⟩ := h.2 (by simp)
                exact ⟨ad, e, h2 0 _ rfl, h1⟩
              have hb3 : Blk w3 g 200 #[.bool N, .slice (some A') 1 1, .bool false, .slice (some ⟨w2.heap.size, 0, none⟩) 1 1] := by have h := H6.out.1; rw [hlm] at h; exact h
              have HB3 := Lib.hid hb3
              have hnl : n ≤ 971 := by omega
              clear hs hm hk hmM hsp hwr hrel hlm hb3 hn
              go_wp2_with fail
              go_region_held3 (fun _ => True) (trivial)
                ((go_at_call 123; refine (numLsh_any g 0 m n N A' w3.drew _ _ hm0 hm64 hn0 (by omega) (by exact HB3.out) rfl rfl (by exact wA) (by exact lA)).mono ?_; rintro e w5 ⟨rfl, hS⟩
                  have hS : SetAt w3 g 0 N (m * 2 ^ n) w5 := setAt_drew hS))
              obtain ⟨D, d, b6, r6, hd6, n6, g6, s6⟩ := hS.out HB3.out
              obtain ⟨hm, hrel, hlm⟩ := HQ.out
              have b6 : Blk w5 g 200 #[.bool N, .slice D (limbs (m * 2 ^ n)).length d, .bool false, .slice (some ⟨w2.heap.size, 0, none⟩) 1 1] := by simpa using b6
              have R6 : RatAt w5 w5.heap.size g N (m * 2 ^ n) 1 := ⟨D, d, some ⟨w2.heap.size, 0, none⟩, 1, by rw [limbs_one 1 (by decide) (by decide)]; exact b6, b6.lt, r6, hd6, by rw [limbs_one 1 (by decide) (by decide)]; exact (reads_word (x := 1) H6.out.2.2.2.1 (by show w2.heap.size < w3.heap.size; omega)).grownRat HB3.out g6, by rw [limbs_one 1 (by decide) (by decide)]; exact Nat.le_refl _⟩
              have HR := Lib.hid (And.intro R6 (grown_trans H6.out.2.2.1 g6))
              have l1 : (limbs 1).length ≤ 1 := by rw [limbs_one 1 (by decide) (by decide)]; simp
              have ld : (limbs (m * 2 ^ n)).length ≤ 20 := limbs_len_le 20 _ (mul_words m n 20 hm64 (by omega))
              have HX := Lib.hid (And.intro (show m * 2 ^ n * 2 ^ 1074 = M * 2 ^ p * 1 by rw [hm]; have h := Fl.high_worth M p 1074 (by omega); rw [show p - 1074 = n by omega] at h; exact h) (And.intro l1 ld))
              clear b6 r6 hd6 n6 g6 hS R6 hm hrel hlm
              go_wp2_with fail
              refine (ratNorm_any g (m * 2 ^ n) 1 N w5 HR.out.1 (Nat.mul_pos hm0 (Nat.pow_pos (by decide))) (by decide) (by omega) (by omega) (.inr (by decide)) (Nat.gcd_one_right _)).mono ?_
              rintro e w6 ⟨rfl, R7, g7⟩
              have HE := Lib.hid (And.intro R7 g7)
              clear R7 g7
              go_wp2
              go_ret
              exact ⟨m * 2 ^ n, 1, ⟨rfl, HE.out.1, grown_trans HR.out.2 HE.out.2⟩, by decide, by rw [HX.out.1, HFV.out], by have := HX.out.2.2; omega, by have := HX.out.2.1; omega, fun _ => rfl⟩
            · -- shift = 0, m > 0
              have hs00 : s = 0 := by omega
              subst hs00
              have hrel : p + k + 0 = 1074 := by omega
              have hm64 : m < 18446744073709551616 := by omega
              have hlm := limbs_one m hm64 hm0
              have HQ := Lib.hid (And.intro hm (And.intro hrel hlm))
              obtain ⟨A', rfl, wA, lA⟩ : ∃ ad, A = some ad ∧ w3.cell? ad = some (.int .u64 m) ∧ ad.block < w3.heap.size := by
                have h := H6.out.2.1
                rw [hlm] at h
                obtain ⟨ad, e, h1, h2⟩ := h.2 (by simp)
                exact ⟨ad, e, h2 0 _ rfl, h1⟩
              have hb3 : Blk w3 g 200 #[.bool N, .slice (some A') 1 1, .bool false, .slice (some ⟨w2.heap.size, 0, none⟩) 1 1] := by have h := H6.out.1; rw [hlm] at h; exact h
              have HB3 := Lib.hid hb3
              clear hs hm hk hmM hsp hwr hrel hlm hb3
              go_wp2_with fail
              go_region_held3 (fun _ => True) (trivial)
                ((go_at_call 123; refine (numLsh0_word g 0 N A' w3.drew _ _ (by exact HB3.out) rfl rfl).mono ?_; rintro e w5 ⟨rfl, b6, g6, s6⟩
                  have g6 : w3.grownBy w5 (some g) := ⟨g6.os, g6.tape, g6.output, g6.size, g6.block⟩))
              obtain ⟨hm, hrel, hlm⟩ := HQ.out
              have R6 : RatAt w5 w5.heap.size g N m 1 := ⟨some A', 1, some ⟨w2.heap.size, 0, none⟩, 1, by rw [hlm, limbs_one 1 (by decide) (by decide)]; exact b6, b6.lt, by rw [hlm]; exact (reads_word wA lA).grownRat HB3.out g6, by rw [hlm]; exact Nat.le_refl _, by rw [limbs_one 1 (by decide) (by decide)]; exact (reads_word (x := 1) H6.out.2.2.2.1 (by show w2.heap.size < w3.heap.size; omega)).grownRat HB3.out g6, by rw [limbs_one 1 (by decide) (by decide)]; exact Nat.le_refl _⟩
              have HR := Lib.hid (And.intro R6 (grown_trans H6.out.2.2.1 g6))
              have lm : (limbs m).length ≤ 1 := by rw [hlm]; simp
              have l1 : (limbs 1).length ≤ 1 := by rw [limbs_one 1 (by decide) (by decide)]; simp
              have HX := Lib.hid (And.intro (Fl.half_worth M p k 0 1074 hrel m hm) (And.intro lm l1))
              clear b6 g6 s6 R6 hm hrel hlm
              go_wp2_with fail
              refine (ratNorm_any g m 1 N w5 HR.out.1 hm0 (by decide) (by omega) (by omega) (.inl hm64) (Nat.gcd_one_right m)).mono ?_
              rintro e w6 ⟨rfl, R7, g7⟩
              have HE := Lib.hid (And.intro R7 g7)
              clear R7 g7
              go_wp2
              go_ret
              exact ⟨m, 1, ⟨rfl, HE.out.1, grown_trans HR.out.2 HE.out.2⟩, by decide, by have h := HX.out.1; rw [Nat.pow_zero] at h; rw [h, HFV.out], by have := HX.out.2.1; omega, by have := HX.out.2.2; omega, fun _ => rfl⟩
      · rw [hm2] at A1
        go_wp2_with fail
        refine (setU_rat g m wr (by have := HK.out.2.2.2; omega) HZ.out).mono ?_
        rintro e w1 ⟨rfl, A, b1, r1, n1, g1⟩
        obtain ⟨x0, x1, x2, x3, z0, z1, z2, z3⟩ := b1.c4
        have s1 := g1.size
        have HP := Lib.hid (And.intro b1 (And.intro r1 (And.intro n1 g1)))
        clear b1 r1 n1 g1
        go_wp2_with fail
        have hN : (FloatKind.f64.format.order b 0 == some Ordering.lt) = N := HN.out
        rw [hN]
        clear hN
        refine gen_a (M := fun W => Code.wp _ _ _ _ W) HP.out.1 fun W bW gW sW => ?_
        have HW := Lib.hid (And.intro bW (And.intro (HP.out.2.1.grownRat HP.out.1 gW) (grown_trans HP.out.2.2.2 gW)))
        have hgW := bW.lt
        have hWs : wr.heap.size ≤ W.heap.size := by omega
        clear bW gW sW x0 x1 x2 x3 z0 z1 z2 z3
        go_region_held3 (fun _ => True) (trivial)
          (first
            | (go_at_call 122; refine (intOne1_any W.drew).mono ?_; rintro e w2 ⟨g4, ad4, c4, rfl, hg4, b4, h4, l4, hB4⟩
               have hB4 : Below W.heap.size W w2 := ⟨hB4.os, hB4.tape, hB4.output, hB4.size, hB4.block⟩
               have hg4 : W.heap.size ≤ g4 := hg4
               have H4 := Lib.hid (And.intro b4 (And.intro h4 (And.intro l4 hB4)))
               have s2 := hB4.size
               clear b4 h4 l4 hB4)
            | (go_at_call 73; refine (numSet1_any g 2 g4 0 1 c4 false false ad4 w2 _ _ _ _ (HW.out.1.below H4.out.2.2.2 hgW) H4.out.1 rfl rfl rfl rfl H4.out.2.1 H4.out.2.2.1 (by omega)).mono ?_; rintro e w3 ⟨rfl, V, hBV, hbV, rfl⟩
               obtain ⟨t1, t2, t3, t4, t5⟩ := set1_rat (HW.out.1.below H4.out.2.2.2 hgW) hBV hbV
               generalize (V.setCell ⟨g, 2 + 1, none⟩ (.slice (some ⟨w2.heap.size, 0, none⟩) 1 1)).setCell ⟨g, 2, none⟩ (.bool false) = w3 at *
               have H5 := Lib.hid (And.intro t1 (And.intro t2 (And.intro t3 t4)))
               clear t1 t2 t3 t4 hBV hbV))
        have r5 := ((HW.out.2.1.below H4.out.2.2.2).more H4.out.2.2.2.size).grownRat (HW.out.1.below H4.out.2.2.2 hgW) H5.out.2.2.2
        have g5 := grown_trans (grown_trans HW.out.2.2 (grown_of_below H4.out.2.2.2 (some g))) H5.out.2.2.2
        have f5 : ∀ ad, A = some ad → wr.heap.size ≤ ad.block := HP.out.2.2.1
        have H6 := Lib.hid (And.intro H5.out.1 (And.intro r5 (And.intro g5 (And.intro H5.out.2.1 (And.intro H5.out.2.2.1 f5)))))
        have hgwr : wr.heap.size ≤ w2.heap.size := by omega
        clear r5 g5 f5 HP HW H4 H5
        obtain ⟨hs, hm, hk, hmM⟩ := HK.out
        have hsp := HS.out
        have hwr := Fl.worth_rel HV0.out HK.out.2.1
        rcases Int.lt_trichotomy 0 s with hs0 | hs1 | hs1
        · have B3 : (0 : Int) < s := hs0
          obtain ⟨n, hn⟩ : ∃ n : Nat, s = (n : Int) := ⟨s.toNat, by omega⟩
          have hn0 : 0 < n := by omega
          have hnl : n ≤ 1074 := by omega
          have hrel : p + k + n = 1074 := by omega
          have hp1 : p < 1074 := by omega
          have C3 : IntKind.u64.wrap s = (n : Int) := by rw [IntKind.wrap_u64]; omega
          have HQ := Lib.hid (And.intro hm (And.intro hrel hm2))
          clear hs hm hk hmM hsp hwr hn hrel hm2
          go_wp2_with fail
          go_region_held3 (fun _ => True) (trivial)
            ((go_at_call 123; refine (numLsh_any g 2 1 n false ⟨w2.heap.size, 0, none⟩ w3.drew _ _ (by decide) (by decide) hn0 (by omega) (by exact H6.out.1) rfl rfl (by exact H6.out.2.2.2.1) (by exact t5)).mono ?_; rintro e w5 ⟨rfl, hS⟩
              have hS : SetAt w3 g 2 false (1 * 2 ^ n) w5 := setAt_drew hS))
          obtain ⟨D, d, b6, r6, hd6, n6, g6, s6⟩ := hS.out H6.out.1
          rw [Nat.one_mul] at b6 r6 hd6
          have b6 : Blk w5 g 200 #[.bool N, .slice A (limbs m).length (limbs m).length, .bool false, .slice D (limbs (2 ^ n)).length d] := by simpa using b6
          have R6 : RatAt w5 w5.heap.size g N m (2 ^ n) := ⟨A, _, D, d, b6, b6.lt, H6.out.2.1.grownRat H6.out.1 g6, Nat.le_refl _, r6, hd6⟩
          obtain ⟨hm, hrel, hm2⟩ := HQ.out
          have hm0 : 0 < m := by omega
          have hm64 : m < 18446744073709551616 := by have := HK.out.2.2.2; omega
          have lm : (limbs m).length ≤ 1 := by rw [limbs_one m hm64 hm0]; simp
          have ld : (limbs (2 ^ n)).length ≤ 20 := limbs_len_le 20 _ (pow_words n 20 (by omega))
          have HR := Lib.hid (And.intro R6 (grown_trans H6.out.2.2.1 g6))
          have HX := Lib.hid (And.intro (Fl.half_worth M p k n 1074 hrel m hm) (And.intro lm ld))
          have HG := Lib.hid (Fl.gcd_odd m n hm2)
          clear b6 r6 hd6 n6 g6 hS R6 hm hrel hm2
          go_wp2_with fail
          refine (ratNorm_any g m (2 ^ n) N w5 HR.out.1 hm0 (Nat.pow_pos (by decide)) (by omega) (by omega) (.inl hm64) HG.out).mono ?_
          rintro e w6 ⟨rfl, R7, g7⟩
          have HE := Lib.hid (And.intro R7 g7)
          clear R7 g7
          go_wp2
          go_ret
          exact ⟨m, 2 ^ n, ⟨rfl, HE.out.1, grown_trans HR.out.2 HE.out.2⟩, Nat.pow_pos (by decide), by rw [HX.out.1, HFV.out], by have := HX.out.2.1; omega, HX.out.2.2, fun h => by rw [← HV0.out.2.2] at h; omega⟩
        · have B1 : decide (0 < s) = false := decide_eq_false (by omega)
          have hm0 : 0 < m := by omega
          -- shift = 0, m > 0
          have hs00 : s = 0 := by omega
          subst hs00
          have hrel : p + k + 0 = 1074 := by omega
          have hm64 : m < 18446744073709551616 := by omega
          have hlm := limbs_one m hm64 hm0
          have HQ := Lib.hid (And.intro hm (And.intro hrel hlm))
          obtain ⟨A', rfl, wA, lA⟩ : ∃ ad, A = some ad ∧ w3.cell? ad = some (.int .u64 m) ∧ ad.block < w3.heap.size := by
            have h := H6.out.2.1
            rw [hlm] at h
            obtain ⟨ad, e, h1, h2⟩ := h.2 (by simp)
            exact ⟨ad, e, h2 0 _ rfl, h1⟩
          have hb3 : Blk w3 g 200 #[.bool N, .slice (some A') 1 1, .bool false, .slice (some ⟨w2.heap.size, 0, none⟩) 1 1] := by have h := H6.out.1; rw [hlm] at h; exact h
          have HB3 := Lib.hid hb3
          clear hs hm hk hmM hsp hwr hrel hlm hb3
          go_wp2_with fail
          go_region_held3 (fun _ => True) (trivial)
            ((go_at_call 123; refine (numLsh0_word g 0 N A' w3.drew _ _ (by exact HB3.out) rfl rfl).mono ?_; rintro e w5 ⟨rfl, b6, g6, s6⟩
              have g6 : w3.grownBy w5 (some g) := ⟨g6.os, g6.tape, g6.output, g6.size, g6.block⟩))
          obtain ⟨hm, hrel, hlm⟩ := HQ.out
          have R6 : RatAt w5 w5.heap.size g N m 1 := ⟨some A', 1, some ⟨w2.heap.size, 0, none⟩, 1, by rw [hlm, limbs_one 1 (by decide) (by decide)]; exact b6, b6.lt, by rw [hlm]; exact (reads_word wA lA).grownRat HB3.out g6, by rw [hlm]; exact Nat.le_refl _, by rw [limbs_one 1 (by decide) (by decide)]; exact (reads_word (x := 1) H6.out.2.2.2.1 (by show w2.heap.size < w3.heap.size; omega)).grownRat HB3.out g6, by rw [limbs_one 1 (by decide) (by decide)]; exact Nat.le_refl _⟩
          have HR := Lib.hid (And.intro R6 (grown_trans H6.out.2.2.1 g6))
          have lm : (limbs m).length ≤ 1 := by rw [hlm]; simp
          have l1 : (limbs 1).length ≤ 1 := by rw [limbs_one 1 (by decide) (by decide)]; simp
          have HX := Lib.hid (And.intro (Fl.half_worth M p k 0 1074 hrel m hm) (And.intro lm l1))
          clear b6 g6 s6 R6 hm hrel hlm
          go_wp2_with fail
          refine (ratNorm_any g m 1 N w5 HR.out.1 hm0 (by decide) (by omega) (by omega) (.inl hm64) (Nat.gcd_one_right m)).mono ?_
          rintro e w6 ⟨rfl, R7, g7⟩
          have HE := Lib.hid (And.intro R7 g7)
          clear R7 g7
          go_wp2
          go_ret
          exact ⟨m, 1, ⟨rfl, HE.out.1, grown_trans HR.out.2 HE.out.2⟩, by decide, by have h := HX.out.1; rw [Nat.pow_zero] at h; rw [h, HFV.out], by have := HX.out.2.1; omega, by have := HX.out.2.2; omega, fun _ => rfl⟩
        · have B1 : decide (0 < s) = false := decide_eq_false (by omega)
          -- shift < 0
          obtain ⟨n, hn⟩ : ∃ n : Nat, s = -(n : Int) := ⟨(-s).toNat, by omega⟩
          have hn0 : 0 < n := by omega
          have hk0 : k = 0 := by omega
          subst hk0
          rw [Nat.pow_zero, Nat.mul_one] at hm
          have hrel : p = 1074 + n := by omega
          have C3 : IntKind.i64.wrap (-s) = (n : Int) := by rw [IntKind.wrap_i64]; omega
          have C4 : IntKind.u64.wrap (n : Int) = (n : Int) := by rw [IntKind.wrap_u64]; omega
          have hm0 : 0 < m := by rw [hm]; exact Fl.high_pos HV0.out (by omega)
          have hm64 : m < 18446744073709551616 := by omega
          have hlm := limbs_one m hm64 hm0
          have HQ := Lib.hid (And.intro hm (And.intro hrel hlm))
          obtain ⟨A', rfl, wA, lA⟩ : ∃ ad, A = some ad ∧ w3.cell? ad = some (.int .u64 m) ∧ ad.block < w3.heap.size := by
            have h := H6.out.2.1
            rw [hlm] at h
            obtain ⟨ad, e, h1, h2⟩ := h.2 (by simp)
            exact ⟨ad, e, h2 0 _ rfl, h1⟩
          have hb3 : Blk w3 g 200 #[.bool N, .slice (some A') 1 1, .bool false, .slice (some ⟨w2.heap.size, 0, none⟩) 1 1] := by have h := H6.out.1; rw [hlm] at h; exact h
          have HB3 := Lib.hid hb3
          have hnl : n ≤ 971 := by omega
          clear hs hm hk hmM hsp hwr hrel hlm hb3 hn
          go_wp2_with fail
          go_region_held3 (fun _ => True) (trivial)
            ((go_at_call 123; refine (numLsh_any g 0 m n N A' w3.drew _ _ hm0 hm64 hn0 (by omega) (by exact HB3.out) rfl rfl (by exact wA) (by exact lA)).mono ?_; rintro e w5 ⟨rfl, hS⟩
              have hS : SetAt w3 g 0 N (m * 2 ^ n) w5 := setAt_drew hS))
          obtain ⟨D, d, b6, r6, hd6, n6, g6, s6⟩ := hS.out HB3.out
          obtain ⟨hm, hrel, hlm⟩ := HQ.out
          have b6 : Blk w5 g 200 #[.bool N, .slice D (limbs (m * 2 ^ n)).length d, .bool false, .slice (some ⟨w2.heap.size, 0, none⟩) 1 1] := by simpa using b6
          have R6 : RatAt w5 w5.heap.size g N (m * 2 ^ n) 1 := ⟨D, d, some ⟨w2.heap.size, 0, none⟩, 1, by rw [limbs_one 1 (by decide) (by decide)]; exact b6, b6.lt, r6, hd6, by rw [limbs_one 1 (by decide) (by decide)]; exact (reads_word (x := 1) H6.out.2.2.2.1 (by show w2.heap.size < w3.heap.size; omega)).grownRat HB3.out g6, by rw [limbs_one 1 (by decide) (by decide)]; exact Nat.le_refl _⟩
          have HR := Lib.hid (And.intro R6 (grown_trans H6.out.2.2.1 g6))
          have l1 : (limbs 1).length ≤ 1 := by rw [limbs_one 1 (by decide) (by decide)]; simp
          have ld : (limbs (m * 2 ^ n)).length ≤ 20 := limbs_len_le 20 _ (mul_words m n 20 hm64 (by omega))
          have HX := Lib.hid (And.intro (show m * 2 ^ n * 2 ^ 1074 = M * 2 ^ p * 1 by rw [hm]; have h := Fl.high_worth M p 1074 (by omega); rw [show p - 1074 = n by omega] at h; exact h) (And.intro l1 ld))
          clear b6 r6 hd6 n6 g6 hS R6 hm hrel hlm
          go_wp2_with fail
          refine (ratNorm_any g (m * 2 ^ n) 1 N w5 HR.out.1 (Nat.mul_pos hm0 (Nat.pow_pos (by decide))) (by decide) (by omega) (by omega) (.inr (by decide)) (Nat.gcd_one_right _)).mono ?_
          rintro e w6 ⟨rfl, R7, g7⟩
          have HE := Lib.hid (And.intro R7 g7)
          clear R7 g7
          go_wp2
          go_ret
          exact ⟨m * 2 ^ n, 1, ⟨rfl, HE.out.1, grown_trans HR.out.2 HE.out.2⟩, by decide, by rw [HX.out.1, HFV.out], by have := HX.out.2.2; omega, by have := HX.out.2.1; omega, fun _ => rfl⟩
    -- END2
end Go.Proofs.YtkmeckimmfbkiaaGreatDoor
