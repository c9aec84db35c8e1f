/- The reference's cleanDict. -/
import Derived.Test.YtkmeckimmfbkiaaGreatDoorSCl2
import Derived.Test.YtkmeckimmfbkiaaGreatDoorJSKey
namespace Go.Proofs.YtkmeckimmfbkiaaGreatDoor
open Go Go.RowKit
theorem OutI.later {W wr w8 : World} {gO : Nat} {kd : Int} {P : Nat → Prop} {l : List S} {n : Nat} {K : Option Addr} {c : Nat} {xs : List Value} (h : OutI W gO kd P l n wr K c xs) (hP : ∀ b, P b → b < gO) (hb : Below wr.heap.size wr w8) : OutI W gO kd P l n w8 K c xs := by
  obtain ⟨hl, hbk, hown, hK, hB⟩ := h
  have hs := hb.size
  have hg := hbk.lt
  refine ⟨hl, hbk.below hb hg, own_below hown hb, KN.keep (fun p hp => hb.cell ?_) (fun b hp => ⟨?_, hp.2⟩) l xs hK, hB.trans (hb.mono (by omega))⟩
  · rcases hp.1 with h | h
    · have := hP _ h; omega
    · exact h.2
  · rcases hp.1 with h | h
    · exact .inl h
    · exact .inr ⟨h.1, by omega⟩
theorem reads_new2 (w : World) (e0 e1 e2 e3 e4 e5 d0 d1 d2 d3 d4 d5 : Value) : Reads (w.alloc (.cells #[e0, e1, e2, e3, e4, e5, d0, d1, d2, d3, d4, d5] 26)) (w.heap.size + 1) 6 (some ⟨w.heap.size, 0, none⟩) 2 [e0, e1, e2, e3, e4, e5, d0, d1, d2, d3, d4, d5] := by
  refine ⟨rfl, fun _ => ⟨_, rfl, Nat.lt_succ_self _, fun j u hu => ?_⟩⟩
  have h := (Blk.new w 26 #[e0, e1, e2, e3, e4, e5, d0, d1, d2, d3, d4, d5]).cell j
  have e : (#[e0, e1, e2, e3, e4, e5, d0, d1, d2, d3, d4, d5] : Array Value)[j]? = some u := by simpa using hu
  rw [e] at h
  rw [← h]
  unfold Addr.add
  split
  · next hj => subst hj; rfl
  · simp
theorem goodL_two (l : List S) (a b : S) (h : goodL l) (ha : good a) (hb : good b) : goodL (l ++ [a, b]) := by
  rw [show l ++ [a, b] = (l ++ [a]) ++ [b] by simp]
  exact goodL_snoc _ _ (goodL_snoc _ _ h ha) hb
theorem levL_two (l : List S) (a b : S) (n : Nat) (h : levL l ≤ n) (ha : lev a ≤ n) (hb : lev b ≤ n) : levL (l ++ [a, b]) ≤ n := by
  rw [show l ++ [a, b] = (l ++ [a]) ++ [b] by simp]
  exact levL_snoc _ _ _ (levL_snoc _ _ _ h ha) hb
/-- What stands while a dict is cleaned. -/
def DictI (W : World) (gO dn i : Nat) (l : List S) (nl : Nat) (wr : World) (K : Option Addr) (c : Nat) (ys : List Value) : Prop :=
  OutI W gO 8 noP l nl wr K c ys ∧ nl ≤ i ∧ nl % 2 = 0 ∧ goodL l ∧ levL l ≤ dn + 1 ∧ keysK 2 l ∧ distK 2 l
/-- How Find answers of the kids of a dict or a set. -/
theorem findKids (step : Nat) (hs : 0 < step) (hs2 : step ≤ 2) (l : List S) (n c lv : Nat) (A : Option Addr) (xs : List Value) (s : S) (k0 k1 k2 k3 k4 k5 : Value) (w : World) (hn : l.length = n) (hn16 : n ≤ 16) (hr : Reads w w.heap.size 6 A n xs) (hK : KidsV w w.heap.size l xs) (hk : VAt w w.heap.size s (.agg #[k0, k1, k2, k3, k4, k5])) (hks : keyS s = true) (hkl : keysK step l) (hlv : levL l ≤ lv) (h1 : ∀ u ∈ [k0, k1, k2, k3, k4, k5], u.oneCell' = true) :
    Calls Tryz.prog 23 #[.slice A n c, .int .i64 step, .agg #[k0, k1, k2, k3, k4, k5]] w fun e w' => ∃ r : Int, e = .returned (.int .i64 r) ∧ Below w.heap.size w w' ∧ ((r = -1 ∧ ∀ i a, l[step * i]? = some a → eqS a s = false) ∨ 0 ≤ r) := by
  refine (findK_any step n c A xs k0 k1 k2 k3 k4 k5 (fun i => match l[i]? with | some a => eqS a s | none => false) w hs hs2 hn16 hr h1 fun i v hi him hrow W hW => ?_).mono ?_
  · have ha := List.getElem?_eq_getElem (show i < l.length by omega)
    simp only [ha]
    have hki : keyS l[i] = true := hkl (i / step) _ (by rw [Nat.mul_div_cancel' (Nat.dvd_of_mod_eq_zero him)]; exact ha)
    exact spEqual_any lv _ s v _ W (Nat.le_trans (lev_get l i _ ha) hlv) hki hks (((hK.row ha hrow).below hW).more hW.size) ((hk.below hW).more hW.size)
  · rintro e w' ⟨r, rfl, hB, h⟩
    refine ⟨r, rfl, hB, ?_⟩
    rcases h with ⟨h1, h2⟩ | ⟨i, h1, _⟩
    · refine .inl ⟨h1, fun i a ha => ?_⟩
      have hil : step * i < n := by
        rcases Nat.lt_or_ge (step * i) l.length with h | h
        · omega
        · rw [List.getElem?_eq_none h] at ha; cases ha
      have := h2 (step * i) hil (Nat.mul_mod_right _ _)
      simp only [ha] at this
      exact this
    · exact .inr (by omega)
set_option maxRecDepth 10000 in
set_option maxHeartbeats 8000000 in
theorem cleanDict_any (dn : Nat) (ih : CleanC dn) (k : Int) (neg : Bool) (A : Option Addr) (n c : Nat) (b : Int) (t : ByteArray) (K : Option Addr) (m d : Nat) (xs : List Value) (w : World) (hdn : dn ≤ 100) (_hm : m ≤ maxLen) (hx : KidsIn w w.heap.size dn m K xs) :
    Calls Tryz.prog 13 #[.agg #[.int .i64 k, .bool neg, .slice A n c, .int .u64 b, .string t, .slice K m d], .int .i64 ((dn : Int) + 1)] w (RetG w (dn + 1)) := by
  have HX := Lib.hid (And.intro hx ih)
  have hw : IntKind.i64.wrap ((dn : Int) + 1 - 1) = (dn : Int) := by rw [IntKind.wrap_i64]; omega
  have hw2 : IntKind.i64.wrap (dn : Int) = (dn : Int) := by rw [IntKind.wrap_i64]; omega
  obtain ⟨iV, hi, hz, hs, hby⟩ := info_parts infoVal
  have HI := Lib.hid (And.intro hi (And.intro hz (And.intro hs hby)))
  clear hx ih hi hz hs hby _hm
  go_enter Tryz.func13, Tryz.ntmps13
  go_wp2_with fail
  refine gen3 (M := fun W => Code.wp _ _ _ _ W) fun W hB b1 b2 b3 hz => ?_
  have hz1 : w.heap.size + 1 + 1 < W.heap.size := by omega
  clear hz
  have HB := Lib.hid (And.intro hB (And.intro b1 (And.intro b2 b3)))
  clear hB b1 b2 b3
  go_loopw [6] (fun vi wr => ∃ (i : Nat) (l : List S) (nl : Nat) (K' : Option Addr) (c' : Nat) (ys : List Value), vi = .int .i64 i ∧ i ≤ 16 ∧ i % 2 = 0 ∧ DictI W (w.heap.size + 1 + 1) dn i l nl wr K' c' ys) (fun vi _ => 16 - (intOf vi).toNat)
  case atStart => exact ⟨0, [], 0, none, 0, [], rfl, by omega, rfl, OutI.start HB.out.2.2.2 (Below.refl _ _), Nat.le_refl _, rfl, trivial, by simp [levL], keysK_nil _, distK_nil _⟩
  case round =>
    obtain ⟨i, l, nl, K', c', ys, rfl, hi16, hi2, hD⟩ := hrel
    have hO := hD.1
    have hnl := hD.2.1
    have hBW := hO.2.2.2.2
    obtain ⟨x0, x1, x2, x3, x4, x5, _, _, _, _, _, _⟩ := (HB.out.2.1.below hBW (by omega)).c6
    obtain ⟨y0, y1, y2, y3, y4, y5, _, _, _, _, _, _⟩ := hO.2.1.c6
    have HD := Lib.hid hD
    have hBw := HB.out.1.trans (hBW.mono (by omega))
    have wi1 : IntKind.i64.wrap ((i : Int) + 1) = (i : Int) + 1 := by rw [IntKind.wrap_i64]; omega
    have wi2 : IntKind.i64.wrap ((i : Int) + 2) = (i : Int) + 2 := by rw [IntKind.wrap_i64]; omega
    by_cases hlt : i + 1 < m ∧ i < 16
    · obtain ⟨hlt, hlt16⟩ := hlt
      have bi : (i : Int) + 1 < (m : Int) := by omega
      have bi0 : (i : Int) < (m : Int) := by omega
      have bi16 : (i : Int) < 16 := by omega
      obtain ⟨ad, p0, p1, p2, p3, p4, p5, rfl, had, hrow, hsix⟩ := HX.out.1.1.six2 (k := i) (by omega)
      have HC := Lib.hid (HX.out.2 _ wr (((HX.out.1.2 i _ hrow).below hBw).more hBw.size))
      obtain ⟨g0, g1, g2, g3, g4, g5⟩ := hsix.below hBw had
      have hgl := hO.2.1.lt
      clear hsix hrow hD hO
      go_wp2_with fail
      refine HC.out.mono ?_
      rintro e w5 ⟨s5, hgd5, hlv5, v5, rfl, hv5, hB5⟩
      have hs5 := hB5.size
      have HK := Lib.hid (key_any (dn + 1) (fun b => noP b ∨ (wr.heap.size ≤ b ∧ b < w5.heap.size)) s5 v5 w5 hlv5 (fun b hb => by rcases hb with h | h; exact h.elim; exact h.2) hv5)
      have H5 := Lib.hid (And.intro hgd5 (And.intro hlv5 hB5))
      clear hgd5 hlv5 hv5 hB5 HC
      clear x0 x1 x2 x3 x4 x5 y0 y1 y2 y3 y4 y5 g0 g1 g2 g3 g4 g5
      go_wp2_with fail
      refine HK.out.mono ?_
      rintro e w6 ⟨v6, rfl, hv6, hB6⟩
      obtain ⟨ng6, A6, n6, c6, bb6, tt6, K6, m6, d6, rfl⟩ := hv6.six
      generalize hkd : kindN (keyOf s5) = kd6 at hv6 ⊢
      clear hkd
      have hs6 := hB6.size
      have HB6 := Lib.hid (show Below wr.heap.size wr w6 from H5.out.2.2.trans (hB6.mono hs5))
      have HV6 := Lib.hid (show VN w6 (fun b => noP b ∨ (wr.heap.size ≤ b ∧ b < w6.heap.size)) (keyOf s5) (.agg #[.int .i64 kd6, .bool ng6, .slice A6 n6 c6, .int .u64 bb6, .string tt6, .slice K6 m6 d6]) from VN.keep (fun _ _ => rfl) (fun b hb => by
        rcases hb with (h | h) | h
        · exact h.elim
        · exact .inr ⟨h.1, by omega⟩
        · exact .inr ⟨by omega, h.2⟩) _ _ hv6)
      clear hv6 hB6 HK
      obtain ⟨y0, y1, y2, y3, y4, y5, _, _, _, _, _, _⟩ := ((HD.out.1.2.1.below HB6.out hgl).alloc (.cells #[.int .i64 kd6, .bool ng6, .slice A6 n6 c6, .int .u64 bb6, .string tt6, .slice K6 m6 d6] 26)).c6
      have HDl := Lib.hid (HD.out.1.later (fun b hb => hb.elim) HB6.out)
      go_wp2_with fail
      refine gen1 (M := fun V => Calls _ _ _ V _) fun W7 hB7 b7 hz7 => ?_
      have hz71 : w6.heap.size < W7.heap.size := by omega
      clear hz7
      have hBr7 : Below wr.heap.size wr W7 := HB6.out.trans (hB7.mono HB6.out.size)
      obtain ⟨hnc, hRN, hKN⟩ := HD.out.1.rn
      have hPB : ∀ b, (noP b ∨ (w.heap.size + 1 + 1 < b ∧ b < wr.heap.size)) → b < wr.heap.size := fun b hb => by rcases hb with h | h; exact h.elim; exact h.2
      have hkv : VAt W7 W7.heap.size (keyOf s5) (.agg #[.int .i64 kd6, .bool ng6, .slice A6 n6 c6, .int .u64 bb6, .string tt6, .slice K6 m6 d6]) := ((VN.toV (B := w6.heap.size) (fun b hb => by rcases hb with h | h; exact h.elim; exact h.2) _ _ HV6.out).below hB7).more (by omega)
      refine (findKids 2 (by decide) (by decide) l nl c' (dn + 1) K' ys (keyOf s5) _ _ _ _ _ _ W7 HD.out.1.1 (by omega) (((hRN.toReads hPB).below hBr7).more hBr7.size) (((KN.toV hPB _ _ hKN).below hBr7).more hBr7.size) hkv (keyS_keyOf s5) HD.out.2.2.2.2.2.1 HD.out.2.2.2.2.1 (by simp [Value.oneCell'])).mono ?_
      rintro e w8 ⟨r, rfl, hB8, hr⟩
      have hs7 := hB7.size
      have hs8 := hB8.size
      have hBr8 := hBr7.trans (hB8.mono hBr7.size)
      have b8 := b7.below hB8 (by omega)
      obtain ⟨z0, z1, z2, z3, z4, z5, _, _, _, _, _, _⟩ := b8.c6
      have HB8 := Lib.hid (And.intro hBr8 (And.intro b8 (hB7.trans (hB8.mono (by omega)))))
      clear hRN hKN hPB hkv y0 y1 y2 y3 y4 y5 hBr7 hBr8 hB7 hB8 b7 b8 HDl
      rcases hr with ⟨rfl, hne⟩ | hr
      · have HNE := Lib.hid hne
        have hBw8 := hBw.trans (HB8.out.1.mono (by have := hBw.size; omega))
        obtain ⟨x0, x1, x2, x3, x4, x5, _, _, _, _, _, _⟩ := ((HB.out.2.1.below hBW (by omega)).below HB8.out.1 (by omega)).c6
        obtain ⟨y0, y1, y2, y3, y4, y5, _, _, _, _, _, _⟩ := (HD.out.1.2.1.below HB8.out.1 hgl).c6
        obtain ⟨ad2, q0, q1, q2, q3, q4, q5, e, had2, hrow2, hsix2⟩ := HX.out.1.1.six2 (k := i + 1) hlt
        cases e
        have HC2 := Lib.hid (HX.out.2 _ w8.drew (((HX.out.1.2 (i + 1) _ hrow2).below hBw8.drew).more hBw8.drew.size))
        obtain ⟨g0, g1, g2, g3, g4, g5⟩ := hsix2.below hBw8 had2
        have gi : (0 : Int) ≤ (i : Int) + 1 := by omega
        clear hsix2 hrow2 hBw8 hne hBw hBW
        go_wp2_with fail
        go_region_law (first
          | (refine step_append_any _ rfl (.tmp 36) (.tmp 47) 24 rfl (w.heap.size + 1 + 1 + 1) 26 iV _ 6 88 Tryz.underlying24 HI.out.1 HI.out.2.1 HI.out.2.2.1 HI.out.2.2.2 rfl (by decide) (.slice K' nl c') nl ys rfl HW9.out _ _ 2 2 _ rfl (reads_new2 w9 _ _ _ _ _ _ _ _ _ _ _ _) (by simp [Value.oneCell']) (by unfold maxLen; omega) (by omega) (by simp; omega) ?_
             intro v7 w10 ho7 hg7 hr7
             obtain ⟨K7, c7, rfl, hc7, _, _⟩ := own_slice ho7
             have b10 := HB9.out.2.grown hg7 HD.out.1.ne
             obtain ⟨y0, y1, y2, y3, y4, y5, f0, f1, f2, f3, f4, f5⟩ := b10.c6
             have H7 := Lib.hid (And.intro ho7 (And.intro hg7 hr7))
             clear ho7 hg7 hr7 hc7 b10)
          | (go_simp; go_at_call 5; refine HC2.out.mono ?_
             rintro e w9 ⟨s9, hgd9, hlv9, v9, rfl, hv9, hB9⟩
             have hv9 : VN w9 (fun b => noP b ∨ (w8.heap.size ≤ b ∧ b < w9.heap.size)) s9 v9 := hv9
             have hB9 : Below w8.heap.size w8 w9 := ⟨hB9.os, hB9.tape, hB9.output, hB9.size, hB9.block⟩
             obtain ⟨ng9, A9, n9, c9, bb9, tt9, K9, m9, d9, rfl⟩ := hv9.six
             generalize kindN s9 = kd9 at hv9 ⊢
             have hBr9 := HB8.out.1.trans (hB9.mono HB8.out.1.size)
             have b9 := HD.out.1.2.1.below hBr9 hgl
             have bk9 := HB8.out.2.1.below hB9 (by omega)
             obtain ⟨y0, y1, y2, y3, y4, y5, _, _, _, _, _, _⟩ := b9.c6
             obtain ⟨z0, z1, z2, z3, z4, z5, _, _, _, _, _, _⟩ := bk9.c6
             have b9a := b9.alloc (.cells #[.int .i64 kd6, .bool ng6, .slice A6 n6 c6, .int .u64 bb6, .string tt6, .slice K6 m6 d6, .int .i64 kd9, .bool ng9, .slice A9 n9 c9, .int .u64 bb9, .string tt9, .slice K9 m9 d9] 26)
             obtain ⟨_, _, _, _, _, y5a, _, _, _, _, _, _⟩ := b9a.c6
             have HW9 := Lib.hid ((own_below HD.out.1.2.2.1 hBr9).alloc (.cells #[.int .i64 kd6, .bool ng6, .slice A6 n6 c6, .int .u64 bb6, .string tt6, .slice K6 m6 d6, .int .i64 kd9, .bool ng9, .slice A9 n9 c9, .int .u64 bb9, .string tt9, .slice K9 m9 d9] 26))
             have hs9 := hB9.size
             have HB9 := Lib.hid (And.intro (And.intro hBr9 (And.intro (VN.keep (P' := fun b => noP b ∨ (wr.heap.size ≤ b ∧ b < w9.heap.size)) (fun _ _ => rfl) (fun b hb => by rcases hb with h | h; exact h.elim; exact .inr ⟨by omega, h.2⟩) _ _ hv9) (And.intro hgd9 (And.intro hlv9 (VN.keep (w' := w9) (P' := fun b => noP b ∨ (wr.heap.size ≤ b ∧ b < w9.heap.size)) (fun p hp => by
               rcases hp with h | h
               · exact h.elim
               · exact (hB9.cell (by omega)).trans (HB8.out.2.2.cell h.2)) (fun b hb => by rcases hb with h | h; exact h.elim; exact .inr ⟨h.1, by omega⟩) _ _ HV6.out))))) b9a)
             clear hv9 hB9 b9 b9a hgd9 hlv9 bk9 hBr9))
        all_goals
          go_wp2
          exact ⟨⟨i + 2, l ++ [keyOf s5, s9], nl + 2, K7, c7, _, by go_num, by omega, by omega, OutI.push HD.out.1 (fun b hb => hb.elim) HB9.out.1.1 (KN.append _ _ _ _ (KN.one HB9.out.1.2.2.2.2) (KN.one HB9.out.1.2.1)) rfl H7.out.2.1 H7.out.1 H7.out.2.2, by omega, by have := HD.out.2.2.1; omega, goodL_two _ _ _ HD.out.2.2.2.1 (good_keyOf s5 H5.out.1) HB9.out.1.2.2.1, levL_two _ _ _ _ HD.out.2.2.2.2.1 (by rw [lev_keyOf]; exact H5.out.2.1) HB9.out.1.2.2.2.1, keysK_two _ _ _ (by rw [HD.out.1.1]; exact HD.out.2.2.1) HD.out.2.2.2.2.2.1 (keyS_keyOf s5), distK_two _ _ _ (by rw [HD.out.1.1]; exact HD.out.2.2.1) HD.out.2.2.2.2.2.2 HNE.out⟩, by simp only [intOf]; omega⟩
      · have hr0 : ¬ r < 0 := by omega
        clear hBw hBW
        go_wp2
        exact ⟨⟨i + 2, l, nl, K', c', ys, by go_num, by omega, by omega, HD.out.1.later (fun b hb => hb.elim) HB8.out.1, by omega, HD.out.2.2⟩, by simp only [intOf]; omega⟩
    · have hr := HB.out.2.2.1.below hBW (by omega)
      obtain ⟨r0, r1, r2, r3, r4, r5, f0, f1, f2, f3, f4, f5⟩ := hr.c6
      have HR := Lib.hid (And.intro hr hBw)
      clear hr hBW hO hBw hD
      rcases Nat.lt_or_ge (i + 1) m with h1 | h1
      · have bi : (i : Int) + 1 < (m : Int) := by omega
        have bi16 : ¬ (i : Int) < 16 := by omega
        go_wp2
        refine gen_set6 (M := fun V => bodyPost _ _ _ _ _ V) HR.out.1 fun W6 b6 hg6 hz6 => ?_
        obtain ⟨hc', hRN, hKN⟩ := OutI.ret (w := w) HD.out.1 hg6 (by omega) (by omega)
        have hll := HD.out.1.1
        exact ret_row rfl _ b6 rfl Tryz.underlying26 rfl size28 rfl ⟨.dict l, ⟨by omega, by rw [hll]; exact HD.out.2.2.1, HD.out.2.2.2.2.2.1, HD.out.2.2.2.2.2.2, HD.out.2.2.2.1⟩, by simp only [lev]; have := HD.out.2.2.2.2.1; omega, _, rfl, by simp only [VN]; exact ⟨K', c', ys, by rw [hll]; rfl, by omega, by omega, by rw [hll]; exact hRN, hKN⟩, below_grown HR.out.2 hg6 (by omega) HR.out.2.size⟩
      · have bi : ¬ (i : Int) + 1 < (m : Int) := by omega
        go_wp2
        refine gen_set6 (M := fun V => bodyPost _ _ _ _ _ V) HR.out.1 fun W6 b6 hg6 hz6 => ?_
        obtain ⟨hc', hRN, hKN⟩ := OutI.ret (w := w) HD.out.1 hg6 (by omega) (by omega)
        have hll := HD.out.1.1
        exact ret_row rfl _ b6 rfl Tryz.underlying26 rfl size28 rfl ⟨.dict l, ⟨by omega, by rw [hll]; exact HD.out.2.2.1, HD.out.2.2.2.2.2.1, HD.out.2.2.2.2.2.2, HD.out.2.2.2.1⟩, by simp only [lev]; have := HD.out.2.2.2.2.1; omega, _, rfl, by simp only [VN]; exact ⟨K', c', ys, by rw [hll]; rfl, by omega, by omega, by rw [hll]; exact hRN, hKN⟩, below_grown HR.out.2 hg6 (by omega) HR.out.2.size⟩
end Go.Proofs.YtkmeckimmfbkiaaGreatDoor
