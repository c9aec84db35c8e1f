/- The reference's Clean, of sets, and of every argument. Conditions: none. -/
import Derived.Test.YtkmeckimmfbkiaaGreatDoorSCl3
import Derived.Test.YtkmeckimmfbkiaaGreatDoorSCl1
namespace Go.Proofs.YtkmeckimmfbkiaaGreatDoor
open Go Go.RowKit
/-- What stands while a set is cleaned. -/
def SetI (W : World) (gO dn i : Nat) (l : List S) (nl : Nat) (wr : World) (K : Option Addr) (c : Nat) (ys : List Value) : Prop :=
  OutI W gO 9 noP l nl wr K c ys ∧ nl ≤ i ∧ goodL l ∧ levL l ≤ dn + 1 ∧ keysK 1 l ∧ distK 1 l
set_option maxRecDepth 10000 in
set_option maxHeartbeats 8000000 in
theorem cleanSet_any (dn : Nat) (ih : CleanC dn) (k : Int) (neg : Bool) (A : Option Addr) (n c : Nat) (b : Int) (t : ByteArray) (K : Option Addr) (m d : Nat) (xs : List Value) (w : World) (hdn : dn ≤ 100) (_hm : m ≤ maxLen) (hx : KidsIn w w.heap.size dn m K xs) :
    Calls Tryz.prog 14 #[.agg #[.int .i64 k, .bool neg, .slice A n c, .int .u64 b, .string t, .slice K m d], .int .i64 ((dn : Int) + 1)] w (RetG w (dn + 1)) := by
  have HX := Lib.hid (And.intro hx ih)
  have hw : IntKind.i64.wrap ((dn : Int) + 1 - 1) = (dn : Int) := by rw [IntKind.wrap_i64]; omega
  have hw2 : IntKind.i64.wrap (dn : Int) = (dn : Int) := by rw [IntKind.wrap_i64]; omega
  obtain ⟨iV, hi, hz, hs, hby⟩ := info_parts infoVal
  have HI := Lib.hid (And.intro hi (And.intro hz (And.intro hs hby)))
  clear hx ih hi hz hs hby _hm
  go_enter Tryz.func14, Tryz.ntmps14
  go_wp2_with fail
  refine gen3 (M := fun W => Code.wp _ _ _ _ W) fun W hB b1 b2 b3 hz => ?_
  have hz1 : w.heap.size + 1 + 1 < W.heap.size := by omega
  clear hz
  have HB := Lib.hid (And.intro hB (And.intro b1 (And.intro b2 b3)))
  clear hB b1 b2 b3
  go_loopw [6] (fun vi wr => ∃ (i : Nat) (l : List S) (nl : Nat) (K' : Option Addr) (c' : Nat) (ys : List Value), vi = .int .i64 i ∧ i ≤ 8 ∧ SetI W (w.heap.size + 1 + 1) dn i l nl wr K' c' ys) (fun vi _ => 8 - (intOf vi).toNat)
  case atStart => exact ⟨0, [], 0, none, 0, [], rfl, by omega, OutI.start HB.out.2.2.2 (Below.refl _ _), Nat.le_refl _, trivial, by simp [levL], keysK_nil _, distK_nil _⟩
  case round =>
    obtain ⟨i, l, nl, K', c', ys, rfl, hi16, hD⟩ := hrel
    have hO := hD.1
    have hnl := hD.2.1
    have hBW := hO.2.2.2.2
    obtain ⟨x0, x1, x2, x3, x4, x5, _, _, _, _, _, _⟩ := (HB.out.2.1.below hBW (by omega)).c6
    obtain ⟨y0, y1, y2, y3, y4, y5, _, _, _, _, _, _⟩ := hO.2.1.c6
    have HD := Lib.hid hD
    have hBw := HB.out.1.trans (hBW.mono (by omega))
    have wi1 : IntKind.i64.wrap ((i : Int) + 1) = (i : Int) + 1 := by rw [IntKind.wrap_i64]; omega
    by_cases hlt : i < m ∧ i < 8
    · obtain ⟨hlt, hlt16⟩ := hlt
      have bi0 : (i : Int) < (m : Int) := by omega
      have bi16 : (i : Int) < 8 := by omega
      obtain ⟨ad, p0, p1, p2, p3, p4, p5, rfl, had, hrow, hsix⟩ := HX.out.1.1.six2 (k := i) (by omega)
      have HC := Lib.hid (HX.out.2 _ wr (((HX.out.1.2 i _ hrow).below hBw).more hBw.size))
      obtain ⟨g0, g1, g2, g3, g4, g5⟩ := hsix.below hBw had
      have hgl := hO.2.1.lt
      clear hsix hrow hD hO
      go_wp2_with fail
      refine HC.out.mono ?_
      rintro e w5 ⟨s5, hgd5, hlv5, v5, rfl, hv5, hB5⟩
      have hs5 := hB5.size
      have HK := Lib.hid (key_any (dn + 1) (fun b => noP b ∨ (wr.heap.size ≤ b ∧ b < w5.heap.size)) s5 v5 w5 hlv5 (fun b hb => by rcases hb with h | h; exact h.elim; exact h.2) hv5)
      have H5 := Lib.hid (And.intro hgd5 (And.intro hlv5 hB5))
      clear hgd5 hlv5 hv5 hB5 HC
      clear x0 x1 x2 x3 x4 x5 y0 y1 y2 y3 y4 y5 g0 g1 g2 g3 g4 g5
      go_wp2_with fail
      refine HK.out.mono ?_
      rintro e w6 ⟨v6, rfl, hv6, hB6⟩
      obtain ⟨ng6, A6, n6, c6, bb6, tt6, K6, m6, d6, rfl⟩ := hv6.six
      generalize hkd : kindN (keyOf s5) = kd6 at hv6 ⊢
      clear hkd
      have hs6 := hB6.size
      have HB6 := Lib.hid (show Below wr.heap.size wr w6 from H5.out.2.2.trans (hB6.mono hs5))
      have HV6 := Lib.hid (show VN w6 (fun b => noP b ∨ (wr.heap.size ≤ b ∧ b < w6.heap.size)) (keyOf s5) (.agg #[.int .i64 kd6, .bool ng6, .slice A6 n6 c6, .int .u64 bb6, .string tt6, .slice K6 m6 d6]) from VN.keep (fun _ _ => rfl) (fun b hb => by
        rcases hb with (h | h) | h
        · exact h.elim
        · exact .inr ⟨h.1, by omega⟩
        · exact .inr ⟨by omega, h.2⟩) _ _ hv6)
      clear hv6 hB6 HK
      obtain ⟨y0, y1, y2, y3, y4, y5, _, _, _, _, _, _⟩ := ((HD.out.1.2.1.below HB6.out hgl).alloc (.cells #[.int .i64 kd6, .bool ng6, .slice A6 n6 c6, .int .u64 bb6, .string tt6, .slice K6 m6 d6] 26)).c6
      have HDl := Lib.hid (HD.out.1.later (fun b hb => hb.elim) HB6.out)
      go_wp2_with fail
      refine gen1 (M := fun V => Calls _ _ _ V _) fun W7 hB7 b7 hz7 => ?_
      have hz71 : w6.heap.size < W7.heap.size := by omega
      clear hz7
      have hBr7 : Below wr.heap.size wr W7 := HB6.out.trans (hB7.mono HB6.out.size)
      obtain ⟨hnc, hRN, hKN⟩ := HD.out.1.rn
      have hPB : ∀ b, (noP b ∨ (w.heap.size + 1 + 1 < b ∧ b < wr.heap.size)) → b < wr.heap.size := fun b hb => by rcases hb with h | h; exact h.elim; exact h.2
      have hkv : VAt W7 W7.heap.size (keyOf s5) (.agg #[.int .i64 kd6, .bool ng6, .slice A6 n6 c6, .int .u64 bb6, .string tt6, .slice K6 m6 d6]) := ((VN.toV (B := w6.heap.size) (fun b hb => by rcases hb with h | h; exact h.elim; exact h.2) _ _ HV6.out).below hB7).more (by omega)
      refine (findKids 1 (by decide) (by decide) l nl c' (dn + 1) K' ys (keyOf s5) _ _ _ _ _ _ W7 HD.out.1.1 (by omega) (((hRN.toReads hPB).below hBr7).more hBr7.size) (((KN.toV hPB _ _ hKN).below hBr7).more hBr7.size) hkv (keyS_keyOf s5) HD.out.2.2.2.2.1 HD.out.2.2.2.1 (by simp [Value.oneCell'])).mono ?_
      rintro e w8 ⟨r, rfl, hB8, hr⟩
      have hs7 := hB7.size
      have hs8 := hB8.size
      have hBr8 := hBr7.trans (hB8.mono hBr7.size)
      have b8 := b7.below hB8 (by omega)
      obtain ⟨z0, z1, z2, z3, z4, z5, _, _, _, _, _, _⟩ := b8.c6
      have HB8 := Lib.hid (And.intro hBr8 (And.intro b8 (hB7.trans (hB8.mono (by omega)))))
      clear hRN hKN hPB hkv y0 y1 y2 y3 y4 y5 hBr7 hBr8 hB7 hB8 b7 b8 HDl
      rcases hr with ⟨rfl, hne⟩ | hr
      · have HNE := Lib.hid hne
        have hBw8 := hBw.trans (HB8.out.1.mono (by have := hBw.size; omega))
        obtain ⟨x0, x1, x2, x3, x4, x5, _, _, _, _, _, _⟩ := ((HB.out.2.1.below hBW (by omega)).below HB8.out.1 (by omega)).c6
        obtain ⟨y0, y1, y2, y3, y4, y5, _, _, _, _, _, _⟩ := (HD.out.1.2.1.below HB8.out.1 hgl).c6
        have b8o := HD.out.1.2.1.below HB8.out.1 hgl
        have b8a := b8o.alloc (.cells #[.int .i64 kd6, .bool ng6, .slice A6 n6 c6, .int .u64 bb6, .string tt6, .slice K6 m6 d6] 26)
        have HW9 := Lib.hid (And.intro b8a ((own_below HD.out.1.2.2.1 HB8.out.1).alloc (.cells #[.int .i64 kd6, .bool ng6, .slice A6 n6 c6, .int .u64 bb6, .string tt6, .slice K6 m6 d6] 26)))
        have HV8 := Lib.hid (VN.keep (w' := w8) (P' := fun b => noP b ∨ (wr.heap.size ≤ b ∧ b < w8.heap.size)) (fun p hp => by
          rcases hp with h | h
          · exact h.elim
          · exact HB8.out.2.2.cell h.2) (fun b hb => by rcases hb with h | h; exact h.elim; exact .inr ⟨h.1, by omega⟩) _ _ HV6.out)
        have hwr8 := HB8.out.1.size
        clear hBw8 hne hBw hBW b8o b8a
        go_wp2_with (at_builtin; refine wpList_append_any _ rfl (.tmp 35) (.tmp 37) 24 rfl (w.heap.size + 1 + 1 + 1) 26 iV _ 6 88 Tryz.underlying24 HI.out.1 HI.out.2.1 HI.out.2.2.1 HI.out.2.2.2 rfl (by decide) (.slice K' nl c') nl ys rfl HW9.out.2 _ _ 1 1 _ rfl (reads_new w8 _ _ _ _ _ _) (by simp [Value.oneCell']) (by unfold maxLen; omega) (by omega) (by simp; omega) ?_)
        intro v7 w10 ho7 hg7 hr7
        obtain ⟨K7, c7, rfl, hc7, _, _⟩ := own_slice ho7
        have b10 := HW9.out.1.grown hg7 HD.out.1.ne
        obtain ⟨y0, y1, y2, y3, y4, y5, f0, f1, f2, f3, f4, f5⟩ := b10.c6
        have H7 := Lib.hid (And.intro ho7 (And.intro hg7 hr7))
        clear ho7 hg7 hr7 hc7 b10
        go_wp2
        exact ⟨⟨i + 1, l ++ [keyOf s5], nl + 1, K7, c7, _, by go_num, by omega, OutI.push HD.out.1 (fun b hb => hb.elim) HB8.out.1 (KN.one HV8.out) rfl H7.out.2.1 H7.out.1 (by rw [World.size_alloc]; exact H7.out.2.2), by omega, goodL_snoc _ _ HD.out.2.2.1 (good_keyOf s5 H5.out.1), levL_snoc _ _ _ HD.out.2.2.2.1 (by rw [lev_keyOf]; exact H5.out.2.1), keysK_one _ _ HD.out.2.2.2.2.1 (keyS_keyOf s5), distK_one _ _ HD.out.2.2.2.2.2 HNE.out⟩, by simp only [intOf]; omega⟩
      · have hr0 : ¬ r < 0 := by omega
        clear hBw hBW
        go_wp2
        exact ⟨⟨i + 1, l, nl, K', c', ys, by go_num, by omega, HD.out.1.later (fun b hb => hb.elim) HB8.out.1, by omega, HD.out.2.2⟩, by simp only [intOf]; omega⟩
    · have hr := HB.out.2.2.1.below hBW (by omega)
      obtain ⟨r0, r1, r2, r3, r4, r5, f0, f1, f2, f3, f4, f5⟩ := hr.c6
      have HR := Lib.hid (And.intro hr hBw)
      clear hr hBW hO hBw hD
      rcases Nat.lt_or_ge i m with h1 | h1
      · have bi : (i : Int) < (m : Int) := by omega
        have bi16 : ¬ (i : Int) < 8 := by omega
        go_wp2
        refine gen_set6 (M := fun V => bodyPost _ _ _ _ _ V) HR.out.1 fun W6 b6 hg6 hz6 => ?_
        obtain ⟨hc', hRN, hKN⟩ := OutI.ret (w := w) HD.out.1 hg6 (by omega) (by omega)
        have hll := HD.out.1.1
        exact ret_row rfl _ b6 rfl Tryz.underlying26 rfl size28 rfl ⟨.set l, ⟨by omega, HD.out.2.2.2.2.1, HD.out.2.2.2.2.2, HD.out.2.2.1⟩, by simp only [lev]; have := HD.out.2.2.2.1; omega, _, rfl, by simp only [VN]; exact ⟨K', c', ys, by rw [hll]; rfl, by omega, by omega, by rw [hll]; exact hRN, hKN⟩, below_grown HR.out.2 hg6 (by omega) HR.out.2.size⟩
      · have bi : ¬ (i : Int) < (m : Int) := by omega
        go_wp2
        refine gen_set6 (M := fun V => bodyPost _ _ _ _ _ V) HR.out.1 fun W6 b6 hg6 hz6 => ?_
        obtain ⟨hc', hRN, hKN⟩ := OutI.ret (w := w) HD.out.1 hg6 (by omega) (by omega)
        have hll := HD.out.1.1
        exact ret_row rfl _ b6 rfl Tryz.underlying26 rfl size28 rfl ⟨.set l, ⟨by omega, HD.out.2.2.2.2.1, HD.out.2.2.2.2.2, HD.out.2.2.1⟩, by simp only [lev]; have := HD.out.2.2.2.1; omega, _, rfl, by simp only [VN]; exact ⟨K', c', ys, by rw [hll]; rfl, by omega, by omega, by rw [hll]; exact hRN, hKN⟩, below_grown HR.out.2 hg6 (by omega) HR.out.2.size⟩
end Go.Proofs.YtkmeckimmfbkiaaGreatDoor
namespace Go.Proofs.YtkmeckimmfbkiaaGreatDoor
open Go Go.RowKit
set_option maxRecDepth 10000 in
set_option maxHeartbeats 8000000 in
theorem clean_dict (dn : Nat) (ih : CleanC dn) (k : Int) (neg : Bool) (A : Option Addr) (n c : Nat) (b : Int) (t : ByteArray) (K : Option Addr) (m d : Nat) (xs : List Value) (w : World) (hk : (wrap64 (k.tmod 10 + 10)).tmod 10 = 8) (hdn : dn ≤ 100) (hm : m ≤ maxLen) (hx : KidsIn w w.heap.size dn m K xs) :
    Calls Tryz.prog 5 #[.agg #[.int .i64 k, .bool neg, .slice A n c, .int .u64 b, .string t, .slice K m d], .int .i64 ((dn : Int) + 1)] w (RetG w (dn + 1)) := by
  have HX := Lib.hid (And.intro hx (And.intro ih (And.intro hm hdn)))
  have hdp : ¬ (dn : Int) + 1 ≤ 0 := by omega
  clear hx ih hm hdn
  go_enter Tryz.func5, Tryz.ntmps5
  go_wp2_with fail
  refine gen2 (M := fun W => Calls _ _ _ W _) fun W hB b1 b2 hz => ?_
  have hz1 : w.heap.size + 1 < W.heap.size := by omega
  clear hz
  have HB := Lib.hid (And.intro hB b2)
  clear hB b1 b2
  refine (cleanDict_any dn HX.out.2.1 k neg A n c b t K m d xs W HX.out.2.2.2 HX.out.2.2.1 ⟨(HX.out.1.1.below HB.out.1).more HB.out.1.size, fun i u hu => ((HX.out.1.2 i u hu).below HB.out.1).more HB.out.1.size⟩).mono ?_
  rintro e w6 ⟨s, hgs, hls, v6, rfl, hv6, hB6⟩
  obtain ⟨ng6, A6, n6, c6, bb6, tt6, K6, m6, d6, rfl⟩ := hv6.six
  have b2 := HB.out.2.below hB6 (by omega)
  obtain ⟨r0, r1, r2, r3, r4, r5, f0, f1, f2, f3, f4, f5⟩ := b2.c6
  have HV6 := Lib.hid (And.intro hv6 (And.intro hB6 (And.intro b2 (And.intro hgs hls))))
  clear hv6 hB6 b2 hgs hls
  go_wp2
  refine gen_set6 (M := fun V => bodyPost _ _ _ _ _ V) HV6.out.2.2.1 fun W6 b6 hg6 hz6 => ?_
  have hs6 := HV6.out.2.1.size
  have hBw := HB.out.1.trans (HV6.out.2.1.mono HB.out.1.size)
  refine ret_row rfl _ b6 rfl Tryz.underlying26 rfl size28 rfl ⟨s, HV6.out.2.2.2.1, HV6.out.2.2.2.2, _, rfl, HV6.out.1.past hg6 (fun bb hb => ?_), below_grown hBw hg6 (by omega) hBw.size⟩
  have hb : W.heap.size ≤ bb ∧ bb < w6.heap.size := by rcases hb with h | h; exact h.elim; exact h
  exact ⟨by omega, hb.2, .inr ⟨by omega, by omega⟩⟩
set_option maxRecDepth 10000 in
set_option maxHeartbeats 8000000 in
theorem clean_set (dn : Nat) (ih : CleanC dn) (k : Int) (neg : Bool) (A : Option Addr) (n c : Nat) (b : Int) (t : ByteArray) (K : Option Addr) (m d : Nat) (xs : List Value) (w : World) (hk : (wrap64 (k.tmod 10 + 10)).tmod 10 = 9) (hdn : dn ≤ 100) (hm : m ≤ maxLen) (hx : KidsIn w w.heap.size dn m K xs) :
    Calls Tryz.prog 5 #[.agg #[.int .i64 k, .bool neg, .slice A n c, .int .u64 b, .string t, .slice K m d], .int .i64 ((dn : Int) + 1)] w (RetG w (dn + 1)) := by
  have HX := Lib.hid (And.intro hx (And.intro ih (And.intro hm hdn)))
  have hdp : ¬ (dn : Int) + 1 ≤ 0 := by omega
  clear hx ih hm hdn
  go_enter Tryz.func5, Tryz.ntmps5
  go_wp2_with fail
  refine gen2 (M := fun W => Calls _ _ _ W _) fun W hB b1 b2 hz => ?_
  have hz1 : w.heap.size + 1 < W.heap.size := by omega
  clear hz
  have HB := Lib.hid (And.intro hB b2)
  clear hB b1 b2
  refine (cleanSet_any dn HX.out.2.1 k neg A n c b t K m d xs W HX.out.2.2.2 HX.out.2.2.1 ⟨(HX.out.1.1.below HB.out.1).more HB.out.1.size, fun i u hu => ((HX.out.1.2 i u hu).below HB.out.1).more HB.out.1.size⟩).mono ?_
  rintro e w6 ⟨s, hgs, hls, v6, rfl, hv6, hB6⟩
  obtain ⟨ng6, A6, n6, c6, bb6, tt6, K6, m6, d6, rfl⟩ := hv6.six
  have b2 := HB.out.2.below hB6 (by omega)
  obtain ⟨r0, r1, r2, r3, r4, r5, f0, f1, f2, f3, f4, f5⟩ := b2.c6
  have HV6 := Lib.hid (And.intro hv6 (And.intro hB6 (And.intro b2 (And.intro hgs hls))))
  clear hv6 hB6 b2 hgs hls
  go_wp2
  refine gen_set6 (M := fun V => bodyPost _ _ _ _ _ V) HV6.out.2.2.1 fun W6 b6 hg6 hz6 => ?_
  have hs6 := HV6.out.2.1.size
  have hBw := HB.out.1.trans (HV6.out.2.1.mono HB.out.1.size)
  refine ret_row rfl _ b6 rfl Tryz.underlying26 rfl size28 rfl ⟨s, HV6.out.2.2.2.1, HV6.out.2.2.2.2, _, rfl, HV6.out.1.past hg6 (fun bb hb => ?_), below_grown hBw hg6 (by omega) hBw.size⟩
  have hb : W.heap.size ≤ bb ∧ bb < w6.heap.size := by rcases hb with h | h; exact h.elim; exact h
  exact ⟨by omega, hb.2, .inr ⟨by omega, by omega⟩⟩
theorem kind_range (k : Int) : 0 ≤ (wrap64 (k.tmod 10 + 10)).tmod 10 ∧ (wrap64 (k.tmod 10 + 10)).tmod 10 < 10 := by
  have h1 := Int.tmod_lt_of_pos k (b := 10) (by decide)
  have h2 := Int.lt_tmod_of_pos k (b := 10) (by decide)
  have h3 : wrap64 (k.tmod 10 + 10) = k.tmod 10 + 10 := by
    unfold wrap64; omega
  rw [h3]
  exact ⟨Int.tmod_nonneg _ (by omega), Int.tmod_lt_of_pos _ (by decide)⟩
theorem good_intTake (neg : Bool) (l : List UInt8) : good (.int (sgn neg (beNat (l.take 40)))) := by
  have h1 : beNat (l.take 40) < 256 ^ (l.take 40).length := beNat_lt _
  have h2 : 256 ^ (l.take 40).length ≤ 256 ^ 40 := Nat.pow_le_pow_right (by decide) (by rw [List.length_take]; omega)
  have h3 : (sgn neg (beNat (l.take 40))).natAbs = beNat (l.take 40) := by cases neg <;> simp [sgn]
  show (sgn neg (beNat (l.take 40))).natAbs < 256 ^ 40
  rw [h3]; omega
theorem retG {w w' : World} {n : Nat} {e : Ending} {s : S} (h : RetN w noP s e w') (hg : good s) (hl : lev s ≤ 1) : RetG w n e w' := ⟨s, hg, by omega, h⟩
/-- Clean of a value without parts, or at the bottom. -/
theorem clean_flat (dn : Nat) (dp : Int) (k : Int) (neg : Bool) (A : Option Addr) (l : List UInt8) (c : Nat) (b : Int) (t : ByteArray) (K : Option Addr) (m d : Nat) (w : World) (hb : 0 ≤ b ∧ b < 18446744073709551616) (hlc : l.length ≤ c) (hr : Reads w w.heap.size 1 A l.length (bv l))
    (hk : (wrap64 (k.tmod 10 + 10)).tmod 10 < 6 ∨ dp ≤ 0) :
    Calls Tryz.prog 5 #[.agg #[.int .i64 k, .bool neg, .slice A l.length c, .int .u64 b, .string t, .slice K m d], .int .i64 dp] w (RetG w dn) := by
  obtain ⟨h0, h9⟩ := kind_range k
  generalize hq : (wrap64 (k.tmod 10 + 10)).tmod 10 = q at *
  by_cases q0 : q = 0 ∨ (dp ≤ 0 ∧ q = 6)
  · exact (clean_none k neg A l.length c b t K m d dp w (by rw [hq]; exact q0)).mono fun e w' h => retG h (by simp [good]) (by simp [lev])
  by_cases q1 : q = 1 ∨ (dp ≤ 0 ∧ q = 7)
  · exact (clean_bool k neg A l.length c b t K m d dp w (by rw [hq]; exact q1)).mono fun e w' ⟨q, h⟩ => retG h (by simp [good]) (by simp [lev])
  by_cases q2 : q = 2 ∨ (dp ≤ 0 ∧ q = 8)
  · exact (clean_int k neg A l.length c b t K m d dp w (by rw [hq]; exact q2) l rfl hlc hr).mono fun e w' h => retG h (good_intTake neg l) (by simp [lev])
  by_cases q3 : q = 3 ∨ (dp ≤ 0 ∧ q = 9)
  · exact (clean_float k neg A l.length c b t K m d dp w (by rw [hq]; exact q3) hb).mono fun e w' h => retG h (by simp [good]) (by simp [lev])
  by_cases q4 : q = 4
  · exact (clean_str k neg A l.length c b t K m d dp w (by rw [hq]; exact q4)).mono fun e w' ⟨_, h⟩ => retG h (by simp [good]) (by simp [lev])
  have q5 : q = 5 := by omega
  exact (clean_bytes k neg A l.length c b t K m d dp w (by rw [hq]; exact q5)).mono fun e w' ⟨_, h⟩ => retG h (by simp [good]) (by simp [lev])
theorem clean_any : ∀ n, n ≤ 100 → CleanC n
  | 0, _ => by
    intro v w h
    unfold InVal at h
    obtain ⟨k, neg, A, l, c, bits, t, K, kn, kc, rfl, _, hb, hlc, _, hr, _, _, _, _⟩ := h
    exact clean_flat 0 _ k neg A l c bits t K kn kc w hb hlc hr (.inr (by omega))
  | n + 1, hn => by
    intro v w h
    unfold InVal at h
    obtain ⟨k, neg, A, l, c, bits, t, K, kn, kc, rfl, _, hb, hlc, _, hr, hkk, hkc, _, xs, hx, hkids⟩ := h
    have ih := clean_any n (by omega)
    have hK : KidsIn w w.heap.size n kn K xs := ⟨hx, fun i u ⟨c0, c1, c2, c3, c4, c5, eu, e0, e1, e2, e3, e4, e5⟩ => by subst eu; exact hkids i c0 c1 c2 c3 c4 c5 e0 e1 e2 e3 e4 e5⟩
    have e : ((n + 1 : Nat) : Int) = (n : Int) + 1 := by omega
    have hm : kn ≤ maxLen := by omega
    rw [e]
    by_cases q : (wrap64 (k.tmod 10 + 10)).tmod 10 < 6
    · exact clean_flat (n + 1) _ k neg A l c bits t K kn kc w hb hlc hr (.inl q)
    obtain ⟨h0, h9⟩ := kind_range k
    by_cases q6 : (wrap64 (k.tmod 10 + 10)).tmod 10 = 6
    · exact clean_list n ih k neg A l.length c bits t K kn kc xs w q6 (by omega) hm hK
    by_cases q7 : (wrap64 (k.tmod 10 + 10)).tmod 10 = 7
    · exact clean_tuple n ih k neg A l.length c bits t K kn kc xs w q7 (by omega) hm hK
    by_cases q8 : (wrap64 (k.tmod 10 + 10)).tmod 10 = 8
    · exact clean_dict n ih k neg A l.length c bits t K kn kc xs w q8 (by omega) hm hK
    exact clean_set n ih k neg A l.length c bits t K kn kc xs w (by omega) (by omega) hm hK
end Go.Proofs.YtkmeckimmfbkiaaGreatDoor
