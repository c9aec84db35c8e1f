/- The reference's Clean: lists, tuples. -/
import Derived.Test.YtkmeckimmfbkiaaGreatDoorJSKey
import Derived.Test.YtkmeckimmfbkiaaGreatDoorJVMem
namespace Go.Proofs.YtkmeckimmfbkiaaGreatDoor
open Go Go.RowKit
def RetG (w : World) (n : Nat) (e : Ending) (w' : World) : Prop := ∃ s, good s ∧ lev s ≤ n + 1 ∧ RetN w noP s e w'
/-- What Clean does at a depth. -/
def CleanC (n : Nat) : Prop := ∀ (v : Value) (w : World), InVal w w.heap.size n v → Calls Tryz.prog 5 #[v, .int .i64 (n : Int)] w (RetG w n)
/-- The kids of a value that came in. -/
def KidsIn (w : World) (B n m : Nat) (K : Option Addr) (xs : List Value) : Prop := Reads w B 6 K m xs ∧ ∀ i u, RowV xs i u → InVal w B n u
theorem KidsIn.below {w w' : World} {B n m : Nat} {K : Option Addr} {xs : List Value} (h : KidsIn w B n m K xs) (hb : Below B w w') : KidsIn w' B n m K xs := ⟨h.1.below hb, fun i u hu => (h.2 i u hu).below hb⟩
theorem VN.bs {w w' : World} {P' : Nat → Prop} {s : S} {v : Value} {lo : Nat} (h : VN w (fun b => noP b ∨ (lo ≤ b ∧ b < w.heap.size)) s v) (hb : Below w.heap.size w w') (hP : ∀ b, lo ≤ b → b < w.heap.size → P' b) : VN w' P' s v :=
  VN.keep (fun p hp => hb.cell (by rcases hp with h | h; exact h.elim; exact h.2)) (fun b hp => by rcases hp with h | h; exact h.elim; exact hP b h.1 h.2) s v h
/-- A value filled so is handed back. -/
theorem OutI.ret {W wr w W6 : World} {gO gR : Nat} {kd : Int} {l : List S} {n : Nat} {K : Option Addr} {c : Nat} {xs : List Value} (h : OutI W gO kd noP l n wr K c xs) (hg : wr.grownBy W6 (some gR)) (hgR : gR ≤ gO) (hlo : w.heap.size ≤ gO) :
    n ≤ c ∧ RN W6 (fun b => noP b ∨ (w.heap.size ≤ b ∧ b < W6.heap.size)) 6 K n xs ∧ KN W6 (fun b => noP b ∨ (w.heap.size ≤ b ∧ b < W6.heap.size)) l xs := by
  obtain ⟨hc, hRN, hKN⟩ := h.rn
  have hs := hg.size
  have hcell : ∀ p : Addr, (noP p.block ∨ (gO < p.block ∧ p.block < wr.heap.size)) → W6.cell? p = wr.cell? p := fun p hp => World.cell?_of_block (hg.block p.block (by rcases hp with h | h; exact h.elim; exact h.2) (fun e => by injection e with e; rcases hp with h | h; exact h.elim; omega))
  have hbl : ∀ b, (noP b ∨ (gO < b ∧ b < wr.heap.size)) → (noP b ∨ (w.heap.size ≤ b ∧ b < W6.heap.size)) := fun b hb => by
    rcases hb with h | h
    · exact h.elim
    · exact .inr ⟨by omega, by omega⟩
  exact ⟨hc, hRN.keep hcell hbl, KN.keep hcell hbl _ _ hKN⟩
set_option maxRecDepth 10000 in
set_option maxHeartbeats 8000000 in
theorem clean_list (dn : Nat) (ih : CleanC dn) (k : Int) (neg : Bool) (A : Option Addr) (n c : Nat) (b : Int) (t : ByteArray) (K : Option Addr) (m d : Nat) (xs : List Value) (w : World) (hk : (wrap64 (k.tmod 10 + 10)).tmod 10 = 6) (hdn : dn ≤ 100) (hm : m ≤ maxLen) (hx : KidsIn w w.heap.size dn m K xs) :
    Calls Tryz.prog 5 #[.agg #[.int .i64 k, .bool neg, .slice A n c, .int .u64 b, .string t, .slice K m d], .int .i64 ((dn : Int) + 1)] w (RetG w (dn + 1)) := by
  have HX := Lib.hid (And.intro hx ih)
  have hw : IntKind.i64.wrap ((dn : Int) + 1 - 1) = (dn : Int) := by rw [IntKind.wrap_i64]; omega
  have hw2 : IntKind.i64.wrap (dn : Int) = (dn : Int) := by rw [IntKind.wrap_i64]; omega
  have hdp : ¬ (dn : Int) + 1 ≤ 0 := by omega
  obtain ⟨iV, hi, hz, hs, hby⟩ := info_parts infoVal
  have HI := Lib.hid (And.intro hi (And.intro hz (And.intro hs hby)))
  have hm2 : m ≤ 9223372036854775807 := by unfold maxLen at hm; omega
  clear hx ih hi hz hs hby hm
  go_enter Tryz.func5, Tryz.ntmps5
  go_wp2_with fail
  refine gen3 (M := fun W => Code.wp _ _ _ _ W) fun W hB b1 b2 b3 hz => ?_
  have hz1 : w.heap.size + 1 + 1 < W.heap.size := by omega
  clear hz
  have HB := Lib.hid (And.intro hB (And.intro b1 (And.intro b2 b3)))
  clear hB b1 b2 b3
  go_loopw [7] (fun vi wr => ∃ (i : Nat) (l : List S) (K' : Option Addr) (c' : Nat) (ys : List Value), vi = .int .i64 i ∧ i ≤ m ∧ i ≤ 8 ∧ OutI W (w.heap.size + 1 + 1) _ noP l i wr K' c' ys ∧ goodL l ∧ levL l ≤ dn + 1) (fun vi _ => 8 - (intOf vi).toNat)
  case atStart => exact ⟨0, [], none, 0, [], rfl, by omega, by omega, OutI.start HB.out.2.2.2 (Below.refl _ _), trivial, by simp [levL]⟩
  case round =>
    obtain ⟨i, l, K', c', ys, rfl, hi, hi8, hO, hgd, hlv⟩ := hrel
    have hBW := hO.2.2.2.2
    obtain ⟨x0, x1, x2, x3, x4, x5, _, _, _, _, _, _⟩ := (HB.out.2.1.below hBW (by omega)).c6
    obtain ⟨y0, y1, y2, y3, y4, y5, _, _, _, _, _, _⟩ := hO.2.1.c6
    have HO := Lib.hid (And.intro hO (And.intro hgd hlv))
    have hBw := HB.out.1.trans (hBW.mono (by omega))
    clear hgd hlv
    by_cases hlt : i < m ∧ i < 8
    · obtain ⟨hlt, hlt8⟩ := hlt
      have bi : (i : Int) < (m : Int) := by omega
      have bi8 : (i : Int) < 8 := by omega
      have wi : IntKind.i64.wrap ((i : Int) + 1) = (i : Int) + 1 := by rw [IntKind.wrap_i64]; omega
      obtain ⟨ad, p0, p1, p2, p3, p4, p5, rfl, had, hrow, hsix⟩ := HX.out.1.1.six2 hlt
      have HC := Lib.hid (HX.out.2 _ wr.drew (((HX.out.1.2 i _ hrow).below hBw.drew).more hBw.drew.size))
      obtain ⟨g0, g1, g2, g3, g4, g5⟩ := hsix.below hBw had
      have hgl := hO.2.1.lt
      clear hsix hBw hBW hrow hO
      go_wp2_with fail
      go_region_law (first
        | (refine step_append_any _ rfl (.tmp 76) (.tmp 85) 24 rfl (w.heap.size + 1 + 1 + 1) 26 iV _ 6 88 Tryz.underlying24 HI.out.1 HI.out.2.1 HI.out.2.2.1 HI.out.2.2.2 rfl (by decide) (.slice K' i c') i ys rfl HW5.out _ _ 1 1 _ rfl (reads_new w5 _ _ _ _ _ _) (by simp [Value.oneCell']) (by unfold maxLen; omega) (by omega) (by simp; omega) ?_
           intro v7 w7 ho7 hg7 hr7
           obtain ⟨K7, c7, rfl, hc7, _, _⟩ := own_slice ho7
           have b7 := HB5.out.2.grown hg7 HO.out.1.ne
           obtain ⟨y0, y1, y2, y3, y4, y5, f0, f1, f2, f3, f4, f5⟩ := b7.c6
           have H7 := Lib.hid (And.intro ho7 (And.intro hg7 hr7))
           clear ho7 hg7 hr7 hc7 b7)
        | (go_simp; go_at_call 5; refine HC.out.mono ?_
           rintro e w5 ⟨s5, hgd5, hlv5, v5, rfl, hv5, hB5⟩
           have hv5 : VN w5 (fun b => noP b ∨ (wr.heap.size ≤ b ∧ b < w5.heap.size)) s5 v5 := hv5
           have hB5 : Below wr.heap.size wr w5 := ⟨hB5.os, hB5.tape, hB5.output, hB5.size, hB5.block⟩
           obtain ⟨ng5, A5, n5, c5, bb5, tt5, K5, m5, d5, rfl⟩ := hv5.six
           generalize kindN s5 = kd5 at hv5 ⊢
           have b5 := HO.out.1.2.1.below hB5 hgl
           obtain ⟨y0, y1, y2, y3, y4, y5, _, _, _, _, _, _⟩ := b5.c6
           have b5a := b5.alloc (.cells #[.int .i64 kd5, .bool ng5, .slice A5 n5 c5, .int .u64 bb5, .string tt5, .slice K5 m5 d5] 26)
           obtain ⟨_, _, _, _, _, y5a, _, _, _, _, _, _⟩ := b5a.c6
           have HW5 := Lib.hid ((own_below HO.out.1.2.2.1 hB5).alloc (.cells #[.int .i64 kd5, .bool ng5, .slice A5 n5 c5, .int .u64 bb5, .string tt5, .slice K5 m5 d5] 26))
           have hs5 := hB5.size
           have HB5 := Lib.hid (And.intro (And.intro hB5 (And.intro hv5 (And.intro hgd5 hlv5))) b5a)
           clear hv5 hB5 b5 b5a hgd5 hlv5))
      all_goals
        go_wp2
        exact ⟨⟨i + 1, l ++ [s5], K7, c7, _, by go_num, by omega, by omega, OutI.push HO.out.1 (fun b hb => hb.elim) HB5.out.1.1 (KN.one HB5.out.1.2.1) rfl H7.out.2.1 H7.out.1 H7.out.2.2, goodL_snoc l s5 HO.out.2.1 HB5.out.1.2.2.1, levL_snoc l s5 _ HO.out.2.2 HB5.out.1.2.2.2⟩, by simp only [intOf]; omega⟩
    · have hr := HB.out.2.2.1.below hBW (by omega)
      obtain ⟨r0, r1, r2, r3, r4, r5, f0, f1, f2, f3, f4, f5⟩ := hr.c6
      have HR := Lib.hid (And.intro hr hBw)
      clear hr hBW hO hBw
      rcases Nat.lt_or_ge i m with h1 | h1
      · have bi : (i : Int) < (m : Int) := by omega
        have bi8 : ¬ (i : Int) < 8 := by omega
        go_wp2
        refine gen_set6 (M := fun V => bodyPost _ _ _ _ _ V) HR.out.1 fun W6 b6 hg6 hz6 => ?_
        obtain ⟨hc', hRN, hKN⟩ := OutI.ret (w := w) HO.out.1 hg6 (by omega) (by omega)
        have hll := HO.out.1.1
        exact ret_row rfl _ b6 rfl Tryz.underlying26 rfl size28 rfl ⟨.list l, ⟨by omega, HO.out.2.1⟩, by simp only [lev]; have := HO.out.2.2; omega, _, rfl, by simp only [VN]; exact ⟨K', c', ys, by rw [hll]; rfl, by omega, by omega, by rw [hll]; exact hRN, hKN⟩, below_grown HR.out.2 hg6 (by omega) HR.out.2.size⟩
      · have bi : ¬ (i : Int) < (m : Int) := by omega
        go_wp2
        refine gen_set6 (M := fun V => bodyPost _ _ _ _ _ V) HR.out.1 fun W6 b6 hg6 hz6 => ?_
        obtain ⟨hc', hRN, hKN⟩ := OutI.ret (w := w) HO.out.1 hg6 (by omega) (by omega)
        have hll := HO.out.1.1
        exact ret_row rfl _ b6 rfl Tryz.underlying26 rfl size28 rfl ⟨.list l, ⟨by omega, HO.out.2.1⟩, by simp only [lev]; have := HO.out.2.2; omega, _, rfl, by simp only [VN]; exact ⟨K', c', ys, by rw [hll]; rfl, by omega, by omega, by rw [hll]; exact hRN, hKN⟩, below_grown HR.out.2 hg6 (by omega) HR.out.2.size⟩
set_option maxRecDepth 10000 in
set_option maxHeartbeats 8000000 in
theorem clean_tuple (dn : Nat) (ih : CleanC dn) (k : Int) (neg : Bool) (A : Option Addr) (n c : Nat) (b : Int) (t : ByteArray) (K : Option Addr) (m d : Nat) (xs : List Value) (w : World) (hk : (wrap64 (k.tmod 10 + 10)).tmod 10 = 7) (hdn : dn ≤ 100) (hm : m ≤ maxLen) (hx : KidsIn w w.heap.size dn m K xs) :
    Calls Tryz.prog 5 #[.agg #[.int .i64 k, .bool neg, .slice A n c, .int .u64 b, .string t, .slice K m d], .int .i64 ((dn : Int) + 1)] w (RetG w (dn + 1)) := by
  have HX := Lib.hid (And.intro hx ih)
  have hw : IntKind.i64.wrap ((dn : Int) + 1 - 1) = (dn : Int) := by rw [IntKind.wrap_i64]; omega
  have hw2 : IntKind.i64.wrap (dn : Int) = (dn : Int) := by rw [IntKind.wrap_i64]; omega
  have hdp : ¬ (dn : Int) + 1 ≤ 0 := by omega
  obtain ⟨iV, hi, hz, hs, hby⟩ := info_parts infoVal
  have HI := Lib.hid (And.intro hi (And.intro hz (And.intro hs hby)))
  have hm2 : m ≤ 9223372036854775807 := by unfold maxLen at hm; omega
  clear hx ih hi hz hs hby hm
  go_enter Tryz.func5, Tryz.ntmps5
  go_wp2_with fail
  refine gen3 (M := fun W => Code.wp _ _ _ _ W) fun W hB b1 b2 b3 hz => ?_
  have hz1 : w.heap.size + 1 + 1 < W.heap.size := by omega
  clear hz
  have HB := Lib.hid (And.intro hB (And.intro b1 (And.intro b2 b3)))
  clear hB b1 b2 b3
  go_loopw [7] (fun vi wr => ∃ (i : Nat) (l : List S) (K' : Option Addr) (c' : Nat) (ys : List Value), vi = .int .i64 i ∧ i ≤ m ∧ i ≤ 8 ∧ OutI W (w.heap.size + 1 + 1) _ noP l i wr K' c' ys ∧ goodL l ∧ levL l ≤ dn + 1) (fun vi _ => 8 - (intOf vi).toNat)
  case atStart => exact ⟨0, [], none, 0, [], rfl, by omega, by omega, OutI.start HB.out.2.2.2 (Below.refl _ _), trivial, by simp [levL]⟩
  case round =>
    obtain ⟨i, l, K', c', ys, rfl, hi, hi8, hO, hgd, hlv⟩ := hrel
    have hBW := hO.2.2.2.2
    obtain ⟨x0, x1, x2, x3, x4, x5, _, _, _, _, _, _⟩ := (HB.out.2.1.below hBW (by omega)).c6
    obtain ⟨y0, y1, y2, y3, y4, y5, _, _, _, _, _, _⟩ := hO.2.1.c6
    have HO := Lib.hid (And.intro hO (And.intro hgd hlv))
    have hBw := HB.out.1.trans (hBW.mono (by omega))
    clear hgd hlv
    by_cases hlt : i < m ∧ i < 8
    · obtain ⟨hlt, hlt8⟩ := hlt
      have bi : (i : Int) < (m : Int) := by omega
      have bi8 : (i : Int) < 8 := by omega
      have wi : IntKind.i64.wrap ((i : Int) + 1) = (i : Int) + 1 := by rw [IntKind.wrap_i64]; omega
      obtain ⟨ad, p0, p1, p2, p3, p4, p5, rfl, had, hrow, hsix⟩ := HX.out.1.1.six2 hlt
      have HC := Lib.hid (HX.out.2 _ wr.drew (((HX.out.1.2 i _ hrow).below hBw.drew).more hBw.drew.size))
      obtain ⟨g0, g1, g2, g3, g4, g5⟩ := hsix.below hBw had
      have hgl := hO.2.1.lt
      clear hsix hBw hBW hrow hO
      go_wp2_with fail
      go_region_law (first
        | (refine step_append_any _ rfl (.tmp 76) (.tmp 85) 24 rfl (w.heap.size + 1 + 1 + 1) 26 iV _ 6 88 Tryz.underlying24 HI.out.1 HI.out.2.1 HI.out.2.2.1 HI.out.2.2.2 rfl (by decide) (.slice K' i c') i ys rfl HW5.out _ _ 1 1 _ rfl (reads_new w5 _ _ _ _ _ _) (by simp [Value.oneCell']) (by unfold maxLen; omega) (by omega) (by simp; omega) ?_
           intro v7 w7 ho7 hg7 hr7
           obtain ⟨K7, c7, rfl, hc7, _, _⟩ := own_slice ho7
           have b7 := HB5.out.2.grown hg7 HO.out.1.ne
           obtain ⟨y0, y1, y2, y3, y4, y5, f0, f1, f2, f3, f4, f5⟩ := b7.c6
           have H7 := Lib.hid (And.intro ho7 (And.intro hg7 hr7))
           clear ho7 hg7 hr7 hc7 b7)
        | (go_simp; go_at_call 5; refine HC.out.mono ?_
           rintro e w5 ⟨s5, hgd5, hlv5, v5, rfl, hv5, hB5⟩
           have hv5 : VN w5 (fun b => noP b ∨ (wr.heap.size ≤ b ∧ b < w5.heap.size)) s5 v5 := hv5
           have hB5 : Below wr.heap.size wr w5 := ⟨hB5.os, hB5.tape, hB5.output, hB5.size, hB5.block⟩
           obtain ⟨ng5, A5, n5, c5, bb5, tt5, K5, m5, d5, rfl⟩ := hv5.six
           generalize kindN s5 = kd5 at hv5 ⊢
           have b5 := HO.out.1.2.1.below hB5 hgl
           obtain ⟨y0, y1, y2, y3, y4, y5, _, _, _, _, _, _⟩ := b5.c6
           have b5a := b5.alloc (.cells #[.int .i64 kd5, .bool ng5, .slice A5 n5 c5, .int .u64 bb5, .string tt5, .slice K5 m5 d5] 26)
           obtain ⟨_, _, _, _, _, y5a, _, _, _, _, _, _⟩ := b5a.c6
           have HW5 := Lib.hid ((own_below HO.out.1.2.2.1 hB5).alloc (.cells #[.int .i64 kd5, .bool ng5, .slice A5 n5 c5, .int .u64 bb5, .string tt5, .slice K5 m5 d5] 26))
           have hs5 := hB5.size
           have HB5 := Lib.hid (And.intro (And.intro hB5 (And.intro hv5 (And.intro hgd5 hlv5))) b5a)
           clear hv5 hB5 b5 b5a hgd5 hlv5))
      all_goals
        go_wp2
        exact ⟨⟨i + 1, l ++ [s5], K7, c7, _, by go_num, by omega, by omega, OutI.push HO.out.1 (fun b hb => hb.elim) HB5.out.1.1 (KN.one HB5.out.1.2.1) rfl H7.out.2.1 H7.out.1 H7.out.2.2, goodL_snoc l s5 HO.out.2.1 HB5.out.1.2.2.1, levL_snoc l s5 _ HO.out.2.2 HB5.out.1.2.2.2⟩, by simp only [intOf]; omega⟩
    · have hr := HB.out.2.2.1.below hBW (by omega)
      obtain ⟨r0, r1, r2, r3, r4, r5, f0, f1, f2, f3, f4, f5⟩ := hr.c6
      have HR := Lib.hid (And.intro hr hBw)
      clear hr hBW hO hBw
      rcases Nat.lt_or_ge i m with h1 | h1
      · have bi : (i : Int) < (m : Int) := by omega
        have bi8 : ¬ (i : Int) < 8 := by omega
        go_wp2
        refine gen_set6 (M := fun V => bodyPost _ _ _ _ _ V) HR.out.1 fun W6 b6 hg6 hz6 => ?_
        obtain ⟨hc', hRN, hKN⟩ := OutI.ret (w := w) HO.out.1 hg6 (by omega) (by omega)
        have hll := HO.out.1.1
        exact ret_row rfl _ b6 rfl Tryz.underlying26 rfl size28 rfl ⟨.tuple l, ⟨by omega, HO.out.2.1⟩, by simp only [lev]; have := HO.out.2.2; omega, _, rfl, by simp only [VN]; exact ⟨K', c', ys, by rw [hll]; rfl, by omega, by omega, by rw [hll]; exact hRN, hKN⟩, below_grown HR.out.2 hg6 (by omega) HR.out.2.size⟩
      · have bi : ¬ (i : Int) < (m : Int) := by omega
        go_wp2
        refine gen_set6 (M := fun V => bodyPost _ _ _ _ _ V) HR.out.1 fun W6 b6 hg6 hz6 => ?_
        obtain ⟨hc', hRN, hKN⟩ := OutI.ret (w := w) HO.out.1 hg6 (by omega) (by omega)
        have hll := HO.out.1.1
        exact ret_row rfl _ b6 rfl Tryz.underlying26 rfl size28 rfl ⟨.tuple l, ⟨by omega, HO.out.2.1⟩, by simp only [lev]; have := HO.out.2.2; omega, _, rfl, by simp only [VN]; exact ⟨K', c', ys, by rw [hll]; rfl, by omega, by omega, by rw [hll]; exact hRN, hKN⟩, below_grown HR.out.2 hg6 (by omega) HR.out.2.size⟩
end Go.Proofs.YtkmeckimmfbkiaaGreatDoor
