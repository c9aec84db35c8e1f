/- The reference's whole part of a float, and its comparisons of integers with floats. Conditions: none. -/
import Derived.Test.YtkmeckimmfbkiaaGreatDoorJSMul
import Derived.Test.YtkmeckimmfbkiaaGreatDoorJVMem
namespace Go.Proofs.YtkmeckimmfbkiaaGreatDoor
open Go Go.RowKit
/-- The eight bytes of a word, and how many are laid down. -/
def by8 (u j : Nat) : List UInt8 := List.replicate (8 - j) 0 ++ (List.range j).reverse.map fun i => UInt8.ofNat (u / 256 ^ i % 256)
theorem by8_step (u j : Nat) (hj : j < 8) : (by8 u j).set (7 - j) (UInt8.ofNat (u / 256 ^ j % 256)) = by8 u (j + 1) := by
  unfold by8
  have e : 8 - j = (8 - (j + 1)) + 1 := by omega
  rw [e, List.replicate_succ', List.append_assoc, List.set_append_right _ _ (by simp), List.range_succ]
  simp only [List.length_replicate, List.reverse_append, List.reverse_cons, List.reverse_nil, List.nil_append, List.singleton_append, List.map_cons]
  rw [show 7 - j - (8 - (j + 1)) = 0 by omega]
  rfl
theorem be_low (u : Nat) : ∀ j : Nat, beNat ((List.range j).reverse.map fun i => UInt8.ofNat (u / 256 ^ i % 256)) = u % 256 ^ j
  | 0 => by simp [be_nil, Nat.mod_one]
  | j + 1 => by
    rw [List.range_succ, List.reverse_append, List.reverse_cons, List.reverse_nil, List.nil_append, List.singleton_append, List.map_cons, beNat_cons, be_low u j]
    simp only [List.length_map, List.length_reverse, List.length_range]
    have e : (UInt8.ofNat (u / 256 ^ j % 256)).toNat = u / 256 ^ j % 256 := by rw [UInt8.toNat_ofNat']; omega
    rw [e, Nat.mod_pow_succ, Nat.mul_comm]
    omega
theorem by8_val (u : Nat) (hu : u < 18446744073709551616) : beNat (by8 u 8) = u := by
  unfold by8
  rw [beNat_append, be_zeros, be_low, Nat.zero_mul, Nat.zero_add]
  exact Nat.mod_eq_of_lt hu
set_option maxRecDepth 10000 in
set_option maxHeartbeats 400000 in
theorem bytesOf_any (u : Nat) (w : World) (hu : u < 18446744073709551616) :
    Calls Tryz.prog 50 #[.int .u64 u] w fun e w' => e = .returned (.slice (some ⟨w.heap.size, 0, none⟩) 8 8) ∧ Blk w' w.heap.size 5 (bv (by8 u 8)).toArray ∧ Below w.heap.size w w' := by
  have HM : ∀ W : World, (Instr.makeSlice 22 (.int .i64 8) (.int .i64 8)).run Tryz.prog W = .ok (.slice (some ⟨W.heap.size, 0, none⟩) 8 8) (W.alloc (.cells (bv (List.replicate 8 0)).toArray 5)) := fun W => by
    obtain ⟨i5, hi5, hz5, hs5, hby5⟩ := info_parts info5
    have h := run_make_rowN (P := Tryz.prog) 22 5 i5 (.int .u8 0) Tryz.underlying22 hi5 hz5 .i64 .i64 8 8 (Nat.le_refl _) (by rw [hby5]; omega) (by omega) W
    rw [hs5, Nat.mul_one, made_bv] at h
    exact h
  generalize hcs : (bv (List.replicate 8 0)).toArray = cs at HM
  go_enter Tryz.func50, Tryz.ntmps50
  go_wp2_with fail
  go_loopw [0, 4] (fun vu vi wr => ∃ j : Nat, vu = .int .u64 ((u / 256 ^ j : Nat) : Int) ∧ ((∃ t : Nat, j + t = 7 ∧ vi = .int .i64 (t : Int)) ∨ (j = 8 ∧ vi = .int .i64 (-1))) ∧ Blk wr w.heap.size 5 (bv (by8 u j)).toArray ∧ Below w.heap.size w wr) (fun _ vi _ => (intOf vi + 1).toNat)
  case atStart => exact ⟨0, by simp, .inl ⟨7, rfl, rfl⟩, by rw [show by8 u 0 = List.replicate 8 0 from rfl, hcs]; exact Blk.new _ _ _, (Below.refl _ _).alloc (Nat.le_refl _) _⟩
  case round =>
    obtain ⟨j, rfl, hi, hb, hB⟩ := hrel
    have HB := Lib.hid (And.intro hb hB)
    rcases hi with ⟨t, hjt, rfl⟩ | ⟨rfl, rfl⟩
    · have hlen : (by8 u j).length = 8 := by simp [by8]; omega
      obtain ⟨b0, q1⟩ : ∃ b0, wr.cell? ⟨w.heap.size, t, none⟩ = some (.int .u8 b0) := by
        have h := hb.cell t
        rw [List.getElem?_toArray, bv_get _ _ (by rw [hlen]; omega)] at h
        exact ⟨_, h⟩
      have q2 := hb.frozen t
      obtain ⟨x, hx⟩ : ∃ x, x = u / 256 ^ j := ⟨_, rfl⟩
      have hxu : x < 18446744073709551616 := by rw [hx]; exact Nat.lt_of_le_of_lt (Nat.div_le_self _ _) hu
      have hx2 : u / 256 ^ (j + 1) = x / 256 := by rw [hx, Nat.pow_succ, Nat.div_div_eq_div_mul]
      have hfin : Hid (Blk (wr.setCell ⟨w.heap.size, t, none⟩ (.int .u8 ((x : Int) % 256))) w.heap.size 5 (bv (by8 u (j + 1))).toArray ∧ Below w.heap.size w (wr.setCell ⟨w.heap.size, t, none⟩ (.int .u8 ((x : Int) % 256)))) := by
        refine Lib.hid ⟨?_, hB.setCell (Nat.le_refl _) _⟩
        have h := hb.bvSet t (UInt8.ofNat (x % 256))
        have e5 : ((UInt8.ofNat (x % 256)).toNat : Int) = (x : Int) % 256 := by rw [UInt8.toNat_ofNat']; omega
        have e6 : t = 7 - j := by omega
        rw [e5] at h
        rw [e6] at h ⊢
        rw [hx, by8_step u j (by omega), ← hx] at h
        exact h
      rw [← hx]
      have hj7 : j ≤ 7 := by omega
      have g1 : (t : Int) < 8 := by omega
      clear hb hB hlen hx
      rcases Nat.eq_zero_or_pos t with ht | ht
      · subst ht
        go_wp2
        refine ⟨⟨j + 1, by rw [hx2]; exact congrArg (Value.int .u64) (by push_cast; rfl), .inr ⟨by omega, rfl⟩, hfin.out⟩, by simp [intOf]⟩
      · obtain ⟨t', rfl⟩ : ∃ t', t = t' + 1 := ⟨t - 1, by omega⟩
        have e1 : IntKind.i64.wrap (((t' + 1 : Nat) : Int) - 1) = (t' : Int) := by rw [IntKind.wrap_i64]; omega
        go_wp2
        refine ⟨⟨j + 1, by rw [hx2]; exact congrArg (Value.int .u64) (by push_cast; rfl), .inl ⟨t', by omega, by go_num⟩, hfin.out⟩, by simp only [intOf]; omega⟩
    · have HB := Lib.hid HB.out
      clear hb hB
      go_wp2
      go_ret
      exact ⟨rfl, HB.out.1, HB.out.2⟩
set_option maxRecDepth 10000 in
set_option maxHeartbeats 400000 in
theorem floatParts_any (b : Nat) (hb : b < 2 ^ 64) (w : World) :
    Calls Tryz.prog 92 #[.float .f64 b] w fun e w' => e = .returned (.tuple #[.bool (decide (2 ^ 63 ≤ b)), .int .u64 ((Fl.mOf (b % 2 ^ 63) : Nat) : Int), .int .i64 ((Fl.pOf (b % 2 ^ 63) : Int) - 1074)]) ∧ w' = w := by
  obtain ⟨r, hr⟩ : ∃ r, r = b % 2 ^ 63 := ⟨_, rfl⟩
  obtain ⟨E, hE⟩ : ∃ E, E = r / 2 ^ 52 := ⟨_, rfl⟩
  rw [← hr]
  have hEl : E < 2048 := by omega
  have F2 : wrap64 (bits .and .u64 ((b : Int) / 4503599627370496) 2047) = (E : Int) := by
    have h := u64_and_nat (b / 4503599627370496) 2047 (by omega) (by decide)
    rw [show 2047 = 2 ^ 11 - 1 from rfl, Nat.and_two_pow_sub_one_eq_mod] at h
    have e : ((b / 4503599627370496 : Nat) : Int) = (b : Int) / 4503599627370496 := by omega
    rw [e] at h
    rw [show (2047 : Int) = ((2 ^ 11 - 1 : Nat) : Int) from rfl, h]
    have : b / 4503599627370496 % 2 ^ 11 = E := by omega
    rw [this]
    unfold wrap64
    omega
  have F3 : bits .and .u64 (b : Int) 4503599627370495 = ((b % 2 ^ 52 : Nat) : Int) := by
    have h := u64_and_nat b 4503599627370495 (by omega) (by decide)
    rw [show 4503599627370495 = 2 ^ 52 - 1 from rfl, Nat.and_two_pow_sub_one_eq_mod] at h
    exact h
  have F4 : bits .or .u64 ((b % 2 ^ 52 : Nat) : Int) 4503599627370496 = ((2 ^ 52 + b % 2 ^ 52 : Nat) : Int) := by
    have h := u64_or_nat (b % 2 ^ 52) (2 ^ 52) (by omega) (by decide)
    rw [Nat.or_comm, ← Nat.two_pow_add_eq_or_of_lt (i := 52) (by omega) 1] at h
    simpa using h
  have F5 : ((b : Int) / 9223372036854775808 == 1) = decide (2 ^ 63 ≤ b) := by
    rw [Bool.eq_iff_iff]
    simp only [beq_iff_eq, decide_eq_true_eq]
    omega
  have H1 := fun w => mbits_run b w
  have hm : E = 0 → Fl.mOf r = b % 2 ^ 52 ∧ Fl.pOf r = 0 := fun h => by
    unfold Fl.mOf Fl.pOf
    rw [if_pos (by omega), if_pos (by omega)]
    omega
  have hp : 0 < E → Fl.mOf r = 2 ^ 52 + b % 2 ^ 52 ∧ Fl.pOf r + 1 = E := fun h => by
    unfold Fl.mOf Fl.pOf
    rw [if_neg (by omega), if_neg (by omega)]
    omega
  generalize Fl.mOf r = M at hm hp ⊢
  generalize Fl.pOf r = p at hm hp ⊢
  clear hr hE
  generalize b % 2 ^ 52 = q at *
  generalize decide (2 ^ 63 ≤ b) = neg at *
  rcases Nat.eq_zero_or_pos E with h0 | h0
  · obtain ⟨rfl, rfl⟩ := hm h0
    have HF := Lib.hid hb
    subst h0
    clear hp hm hb F4 hEl
    go_enter Tryz.func92, Tryz.ntmps92
    go_wp2_with (simp only [F2])
    go_ret3
    exact ⟨rfl, rfl⟩
  · obtain ⟨rfl, h2⟩ := hp h0
    have G1 : wrap64 ((E : Int) - 1075) = (p : Int) - 1074 := by unfold wrap64; omega
    have G2 : ((E : Int) == 0) = false := by rw [beq_eq_false_iff_ne]; omega
    clear hp hm hb h2 h0 hEl
    generalize 2 ^ 52 + q = s at F4 ⊢
    go_enter Tryz.func92, Tryz.ntmps92
    go_wp2_with (simp only [F2, G1])
    go_ret3
    exact ⟨rfl, rfl⟩
/-- The integer of a word. -/
theorem of_word (neg : Bool) (u : Nat) (w : World) (hu : u < 18446744073709551616) (w1 : World) (hb : Blk w1 w.heap.size 5 (bv (by8 u 8)).toArray) :
    Calls Tryz.prog 12 #[.bool neg, .slice (some ⟨w.heap.size, 0, none⟩) 8 8] w1 (OwnsSI w1 (sgn neg u) 8) := by
  have hl : (by8 u 8).length = 8 := by simp [by8]
  have h := of_si neg (by8 u 8) (some ⟨w.heap.size, 0, none⟩) 8 8 w1 hl (by omega) (Nat.le_refl _) (reads_bytes hl hb)
  rw [by8_val u hu] at h
  exact h
end Go.Proofs.YtkmeckimmfbkiaaGreatDoor
namespace Go.Proofs.YtkmeckimmfbkiaaGreatDoor
open Go Go.RowKit
theorem ret_row_tmp {P : Program} {fn : Func} {R : Ending → World → Prop} {a : Act} {w : World} {p q : Tmp} {ty : TypeId} {v : Value} (h : fn.results = #[.cell p ty, .tmp q]) {g : Nat} {t : TypeId} {cs : Array Value} (d : TypeDesc) (hb : Blk w g t cs)
    (hp : a.tmps.getD p undef = .pointer (some ⟨g, 0, none⟩)) (hq : a.tmps.getD q undef = v)
    (hu : P.underlying ty = some d) (hd : (match d with | .struct _ | .array _ _ => true | _ => false) = true) (hi : (P.info? ty).map (·.size) = some cs.size) (hdf : a.defers = [])
    (hR : R (.returned (.tuple #[.agg cs, v])) w) : bodyPost P fn R .ret a w := by
  refine bodyPost_ret ?_ hdf hR
  have hp : a.tmps[p]?.getD undef = .pointer (some ⟨g, 0, none⟩) := by simpa using hp
  have hq : a.tmps[q]?.getD undef = v := by simpa using hq
  simp [results, h, hp, hq, asAddr, run_loadVar_row w g t ty cs (0, 0) d hb hu hd hi]
theorem gen_set2a {M : World → Prop} {w : World} {g : Nat} {t : TypeId} {x0 x1 y0 y1 : Value} {o : Obj} (hb : Blk w g t #[x0, x1])
    (h : ∀ W : World, Blk W g t #[y0, y1] → w.grownBy W (some g) → w.heap.size ≤ W.heap.size → M W) : M (((w.setCell ⟨g, 0, none⟩ y0).setCell ⟨g, 1, none⟩ y1).alloc o) := by
  have hg : w.grownBy ((w.setCell ⟨g, 0, none⟩ y0).setCell ⟨g, 1, none⟩ y1) (some g) := grown_set (grown_set (World.grownBy.refl w (some g)) y0) y1
  have hb2 : Blk ((w.setCell ⟨g, 0, none⟩ y0).setCell ⟨g, 1, none⟩ y1) g t #[y0, y1] := by simpa using ((hb.set_ 0 y0).set_ 1 y1)
  exact h _ (hb2.alloc _) ⟨hg.os, hg.tape, hg.output, by have := hg.size; simp, fun k hk hne => (Below.heap_alloc _ o k (by have := hg.size; omega)).trans (hg.block k hk hne)⟩ (by simp)
theorem mask (m k : Nat) (hm : m < 18446744073709551616) (hk : k ≤ 63) : bits .and .u64 (m : Int) (IntKind.u64.wrap (IntKind.u64.wrap (2 ^ k) - 1)) = ((m % 2 ^ k : Nat) : Int) := by
  have hp2 : 2 ^ k ≤ 2 ^ 63 := Nat.pow_le_pow_right (by decide) hk
  have hp1 : 0 < 2 ^ k := Nat.pow_pos (by decide)
  have h2 : ((2 : Int) ^ k) = ((2 ^ k : Nat) : Int) := by rw [Int.natCast_pow]; rfl
  rw [h2, ← Nat.and_two_pow_sub_one_eq_mod]
  generalize 2 ^ k = q at *
  have w1 : IntKind.u64.wrap (q : Int) = (q : Int) := by rw [IntKind.wrap_u64]; omega
  have w2 : IntKind.u64.wrap ((q : Int) - 1) = ((q - 1 : Nat) : Int) := by rw [IntKind.wrap_u64]; omega
  rw [w1, w2]
  exact u64_and_nat m (q - 1) hm (by omega)
theorem shrN (m k : Nat) : (m : Int) / 2 ^ k = ((m / 2 ^ k : Nat) : Int) := by
  have h2 : ((2 : Int) ^ k) = ((2 ^ k : Nat) : Int) := by rw [Int.natCast_pow]; rfl
  rw [h2]; rfl
theorem sgn_mulN (n : Bool) (a b : Nat) : sgn n (a * b) = sgn n a * (b : Int) := by cases n <;> simp [sgn, Int.neg_mul]
theorem sgn_zero (n : Bool) : sgn n 0 = 0 := by cases n <;> rfl
set_option maxRecDepth 10000 in
set_option maxHeartbeats 1000000 in
theorem whole_gen (b : Nat) (neg T : Bool) (m p N : Nat) (w : World) (hM : m < 9007199254740992) (hp0 : p ≤ 2045)
    (H1 : ∀ w, Calls Tryz.prog 92 #[.float .f64 b] w fun e w' => e = .returned (.tuple #[.bool neg, .int .u64 (m : Int), .int .i64 ((p : Int) - 1074)]) ∧ w' = w)
    (hhi : 1074 ≤ p → N = m * 2 ^ (p - 1074) ∧ T = true) (hti : ∀ k, p + k = 1074 → 63 < k → N = 0 ∧ T = (m == 0)) (hlo : ∀ k, p + k = 1074 → N = m / 2 ^ k ∧ T = (m % 2 ^ k == 0)) :
    Calls Tryz.prog 83 #[.float .f64 b] w fun e w' => ∃ v, e = .returned (.tuple #[v, .bool T]) ∧ SI w' w'.heap.size (sgn neg N) 300 v ∧ Below w.heap.size w w' := by
  have H := Lib.hid H1
  have HH := Lib.hid (And.intro hhi (And.intro hti hlo))
  clear H1 hhi hti hlo
  go_enter Tryz.func83, Tryz.ntmps83
  go_wp2_with fail
  refine gen1 (M := fun W => Calls _ _ _ W _) fun W hB b1 hz => ?_
  have hz1 : w.heap.size + 1 ≤ W.heap.size := by omega
  clear hz
  refine (H.out W).mono ?_
  rintro e w1 ⟨rfl, rfl⟩
  have HW := Lib.hid (And.intro hB b1)
  clear hB b1 H
  go_wp2_with fail
  refine (bytesOf_any m w1 (by omega)).mono ?_
  rintro e w2 ⟨rfl, hb2, hB2⟩
  have hs2 := hB2.size
  have hm64 : m < 18446744073709551616 := by omega
  have hOf := Lib.hid (of_word neg m w1 hm64 w2 hb2)
  have HB2 := Lib.hid (And.intro hb2 hB2)
  clear hb2 hB2
  go_wp2_with fail
  refine hOf.out.mono ?_
  rintro e w3 ⟨v3, rfl, hs3, hB3⟩
  have HS3 := Lib.hid hs3
  obtain ⟨A3, c3, l3, rfl, s1, s2, s3, s4, s5⟩ := hs3
  have hsz3 := hB3.size
  have HW3 := Lib.hid (And.intro (HW.out.1.trans ((HB2.out.2.trans (hB3.mono (by omega))).mono (by omega))) ((HW.out.2.below HB2.out.2 (by omega)).below hB3 (by omega)))
  clear s1 s2 s3 s4 s5 hB3 HB2 HW
  obtain ⟨r0, r1, f0, f1⟩ := HW3.out.2.c2
  have hr3 := HW3.out.2.lt
  rcases Nat.lt_or_ge p 1074 with hp | hp
  · obtain ⟨k, hk⟩ : ∃ k, p + k = 1074 := ⟨1074 - p, by omega⟩
    have e1 : (p : Int) - 1074 = -(k : Int) := by omega
    have b1 : ¬ (0 : Int) ≤ -(k : Int) := by omega
    rcases Nat.lt_or_ge 63 k with h63 | h63
    · have b2 : -(k : Int) < -63 := by omega
      obtain ⟨hN, hT⟩ := HH.out.2.1 k hk h63
      have hT2 := Lib.hid (show T = ((m : Int) == 0) by rw [hT, Bool.eq_iff_iff]; simp)
      rw [e1]
      clear hT hk e1 hp HH
      go_wp2
      refine gen_set2a (M := fun V => bodyPost _ _ _ _ _ V) HW3.out.2 fun W6 b6 hg6 hz6 => ?_
      have hsz := HW3.out.1.size
      refine ret_row_tmp rfl _ b6 rfl rfl Tryz.underlying39 rfl size24 rfl ⟨_, by rw [hT2.out]; rfl, ?_, ?_⟩
      · rw [hN, sgn_zero]
        exact ⟨none, 0, [], by simp, by simp [be_nil], fun h => by simp at h, by simp, by simp, Reads.none_⟩
      · exact below_grown HW3.out.1 hg6 (Nat.le_refl _) hsz
    · have b2 : ¬ -(k : Int) < -63 := by omega
      obtain ⟨hN, hT⟩ := HH.out.2.2 k hk
      have eA := mask m k (by omega) (by omega)
      have eD := shrN m k
      have hT2 := Lib.hid (show T = (((m % 2 ^ k : Nat) : Int) == 0) by rw [hT, Bool.eq_iff_iff]; simp only [beq_iff_eq]; omega)
      have hmd : m / 2 ^ k < 18446744073709551616 := Nat.lt_of_le_of_lt (Nat.div_le_self _ _) (by omega)
      have HN := Lib.hid hN
      rw [e1]
      clear hk e1 hp HH hT hN
      generalize m / 2 ^ k = M at *
      generalize m % 2 ^ k = R at *
      go_wp2_with fail
      refine gen1 (M := fun W => Calls _ _ _ W _) fun W4 hB4 b4 hz4 => ?_
      have b5 := HW3.out.2.below hB4 (by omega)
      have hB5 := HW3.out.1.trans (hB4.mono HW3.out.1.size)
      have hs4 : w3.heap.size < W4.heap.size := by omega
      clear hz4
      refine (bytesOf_any M W4 hmd).mono ?_
      rintro e w5 ⟨rfl, hb5, hB6⟩
      have hOf := Lib.hid (of_word neg M W4 hmd w5 hb5)
      have hs5 := hB6.size
      have HB6 := Lib.hid (And.intro (hB5.trans (hB6.mono (by have := hB5.size; omega))) (b5.below hB6 (by omega)))
      clear hb5 hB6 b4 b5 hB4 hB5
      go_wp2_with fail
      refine hOf.out.mono ?_
      rintro e w6 ⟨v6, rfl, hs6, hB6⟩
      have HS6 := Lib.hid hs6
      obtain ⟨A6, c6, l6, rfl, s1, s2, s3, s4, s5⟩ := hs6
      have b7 := HB6.out.2.below hB6 (by omega)
      obtain ⟨r0, r1, f0, f1⟩ := b7.c2
      have hsz := HW3.out.1.size
      have hsz6 := hB6.size
      have HB7 := Lib.hid (And.intro (HB6.out.1.trans (hB6.mono (by omega))) b7)
      clear s1 s2 s3 s4 s5 b7 hB6 hOf
      go_wp2
      refine gen_set2 (M := fun V => bodyPost _ _ _ _ _ V) HB7.out.2 fun W6 b6 hg6 hz6 => ?_
      refine ret_row_tmp rfl _ b6 rfl rfl Tryz.underlying39 rfl size24 rfl ⟨_, by rw [hT2.out]; rfl, ?_, ?_⟩
      · rw [HN.out]
        exact ((HS6.out.set2 HB7.out.2 hg6 (Nat.le_refl _)).more (by omega)).wide (by omega)
      · exact below_grown HB7.out.1 hg6 (Nat.le_refl _) HB7.out.1.size
  · obtain ⟨k, hk⟩ : ∃ k, p = 1074 + k := ⟨p - 1074, by omega⟩
    have e1 : (p : Int) - 1074 = (k : Int) := by omega
    have b1 : (0 : Int) ≤ (k : Int) := by omega
    obtain ⟨hN, hT⟩ := HH.out.1 hp
    have hk971 : k ≤ 971 := by omega
    have hN2 := Lib.hid (show sgn neg N = sgn neg m * ((2 ^ k : Nat) : Int) by rw [hN, hk, Nat.add_sub_cancel_left, sgn_mulN])
    rw [e1]
    subst hT
    clear hk e1 hp HH hN
    go_wp2_with fail
    refine gen1 (M := fun W => Calls _ _ _ W _) fun W4 hB4 b4 hz4 => ?_
    have b5 := HW3.out.2.below hB4 (by omega)
    have hB5 := HW3.out.1.trans (hB4.mono HW3.out.1.size)
    have hs4 : w3.heap.size < W4.heap.size := by omega
    clear hz4
    refine (lsh_any (sgn neg m) 8 k _ W4 (by omega) (by omega) ((HS3.out.below hB4).more (by omega))).mono ?_
    rintro e w6 ⟨v6, rfl, hs6, hB6⟩
    have HS6 := Lib.hid hs6
    obtain ⟨A6, c6, l6, rfl, s1, s2, s3, s4, s5⟩ := hs6
    have b7 := b5.below hB6 (by omega)
    obtain ⟨r0, r1, f0, f1⟩ := b7.c2
    have HB7 := Lib.hid (And.intro (hB5.trans (hB6.mono (by omega))) b7)
    have hsz := HW3.out.1.size
    have hsz6 := hB6.size
    clear s1 s2 s3 s4 s5 b4 b5 b7 hB4 hB5 hB6
    go_wp2
    refine gen_set2 (M := fun V => bodyPost _ _ _ _ _ V) HB7.out.2 fun W6 b6 hg6 hz6 => ?_
    refine ret_row_tmp rfl _ b6 rfl rfl Tryz.underlying39 rfl size24 rfl ⟨_, rfl, ?_, ?_⟩
    · rw [hN2.out]
      exact ((HS6.out.set2 HB7.out.2 hg6 (Nat.le_refl _)).more (by omega)).wide (by omega)
    · exact below_grown HB7.out.1 hg6 (Nat.le_refl _) HB7.out.1.size
theorem whole_any' (b : Nat) (hb : b < 2 ^ 64) (hf : b % 2 ^ 63 < 2047 * 2 ^ 52) (w : World) :
    Calls Tryz.prog 83 #[.float .f64 b] w fun e w' => ∃ v, e = .returned (.tuple #[v, .bool (Fl.wholeAll (b % 2 ^ 63))]) ∧ SI w' w'.heap.size (sgn (decide (2 ^ 63 ≤ b)) (Fl.wholeN (b % 2 ^ 63))) 300 v ∧ Below w.heap.size w w' :=
  whole_gen b _ _ _ _ _ w (Fl.m_lt _) (by unfold Fl.pOf; split <;> omega) (fun w => floatParts_any b hb w) (Fl.wholeN_hi _) (Fl.wholeN_tiny _) (Fl.wholeN_lo _)
end Go.Proofs.YtkmeckimmfbkiaaGreatDoor
namespace Go.Proofs.YtkmeckimmfbkiaaGreatDoor
open Go Go.RowKit
theorem cmpW_nan (x : Int) : Fl.cmpW (.num x) .nan = -1 := rfl
theorem cmpW_inf (x : Int) : Fl.cmpW (.num x) (.inf false) = -1 := rfl
theorem cmpW_ninf (x : Int) : Fl.cmpW (.num x) (.inf true) = 1 := rfl
set_option maxRecDepth 10000 in
set_option maxHeartbeats 1000000 in
theorem cmpFloat_fin (x : Int) (L b : Nat) (v : Value) (w : World) (hL : L ≤ 2147483640) (hb : b < 2 ^ 64) (hf : b % 2 ^ 63 < 2047 * 2 ^ 52) (hx : SI w w.heap.size x L v) (R : Int) (hR : R = Fl.ordI (Fl.cmpWhole x (sgn (decide (2 ^ 63 ≤ b)) (Fl.wholeN (b % 2 ^ 63))) (Fl.wholeAll (b % 2 ^ 63)) (decide (2 ^ 63 ≤ b)))) :
    Calls Tryz.prog 68 #[v, .float .f64 b] w fun e w' => e = .returned (.int .i64 R) ∧ Below w.heap.size w w' := by
  have hNaN := fun w => isNaN_any b hb w
  have hP := fun w => isInf_pos b hb w
  have hN := fun w => isInf_neg b hb w
  have hW := fun w => whole_any' b hb hf w
  have hz := Fl.wf_zero_lt hb hf
  rw [decide_eq_false (show ¬ 2047 * 2 ^ 52 < b % 2 ^ 63 by omega)] at hNaN
  rw [decide_eq_false (show ¬ b = 2047 * 2 ^ 52 by omega)] at hP
  rw [decide_eq_false (show ¬ b = 2 ^ 63 + 2047 * 2 ^ 52 by omega)] at hN
  generalize sgn (decide (2 ^ 63 ≤ b)) (Fl.wholeN (b % 2 ^ 63)) = N at hW hR
  generalize Fl.wholeAll (b % 2 ^ 63) = T at hW hR hz
  generalize decide (2 ^ 63 ≤ b) = neg at hR hz
  have H := Lib.hid (And.intro hNaN (And.intro hP (And.intro hN hW)))
  have HX := Lib.hid hx
  have HRz := Lib.hid (And.intro hR hz)
  obtain ⟨A, ca, a, rfl, a2, a3, a4, a5, a6⟩ := hx
  clear hNaN hP hN hW a2 a3 a4 a5 a6 hR hz hb hf
  go_enter Tryz.func68, Tryz.ntmps68
  go_wp2_with fail
  refine gen1 (M := fun W => Calls _ _ _ W _) fun W hB b1 hz => ?_
  refine (H.out.1 W).mono ?_
  rintro e w1 ⟨rfl, rfl⟩
  have HW := Lib.hid (And.intro hB b1)
  have hz1 : w.heap.size < w1.heap.size := by omega
  clear hB b1 hz
  go_wp2_with fail
  refine (H.out.2.1 w1).mono ?_
  rintro e w2 ⟨rfl, rfl⟩
  go_wp2_with fail
  refine (H.out.2.2.1 w2).mono ?_
  rintro e w3 ⟨rfl, rfl⟩
  go_wp2_with fail
  refine (H.out.2.2.2 w3).mono ?_
  rintro e w4 ⟨v4, rfl, hs4, hB4⟩
  have HS4 := Lib.hid hs4
  obtain ⟨A4, c4, l4, rfl, s1, s2, s3, s4, s5⟩ := hs4
  have hsz4 := hB4.size
  have hbox := HW.out.2.below hB4 (by omega)
  have hlt4 : w.heap.size < w4.heap.size := by omega
  have hbox2 := hbox.alloc (.cells #[.bool (decide (N < 0)), .slice A4 l4.length c4] 39)
  obtain ⟨k0, k1, _, _⟩ := hbox2.c2
  clear hbox2
  have HW4 := Lib.hid (And.intro (HW.out.1.trans (hB4.mono (by omega))) hbox)
  clear s1 s2 s3 s4 s5 hB4 hbox HW H
  go_wp2_with fail
  refine gen1 (M := fun W => Calls _ _ _ W _) fun W5 hB5 b5 hz5 => ?_
  have hz51 : w4.heap.size < W5.heap.size := by omega
  clear hz5
  have hBw := HW4.out.1.trans (hB5.mono HW4.out.1.size)
  refine (spCmp_any x N L 300 _ _ W5 hL (by omega) ((HX.out.below hBw).more hBw.size) ((HS4.out.below hB5).more (by omega))).mono ?_
  rintro e w6 ⟨rfl, hB6⟩
  have HB6 := Lib.hid (hBw.trans (hB6.mono hBw.size))
  clear hBw hB5 hB6 b5 k0 k1
  by_cases hc : compare x N = .eq
  · rw [hc]
    cases T with
    | true =>
      have HR := Lib.hid (show R = 0 by rw [HRz.out.1, Fl.cmpWhole, if_pos (.inr rfl), hc]; rfl)
      clear HRz hc
      go_wp2
      go_ret
      exact ⟨by rw [HR.out]; rfl, HB6.out⟩
    | false =>
      have hlt := HRz.out.2 rfl
      cases neg with
      | true =>
        have HR := Lib.hid (show R = 1 by rw [HRz.out.1, Fl.cmpWhole, if_neg (by simp [hc]), if_pos rfl]; rfl)
        have hlt2 : (FloatKind.f64.format.order b 0 == some Ordering.lt) = true := hlt
        clear HRz hc hlt
        go_wp2
        go_ret
        exact ⟨by rw [HR.out]; rfl, HB6.out⟩
      | false =>
        have HR := Lib.hid (show R = -1 by rw [HRz.out.1, Fl.cmpWhole, if_neg (by simp [hc]), if_neg (by decide)]; rfl)
        have hlt2 : (FloatKind.f64.format.order b 0 == some Ordering.lt) = false := hlt
        clear HRz hc hlt
        go_wp2
        go_ret
        exact ⟨by rw [HR.out]; rfl, HB6.out⟩
  · have HR := Lib.hid (show R = Fl.ordI (compare x N) by rw [HRz.out.1, Fl.cmpWhole, if_pos (.inl hc)])
    have hne : (Fl.ordI (compare x N) != 0) = true := by rw [bne_iff_ne]; intro h; exact hc ((Fl.ordI_zero _).1 h)
    clear HRz hc
    generalize Fl.ordI (compare x N) = c at *
    go_wp2
    go_ret
    exact ⟨by rw [HR.out]; rfl, HB6.out⟩
set_option maxRecDepth 10000 in
set_option maxHeartbeats 1000000 in
theorem cmpFloat_any (x : Int) (L b : Nat) (v : Value) (w : World) (hL : L ≤ 2147483640) (hb : b < 2 ^ 64) (hx : SI w w.heap.size x L v) :
    Calls Tryz.prog 68 #[v, .float .f64 b] w fun e w' => e = .returned (.int .i64 (Fl.cmpW (.num (x * unitF)) (wf b))) ∧ Below w.heap.size w w' := by
  rcases Nat.lt_trichotomy (b % 2 ^ 63) (2047 * 2 ^ 52) with h | h | h
  · exact cmpFloat_fin x L b v w hL hb h hx _ (Fl.cmpWhole_eq x b h).symm
  · rw [Fl.wf_inf h]
    have hNaN := fun w => isNaN_any b hb w
    have hP := fun w => isInf_pos b hb w
    have hN := fun w => isInf_neg b hb w
    rw [decide_eq_false (show ¬ 2047 * 2 ^ 52 < b % 2 ^ 63 by omega)] at hNaN
    by_cases hn : 2 ^ 63 ≤ b
    · rw [decide_eq_true hn, cmpW_ninf]
      rw [decide_eq_false (show ¬ b = 2047 * 2 ^ 52 by omega)] at hP
      rw [decide_eq_true (show b = 2 ^ 63 + 2047 * 2 ^ 52 by omega)] at hN
      obtain ⟨A, ca, a, rfl, a2, a3, a4, a5, a6⟩ := hx
      have H := Lib.hid (And.intro hNaN (And.intro hP hN))
      clear hNaN hP hN a2 a3 a4 a5 a6 h hn hb
      go_enter Tryz.func68, Tryz.ntmps68
      go_wp2_with fail
      refine gen1 (M := fun W => Calls _ _ _ W _) fun W hB b1 hz => ?_
      refine (H.out.1 W).mono ?_
      rintro e w1 ⟨rfl, rfl⟩
      clear hz
      go_wp2_with fail
      refine (H.out.2.1 w1).mono ?_
      rintro e w2 ⟨rfl, rfl⟩
      go_wp2_with fail
      refine (H.out.2.2 w2).mono ?_
      rintro e w3 ⟨rfl, rfl⟩
      go_wp2
      go_ret
      exact ⟨rfl, hB⟩
    · rw [decide_eq_false hn, cmpW_inf]
      rw [decide_eq_true (show b = 2047 * 2 ^ 52 by omega)] at hP
      obtain ⟨A, ca, a, rfl, a2, a3, a4, a5, a6⟩ := hx
      have H := Lib.hid (And.intro hNaN hP)
      clear hNaN hP hN a2 a3 a4 a5 a6 h hn hb
      go_enter Tryz.func68, Tryz.ntmps68
      go_wp2_with fail
      refine gen1 (M := fun W => Calls _ _ _ W _) fun W hB b1 hz => ?_
      refine (H.out.1 W).mono ?_
      rintro e w1 ⟨rfl, rfl⟩
      clear hz
      go_wp2_with fail
      refine (H.out.2 w1).mono ?_
      rintro e w2 ⟨rfl, rfl⟩
      go_wp2
      go_ret
      exact ⟨rfl, hB⟩
  · rw [Fl.wf_nan h, cmpW_nan]
    have hNaN := fun w => isNaN_any b hb w
    rw [decide_eq_true h] at hNaN
    obtain ⟨A, ca, a, rfl, a2, a3, a4, a5, a6⟩ := hx
    have H := Lib.hid hNaN
    clear hNaN a2 a3 a4 a5 a6 h hb
    go_enter Tryz.func68, Tryz.ntmps68
    go_wp2_with fail
    refine gen1 (M := fun W => Calls _ _ _ W _) fun W hB b1 hz => ?_
    refine (H.out W).mono ?_
    rintro e w1 ⟨rfl, rfl⟩
    clear hz
    go_wp2
    go_ret
    exact ⟨rfl, hB⟩
def nanW : W → Bool
  | .nan => true
  | _ => false
theorem nan_wf (b : Nat) : decide (2047 * 2 ^ 52 < b % 2 ^ 63) = nanW (wf b) := by
  rcases Nat.lt_trichotomy (b % 2 ^ 63) (2047 * 2 ^ 52) with h | h | h
  · rw [Fl.wf_num h, decide_eq_false (by omega)]; rfl
  · rw [Fl.wf_inf h, decide_eq_false (by omega)]; rfl
  · rw [Fl.wf_nan h, decide_eq_true h]; rfl
theorem cmpW_code (B C : W) : Fl.cmpW B C = if (nanW B && nanW C || (Fl.ordW B C == some .eq)) = true then 0 else if (nanW C || (Fl.ordW B C == some .lt)) = true then -1 else 1 := by
  cases B with
  | num x =>
    cases C with
    | num y =>
      rcases Int.lt_trichotomy x y with h | h | h
      · simp [Fl.ordW, Fl.cmpW, Fl.cmp_lt h, Fl.ordI, nanW]
      · subst h; simp [Fl.ordW, Fl.cmpW, Fl.ordI, nanW]
      · simp [Fl.ordW, Fl.cmpW, Fl.cmp_gt h, Fl.ordI, nanW]
    | inf m => cases m <;> simp [Fl.ordW, Fl.cmpW, nanW]
    | nan => simp [Fl.ordW, Fl.cmpW, nanW]
  | inf n =>
    cases C with
    | num y => cases n <;> simp [Fl.ordW, Fl.cmpW, nanW]
    | inf m => cases n <;> cases m <;> simp [Fl.ordW, Fl.cmpW, nanW]
    | nan => cases n <;> simp [Fl.ordW, Fl.cmpW, nanW]
  | nan =>
    cases C with
    | num y => simp [Fl.ordW, Fl.cmpW, nanW]
    | inf m => cases m <;> simp [Fl.ordW, Fl.cmpW, nanW]
    | nan => simp [Fl.ordW, Fl.cmpW, nanW]
set_option maxRecDepth 10000 in
set_option maxHeartbeats 1000000 in
theorem cmpFloats_any (b c : Nat) (hb : b < 2 ^ 64) (hc : c < 2 ^ 64) (w : World) :
    Calls Tryz.prog 69 #[.float .f64 b, .float .f64 c] w fun e w' => e = .returned (.int .i64 (Fl.cmpW (wf b) (wf c))) ∧ w' = w := by
  have H1 := fun w => isNaN_any b hb w
  have H2 := fun w => isNaN_any c hc w
  rw [nan_wf] at H1 H2
  have ho : FloatKind.f64.format.order b c = Fl.ordW (wf b) (wf c) := Fl.order_wf hb hc
  have hv := cmpW_code (wf b) (wf c)
  rw [← ho] at hv
  generalize nanW (wf b) = nb at *
  generalize nanW (wf c) = nc at *
  generalize Fl.cmpW (wf b) (wf c) = R at *
  have hE : ∃ E, (FloatKind.f64.format.order b c == some Ordering.eq) = E := ⟨_, rfl⟩
  have hL : ∃ E, (FloatKind.f64.format.order b c == some Ordering.lt) = E := ⟨_, rfl⟩
  obtain ⟨E, hE⟩ := hE
  obtain ⟨Lt, hL⟩ := hL
  rw [hE, hL] at hv
  have HV := Lib.hid hv
  have HC := Lib.hid (And.intro H1 H2)
  clear H1 H2 hv ho hb hc
  go_enter Tryz.func69, Tryz.ntmps69
  go_wp2_with fail
  refine (HC.out.1 w).mono ?_
  rintro e w1 ⟨rfl, rfl⟩
  cases nb with
  | true =>
    go_wp2_with fail
    refine (HC.out.2 w1).mono ?_
    rintro e w2 ⟨rfl, rfl⟩
    cases nc with
    | true =>
      go_wp2
      go_ret
      exact ⟨by rw [HV.out]; rfl, rfl⟩
    | false =>
      cases E with
      | true =>
        go_wp2
        go_ret
        exact ⟨by rw [HV.out]; rfl, rfl⟩
      | false =>
        go_wp2_with fail
        refine (HC.out.2 w2).mono ?_
        rintro e w3 ⟨rfl, rfl⟩
        cases Lt with
        | true =>
          go_wp2
          go_ret
          exact ⟨by rw [HV.out]; rfl, rfl⟩
        | false =>
          go_wp2
          go_ret
          exact ⟨by rw [HV.out]; rfl, rfl⟩
  | false =>
    cases E with
    | true =>
      go_wp2
      go_ret
      exact ⟨by rw [HV.out]; rfl, rfl⟩
    | false =>
      go_wp2_with fail
      refine (HC.out.2 w1).mono ?_
      rintro e w3 ⟨rfl, rfl⟩
      cases nc with
      | true =>
        go_wp2
        go_ret
        exact ⟨by rw [HV.out]; rfl, rfl⟩
      | false =>
        cases Lt with
        | true =>
          go_wp2
          go_ret
          exact ⟨by rw [HV.out]; rfl, rfl⟩
        | false =>
          go_wp2
          go_ret
          exact ⟨by rw [HV.out]; rfl, rfl⟩
end Go.Proofs.YtkmeckimmfbkiaaGreatDoor
