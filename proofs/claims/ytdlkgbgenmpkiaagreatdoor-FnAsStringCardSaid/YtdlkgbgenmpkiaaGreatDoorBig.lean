/- Big integers: BitLen, Int64; the package's int: isSmall, MakeBigInt; the thin package's whole. -/
import Derived.Test.YtdlkgbgenmpkiaaGreatDoorBits
namespace Go.Proofs.YtdlkgbgenmpkiaaGreatDoor
open Go Go.RowKit
theorem nbits_le (x k : Nat) : nbits x ≤ k ↔ x < 2 ^ k := by
  by_cases h0 : x = 0
  · subst h0; simp [nbits, Nat.pow_pos]
  · rw [nbits, if_neg h0, ← Nat.log2_lt h0]; omega
theorem limbs_top (x : Nat) : ∀ h : 0 < (limbs x).length, (limbs x)[(limbs x).length - 1] ≠ 0 := by
  induction x using Nat.strongRecOn with
  | ind x ih =>
    rcases Nat.eq_zero_or_pos x with h0 | h0
    · subst h0; intro h; simp only [limbs_zero, List.length_nil] at h; omega
    · intro _
      have hq := ih (x / 18446744073709551616) (Nat.div_lt_self h0 (by omega))
      simp only [limbs_pos x h0, List.length_cons, Nat.add_sub_cancel]
      rcases Nat.eq_zero_or_pos (limbs (x / 18446744073709551616)).length with h1 | h1
      · have h2 : ¬ 0 < x / 18446744073709551616 := by rw [← limbs_len_pos]; omega
        simp only [h1, List.getElem_cons_zero]
        omega
      · rw [List.getElem_cons, dif_neg (by omega)]
        exact hq h1
set_option maxRecDepth 10000 in
set_option maxHeartbeats 400000 in
theorem intBitLen_any (g x : Nat) (neg : Bool) (w : World) (hx : IntAt w w.heap.size g neg x) (hs : (limbs x).length ≤ 2147483640) :
    Calls Tryz.prog 42 #[.pointer (some ⟨g, 0, none⟩)] w fun e w' => e = .returned (.int .i64 (nbits x)) ∧ w = w' := by
  obtain ⟨A, c, hb, hg, hr, hc⟩ := hx
  obtain ⟨k0, k1, z0, z1⟩ := hb.c2
  have hcall := natBitLen_any (limbs x) A _ c w rfl hs hc (limbs_lt x) (limbs_top x) hr
  rw [natV_limbs] at hcall
  have HC := Lib.hid hcall
  clear hb hr hcall
  go_enter Tryz.func42, Tryz.ntmps42
  go_wp2_with fail
  refine HC.out.mono ?_
  rintro e w1 ⟨rfl, rfl⟩
  clear HC
  go_wp2
  go_ret
  exact ⟨rfl, rfl⟩
set_option maxRecDepth 10000 in
set_option maxHeartbeats 400000 in
theorem low64_any (x : Nat) (A : Option Addr) (n c : Nat) (w : World) (hn : (limbs x).length = n) (hr : Reads w w.heap.size 1 A n (wv (limbs x))) :
    Calls Tryz.prog 43 #[.slice A n c] w fun e w' => e = .returned (.int .u64 ((x % 18446744073709551616 : Nat) : Int)) ∧ w = w' := by
  rcases Nat.eq_zero_or_pos x with h0 | h0
  · subst h0
    rw [limbs_zero] at hn
    subst hn
    go_enter Tryz.func43, Tryz.ntmps43
    go_wp2
    go_ret
    exact ⟨rfl, rfl⟩
  · obtain ⟨m, hm⟩ : ∃ m, n = m + 1 := ⟨n - 1, by
      have h1 : 0 < (limbs x).length := by rw [limbs_len_pos]; exact h0
      omega⟩
    subst hm
    rw [limbs_pos x h0] at hr
    obtain ⟨ad, rfl, hlt, hc⟩ := hr.2 (by omega)
    have hcell := hc 0 _ rfl
    simp only [show ad.add 0 = ad from rfl] at hcell
    generalize x % 18446744073709551616 = y at *
    have hlen : (((m + 1 : Nat) : Int) == 0) = false := by simp; omega
    have hidx : (0 : Int) < ((m + 1 : Nat) : Int) := by omega
    clear hr hc hn
    go_enter Tryz.func43, Tryz.ntmps43
    go_wp2
    go_ret
    exact ⟨rfl, rfl⟩
theorem ret_int {k : IntKind} {a b : Int} (h : a = b) : Ending.returned (.int k a) = .returned (.int k b) := by rw [h]
/-- What a big integer is worth. -/
def sgn (neg : Bool) (x : Nat) : Int := if neg then -(x : Int) else x
set_option maxRecDepth 10000 in
set_option maxHeartbeats 400000 in
theorem intInt64_any (g x : Nat) (neg : Bool) (w : World) (hx : IntAt w w.heap.size g neg x) (hs : x < 9223372036854775808) :
    Calls Tryz.prog 31 #[.pointer (some ⟨g, 0, none⟩)] w fun e w' => e = .returned (.int .i64 (sgn neg x)) ∧ w = w' := by
  obtain ⟨A, c, hb, hg, hr, hc⟩ := hx
  obtain ⟨k0, k1, z0, z1⟩ := hb.c2
  have hcall := low64_any x A _ c w rfl hr
  rw [Nat.mod_eq_of_lt (by omega)] at hcall
  have HC := Lib.hid hcall
  clear hb hr hcall
  go_enter Tryz.func31, Tryz.ntmps31
  go_wp2_with fail
  refine HC.out.mono ?_
  rintro e w1 ⟨rfl, rfl⟩
  clear HC
  go_wp2
  all_goals
    go_ret
    exact ⟨ret_int (by simp [sgn, *]), rfl⟩
/-- Words do not lie in an int's own block. -/
theorem Reads.grown63 {w w' : World} {B g n : Nat} {a : Int} {p : Option Addr} {A : Option Addr} {l : List Nat} (h : Reads w B 1 A n (wv l)) (hb : Blk w g 63 #[.int .i64 a, .pointer p]) (hg : w.grownBy w' (some g)) : Reads w' B 1 A n (wv l) := by
  refine ⟨h.1, fun hn => ?_⟩
  obtain ⟨ad, e, hlt, hc⟩ := h.2 hn
  have hlen : l.length = n := by have := h.1; rw [wv_len] at this; omega
  have hne : ad.block ≠ g := by
    intro hg
    have h0 := hc 0 _ (wv_get l 0 (by omega))
    have e0 : ad.add 0 = ad := rfl
    rw [e0] at h0
    obtain ⟨bl, off, spot⟩ := ad
    simp only at hg
    subst hg
    unfold Blk at hb
    simp only [World.cell?, hb] at h0
    split at h0
    · cases h0
    · rcases off with _ | _ | off <;> simp at h0
  refine ⟨ad, e, hlt, fun j v hj => ?_⟩
  have hj' := hc j v hj
  rw [World.cell?_of_block (hg.block (ad.add j).block (block_lt_of_cell hj') (by rw [block_of_add]; intro e; exact hne (by injection e)))]
  exact hj'
/-- Is it an int32? -/
def smallB (v : Int) : Bool := decide (-2147483648 ≤ v ∧ v ≤ 2147483647)
theorem sgn_true (x : Nat) : sgn true x = -(x : Int) := rfl
theorem sgn_false (x : Nat) : sgn false x = (x : Int) := rfl
theorem size63 : (Tryz.prog.info? 63).map (·.size) = some 2 := by kernel_rfl
set_option maxRecDepth 10000 in
set_option maxHeartbeats 400000 in
theorem isSmall_any (g x : Nat) (neg : Bool) (w : World) (hx : IntAt w w.heap.size g neg x) (hs : (limbs x).length ≤ 2147483640) :
    Calls Tryz.prog 29 #[.pointer (some ⟨g, 0, none⟩)] w fun e w' => e = .returned (.bool (smallB (sgn neg x))) ∧ w = w' := by
  have hbit := Lib.hid (intBitLen_any g x neg w hx hs)
  have h31 := nbits_le x 31
  have h32 := nbits_le x 32
  simp only [Nat.reducePow] at h31 h32
  have hi64 := Lib.hid (intInt64_any g x neg w hx)
  have HX := Lib.hid hx
  clear hx
  go_enter Tryz.func29, Tryz.ntmps29
  go_wp2_with fail
  refine hbit.out.mono ?_
  rintro e w1 ⟨rfl, rfl⟩
  generalize hn : nbits x = n at *
  have HN := Lib.hid hn
  clear hn
  by_cases h1 : x < 2147483648
  · have hn1 : n ≤ 31 := h31.2 h1
    clear h31 h32
    go_wp2
    go_ret
    refine ⟨?_, rfl⟩
    have : smallB (sgn neg x) = true := by
      rw [smallB, decide_eq_true_eq]
      cases neg <;> simp only [sgn_true, sgn_false] <;> omega
    rw [this]
    rfl
  · by_cases h2 : x < 4294967296
    · have hn1 : n ≤ 32 := h32.2 h2
      have hn2 : ¬ n ≤ 31 := fun h => h1 (h31.1 h)
      obtain rfl : n = 32 := by omega
      clear h31 h32 HN hn1 hn2
      go_wp2_with fail
      refine (hi64.out (by omega)).mono ?_
      rintro e w1 ⟨rfl, rfl⟩
      go_wp2
      go_ret
      refine ⟨?_, rfl⟩
      have : smallB (sgn neg x) = (sgn neg x == -2147483648) := by
        rw [Bool.eq_iff_iff, smallB, decide_eq_true_eq, beq_iff_eq]
        cases neg <;> simp only [sgn_true, sgn_false] <;> omega
      rw [this]
      rfl
    · have hn1 : 33 ≤ n := by
        rcases Nat.lt_or_ge 32 n with h | h
        · exact h
        · exact absurd (h32.1 h) h2
      clear h31 h32
      have hd : decide ((n : Int) < 32) = false := by simp; omega
      have he : ((n : Int) == 32) = false := by simp; omega
      go_wp2
      go_ret
      refine ⟨?_, rfl⟩
      have : smallB (sgn neg x) = false := by
        rw [smallB, decide_eq_false_iff_not]
        cases neg <;> simp only [sgn_true, sgn_false] <;> omega
      rw [this]
      rfl
set_option maxRecDepth 10000 in
set_option maxHeartbeats 400000 in
theorem makeSmall_any (x : Int) (w : World) :
    Calls Tryz.prog 30 #[.int .i64 x] w fun e w' => e = .returned (.agg #[.int .i64 x, .pointer none]) ∧ Below w.heap.size w w' := by
  go_enter Tryz.func30, Tryz.ntmps30
  go_wp2
  refine gen1 (M := fun W => bodyPost _ _ _ _ _ W) fun W hB b hz => ?_
  exact ret_row rfl _ b rfl Tryz.underlying63 rfl size63 rfl ⟨rfl, hB⟩
set_option maxRecDepth 10000 in
set_option maxHeartbeats 400000 in
theorem makeBig_any (p : Option Addr) (w : World) :
    Calls Tryz.prog 32 #[.pointer p] w fun e w' => e = .returned (.agg #[.int .i64 0, .pointer p]) ∧ Below w.heap.size w w' := by
  go_enter Tryz.func32, Tryz.ntmps32
  go_wp2
  refine gen1 (M := fun W => bodyPost _ _ _ _ _ W) fun W hB b hz => ?_
  exact ret_row rfl _ b rfl Tryz.underlying63 rfl size63 rfl ⟨rfl, hB⟩
/-- An int of the package, small or big. -/
def SInt (w : World) (B : Nat) (x small : Int) (bp : Option Addr) : Prop :=
  (bp = none ∧ small = x ∧ -2147483648 ≤ x ∧ x ≤ 2147483647) ∨
  (∃ g, bp = some ⟨g, 0, none⟩ ∧ small = 0 ∧ IntAt w B g (decide (x < 0)) x.natAbs ∧ ¬ (-2147483648 ≤ x ∧ x ≤ 2147483647))
def MadeInt (w : World) (x : Int) (e : Ending) (w' : World) : Prop :=
  ∃ small bp, e = .returned (.agg #[.int .i64 small, .pointer bp]) ∧ SInt w' w'.heap.size x small bp ∧ Below w.heap.size w w'
set_option maxRecDepth 10000 in
set_option maxHeartbeats 400000 in
theorem makeBigInt_any (g x : Nat) (neg : Bool) (w : World) (hx : IntAt w w.heap.size g neg x) (hs : (limbs x).length ≤ 2147483640) (hn : neg = true → 0 < x) :
    Calls Tryz.prog 24 #[.pointer (some ⟨g, 0, none⟩)] w (MadeInt w (sgn neg x)) := by
  have HX := Lib.hid hx
  clear hx
  go_enter Tryz.func24, Tryz.ntmps24
  go_wp2_with fail
  refine gen1 (M := fun W => Calls _ _ _ W _) fun W hB b hz => ?_
  have hx1 := (HX.out.below hB).more (B' := W.heap.size) (by omega)
  have HX1 := Lib.hid (And.intro hx1 (And.intro hB (And.intro b hz)))
  clear HX hB b hz
  refine (isSmall_any g x neg W HX1.out.1 hs).mono ?_
  rintro e w1 ⟨rfl, rfl⟩
  by_cases hsm : smallB (sgn neg x) = true
  · rw [hsm]
    have hlt : x < 9223372036854775808 := by
      rw [smallB, decide_eq_true_eq] at hsm
      cases neg <;> simp only [sgn_true, sgn_false] at hsm <;> omega
    go_wp2_with fail
    refine (intInt64_any g x neg W HX1.out.1 hlt).mono ?_
    rintro e w1 ⟨rfl, rfl⟩
    go_wp2_with fail
    refine (makeSmall_any (sgn neg x) W).mono ?_
    rintro e w1 ⟨rfl, hB1⟩
    obtain ⟨hx1, hB, b, hz⟩ := HX1.out
    have b1 := b.below hB1 (by omega)
    obtain ⟨k0, k1, z0, z1⟩ := b1.c2
    have hB2 := hB.trans (hB1.mono (by omega))
    clear HX1 hx1 hB hB1 b
    go_wp2
    refine gen_set2 (M := fun V => bodyPost _ _ _ _ _ V) b1 fun W2 b2 hg2 hz2 => ?_
    refine ret_row rfl _ b2 rfl Tryz.underlying63 rfl size63 rfl ⟨_, _, rfl, .inl ⟨rfl, rfl, ?_⟩, below_grown hB2 hg2 (Nat.le_refl _) hB2.size⟩
    rw [smallB, decide_eq_true_eq] at hsm
    exact hsm
  · have hsm' : smallB (sgn neg x) = false := by simpa using hsm
    rw [hsm']
    go_wp2_with fail
    have HX2 := Lib.hid HX1.out
    obtain ⟨hx1, hB, b, hz⟩ := HX1.out
    clear HX1
    have hzl : w.heap.size < W.heap.size := by omega
    clear hz
    have hgl : g < W.heap.size := by obtain ⟨_, _, _, h, _, _⟩ := hx1; exact h
    refine gen1 (M := fun W => Calls _ _ _ W _) fun W2 hB2 b2 hz2 => ?_
    have hx2 := (hx1.below hB2).more (B' := W2.heap.size) (by omega)
    refine (intSet_any W.heap.size g x neg W2 hx2 hs (by omega) b2).mono ?_
    rintro e w3 ⟨rfl, hx3, hg3⟩
    have hB4 : Below w.heap.size w w3 := (hB.trans (hB2.mono (by omega))).grown hg3 (by omega) (fun k e => by cases e; omega)
    have b3 := (b.below hB2 (by omega)).grown hg3 (by simp; omega)
    have hzl2 : W.heap.size < W2.heap.size := by omega
    clear hx1 hx2 hB hB2 b b2 HX2 hg3 hz2
    have H3 := Lib.hid (And.intro hx3 (And.intro hB4 b3))
    clear hx3 hB4 b3
    go_wp2_with fail
    refine (makeBig_any (some ⟨W.heap.size, 0, none⟩) w3).mono ?_
    rintro e w4 ⟨rfl, hB5⟩
    obtain ⟨hx3, hB4, b3⟩ := H3.out
    have b4 := b3.below hB5 b3.lt
    have hx4 := (hx3.below hB5).more hB5.size
    have hB6 := hB4.trans (hB5.mono hB4.size)
    obtain ⟨k0, k1, z0, z1⟩ := b4.c2
    clear hx3 hB4 hB5 b3 H3
    go_wp2
    refine gen_set2 (M := fun V => bodyPost _ _ _ _ _ V) b4 fun W5 b5 hg5 hz5 => ?_
    have hv : decide (sgn neg x < 0) = neg ∧ (sgn neg x).natAbs = x := by
      rw [smallB, decide_eq_false_iff_not] at hsm'
      cases neg
      · exact ⟨decide_eq_false (by rw [sgn_false]; omega), by rw [sgn_false]; omega⟩
      · have := hn rfl
        exact ⟨decide_eq_true (by rw [sgn_true]; omega), by rw [sgn_true]; omega⟩
    refine ret_row rfl _ b5 rfl Tryz.underlying63 rfl size63 rfl ⟨_, _, rfl, .inr ⟨_, rfl, rfl, ?_, ?_⟩, below_grown hB6 hg5 (Nat.le_refl _) hB6.size⟩
    · rw [hv.1, hv.2]
      obtain ⟨A, c, i1, i2, i3, i4⟩ := hx4
      exact ⟨A, c, i1.grown hg5 (by simp; omega), by omega, (i3.grown63 b4 hg5).more (by omega), i4⟩
    · rw [smallB, decide_eq_false_iff_not] at hsm'
      exact hsm'
end Go.Proofs.YtdlkgbgenmpkiaaGreatDoor
