/- Great integers: bit lengths, signs, whole numbers of bytes. Conditions: none. -/
import Derived.Test.YtkmeckimmfbkiaaGreatDoorJBase
import Derived.Test.YtkmeckimmfbkiaaGreatDoorShelf
import Derived.Lib.ItoaNum
import Derived.Deep.RegionHeld3
import Derived.Deep.AppendLies
namespace Go.Proofs.YtkmeckimmfbkiaaGreatDoor
open Go Go.RowKit
/-- How many bits a number has. -/
def nbits (x : Nat) : Nat := if x = 0 then 0 else Nat.log2 x + 1
theorem nbits_of (x n : Nat) (h1 : 2 ^ n ≤ x) (h2 : x < 2 ^ (n + 1)) : nbits x = n + 1 := by
  have hx : x ≠ 0 := by have := Nat.one_le_two_pow (n := n); omega
  rw [nbits, if_neg hx]
  have h3 := (Nat.le_log2 hx).2 h1
  have h4 := (Nat.log2_lt hx).2 h2
  omega
theorem nbits_word (x : Nat) (hx : x < 18446744073709551616) : Lib.bitLen x = nbits x := by
  by_cases h0 : x = 0
  · subst h0; rfl
  · obtain ⟨h1, h2, h3⟩ := Lib.bitLenAux_bounds 64 x (by omega) h0
    obtain ⟨m, hm⟩ : ∃ m, Lib.bitLenAux 64 x = m + 1 := ⟨_, (Nat.sub_add_cancel h1).symm⟩
    rw [hm] at h2 h3
    rw [Lib.bitLen, hm, nbits_of x m (by simpa using h2) h3]
theorem nbits_smear (x j : Nat) : nbits (x ||| x / 2 ^ j) = nbits x := by
  by_cases h0 : x = 0
  · subst h0; simp
  · have h1 := (Nat.le_log2 h0).1 (Nat.le_refl _)
    have h2 := (Nat.log2_lt h0).1 (Nat.lt_succ_self _)
    have e : nbits x = Nat.log2 x + 1 := by rw [nbits, if_neg h0]
    rw [e]
    apply nbits_of
    · exact Nat.le_trans h1 Nat.left_le_or
    · exact Nat.or_lt_two_pow h2 (Nat.lt_of_le_of_lt (Nat.div_le_self _ _) h2)
theorem smear_lt (x j : Nat) (hx : x < 18446744073709551616) : x ||| x / 2 ^ j < 18446744073709551616 :=
  Nat.or_lt_two_pow (n := 64) hx (Nat.lt_of_le_of_lt (Nat.div_le_self _ _) hx)
theorem smear_val (x j : Nat) (k : Int) (hk : k = ((2 ^ j : Nat) : Int)) (hx : x < 18446744073709551616) :
    ∃ y : Nat, y < 18446744073709551616 ∧ nbits y = nbits x ∧ bits .or .u64 (x : Int) ((x : Int) / k) = (y : Int) := by
  subst hk
  refine ⟨x ||| x / 2 ^ j, smear_lt x j hx, nbits_smear x j, ?_⟩
  rw [← Int.natCast_ediv, u64_or_nat _ _ hx (Nat.lt_of_le_of_lt (Nat.div_le_self _ _) hx)]
theorem natV_lt (ws : List Nat) (hb : ∀ x ∈ ws, x < 18446744073709551616) : natV ws < 18446744073709551616 ^ ws.length := by
  induction ws with
  | nil => simp [natV]
  | cons a l ih =>
    have ha := hb a (by simp)
    have := ih (fun x hx => hb x (by simp [hx]))
    simp only [natV, List.length_cons, Nat.pow_succ]
    omega
theorem natV_top (ws : List Nat) (k : Nat) (hk : ws.length = k + 1) : natV ws = natV (ws.take k) + 18446744073709551616 ^ k * ws[k] := by
  have h1 : ws = ws.take k ++ [ws[k]] := by
    rw [← List.take_succ_eq_append_getElem (by omega), List.take_of_length_le (by omega)]
  have h2 := natV_append (ws.take k) [ws[k]]
  rw [← h1, List.length_take, Nat.min_eq_left (by omega)] at h2
  simpa [natV] using h2
theorem nbits_top (ws : List Nat) (k : Nat) (hk : ws.length = k + 1) (hb : ∀ x ∈ ws, x < 18446744073709551616) (ht : ws[k] ≠ 0) : nbits (natV ws) = k * 64 + nbits ws[k] := by
  have h1 := (Nat.le_log2 ht).1 (Nat.le_refl _)
  have h2 : ws[k] < 2 ^ (Nat.log2 ws[k] + 1) := (Nat.log2_lt ht).1 (Nat.lt_succ_self _)
  have e : nbits ws[k] = Nat.log2 ws[k] + 1 := by rw [nbits, if_neg ht]
  have hl := natV_lt (ws.take k) (fun x hx => hb x (List.mem_of_mem_take hx))
  rw [List.length_take, Nat.min_eq_left (by omega)] at hl
  have e64 : (18446744073709551616 : Nat) ^ k = 2 ^ (64 * k) := by rw [Nat.pow_mul]
  rw [natV_top ws k hk, e, ← Nat.add_assoc]
  rw [e64] at hl ⊢
  apply nbits_of
  · rw [show k * 64 + Nat.log2 ws[k] = 64 * k + Nat.log2 ws[k] by omega, Nat.pow_add]
    have := Nat.mul_le_mul_left (2 ^ (64 * k)) h1
    omega
  · rw [show k * 64 + Nat.log2 ws[k] + 1 = 64 * k + (Nat.log2 ws[k] + 1) by omega, Nat.pow_add]
    have := Nat.mul_le_mul_left (2 ^ (64 * k)) (Nat.succ_le_of_lt h2)
    rw [Nat.mul_succ] at this
    omega
set_option maxRecDepth 10000 in
set_option maxHeartbeats 400000 in
theorem natBitLen_any (ws : List Nat) (A : Option Addr) (n c : Nat) (w : World) (hn : ws.length = n) (hl : n ≤ 2147483640) (hc0 : n ≤ c) (hb : ∀ x ∈ ws, x < 18446744073709551616) (ht : ∀ h : 0 < ws.length, ws[ws.length - 1] ≠ 0) (hr : Reads w w.heap.size 1 A n (wv ws)) :
    Calls Tryz.prog 96 #[.slice A n c] w fun e w' => e = .returned (.int .i64 (nbits (natV ws))) ∧ w = w' := by
  subst hn
  rcases Nat.eq_zero_or_pos ws.length with h0 | h0
  · obtain rfl := List.eq_nil_of_length_eq_zero h0
    go_enter Tryz.func96, Tryz.ntmps96
    go_wp2_with fail
    go_ret
    exact ⟨rfl, rfl⟩
  · obtain ⟨k, hk⟩ : ∃ k, ws.length = k + 1 := ⟨ws.length - 1, by omega⟩
    obtain ⟨ad, rfl, _, hcell⟩ := hr.word (k := k) (by omega)
    have hx := hb ws[k] (List.getElem_mem _)
    have htop := nbits_top ws k hk hb (by have := ht h0; simpa [hk] using this)
    generalize hxx : ws[k] = x at hcell hx htop
    have HT := Lib.hid htop
    clear hr hb htop ht
    rw [hk]
    go_enter Tryz.func96, Tryz.ntmps96
    go_wp2_with fail
    obtain ⟨x1, l1, b1, e1⟩ := smear_val x 1 2 rfl hx
    rw [e1]
    obtain ⟨x2, l2, b2, e2⟩ := smear_val x1 2 4 rfl l1
    rw [e2]
    obtain ⟨x3, l3, b3, e3⟩ := smear_val x2 4 16 rfl l2
    rw [e3]
    obtain ⟨x4, l4, b4, e4⟩ := smear_val x3 8 256 rfl l3
    rw [e4]
    obtain ⟨x5, l5, b5, e5⟩ := smear_val x4 16 65536 rfl l4
    rw [e5]
    rw [show ((x5 : Int) / 65536 / 65536) = (x5 : Int) / 4294967296 by omega]
    obtain ⟨x6, l6, b6, e6⟩ := smear_val x5 32 4294967296 rfl l5
    rw [e6]
    have hb6 : nbits x6 = nbits x := by rw [b6, b5, b4, b3, b2, b1]
    have HB := Lib.hid hb6
    clear e1 e2 e3 e4 e5 e6 b1 b2 b3 b4 b5 b6 hb6
    refine (Go.Proofs.Tryz.bits_Len (x6 : Int) w (by omega) (by omega)).mono ?_
    rintro e w1 ⟨rfl, rfl⟩
    rw [Int.toNat_natCast, nbits_word x6 l6]
    have hn64 : nbits x6 ≤ 64 := by rw [← nbits_word x6 l6]; exact Lib.bitLen_le x6 64 (Nat.le_refl _) l6
    generalize hy : nbits x6 = y at *
    have HY := Lib.hid hy
    clear hy
    go_wp2
    go_ret
    exact ⟨by rw [HT.out, ← HB.out]; go_num, rfl⟩
end Go.Proofs.YtkmeckimmfbkiaaGreatDoor
namespace Go.Proofs.YtkmeckimmfbkiaaGreatDoor
open Go Go.RowKit
theorem nbits_le (x k : Nat) : nbits x ≤ k ↔ x < 2 ^ k := by
  by_cases h0 : x = 0
  · subst h0; simp [nbits, Nat.pow_pos]
  · rw [nbits, if_neg h0, ← Nat.log2_lt h0]; omega
theorem limbs_top (x : Nat) : ∀ h : 0 < (limbs x).length, (limbs x)[(limbs x).length - 1] ≠ 0 := by
  induction x using Nat.strongRecOn with
  | ind x ih =>
    rcases Nat.eq_zero_or_pos x with h0 | h0
    · subst h0; intro h; simp only [limbs_zero, List.length_nil] at h; omega
    · intro _
      have hq := ih (x / 18446744073709551616) (Nat.div_lt_self h0 (by omega))
      simp only [limbs_pos x h0, List.length_cons, Nat.add_sub_cancel]
      rcases Nat.eq_zero_or_pos (limbs (x / 18446744073709551616)).length with h1 | h1
      · have h2 : ¬ 0 < x / 18446744073709551616 := by rw [← limbs_len_pos]; omega
        simp only [h1, List.getElem_cons_zero]
        omega
      · rw [List.getElem_cons, dif_neg (by omega)]
        exact hq h1
set_option maxRecDepth 10000 in
set_option maxHeartbeats 400000 in
theorem intBitLen_any (g x : Nat) (neg : Bool) (w : World) (hx : IntAt w w.heap.size g neg x) (hs : (limbs x).length ≤ 2147483640) :
    Calls Tryz.prog 88 #[.pointer (some ⟨g, 0, none⟩)] w fun e w' => e = .returned (.int .i64 (nbits x)) ∧ w = w' := by
  obtain ⟨A, c, hb, hg, hr, hc⟩ := hx
  obtain ⟨k0, k1, z0, z1⟩ := hb.c2
  have hcall := natBitLen_any (limbs x) A _ c w rfl hs hc (limbs_lt x) (limbs_top x) hr
  rw [natV_limbs] at hcall
  have HC := Lib.hid hcall
  clear hb hr hcall
  go_enter Tryz.func88, Tryz.ntmps88
  go_wp2_with fail
  refine HC.out.mono ?_
  rintro e w1 ⟨rfl, rfl⟩
  clear HC
  go_wp2
  go_ret
  exact ⟨rfl, rfl⟩
set_option maxRecDepth 10000 in
set_option maxHeartbeats 400000 in
theorem low64_any (x : Nat) (A : Option Addr) (n c : Nat) (w : World) (hn : (limbs x).length = n) (hr : Reads w w.heap.size 1 A n (wv (limbs x))) :
    Calls Tryz.prog 89 #[.slice A n c] w fun e w' => e = .returned (.int .u64 ((x % 18446744073709551616 : Nat) : Int)) ∧ w = w' := by
  rcases Nat.eq_zero_or_pos x with h0 | h0
  · subst h0
    rw [limbs_zero] at hn
    subst hn
    go_enter Tryz.func89, Tryz.ntmps89
    go_wp2
    go_ret
    exact ⟨rfl, rfl⟩
  · obtain ⟨m, hm⟩ : ∃ m, n = m + 1 := ⟨n - 1, by
      have h1 : 0 < (limbs x).length := by rw [limbs_len_pos]; exact h0
      omega⟩
    subst hm
    rw [limbs_pos x h0] at hr
    obtain ⟨ad, rfl, hlt, hc⟩ := hr.2 (by omega)
    have hcell := hc 0 _ rfl
    simp only [show ad.add 0 = ad from rfl] at hcell
    generalize x % 18446744073709551616 = y at *
    have hlen : (((m + 1 : Nat) : Int) == 0) = false := by simp; omega
    have hidx : (0 : Int) < ((m + 1 : Nat) : Int) := by omega
    clear hr hc hn
    go_enter Tryz.func89, Tryz.ntmps89
    go_wp2
    go_ret
    exact ⟨rfl, rfl⟩
theorem ret_int {k : IntKind} {a b : Int} (h : a = b) : Ending.returned (.int k a) = .returned (.int k b) := by rw [h]
/-- What a big integer is worth. -/
def sgn (neg : Bool) (x : Nat) : Int := if neg then -(x : Int) else x
set_option maxRecDepth 10000 in
set_option maxHeartbeats 400000 in
theorem intInt64_any (g x : Nat) (neg : Bool) (w : World) (hx : IntAt w w.heap.size g neg x) (hs : x < 9223372036854775808) :
    Calls Tryz.prog 76 #[.pointer (some ⟨g, 0, none⟩)] w fun e w' => e = .returned (.int .i64 (sgn neg x)) ∧ w = w' := by
  obtain ⟨A, c, hb, hg, hr, hc⟩ := hx
  obtain ⟨k0, k1, z0, z1⟩ := hb.c2
  have hcall := low64_any x A _ c w rfl hr
  rw [Nat.mod_eq_of_lt (by omega)] at hcall
  have HC := Lib.hid hcall
  clear hb hr hcall
  go_enter Tryz.func76, Tryz.ntmps76
  go_wp2_with fail
  refine HC.out.mono ?_
  rintro e w1 ⟨rfl, rfl⟩
  clear HC
  go_wp2
  all_goals
    go_ret
    exact ⟨ret_int (by simp [sgn, *]), rfl⟩
/-- Words do not lie in an int's own block. -/
theorem Reads.grown63 {w w' : World} {B g n : Nat} {a : Int} {p : Option Addr} {A : Option Addr} {l : List Nat} (h : Reads w B 1 A n (wv l)) (hb : Blk w g 94 #[.int .i64 a, .pointer p]) (hg : w.grownBy w' (some g)) : Reads w' B 1 A n (wv l) := by
  refine ⟨h.1, fun hn => ?_⟩
  obtain ⟨ad, e, hlt, hc⟩ := h.2 hn
  have hlen : l.length = n := by have := h.1; rw [wv_len] at this; omega
  have hne : ad.block ≠ g := by
    intro hg
    have h0 := hc 0 _ (wv_get l 0 (by omega))
    have e0 : ad.add 0 = ad := rfl
    rw [e0] at h0
    obtain ⟨bl, off, spot⟩ := ad
    simp only at hg
    subst hg
    unfold Blk at hb
    simp only [World.cell?, hb] at h0
    split at h0
    · cases h0
    · rcases off with _ | _ | off <;> simp at h0
  refine ⟨ad, e, hlt, fun j v hj => ?_⟩
  have hj' := hc j v hj
  rw [World.cell?_of_block (hg.block (ad.add j).block (block_lt_of_cell hj') (by rw [block_of_add]; intro e; exact hne (by injection e)))]
  exact hj'
/-- Is it an int32? -/
def smallB (v : Int) : Bool := decide (-2147483648 ≤ v ∧ v ≤ 2147483647)
theorem sgn_true (x : Nat) : sgn true x = -(x : Int) := rfl
theorem sgn_false (x : Nat) : sgn false x = (x : Int) := rfl
theorem size63 : (Tryz.prog.info? 94).map (·.size) = some 2 := by kernel_rfl
set_option maxRecDepth 10000 in
set_option maxHeartbeats 400000 in
theorem isSmall_any (g x : Nat) (neg : Bool) (w : World) (hx : IntAt w w.heap.size g neg x) (hs : (limbs x).length ≤ 2147483640) :
    Calls Tryz.prog 74 #[.pointer (some ⟨g, 0, none⟩)] w fun e w' => e = .returned (.bool (smallB (sgn neg x))) ∧ w = w' := by
  have hbit := Lib.hid (intBitLen_any g x neg w hx hs)
  have h31 := nbits_le x 31
  have h32 := nbits_le x 32
  simp only [Nat.reducePow] at h31 h32
  have hi64 := Lib.hid (intInt64_any g x neg w hx)
  have HX := Lib.hid hx
  clear hx
  go_enter Tryz.func74, Tryz.ntmps74
  go_wp2_with fail
  refine hbit.out.mono ?_
  rintro e w1 ⟨rfl, rfl⟩
  generalize hn : nbits x = n at *
  have HN := Lib.hid hn
  clear hn
  by_cases h1 : x < 2147483648
  · have hn1 : n ≤ 31 := h31.2 h1
    clear h31 h32
    go_wp2
    go_ret
    refine ⟨?_, rfl⟩
    have : smallB (sgn neg x) = true := by
      rw [smallB, decide_eq_true_eq]
      cases neg <;> simp only [sgn_true, sgn_false] <;> omega
    rw [this]
    rfl
  · by_cases h2 : x < 4294967296
    · have hn1 : n ≤ 32 := h32.2 h2
      have hn2 : ¬ n ≤ 31 := fun h => h1 (h31.1 h)
      obtain rfl : n = 32 := by omega
      clear h31 h32 HN hn1 hn2
      go_wp2_with fail
      refine (hi64.out (by omega)).mono ?_
      rintro e w1 ⟨rfl, rfl⟩
      go_wp2
      go_ret
      refine ⟨?_, rfl⟩
      have : smallB (sgn neg x) = (sgn neg x == -2147483648) := by
        rw [Bool.eq_iff_iff, smallB, decide_eq_true_eq, beq_iff_eq]
        cases neg <;> simp only [sgn_true, sgn_false] <;> omega
      rw [this]
      rfl
    · have hn1 : 33 ≤ n := by
        rcases Nat.lt_or_ge 32 n with h | h
        · exact h
        · exact absurd (h32.1 h) h2
      clear h31 h32
      have hd : decide ((n : Int) < 32) = false := by simp; omega
      have he : ((n : Int) == 32) = false := by simp; omega
      go_wp2
      go_ret
      refine ⟨?_, rfl⟩
      have : smallB (sgn neg x) = false := by
        rw [smallB, decide_eq_false_iff_not]
        cases neg <;> simp only [sgn_true, sgn_false] <;> omega
      rw [this]
      rfl
set_option maxRecDepth 10000 in
set_option maxHeartbeats 400000 in
theorem makeSmall_any (x : Int) (w : World) :
    Calls Tryz.prog 75 #[.int .i64 x] w fun e w' => e = .returned (.agg #[.int .i64 x, .pointer none]) ∧ Below w.heap.size w w' := by
  go_enter Tryz.func75, Tryz.ntmps75
  go_wp2
  refine gen1 (M := fun W => bodyPost _ _ _ _ _ W) fun W hB b hz => ?_
  exact ret_row rfl _ b rfl Tryz.underlying94 rfl size63 rfl ⟨rfl, hB⟩
set_option maxRecDepth 10000 in
set_option maxHeartbeats 400000 in
theorem makeBig_any (p : Option Addr) (w : World) :
    Calls Tryz.prog 77 #[.pointer p] w fun e w' => e = .returned (.agg #[.int .i64 0, .pointer p]) ∧ Below w.heap.size w w' := by
  go_enter Tryz.func77, Tryz.ntmps77
  go_wp2
  refine gen1 (M := fun W => bodyPost _ _ _ _ _ W) fun W hB b hz => ?_
  exact ret_row rfl _ b rfl Tryz.underlying94 rfl size63 rfl ⟨rfl, hB⟩
/-- An int of the package, small or big. -/
def SInt (w : World) (B : Nat) (x small : Int) (bp : Option Addr) : Prop :=
  (bp = none ∧ small = x ∧ -2147483648 ≤ x ∧ x ≤ 2147483647) ∨
  (∃ g, bp = some ⟨g, 0, none⟩ ∧ small = 0 ∧ IntAt w B g (decide (x < 0)) x.natAbs ∧ ¬ (-2147483648 ≤ x ∧ x ≤ 2147483647))
def MadeInt (w : World) (x : Int) (e : Ending) (w' : World) : Prop :=
  ∃ small bp, e = .returned (.agg #[.int .i64 small, .pointer bp]) ∧ SInt w' w'.heap.size x small bp ∧ Below w.heap.size w w'
set_option maxRecDepth 10000 in
set_option maxHeartbeats 400000 in
theorem makeBigInt_any (g x : Nat) (neg : Bool) (w : World) (hx : IntAt w w.heap.size g neg x) (hs : (limbs x).length ≤ 2147483640) (hn : neg = true → 0 < x) :
    Calls Tryz.prog 66 #[.pointer (some ⟨g, 0, none⟩)] w (MadeInt w (sgn neg x)) := by
  have HX := Lib.hid hx
  clear hx
  go_enter Tryz.func66, Tryz.ntmps66
  go_wp2_with fail
  refine gen1 (M := fun W => Calls _ _ _ W _) fun W hB b hz => ?_
  have hx1 := (HX.out.below hB).more (B' := W.heap.size) (by omega)
  have HX1 := Lib.hid (And.intro hx1 (And.intro hB (And.intro b hz)))
  clear HX hB b hz
  refine (isSmall_any g x neg W HX1.out.1 hs).mono ?_
  rintro e w1 ⟨rfl, rfl⟩
  by_cases hsm : smallB (sgn neg x) = true
  · rw [hsm]
    have hlt : x < 9223372036854775808 := by
      rw [smallB, decide_eq_true_eq] at hsm
      cases neg <;> simp only [sgn_true, sgn_false] at hsm <;> omega
    go_wp2_with fail
    refine (intInt64_any g x neg W HX1.out.1 hlt).mono ?_
    rintro e w1 ⟨rfl, rfl⟩
    go_wp2_with fail
    refine (makeSmall_any (sgn neg x) W).mono ?_
    rintro e w1 ⟨rfl, hB1⟩
    obtain ⟨hx1, hB, b, hz⟩ := HX1.out
    have b1 := b.below hB1 (by omega)
    obtain ⟨k0, k1, z0, z1⟩ := b1.c2
    have hB2 := hB.trans (hB1.mono (by omega))
    clear HX1 hx1 hB hB1 b
    go_wp2
    refine gen_set2 (M := fun V => bodyPost _ _ _ _ _ V) b1 fun W2 b2 hg2 hz2 => ?_
    refine ret_row rfl _ b2 rfl Tryz.underlying94 rfl size63 rfl ⟨_, _, rfl, .inl ⟨rfl, rfl, ?_⟩, below_grown hB2 hg2 (Nat.le_refl _) hB2.size⟩
    rw [smallB, decide_eq_true_eq] at hsm
    exact hsm
  · have hsm' : smallB (sgn neg x) = false := by simpa using hsm
    rw [hsm']
    go_wp2_with fail
    have HX2 := Lib.hid HX1.out
    obtain ⟨hx1, hB, b, hz⟩ := HX1.out
    clear HX1
    have hzl : w.heap.size < W.heap.size := by omega
    clear hz
    have hgl : g < W.heap.size := by obtain ⟨_, _, _, h, _, _⟩ := hx1; exact h
    refine gen1 (M := fun W => Calls _ _ _ W _) fun W2 hB2 b2 hz2 => ?_
    have hx2 := (hx1.below hB2).more (B' := W2.heap.size) (by omega)
    refine (intSet_any W.heap.size g x neg W2 hx2 hs (by omega) b2).mono ?_
    rintro e w3 ⟨rfl, hx3, hg3⟩
    have hB4 : Below w.heap.size w w3 := (hB.trans (hB2.mono (by omega))).grown hg3 (by omega) (fun k e => by cases e; omega)
    have b3 := (b.below hB2 (by omega)).grown hg3 (by simp; omega)
    have hzl2 : W.heap.size < W2.heap.size := by omega
    clear hx1 hx2 hB hB2 b b2 HX2 hg3 hz2
    have H3 := Lib.hid (And.intro hx3 (And.intro hB4 b3))
    clear hx3 hB4 b3
    go_wp2_with fail
    refine (makeBig_any (some ⟨W.heap.size, 0, none⟩) w3).mono ?_
    rintro e w4 ⟨rfl, hB5⟩
    obtain ⟨hx3, hB4, b3⟩ := H3.out
    have b4 := b3.below hB5 b3.lt
    have hx4 := (hx3.below hB5).more hB5.size
    have hB6 := hB4.trans (hB5.mono hB4.size)
    obtain ⟨k0, k1, z0, z1⟩ := b4.c2
    clear hx3 hB4 hB5 b3 H3
    go_wp2
    refine gen_set2 (M := fun V => bodyPost _ _ _ _ _ V) b4 fun W5 b5 hg5 hz5 => ?_
    have hv : decide (sgn neg x < 0) = neg ∧ (sgn neg x).natAbs = x := by
      rw [smallB, decide_eq_false_iff_not] at hsm'
      cases neg
      · exact ⟨decide_eq_false (by rw [sgn_false]; omega), by rw [sgn_false]; omega⟩
      · have := hn rfl
        exact ⟨decide_eq_true (by rw [sgn_true]; omega), by rw [sgn_true]; omega⟩
    refine ret_row rfl _ b5 rfl Tryz.underlying94 rfl size63 rfl ⟨_, _, rfl, .inr ⟨_, rfl, rfl, ?_, ?_⟩, below_grown hB6 hg5 (Nat.le_refl _) hB6.size⟩
    · rw [hv.1, hv.2]
      obtain ⟨A, c, i1, i2, i3, i4⟩ := hx4
      exact ⟨A, c, i1.grown hg5 (by simp; omega), by omega, (i3.grown63 b4 hg5).more (by omega), i4⟩
    · rw [smallB, decide_eq_false_iff_not] at hsm'
      exact hsm'
end Go.Proofs.YtkmeckimmfbkiaaGreatDoor
namespace Go.Proofs.YtkmeckimmfbkiaaGreatDoor
open Go Go.RowKit
theorem IntAt.grown97 {w w' : World} {B g : Nat} {neg : Bool} {x : Nat} (h : IntAt w B g neg x) {k : Nat} (hg : w.grownBy w' (some k)) (hk : B ≤ k) (hB : B ≤ w.heap.size) : IntAt w' B g neg x := by
  obtain ⟨A, c, h1, h2, h3, h4⟩ := h
  exact ⟨A, c, h1.grown hg (by simp; omega), h2, h3.grown hg hB (fun g' e => by cases e; exact hk), h4⟩
theorem SInt.grown63 {w w' : World} {B g : Nat} {x small a : Int} {bp p : Option Addr} (h : SInt w B x small bp) (hb : Blk w g 94 #[.int .i64 a, .pointer p]) (hg : w.grownBy w' (some g)) : SInt w' B x small bp := by
  rcases h with h | ⟨g', e1, e2, ⟨A, c, i1, i2, i3, i4⟩, h5⟩
  · exact .inl h
  · exact .inr ⟨g', e1, e2, ⟨A, c, i1.grown hg (by have := Blk.ne_ i1 hb (by decide); simpa using this), i2, i3.grown63 hb hg, i4⟩, h5⟩
theorem SInt.more {w : World} {B B' : Nat} {x small : Int} {bp : Option Addr} (h : SInt w B x small bp) (hB : B ≤ B') : SInt w B' x small bp := by
  rcases h with h | ⟨g', e1, e2, h, h5⟩
  · exact .inl h
  · exact .inr ⟨g', e1, e2, h.more hB, h5⟩
theorem SInt.below {w w' : World} {B : Nat} {x small : Int} {bp : Option Addr} (h : SInt w B x small bp) (hb : Below B w w') : SInt w' B x small bp := by
  rcases h with h | ⟨g', e1, e2, h, h5⟩
  · exact .inl h
  · exact .inr ⟨g', e1, e2, h.below hb, h5⟩
theorem limbs_len_le (m : Nat) : ∀ x, x < 18446744073709551616 ^ m → (limbs x).length ≤ m := by
  induction m with
  | zero => intro x hx; obtain rfl : x = 0 := by simpa using hx
            rw [limbs_zero]; exact Nat.le_refl _
  | succ m ih =>
    intro x hx
    rcases Nat.eq_zero_or_pos x with h0 | h0
    · subst h0; rw [limbs_zero]; exact Nat.zero_le _
    · rw [limbs_pos x h0, List.length_cons]
      exact Nat.succ_le_succ (ih _ (by rw [Nat.pow_succ] at hx; exact Nat.div_lt_of_lt_mul (by rw [Nat.mul_comm]; exact hx)))
theorem limbs_beNat (l : List UInt8) : (limbs (beNat l)).length ≤ l.length :=
  limbs_len_le _ _ (Nat.lt_of_lt_of_le (beNat_lt l) (Nat.pow_le_pow_left (by omega) _))
set_option maxRecDepth 10000 in
set_option maxHeartbeats 400000 in
/-- The thin package's 'whole': the number of a sign and of bytes, as an int of the package. -/
theorem whole_any (k : Int) (neg : Bool) (l : List UInt8) (A : Option Addr) (n c : Nat) (bits : Int) (s : ByteArray) (kids : Value) (hkids : ∃ A' n' c', kids = .slice A' n' c') (w : World) (hn : l.length = n) (hl : n ≤ 2147483640) (hc0 : n ≤ c) (hr : Reads w w.heap.size 1 A n (bv l)) :
    Calls Tryz.prog 51 #[.agg #[.int .i64 k, .bool neg, .slice A n c, .int .u64 bits, .string s, kids]] w (MadeInt w (sgn neg (beNat l))) := by
  obtain ⟨A', n', c', rfl⟩ := hkids
  have HR := Lib.hid (And.intro hr hn)
  clear hr hn
  go_enter Tryz.func51, Tryz.ntmps51
  have hlen := limbs_beNat l
  have hn := HR.out.2
  go_wp2_with fail
  refine gen3 (M := fun W => Calls _ _ _ W _) fun W hB b1 b2 b3 hz => ?_
  refine (intSetBytes_any l A n c (w.heap.size + 2) W HR.out.2 hl hc0 ((HR.out.1.below hB).more (by omega)) b3).mono ?_
  rintro e w1 ⟨rfl, hx, hg⟩
  have b1 := b1.grown hg (by simp)
  have b2 := b2.grown hg (by simp)
  have hB1 := below_grown hB hg (by omega) (by omega)
  obtain ⟨k0, k1, k2, k3, k4, k5, z0, z1, z2, z3, z4, z5⟩ := b1.c6
  have hlim : (limbs (beNat l)).length ≤ 2147483640 := by omega
  have HX := Lib.hid (And.intro hx (And.intro hB1 b2))
  clear hB b3 hz hx hg b1 b2 hB1 k0 k2 k3 k4 k5 z0 z1 z2 z3 z4 z5 hlen hn
  cases neg
  · go_wp2_with fail
    refine (makeBigInt_any (w.heap.size + 2) (beNat l) false w1 HX.out.1 hlim (by simp)).mono ?_
    rintro e w2 ⟨small, bp, rfl, hs, hB2⟩
    obtain ⟨hx, hB1, b2⟩ := HX.out
    have b3 := b2.below hB2 b2.lt
    have hB3 := hB1.trans (hB2.mono hB1.size)
    obtain ⟨k0, k1, z0, z1⟩ := b3.c2
    clear hx hB1 b2 hB2 HX
    go_wp2
    refine gen_set2 (M := fun V => bodyPost _ _ _ _ _ V) b3 fun W2 b4 hg2 hz2 => ?_
    exact ret_row rfl _ b4 rfl Tryz.underlying94 rfl size63 rfl ⟨_, _, rfl, (hs.grown63 b3 hg2).more (by omega), below_grown hB3 hg2 (by omega) hB3.size⟩
  · go_wp2_with fail
    refine (intNeg_any (w.heap.size + 2) (beNat l) false w1 HX.out.1 hlim).mono ?_
    rintro e w2 ⟨rfl, hx, hg⟩
    go_wp2_with fail
    have hsg : sgn (decide (0 < beNat l) && !false) (beNat l) = sgn true (beNat l) := by
      rcases Nat.eq_zero_or_pos (beNat l) with h0 | h0
      · rw [h0]; rfl
      · rw [decide_eq_true h0]; rfl
    refine (makeBigInt_any (w.heap.size + 2) (beNat l) _ w2 hx hlim (by simp)).mono ?_
    rw [hsg]
    rintro e w3 ⟨small, bp, rfl, hs, hB2⟩
    obtain ⟨_, hB1, b2⟩ := HX.out
    have b2 := b2.grown hg (by simp)
    have hB1 := below_grown hB1 hg (by omega) hB1.size
    have b3 := b2.below hB2 b2.lt
    have hB3 := hB1.trans (hB2.mono hB1.size)
    obtain ⟨k0, k1, z0, z1⟩ := b3.c2
    clear hx hB1 b2 hB2 HX hg
    go_wp2
    refine gen_set2 (M := fun V => bodyPost _ _ _ _ _ V) b3 fun W2 b4 hg2 hz2 => ?_
    exact ret_row rfl _ b4 rfl Tryz.underlying94 rfl size63 rfl ⟨_, _, rfl, (hs.grown63 b3 hg2).more (by omega), below_grown hB3 hg2 (by omega) hB3.size⟩
set_option maxRecDepth 10000 in
set_option maxHeartbeats 400000 in
theorem scalar_int (neg : Bool) (l : List UInt8) (A : Option Addr) (n c : Nat) (bits : Int) (s : ByteArray) (A' : Option Addr) (n' c' : Nat) (w : World) (hn : l.length = n) (hl : n ≤ 2147483640) (hc0 : n ≤ c) (hr : Reads w w.heap.size 1 A n (bv l)) :
    Calls Tryz.prog 35 #[.int .i64 2, .agg #[.int .i64 2, .bool neg, .slice A n c, .int .u64 bits, .string s, .slice A' n' c']] w fun e w' =>
      ∃ small bp, e = .returned (.tuple #[.iface 94 (.agg #[.int .i64 small, .pointer bp]), .bool true]) ∧ SInt w' w'.heap.size (sgn neg (beNat l)) small bp ∧ Below w.heap.size w w' := by
  have HR := Lib.hid (And.intro hr hn)
  clear hr hn
  go_enter Tryz.func35, Tryz.ntmps35
  go_wp2_with fail
  refine gen1 (M := fun W => Calls _ _ _ W _) fun W hB b hz => ?_
  refine (whole_any 2 neg l A n c bits s _ ⟨_, _, _, rfl⟩ W HR.out.2 hl hc0 ((HR.out.1.below hB).more (by omega))).mono ?_
  rintro e w1 ⟨small, bp, rfl, hs, hB1⟩
  clear HR b
  go_wp2
  go_ret2
  exact ⟨small, bp, rfl, hs, hB.trans (hB1.mono (by omega))⟩
set_option maxRecDepth 10000 in
set_option maxHeartbeats 400000 in
theorem scalar_string (neg : Bool) (A : Option Addr) (n c : Nat) (bits : Int) (s : ByteArray) (A' : Option Addr) (n' c' : Nat) (w : World) :
    Calls Tryz.prog 35 #[.int .i64 4, .agg #[.int .i64 4, .bool neg, .slice A n c, .int .u64 bits, .string s, .slice A' n' c']] w fun e w' =>
      e = .returned (.tuple #[.iface 98 (.string s), .bool true]) ∧ Below w.heap.size w w' := by
  go_enter Tryz.func35, Tryz.ntmps35
  go_wp2_with fail
  go_ret2
  exact ⟨rfl, (Below.refl _ _).alloc (Nat.le_refl _) _⟩
set_option maxRecDepth 10000 in
set_option maxHeartbeats 400000 in
theorem value_int (neg : Bool) (l : List UInt8) (A : Option Addr) (n c : Nat) (bits : Int) (s : ByteArray) (A' : Option Addr) (n' c' : Nat) (w : World) (hn : l.length = n) (hl : n ≤ 2147483640) (hc0 : n ≤ c) (hr : Reads w w.heap.size 1 A n (bv l)) :
    Calls Tryz.prog 19 #[.agg #[.int .i64 2, .bool neg, .slice A n c, .int .u64 bits, .string s, .slice A' n' c']] w fun e w' =>
      ∃ small bp, e = .returned (.tuple #[.iface 94 (.agg #[.int .i64 small, .pointer bp]), .bool true]) ∧ SInt w' w'.heap.size (sgn neg (beNat l)) small bp ∧ Below w.heap.size w w' := by
  have HR := Lib.hid (And.intro hr hn)
  clear hr hn
  go_enter Tryz.func19, Tryz.ntmps19
  go_wp2_with fail
  refine gen1 (M := fun W => Calls _ _ _ W _) fun W hB b hz => ?_
  refine (scalar_int neg l A n c bits s A' n' c' W HR.out.2 hl hc0 ((HR.out.1.below hB).more (by omega))).mono ?_
  rintro e w1 ⟨small, bp, rfl, hs, hB1⟩
  clear HR b
  go_wp2
  go_ret2
  exact ⟨small, bp, rfl, hs, hB.trans (hB1.mono (by omega))⟩
set_option maxRecDepth 10000 in
set_option maxHeartbeats 400000 in
theorem value_string (neg : Bool) (A : Option Addr) (n c : Nat) (bits : Int) (s : ByteArray) (A' : Option Addr) (n' c' : Nat) (w : World) :
    Calls Tryz.prog 19 #[.agg #[.int .i64 4, .bool neg, .slice A n c, .int .u64 bits, .string s, .slice A' n' c']] w fun e w' =>
      e = .returned (.tuple #[.iface 98 (.string s), .bool true]) ∧ Below w.heap.size w w' := by
  go_enter Tryz.func19, Tryz.ntmps19
  go_wp2_with fail
  refine gen1 (M := fun W => Calls _ _ _ W _) fun W hB b hz => ?_
  refine (scalar_string neg A n c bits s A' n' c' W).mono ?_
  rintro e w1 ⟨rfl, hB1⟩
  clear b
  go_wp2
  go_ret2
  exact ⟨rfl, hB.trans (hB1.mono (by omega))⟩
end Go.Proofs.YtkmeckimmfbkiaaGreatDoor
namespace Go.Proofs.YtkmeckimmfbkiaaGreatDoor
open Go Go.RowKit
set_option maxRecDepth 10000 in
set_option maxHeartbeats 400000 in
theorem cut_any (l : List UInt8) (A : Option Addr) (c : Nat) (w : World) (hl : l.length ≤ 2147483647) (hc0 : l.length ≤ c) (hr : Reads w w.heap.size 1 A l.length (bv l)) :
    Calls Tryz.prog 21 #[.slice A l.length c] w (Owns 5 1 w (cutB l).length (bv (cutB l))) := by
  go_enter Tryz.func21, Tryz.ntmps21
  go_wp2
  go_loop [3] (fun i => ∃ k : Nat, k ≤ l.length ∧ (∀ j (hj : j < l.length), j < k → l[j] = 0) ∧ i = .int .i64 k) (fun i => l.length - (intOf i).toNat)
  case atStart => exact ⟨0, Nat.zero_le _, fun j _ h => absurd h (by omega), rfl⟩
  case round =>
    obtain ⟨k, hk, h0, rfl⟩ := hrel
    have H0 := Lib.hid h0
    clear h0
    by_cases hlt : k < l.length
    · obtain ⟨ad, rfl, _, hcell⟩ := hr.byte hlt
      by_cases hb : l[k] = 0
      · have hz : ((l[k].toNat : Int) == 0) = true := by rw [hb]; rfl
        clear hr
        go_wp2
        go_round
        case rel => exact ⟨k + 1, by omega, fun j hj hjk => by
          rcases Nat.lt_or_ge j k with h | h
          · exact H0.out j hj h
          · obtain rfl : j = k := by omega
            exact hb, by go_num⟩
        case measure => simp [intOf]; omega
      · have hz : ((l[k].toNat : Int) == 0) = false := by
          rw [beq_eq_false_iff_ne]
          intro h
          exact hb (UInt8.toNat_inj.1 (by simpa using h))
        have hcut := Lib.hid (cutB_of l k hk (fun j hj => H0.out j (by omega) hj) (fun _ => hb))
        have hR := (hr.cut hk hc0).alloc (Nat.le_refl _) (.cells #[] 5)
        rw [if_neg (by omega), Nat.mul_one, bv_drop] at hR
        have hdec : decide (c = k) = false := by simp; omega
        have hO := World.ownsRow_lit (base := w.heap.size) (e := 5) (size := 1) w #[] 0 (Nat.le_refl _) (by decide) rfl
        go_wp2_with (at_builtin; refine app_bytes rfl _ _ rfl w.heap.size _ 0 [] rfl hO w.heap.size _ _ _ (l.drop k) rfl hR (by omega) (by simp) ?_)
        · intro v' w' h1 h2 h3
          go_wp2
          go_ret
          exact ownsB_mk hcut.out h1 (((Below.refl _ _).alloc (Nat.le_refl _) _).grown h2 (by simp) (by simp [Value.ownBlock]))
    · have hcut := Lib.hid (cutB_of l k hk (fun j hj => H0.out j (by omega) hj) (fun h => absurd h hlt))
      obtain rfl : k = l.length := by omega
      have hO := World.ownsRow_lit (base := w.heap.size) (e := 5) (size := 1) w #[] 0 (Nat.le_refl _) (by decide) rfl
      have hR : ∀ B, Reads (w.alloc (.cells #[] 5)) w.heap.size 1 B 0 (bv []) := fun B => ⟨rfl, fun h => absurd h (by omega)⟩
      go_wp2_with (at_builtin; refine app_bytes rfl _ _ rfl w.heap.size _ 0 [] rfl hO w.heap.size _ _ _ [] rfl (hR _) (by omega) (by simp) ?_)
      all_goals
        intro v' w' h1 h2 h3
        go_wp2
        go_ret
        refine ownsB_mk (l := []) (by rw [hcut.out]; simp) h1 (((Below.refl _ _).alloc (Nat.le_refl _) _).grown h2 (by simp) (by simp [Value.ownBlock]))

/-- A struct of a sign and a new row of bytes is handed back. -/
def OwnsInt (w : World) (neg : Bool) (l : List UInt8) (e : Ending) (w' : World) : Prop :=
  ∃ A c, e = .returned (.agg #[.bool neg, .slice A l.length c]) ∧ w'.ownsRow w.heap.size 5 1 (.slice A l.length c) l.length (bv l) ∧ l.length ≤ c ∧ Below w.heap.size w w'
set_option maxRecDepth 10000 in
set_option maxHeartbeats 400000 in
theorem of_any (neg : Bool) (l : List UInt8) (A : Option Addr) (n c : Nat) (w : World) (hn : l.length = n) (hl : n ≤ 2147483647) (hc0 : n ≤ c) (hr : Reads w w.heap.size 1 A n (bv l)) :
    Calls Tryz.prog 12 #[.bool neg, .slice A n c] w (OwnsInt w (neg && decide (0 < (cutB l).length)) (cutB l)) := by
  subst hn
  go_enter Tryz.func12, Tryz.ntmps12
  have hR := (hr.alloc (Nat.le_refl _) (.cells #[.bool false, .slice none 0 0] 39)).more (Nat.le_succ _)
  have hN := Blk.new w 39 #[.bool false, .slice none 0 0]
  go_wp2_with fail
  refine (cut_any l A c _ hl hc0 (by simpa using hR)).mono ?_
  rintro e w1 ⟨A1, c1, rfl, hown, hc1, hb⟩
  have hN1 := hN.below hb (by simp)
  have k0 := hN1.cell 0
  have k1 := hN1.cell 1
  have f0 := hN1.frozen 0
  have f1 := hN1.frozen 1
  simp at k0 k1
  have hown1 : w1.ownsRow (w.heap.size + 1) 5 1 (.slice A1 (cutB l).length c1) (cutB l).length (bv (cutB l)) := by simpa using hown
  have hb1 : Below w.heap.size w w1 := ((Below.refl _ _).alloc (Nat.le_refl _) _).trans (hb.mono (by simp))
  clear hR hr hN hown hb hN1 hc0
  have H1 := Lib.hid hown1
  clear hown1
  generalize cutB l = r at *
  go_wp2
  all_goals
    refine bodyPost_ret (v := .agg #[.bool (neg && decide (0 < r.length)), .slice A1 r.length c1]) (by simp [results, Tryz.results12, go_sem, *]) rfl ?_
    refine ⟨A1, c1, by simp [*], ?_, hc1, (hb1.setCell (Nat.le_refl _) _).setCell (Nat.le_refl _) _⟩
    exact own_mono (ownsRow_setCell_below (ownsRow_setCell_below H1.out (by simp) _) (by simp) _) (Nat.le_succ _)
theorem size28 : (Tryz.prog.info? 26).map (·.size) = some 6 := by kernel_rfl
theorem size24 : (Tryz.prog.info? 39).map (·.size) = some 2 := by kernel_rfl
end Go.Proofs.YtkmeckimmfbkiaaGreatDoor
