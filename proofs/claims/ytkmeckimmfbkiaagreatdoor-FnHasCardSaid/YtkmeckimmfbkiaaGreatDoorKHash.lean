/- Hashes of keys, told: equal keys have equal hashes. Conditions: none. -/
import Derived.Test.YtkmeckimmfbkiaaGreatDoorJFin
import Derived.Test.YtkmeckimmfbkiaaGreatDoorKEq
namespace Go.Proofs.YtkmeckimmfbkiaaGreatDoor
open Go Go.RowKit
set_option maxRecDepth 10000 in
set_option maxHeartbeats 400000 in
theorem finiteV_any (b : Nat) (hb : b < 2 ^ 64) (hf : b % 2 ^ 63 < 2047 * 2 ^ 52) (w : World) : Calls Tryz.prog 288 #[.float .f64 b] w (MadeInt w (truncF b)) := by
  rcases hr : Fl.inRange b with _ | _
  · obtain ⟨hp, hm⟩ := Fl.conv_out hb hf hr
    have HR := Lib.hid fun W => floatRat_any b hb hf W
    have HP := Lib.hid (And.intro hp hm)
    unfold Fl.inRange at hr
    rw [Bool.and_eq_false_iff] at hr
    have hor : (FloatKind.f64.format.order 14114281232179134464 b == some .lt || FloatKind.f64.format.order 14114281232179134464 b == some .eq) = false ∨ ((FloatKind.f64.format.order 14114281232179134464 b == some .lt || FloatKind.f64.format.order 14114281232179134464 b == some .eq) = true ∧ (FloatKind.f64.format.order b 4890909195324358656 == some .lt) = false) := by
      rcases h : (FloatKind.f64.format.order 14114281232179134464 b == some .lt || FloatKind.f64.format.order 14114281232179134464 b == some .eq) with _ | _
      · exact .inl rfl
      · rw [h] at hr
        exact .inr ⟨rfl, hr.resolve_left (by decide)⟩
    clear hr hp hm hf
    rcases hor with o1 | ⟨o1, o2⟩
    · go_enter Tryz.func288, Tryz.ntmps288
      go_wp2_with (simp only [o1])
      refine gen1 (M := fun W => Calls _ _ _ W _) fun W hB bz hs => ?_
      refine (HR.out W).mono ?_
      rintro e w1 ⟨g, a, d, rfl, hg, hR, hB1, h1, h2, h3, h4, h5⟩
      have hd1 : d = 1 := h5 HP.out.1
      subst hd1
      have ha0 : 0 < a := Fl.num_pos h2 HP.out.2 (by decide)
      have hT : sgn (decide (Fl.sv (decide (2 ^ 63 ≤ b)) (b % 2 ^ 63) < 0)) a = truncF b := trunc_whole h2 ha0
      generalize decide (Fl.sv (decide (2 ^ 63 ≤ b)) (b % 2 ^ 63) < 0) = N at *
      have HT := Lib.hid hT
      clear hT
      have b1 := bz.below hB1 (by omega)
      have hB2 := hB.trans (hB1.mono (by omega))
      have y3 : ∃ D c, w1.cell? ⟨g, 3, none⟩ = some (.slice D (limbs 1).length c) := by obtain ⟨A, ca, D, cd, bx, _⟩ := hR; exact ⟨D, cd, bx.cell 3⟩
      obtain ⟨D, cd, y3⟩ := y3
      have hdn : 0 < (limbs 1).length := by rw [limbs_one 1 (by decide) (by decide)]; decide
      have H1 := Lib.hid (And.intro hR (And.intro b1 hB2))
      have hwl : w.heap.size < w1.heap.size := b1.lt
      clear hB bz hs hB1 h1 h2 h4 h5 hR b1 hB2
      go_wp2_with fail
      refine gen1 (M := fun W => Calls _ _ _ W _) fun W2 hB3 bz hs2 => ?_
      have y3 : W2.cell? ⟨g, 3, none⟩ = some (.slice D (limbs 1).length cd) := (hB3.cell (p := ⟨g, 3, none⟩) (by obtain ⟨_, _, _, _, _, h, _⟩ := H1.out.1; exact h)).trans y3
      have hgl : g < w1.heap.size := by obtain ⟨_, _, _, _, _, h, _⟩ := H1.out.1; exact h
      have H2 := Lib.hid (And.intro hB3 (And.intro bz hs2))
      clear hB3 bz
      refine (ratNum_any g W2).mono ?_
      rintro e w2 ⟨rfl, rfl⟩
      go_wp2_with fail
      refine (ratDenom_any g _ cd D w2 y3 hdn).mono ?_
      rintro e w3 ⟨rfl, rfl⟩
      go_wp2_with fail
      refine (divOne_any w1.heap.size g a N w3 ((H1.out.1.below H2.out.1).more (by omega)) H2.out.2.1 ha0 (by omega) (by omega)).mono ?_
      rintro e w4 ⟨rfl, iz, hg3⟩
      have hB5 : Below w1.heap.size w1 w4 := H2.out.1.grown hg3 (by omega) (fun k e => by cases e; exact Nat.le_refl _)
      have b4 := H1.out.2.1.below hB5 hwl
      have HB5 := Lib.hid (And.intro hB5 (And.intro b4 (H1.out.2.2.trans (hB5.mono H1.out.2.2.size))))
      have hs4 := hB5.size
      clear hB5 b4 hg3
      go_wp2_with fail
      refine (makeBigInt_any w1.heap.size a N w4 iz (by omega) (fun _ => ha0)).mono ?_
      rintro e w5 ⟨small, bp, rfl, hS, hB6⟩
      rw [HT.out] at hS
      have b6 := HB5.out.2.1.below hB6 (by omega)
      have hB7 := HB5.out.2.2.trans (hB6.mono (by omega))
      obtain ⟨k0, k1, z0, z1⟩ := b6.c2
      clear hB6 iz HB5 H1 H2 y3
      go_wp2
      refine gen_set2 (M := fun V => bodyPost _ _ _ _ _ V) b6 fun W3 b7 hg7 hz7 => ?_
      exact ret_row rfl _ b7 rfl Tryz.underlying94 rfl size63 rfl ⟨small, bp, rfl, (hS.grown63 b6 hg7).more (by omega), below_grown hB7 hg7 (Nat.le_refl _) hB7.size⟩
    · go_enter Tryz.func288, Tryz.ntmps288
      go_wp2_with (simp only [o1, o2])
      refine gen1 (M := fun W => Calls _ _ _ W _) fun W hB bz hs => ?_
      refine (HR.out W).mono ?_
      rintro e w1 ⟨g, a, d, rfl, hg, hR, hB1, h1, h2, h3, h4, h5⟩
      have hd1 : d = 1 := h5 HP.out.1
      subst hd1
      have ha0 : 0 < a := Fl.num_pos h2 HP.out.2 (by decide)
      have hT : sgn (decide (Fl.sv (decide (2 ^ 63 ≤ b)) (b % 2 ^ 63) < 0)) a = truncF b := trunc_whole h2 ha0
      generalize decide (Fl.sv (decide (2 ^ 63 ≤ b)) (b % 2 ^ 63) < 0) = N at *
      have HT := Lib.hid hT
      clear hT
      have b1 := bz.below hB1 (by omega)
      have hB2 := hB.trans (hB1.mono (by omega))
      have y3 : ∃ D c, w1.cell? ⟨g, 3, none⟩ = some (.slice D (limbs 1).length c) := by obtain ⟨A, ca, D, cd, bx, _⟩ := hR; exact ⟨D, cd, bx.cell 3⟩
      obtain ⟨D, cd, y3⟩ := y3
      have hdn : 0 < (limbs 1).length := by rw [limbs_one 1 (by decide) (by decide)]; decide
      have H1 := Lib.hid (And.intro hR (And.intro b1 hB2))
      have hwl : w.heap.size < w1.heap.size := b1.lt
      clear hB bz hs hB1 h1 h2 h4 h5 hR b1 hB2
      go_wp2_with fail
      refine gen1 (M := fun W => Calls _ _ _ W _) fun W2 hB3 bz hs2 => ?_
      have y3 : W2.cell? ⟨g, 3, none⟩ = some (.slice D (limbs 1).length cd) := (hB3.cell (p := ⟨g, 3, none⟩) (by obtain ⟨_, _, _, _, _, h, _⟩ := H1.out.1; exact h)).trans y3
      have hgl : g < w1.heap.size := by obtain ⟨_, _, _, _, _, h, _⟩ := H1.out.1; exact h
      have H2 := Lib.hid (And.intro hB3 (And.intro bz hs2))
      clear hB3 bz
      refine (ratNum_any g W2).mono ?_
      rintro e w2 ⟨rfl, rfl⟩
      go_wp2_with fail
      refine (ratDenom_any g _ cd D w2 y3 hdn).mono ?_
      rintro e w3 ⟨rfl, rfl⟩
      go_wp2_with fail
      refine (divOne_any w1.heap.size g a N w3 ((H1.out.1.below H2.out.1).more (by omega)) H2.out.2.1 ha0 (by omega) (by omega)).mono ?_
      rintro e w4 ⟨rfl, iz, hg3⟩
      have hB5 : Below w1.heap.size w1 w4 := H2.out.1.grown hg3 (by omega) (fun k e => by cases e; exact Nat.le_refl _)
      have b4 := H1.out.2.1.below hB5 hwl
      have HB5 := Lib.hid (And.intro hB5 (And.intro b4 (H1.out.2.2.trans (hB5.mono H1.out.2.2.size))))
      have hs4 := hB5.size
      clear hB5 b4 hg3
      go_wp2_with fail
      refine (makeBigInt_any w1.heap.size a N w4 iz (by omega) (fun _ => ha0)).mono ?_
      rintro e w5 ⟨small, bp, rfl, hS, hB6⟩
      rw [HT.out] at hS
      have b6 := HB5.out.2.1.below hB6 (by omega)
      have hB7 := HB5.out.2.2.trans (hB6.mono (by omega))
      obtain ⟨k0, k1, z0, z1⟩ := b6.c2
      clear hB6 iz HB5 H1 H2 y3
      go_wp2
      refine gen_set2 (M := fun V => bodyPost _ _ _ _ _ V) b6 fun W3 b7 hg7 hz7 => ?_
      exact ret_row rfl _ b7 rfl Tryz.underlying94 rfl size63 rfl ⟨small, bp, rfl, (hS.grown63 b6 hg7).more (by omega), below_grown hB7 hg7 (Nat.le_refl _) hB7.size⟩
  · obtain ⟨n, hn, hn1, hn2⟩ := Fl.conv_in hb hf hr
    obtain rfl := Fl.conv_val hb hf hn
    have HCv : ∀ W, (convert 96 2 (.float .f64 b)).run Tryz.prog W = .ok (.int .i64 (truncF b)) W := fun W => run_convert_float_int W 96 2 .f64 .i64 b (truncF b) rfl rfl hn
    unfold Fl.inRange at hr
    rw [Bool.and_eq_true] at hr
    obtain ⟨o1, o2⟩ := hr
    clear hn
    have HM := Lib.hid fun W => makeInt64_any (truncF b) hn1 hn2 W
    go_enter Tryz.func288, Tryz.ntmps288
    go_wp2_with (simp only [o1, o2])
    refine gen1 (M := fun W => Calls _ _ _ W _) fun W hB b hs => ?_
    refine (HM.out W).mono ?_
    rintro e w1 ⟨small, bp, rfl, hS, hB1⟩
    have b1 := b.below hB1 (by omega)
    have hB2 := hB.trans (hB1.mono (by omega))
    obtain ⟨k0, k1, z0, z1⟩ := b1.c2
    clear hB b hB1
    go_wp2
    refine gen_set2 (M := fun V => bodyPost _ _ _ _ _ V) b1 fun W2 b3 hg2 hz2 => ?_
    exact ret_row rfl _ b3 rfl Tryz.underlying94 rfl size63 rfl ⟨small, bp, rfl, (hS.grown63 b1 hg2).more (by omega), below_grown hB2 hg2 (Nat.le_refl _) hB2.size⟩
end Go.Proofs.YtkmeckimmfbkiaaGreatDoor
namespace Go.Proofs.YtkmeckimmfbkiaaGreatDoor
open Go Go.RowKit
/-- The hash h has been told, and no error; nothing that was there has turned. -/
def HashedV (h : Int) (w : World) (e : Ending) (w' : World) : Prop := e = .returned (.tuple #[.int .u32 h, .nilIface]) ∧ Below w.heap.size w w'
/-- The hash of an integer, by its lowest word. -/
def hW (x : Int) : Int := 12582917 * (IntKind.u64.wrap (x + 3) % 4294967296) % 4294967296
set_option maxRecDepth 10000 in
theorem hashV_small (x : Int) (w : World) : Calls Tryz.prog 273 #[.agg #[.int .i64 x, .pointer none]] w (HashedV (hW (IntKind.u64.wrap x)) w) := by
  go_enter Tryz.func273, Tryz.ntmps273
  go_wp2_with fail
  refine gen1 (M := fun W => Calls _ _ _ W _) fun W hB bk hz => ?_
  refine (get_any _ _ W).mono ?_
  rintro e w1 ⟨rfl, hB1⟩
  have HB := Lib.hid (hB.trans (hB1.mono (by omega)))
  clear hB bk hz hB1
  go_wp2
  go_ret2
  exact ⟨rfl, HB.out⟩
set_option maxRecDepth 10000 in
theorem hashV_big (g x : Nat) (neg : Bool) (a : Int) (w : World) (hx : IntAt w w.heap.size g neg x) (hx0 : 0 < x) : Calls Tryz.prog 273 #[.agg #[.int .i64 a, .pointer (some ⟨g, 0, none⟩)]] w (HashedV (hW ((x % 18446744073709551616 : Nat) : Int)) w) := by
  have HX := Lib.hid hx
  clear hx
  obtain ⟨r, hr⟩ : ∃ r, r = hW ((x % 18446744073709551616 : Nat) : Int) := ⟨_, rfl⟩
  rw [← hr]
  have HR := Lib.hid hr
  clear hr
  go_enter Tryz.func273, Tryz.ntmps273
  go_wp2_with fail
  refine gen1 (M := fun W => Calls _ _ _ W _) fun W hB bk hz => ?_
  refine (get_any _ _ W).mono ?_
  rintro e w1 ⟨rfl, hB1⟩
  have hB2 := hB.trans (hB1.mono (by omega))
  obtain ⟨A, c, b, hl, hr, hc⟩ := (HX.out.below hB2).more hB2.size
  have HB := Lib.hid hB2
  obtain ⟨k0, k1, z0, z1⟩ := b.c2
  rw [limbs_pos x hx0] at hr hc k1
  obtain ⟨ad, rfl, h1, h2⟩ := hr.2 (by simp)
  have hw : w1.cell? ad = some (.int .u64 ((x % 18446744073709551616 : Nat) : Int)) := h2 0 _ rfl
  have hw0 : w1.cell? (ad.add 0) = some (.int .u64 ((x % 18446744073709551616 : Nat) : Int)) := hw
  have hm : x % 18446744073709551616 < 18446744073709551616 := Nat.mod_lt _ (by decide)
  generalize x % 18446744073709551616 = lo at *
  have hlen : (0 : Int) < ((lo :: limbs (x / 18446744073709551616)).length : Int) := by simp
  generalize (lo :: limbs (x / 18446744073709551616)).length = n at *
  clear hB bk hz hB1 hB2 b hr h2
  go_wp2_with fail
  refine (intBits_any g _ w1 k1).mono ?_
  rintro e w2 ⟨rfl, rfl⟩
  go_wp2
  go_ret2
  exact ⟨by rw [HR.out]; rfl, HB.out⟩
/-- A text's hash, as far as its first k bytes. -/
def hsoft (s : ByteArray) : Nat → Int
  | 0 => 2166136261
  | k + 1 => bits .xor .u32 (hsoft s k) (((s.data[k]?.getD 0).toNat : Int) % 4294967296) * 16777619 % 4294967296
set_option maxRecDepth 10000 in
theorem softV_any (s : ByteArray) (hs : s.size ≤ 60) (w : World) : Calls Tryz.prog 304 #[.string s] w fun e w' => e = .returned (.int .u32 (hsoft s s.size)) ∧ w' = w := by
  go_enter Tryz.func304, Tryz.ntmps304
  go_wp2_with fail
  go_loopw [3, 4] (fun vh vi wr => ∃ (k : Nat), vh = .int .u32 (hsoft s k) ∧ vi = .int .i64 k ∧ k ≤ s.size ∧ wr = w) (fun _ vi _ => s.size - (intOf vi).toNat)
  case atStart => exact ⟨0, rfl, rfl, by omega, rfl⟩
  case round =>
    obtain ⟨k, rfl, rfl, hk, rfl⟩ := hrel
    rcases Nat.lt_or_ge k s.size with hlt | hge
    · have hki : (k : Int) < (s.size : Int) := by omega
      have w1 : IntKind.i64.wrap ((k : Int) + 1) = (k : Int) + 1 := by rw [IntKind.wrap_i64]; omega
      go_wp2
      refine ⟨⟨k + 1, ?_, by go_num, by omega, trivial⟩, by simp only [intOf]; omega⟩
      have e : s.data[k]?.getD 0 = s[k] := by rw [Array.getElem?_eq_getElem (by simpa using hlt)]; rfl
      rw [hsoft, e]
    · have hki : ¬ (k : Int) < (s.size : Int) := by omega
      go_wp2
      go_ret
      have : k = s.size := by omega
      exact ⟨by rw [this]; rfl, rfl⟩
set_option maxRecDepth 10000 in
theorem hashStringV_any (s : ByteArray) (hs : s.size ≤ 60) (w : World) : Calls Tryz.prog 301 #[.string s] w fun e w' => e = .returned (.int .u32 (hsoft s s.size)) ∧ w' = w := by
  go_enter Tryz.func301, Tryz.ntmps301
  go_wp2_with fail
  refine (softV_any s hs w).mono ?_
  rintro e w1 ⟨rfl, rfl⟩
  go_wp2
  go_ret
  exact ⟨rfl, rfl⟩
set_option maxRecDepth 10000 in
theorem hashV_str (s : ByteArray) (hs : s.size ≤ 60) (w : World) : Calls Tryz.prog 295 #[.string s] w (HashedV (hsoft s s.size) w) := by
  go_enter Tryz.func295, Tryz.ntmps295
  go_wp2_with fail
  refine (hashStringV_any s hs w).mono ?_
  rintro e w1 ⟨rfl, rfl⟩
  go_wp2
  go_ret2
  exact ⟨rfl, Below.refl _ _⟩
set_option maxRecDepth 10000 in
theorem hashV_bytes (s : ByteArray) (hs : s.size ≤ 60) (w : World) : Calls Tryz.prog 309 #[.string s] w (HashedV (hsoft s s.size) w) := by
  go_enter Tryz.func309, Tryz.ntmps309
  go_wp2_with fail
  refine (hashV_str s hs w).mono ?_
  rintro e w1 ⟨rfl, hB⟩
  have HB := Lib.hid hB
  clear hB
  go_wp2
  go_ret2
  exact ⟨rfl, HB.out⟩
set_option maxRecDepth 10000 in
theorem hashV_none (v : Value) (w : World) : Calls Tryz.prog 259 #[v] w (HashedV 0 w) := by
  go_enter Tryz.func259, Tryz.ntmps259
  go_wp2
  go_ret2
  exact ⟨rfl, Below.refl _ _⟩
set_option maxRecDepth 10000 in
theorem hashV_bool (b : Bool) (w : World) : Calls Tryz.prog 265 #[.bool b] w (HashedV (if b then 1 else 0) w) := by
  cases b
  · go_enter Tryz.func265, Tryz.ntmps265
    go_wp2
    go_ret2
    exact ⟨rfl, Below.refl _ _⟩
  · go_enter Tryz.func265, Tryz.ntmps265
    go_wp2
    go_ret2
    exact ⟨rfl, Below.refl _ _⟩
/-- The hash of an integer. -/
def hI (x : Int) : Int := if -2147483648 ≤ x ∧ x ≤ 2147483647 then hW (IntKind.u64.wrap x) else hW ((x.natAbs % 18446744073709551616 : Nat) : Int)
set_option maxRecDepth 10000 in
theorem hashV_int (x small : Int) (bp : Option Addr) (w : World) (h : SInt w w.heap.size x small bp) : Calls Tryz.prog 273 #[.agg #[.int .i64 small, .pointer bp]] w (HashedV (hI x) w) := by
  rcases h with ⟨rfl, rfl, hx⟩ | ⟨g, rfl, rfl, iz, hx⟩
  · have e : hI small = hW (IntKind.u64.wrap small) := if_pos (by omega)
    rw [e]
    exact hashV_small small w
  · have e : hI x = hW ((x.natAbs % 18446744073709551616 : Nat) : Int) := if_neg (by omega)
    rw [e]
    exact hashV_big g x.natAbs _ 0 w iz (by omega)
def hF (b : Nat) : Int := if b % 2 ^ 63 < 2047 * 2 ^ 52 then hI (truncF b) else 1618033
set_option maxRecDepth 10000 in
set_option maxHeartbeats 400000 in
theorem hashV_float (b : Nat) (hb : b < 2 ^ 64) (w : World) : Calls Tryz.prog 282 #[.float .f64 b] w (HashedV (hF b) w) := by
  have HI := Lib.hid (isFinite_any b hb w)
  by_cases hf : b % 2 ^ 63 < 2047 * 2 ^ 52
  · rw [show hF b = hI (truncF b) from if_pos hf]
    rw [decide_eq_true hf] at HI
    have HF := Lib.hid (finiteV_any b hb hf w)
    clear hb hf
    generalize truncF b = x at *
    generalize hr : hI x = r
    have HR := Lib.hid hr
    clear hr
    go_enter Tryz.func282, Tryz.ntmps282
    go_wp2_with fail
    refine HI.out.mono ?_
    rintro e w1 ⟨rfl, rfl⟩
    go_wp2_with fail
    refine HF.out.mono ?_
    rintro e w2 ⟨small, bp, rfl, hS, hB⟩
    have HB := Lib.hid hB
    have hs := hB.size
    have HC := Lib.hid (hashV_int x small bp w2 hS)
    clear HF HI hS hB
    go_wp2_with fail
    refine HC.out.mono ?_
    rintro e w3 ⟨rfl, hB3⟩
    have HB3 := Lib.hid (HB.out.trans (hB3.mono hs))
    clear hB3 HB HC
    go_wp2
    go_ret2
    exact ⟨by rw [← HR.out]; rfl, HB3.out⟩
  · rw [show hF b = 1618033 from if_neg hf]
    rw [decide_eq_false hf] at HI
    clear hb hf
    go_enter Tryz.func282, Tryz.ntmps282
    go_wp2_with fail
    refine HI.out.mono ?_
    rintro e w1 ⟨rfl, rfl⟩
    go_wp2
    go_ret2
    exact ⟨rfl, Below.refl _ _⟩
end Go.Proofs.YtkmeckimmfbkiaaGreatDoor
namespace Go.Proofs.YtkmeckimmfbkiaaGreatDoor
open Go Go.RowKit
/-- A tuple's hash, from a state on. -/
def hTup (z : Int) : List Int → Int → Int → Int
  | [], x, _ => x
  | h :: l, x, m => hTup z l (bits .xor .u32 x (h * m % 4294967296)) ((m + z) % 4294967296)
/-- A value's hash, as a call through the interface asks it. -/
def HashMV (h : Int) (w : World) (u : Value) : Prop := ∃ f r, HasM u "Hash" f r ∧ Calls Tryz.prog f #[r] w (HashedV h w)
set_option maxRecDepth 10000 in
set_option maxHeartbeats 400000 in
theorem hashV_tuple (A : Option Addr) (n c : Nat) (xs : List Value) (hl : List Int) (w : World) (hn : n ≤ 16) (hln : hl.length = n) (hr : Reads w w.heap.size 1 A n xs) (hm : ∀ (k : Nat) (u : Value) (h : Int), xs[k]? = some u → hl[k]? = some h → (∃ t v, u = .iface t v) ∧ ∀ W, Below w.heap.size w W → HashMV h W u) :
    Calls Tryz.prog 227 #[.slice A n c] w (HashedV (hTup (82520 + ((n : Int) + n)) hl 3430008 1000003) w) := by
  have HM := Lib.hid (And.intro hr (And.intro hm hln))
  clear hr hm hln
  obtain ⟨r, hr⟩ : ∃ r, r = hTup (82520 + ((n : Int) + n)) hl 3430008 1000003 := ⟨_, rfl⟩
  rw [← hr]
  have HR := Lib.hid hr
  clear hr
  go_enter Tryz.func227, Tryz.ntmps227
  go_wp2_with fail
  go_loopw [4, 5, 12] (fun vx vm vi wr => ∃ (x m : Int) (k : Nat), vx = .int .u32 x ∧ vm = .int .u32 m ∧ vi = .int .i64 k ∧ k ≤ n ∧ Below w.heap.size w wr ∧ hTup (82520 + ((n : Int) + n)) (hl.drop k) x m = r) (fun _ _ vi _ => n - (intOf vi).toNat)
  case atStart => exact ⟨3430008, 1000003, 0, rfl, rfl, rfl, by omega, Below.refl _ _, by rw [HR.out]; rfl⟩
  case round =>
    obtain ⟨x, m, k, rfl, rfl, rfl, hk, hB, hT⟩ := hrel
    have HT := Lib.hid hT
    clear hT
    rcases Nat.lt_or_ge k n with hlt | hge
    · have hki : (k : Int) < (n : Int) := by omega
      have w1 : IntKind.i64.wrap ((k : Int) + 1) = (k : Int) + 1 := by rw [IntKind.wrap_i64]; omega
      have w2 : IntKind.i64.wrap ((n : Int) + n) = (n : Int) + n := by rw [IntKind.wrap_i64]; omega
      obtain ⟨ad, u, rfl, had, hu, hcell⟩ := (HM.out.1.below hB).at_ hlt
      obtain ⟨h, hh⟩ : ∃ h, hl[k]? = some h := ⟨_, List.getElem?_eq_getElem (by rw [HM.out.2.2]; exact hlt)⟩
      obtain ⟨⟨t, v, rfl⟩, hmm⟩ := HM.out.2.1 k u h hu hh
      obtain ⟨f, q, ⟨t', v', he, m1, q1⟩, C⟩ := hmm wr hB
      cases he
      have C1 := Lib.hid C
      have HB := Lib.hid hB
      have HH := Lib.hid hh
      clear C hB hu hh
      go_wp2_with fail
      refine C1.out.mono ?_
      rintro e w3 ⟨rfl, hB3⟩
      have HB3 := Lib.hid (HB.out.trans (hB3.mono HB.out.size))
      clear hB3 HB C1
      go_wp2
      refine ⟨⟨_, _, k + 1, rfl, rfl, rfl, by omega, HB3.out, ?_⟩, by simp only [intOf]; omega⟩
      have hd : hl.drop k = h :: hl.drop (k + 1) := by
        obtain ⟨hlt2, e⟩ := List.getElem?_eq_some_iff.1 HH.out
        rw [← e]; exact List.drop_eq_getElem_cons hlt2
      have hT := HT.out
      rw [hd, hTup] at hT
      rw [← hT]
    · have hki : ¬ (k : Int) < (n : Int) := by omega
      go_wp2
      go_ret2
      refine ⟨?_, hB⟩
      have hT := HT.out
      rw [List.drop_eq_nil_of_le (by rw [HM.out.2.2]; omega), hTup] at hT
      rw [← hT]; rfl
mutual
/-- A key's hash. -/
def hS : S → Int
  | .bool b => if b then 1 else 0
  | .int x => hI x
  | .float f => hF f
  | .str s => hsoft s s.size
  | .bytes s => hsoft s s.size
  | .tuple l => hTup (82520 + ((l.length : Int) + l.length)) (hSL l) 3430008 1000003
  | _ => 0
def hSL : List S → List Int
  | [] => []
  | a :: l => hS a :: hSL l
end
theorem hSL_len : ∀ l : List S, (hSL l).length = l.length
  | [] => rfl
  | a :: l => by simp only [hSL, List.length_cons, hSL_len l]
mutual
/-- Every key has its hash. -/
theorem hashMV_any : ∀ (s : S) (u : Value) (w : World), SAt w w.heap.size s u → keyS s = true → HashMV (hS s) w u
  | .none, u, w, h, _ => by simp only [SAt] at h; subst h; exact ⟨_, _, hasH_none _, hashV_none _ w⟩
  | .bool b, u, w, h, _ => by simp only [SAt] at h; subst h; exact ⟨_, _, hasH_bool _, hashV_bool b w⟩
  | .int x, u, w, h, _ => by
    simp only [SAt] at h
    obtain ⟨small, bp, rfl, hS⟩ := h
    exact ⟨_, _, hasH_int _, hashV_int x small bp w hS⟩
  | .float f, u, w, h, _ => by simp only [SAt] at h; obtain ⟨rfl, hf⟩ := h; exact ⟨_, _, hasH_float _, hashV_float f hf w⟩
  | .str s, u, w, h, _ => by simp only [SAt] at h; obtain ⟨rfl, hs⟩ := h; exact ⟨_, _, hasH_str _, hashV_str s hs w⟩
  | .bytes s, u, w, h, _ => by simp only [SAt] at h; obtain ⟨rfl, hs⟩ := h; exact ⟨_, _, hasH_bytes _, hashV_bytes s hs w⟩
  | .tuple l, u, w, h, hk => by
    simp only [SAt] at h
    obtain ⟨A, c, xs, rfl, hl, hc, hr, he⟩ := h
    simp only [keyS] at hk
    exact ⟨_, _, hasH_tuple _, hashV_tuple A l.length c xs (hSL l) w hl (hSL_len l) hr fun k u h hu hh => hashLV_any l xs w he hk k u h hu hh⟩
  | .list l, u, w, h, hk => by simp [keyS] at hk
  | .dict l, u, w, h, hk => by simp [keyS] at hk
  | .set l, u, w, h, hk => by simp [keyS] at hk
theorem hashLV_any : ∀ (l : List S) (xs : List Value) (w : World), ElemsV w w.heap.size l xs → keyL l = true → ∀ (k : Nat) (u : Value) (h : Int), xs[k]? = some u → (hSL l)[k]? = some h → (∃ t v, u = .iface t v) ∧ ∀ W, Below w.heap.size w W → HashMV h W u
  | [], xs, w, h, _, k, u, _, hu, _ => by simp only [ElemsV] at h; subst h; simp at hu
  | s :: l, xs, w, h, hk, 0, u, g, hu, hg => by
    simp only [ElemsV] at h
    obtain ⟨v, ys, rfl, h2, h3⟩ := h
    simp only [keyL, Bool.and_eq_true] at hk
    simp at hu
    simp [hSL] at hg
    subst hu hg
    exact ⟨h2.iface, fun W hB => hashMV_any s v W ((h2.below hB).more hB.size) hk.1⟩
  | s :: l, xs, w, h, hk, k + 1, u, g, hu, hg => by
    simp only [ElemsV] at h
    obtain ⟨v, ys, rfl, h2, h3⟩ := h
    simp only [keyL, Bool.and_eq_true] at hk
    exact hashLV_any l ys w h3 hk.2 k u g (by simpa using hu) (by simpa [hSL] using hg)
end
theorem wf_not {b : Nat} (h : ¬ b % 2 ^ 63 < 2047 * 2 ^ 52) (z : Int) : wf b ≠ W.num z := by
  intro e
  exact h (wf_fin e).1
theorem wf_is {b : Nat} (h : b % 2 ^ 63 < 2047 * 2 ^ 52) : ∃ z, wf b = W.num z := ⟨_, by unfold wf; rw [if_pos h]⟩
theorem hF_eq {b c : Nat} (h : wf b = wf c) : hF b = hF c := by
  unfold hF
  by_cases hb : b % 2 ^ 63 < 2047 * 2 ^ 52
  · obtain ⟨z, hz⟩ := wf_is hb
    have hc := (wf_fin (h.symm.trans hz)).1
    rw [if_pos hb, if_pos hc, trunc_eq hz (h.symm.trans hz)]
  · by_cases hc : c % 2 ^ 63 < 2047 * 2 ^ 52
    · obtain ⟨z, hz⟩ := wf_is hc
      exact absurd (h.trans hz) (wf_not hb z)
    · rw [if_neg hb, if_neg hc]
theorem hF_int {b : Nat} {x : Int} (h : wf b = W.num (x * unitF)) : hF b = hI x := by
  unfold hF
  rw [if_pos (wf_fin h).1, trunc_int h]
mutual
/-- Equal keys have equal hashes. -/
theorem hS_eq : ∀ s t : S, eqS s t = true → hS s = hS t
  | .none, t, h => by cases t <;> simp [eqS] at h; rfl
  | .bool a, t, h => by cases t <;> simp [eqS] at h; subst h; rfl
  | .int a, t, h => by
    cases t <;> simp [eqS] at h
    case int b => subst h; rfl
    case float f => simp only [hS]; exact (hF_int h.symm).symm
  | .float a, t, h => by
    cases t <;> simp [eqS] at h
    case int b => simp only [hS]; exact hF_int h
    case float b => simp only [hS]; exact hF_eq h
  | .str a, t, h => by cases t <;> simp [eqS] at h; subst h; rfl
  | .bytes a, t, h => by cases t <;> simp [eqS] at h; subst h; rfl
  | .list a, t, h => by cases t <;> simp [eqS] at h; rfl
  | .tuple a, t, h => by
    cases t <;> simp only [eqS, Bool.false_eq_true] at h
    case tuple b =>
      obtain ⟨h1, h2⟩ := hSL_eq a b h
      simp only [hS, h1, h2]
  | .dict a, t, h => by cases t <;> simp [eqS] at h
  | .set a, t, h => by cases t <;> simp [eqS] at h
theorem hSL_eq : ∀ a b : List S, eqL a b = true → a.length = b.length ∧ hSL a = hSL b
  | [], b, h => by cases b <;> simp [eqL] at h; exact ⟨rfl, rfl⟩
  | x :: l, b, h => by
    cases b with
    | nil => simp [eqL] at h
    | cons y r =>
      simp only [eqL, Bool.and_eq_true] at h
      obtain ⟨h1, h2⟩ := hSL_eq l r h.2
      exact ⟨by simp [h1], by simp only [hSL, hS_eq x y h.1, h2]⟩
end
end Go.Proofs.YtkmeckimmfbkiaaGreatDoor
namespace Go.Proofs.YtkmeckimmfbkiaaGreatDoor
open Go Go.RowKit
theorem hW_lt (x : Int) : 0 ≤ hW x ∧ hW x < 4294967296 := by unfold hW; omega
theorem hI_lt (x : Int) : 0 ≤ hI x ∧ hI x < 4294967296 := by unfold hI; split <;> exact hW_lt _
theorem hF_lt (b : Nat) : 0 ≤ hF b ∧ hF b < 4294967296 := by unfold hF; split; exact hI_lt _; omega
theorem hsoft_lt (s : ByteArray) : ∀ k, 0 ≤ hsoft s k ∧ hsoft s k < 4294967296
  | 0 => by unfold hsoft; omega
  | k + 1 => by
    unfold hsoft
    generalize bits .xor .u32 _ _ * 16777619 = X
    omega
theorem hTup_lt (z : Int) : ∀ (l : List Int) (x m : Int), 0 ≤ x ∧ x < 4294967296 → 0 ≤ hTup z l x m ∧ hTup z l x m < 4294967296
  | [], x, _, h => h
  | a :: l, x, m, _ => by
    obtain ⟨y, hy, e⟩ := xor32 x (a * m % 4294967296)
    rw [hTup, e]
    exact hTup_lt z l _ _ (by omega)
theorem hS_lt : ∀ s : S, 0 ≤ hS s ∧ hS s < 4294967296
  | .none => by simp [hS]
  | .bool b => by cases b <;> simp [hS]
  | .int x => by simp only [hS]; exact hI_lt x
  | .float f => by simp only [hS]; exact hF_lt f
  | .str s => by simp only [hS]; exact hsoft_lt s _
  | .bytes s => by simp only [hS]; exact hsoft_lt s _
  | .tuple l => by simp only [hS]; exact hTup_lt _ _ _ _ (by omega)
  | .list _ => by simp [hS]
  | .dict _ => by simp [hS]
  | .set _ => by simp [hS]
/-- The hash as a natural number. -/
def hK (s : S) : Nat := (hS s).toNat
theorem hK_cast (s : S) : ((hK s : Nat) : Int) = hS s := by unfold hK; have := hS_lt s; omega
theorem hK_lt (s : S) : hK s < 4294967296 := by unfold hK; have := hS_lt s; omega
theorem hK_eq {s t : S} (h : eqS s t = true) : hK s = hK t := by unfold hK; rw [hS_eq s t h]
end Go.Proofs.YtkmeckimmfbkiaaGreatDoor
