/- The thin package's whole; value, scalar of ints and strings; AsString. -/
import Derived.Test.YtdlkgbgenmpkiaaGreatDoorBig
namespace Go.Proofs.YtdlkgbgenmpkiaaGreatDoor
open Go Go.RowKit
theorem IntAt.grown97 {w w' : World} {B g : Nat} {neg : Bool} {x : Nat} (h : IntAt w B g neg x) {k : Nat} (hg : w.grownBy w' (some k)) (hk : B ≤ k) (hB : B ≤ w.heap.size) : IntAt w' B g neg x := by
  obtain ⟨A, c, h1, h2, h3, h4⟩ := h
  exact ⟨A, c, h1.grown hg (by simp; omega), h2, h3.grown hg hB (fun g' e => by cases e; exact hk), h4⟩
theorem SInt.grown63 {w w' : World} {B g : Nat} {x small a : Int} {bp p : Option Addr} (h : SInt w B x small bp) (hb : Blk w g 63 #[.int .i64 a, .pointer p]) (hg : w.grownBy w' (some g)) : SInt w' B x small bp := by
  rcases h with h | ⟨g', e1, e2, ⟨A, c, i1, i2, i3, i4⟩, h5⟩
  · exact .inl h
  · exact .inr ⟨g', e1, e2, ⟨A, c, i1.grown hg (by have := Blk.ne_ i1 hb (by decide); simpa using this), i2, i3.grown63 hb hg, i4⟩, h5⟩
theorem SInt.more {w : World} {B B' : Nat} {x small : Int} {bp : Option Addr} (h : SInt w B x small bp) (hB : B ≤ B') : SInt w B' x small bp := by
  rcases h with h | ⟨g', e1, e2, h, h5⟩
  · exact .inl h
  · exact .inr ⟨g', e1, e2, h.more hB, h5⟩
theorem SInt.below {w w' : World} {B : Nat} {x small : Int} {bp : Option Addr} (h : SInt w B x small bp) (hb : Below B w w') : SInt w' B x small bp := by
  rcases h with h | ⟨g', e1, e2, h, h5⟩
  · exact .inl h
  · exact .inr ⟨g', e1, e2, h.below hb, h5⟩
theorem limbs_len_le (m : Nat) : ∀ x, x < 18446744073709551616 ^ m → (limbs x).length ≤ m := by
  induction m with
  | zero => intro x hx; obtain rfl : x = 0 := by simpa using hx
            rw [limbs_zero]; exact Nat.le_refl _
  | succ m ih =>
    intro x hx
    rcases Nat.eq_zero_or_pos x with h0 | h0
    · subst h0; rw [limbs_zero]; exact Nat.zero_le _
    · rw [limbs_pos x h0, List.length_cons]
      exact Nat.succ_le_succ (ih _ (by rw [Nat.pow_succ] at hx; exact Nat.div_lt_of_lt_mul (by rw [Nat.mul_comm]; exact hx)))
theorem limbs_beNat (l : List UInt8) : (limbs (beNat l)).length ≤ l.length :=
  limbs_len_le _ _ (Nat.lt_of_lt_of_le (beNat_lt l) (Nat.pow_le_pow_left (by omega) _))
set_option maxRecDepth 10000 in
set_option maxHeartbeats 400000 in
/-- The thin package's 'whole': the number of a sign and of bytes, as an int of the package. -/
theorem whole_any (k : Int) (neg : Bool) (l : List UInt8) (A : Option Addr) (n c : Nat) (bits : Int) (s : ByteArray) (kids : Value) (hkids : ∃ A' n' c', kids = .slice A' n' c') (w : World) (hn : l.length = n) (hl : n ≤ 2147483640) (hc0 : n ≤ c) (hr : Reads w w.heap.size 1 A n (bv l)) :
    Calls Tryz.prog 16 #[.agg #[.int .i64 k, .bool neg, .slice A n c, .int .u64 bits, .string s, kids]] w (MadeInt w (sgn neg (beNat l))) := by
  obtain ⟨A', n', c', rfl⟩ := hkids
  have HR := Lib.hid (And.intro hr hn)
  clear hr hn
  go_enter Tryz.func16, Tryz.ntmps16
  have hlen := limbs_beNat l
  have hn := HR.out.2
  go_wp2_with fail
  refine gen3 (M := fun W => Calls _ _ _ W _) fun W hB b1 b2 b3 hz => ?_
  refine (intSetBytes_any l A n c (w.heap.size + 2) W HR.out.2 hl hc0 ((HR.out.1.below hB).more (by omega)) b3).mono ?_
  rintro e w1 ⟨rfl, hx, hg⟩
  have b1 := b1.grown hg (by simp)
  have b2 := b2.grown hg (by simp)
  have hB1 := below_grown hB hg (by omega) (by omega)
  obtain ⟨k0, k1, k2, k3, k4, k5, z0, z1, z2, z3, z4, z5⟩ := b1.c6
  have hlim : (limbs (beNat l)).length ≤ 2147483640 := by omega
  have HX := Lib.hid (And.intro hx (And.intro hB1 b2))
  clear hB b3 hz hx hg b1 b2 hB1 k0 k2 k3 k4 k5 z0 z1 z2 z3 z4 z5 hlen hn
  cases neg
  · go_wp2_with fail
    refine (makeBigInt_any (w.heap.size + 2) (beNat l) false w1 HX.out.1 hlim (by simp)).mono ?_
    rintro e w2 ⟨small, bp, rfl, hs, hB2⟩
    obtain ⟨hx, hB1, b2⟩ := HX.out
    have b3 := b2.below hB2 b2.lt
    have hB3 := hB1.trans (hB2.mono hB1.size)
    obtain ⟨k0, k1, z0, z1⟩ := b3.c2
    clear hx hB1 b2 hB2 HX
    go_wp2
    refine gen_set2 (M := fun V => bodyPost _ _ _ _ _ V) b3 fun W2 b4 hg2 hz2 => ?_
    exact ret_row rfl _ b4 rfl Tryz.underlying63 rfl size63 rfl ⟨_, _, rfl, (hs.grown63 b3 hg2).more (by omega), below_grown hB3 hg2 (by omega) hB3.size⟩
  · go_wp2_with fail
    refine (intNeg_any (w.heap.size + 2) (beNat l) false w1 HX.out.1 hlim).mono ?_
    rintro e w2 ⟨rfl, hx, hg⟩
    go_wp2_with fail
    have hsg : sgn (decide (0 < beNat l) && !false) (beNat l) = sgn true (beNat l) := by
      rcases Nat.eq_zero_or_pos (beNat l) with h0 | h0
      · rw [h0]; rfl
      · rw [decide_eq_true h0]; rfl
    refine (makeBigInt_any (w.heap.size + 2) (beNat l) _ w2 hx hlim (by simp)).mono ?_
    rw [hsg]
    rintro e w3 ⟨small, bp, rfl, hs, hB2⟩
    obtain ⟨_, hB1, b2⟩ := HX.out
    have b2 := b2.grown hg (by simp)
    have hB1 := below_grown hB1 hg (by omega) hB1.size
    have b3 := b2.below hB2 b2.lt
    have hB3 := hB1.trans (hB2.mono hB1.size)
    obtain ⟨k0, k1, z0, z1⟩ := b3.c2
    clear hx hB1 b2 hB2 HX hg
    go_wp2
    refine gen_set2 (M := fun V => bodyPost _ _ _ _ _ V) b3 fun W2 b4 hg2 hz2 => ?_
    exact ret_row rfl _ b4 rfl Tryz.underlying63 rfl size63 rfl ⟨_, _, rfl, (hs.grown63 b3 hg2).more (by omega), below_grown hB3 hg2 (by omega) hB3.size⟩
set_option maxRecDepth 10000 in
set_option maxHeartbeats 400000 in
theorem scalar_int (neg : Bool) (l : List UInt8) (A : Option Addr) (n c : Nat) (bits : Int) (s : ByteArray) (A' : Option Addr) (n' c' : Nat) (w : World) (hn : l.length = n) (hl : n ≤ 2147483640) (hc0 : n ≤ c) (hr : Reads w w.heap.size 1 A n (bv l)) :
    Calls Tryz.prog 11 #[.int .i64 2, .agg #[.int .i64 2, .bool neg, .slice A n c, .int .u64 bits, .string s, .slice A' n' c']] w fun e w' =>
      ∃ small bp, e = .returned (.tuple #[.iface 63 (.agg #[.int .i64 small, .pointer bp]), .bool true]) ∧ SInt w' w'.heap.size (sgn neg (beNat l)) small bp ∧ Below w.heap.size w w' := by
  have HR := Lib.hid (And.intro hr hn)
  clear hr hn
  go_enter Tryz.func11, Tryz.ntmps11
  go_wp2_with fail
  refine gen1 (M := fun W => Calls _ _ _ W _) fun W hB b hz => ?_
  refine (whole_any 2 neg l A n c bits s _ ⟨_, _, _, rfl⟩ W HR.out.2 hl hc0 ((HR.out.1.below hB).more (by omega))).mono ?_
  rintro e w1 ⟨small, bp, rfl, hs, hB1⟩
  clear HR b
  go_wp2
  go_ret2
  exact ⟨small, bp, rfl, hs, hB.trans (hB1.mono (by omega))⟩
set_option maxRecDepth 10000 in
set_option maxHeartbeats 400000 in
theorem scalar_string (neg : Bool) (A : Option Addr) (n c : Nat) (bits : Int) (s : ByteArray) (A' : Option Addr) (n' c' : Nat) (w : World) :
    Calls Tryz.prog 11 #[.int .i64 4, .agg #[.int .i64 4, .bool neg, .slice A n c, .int .u64 bits, .string s, .slice A' n' c']] w fun e w' =>
      e = .returned (.tuple #[.iface 55 (.string s), .bool true]) ∧ Below w.heap.size w w' := by
  go_enter Tryz.func11, Tryz.ntmps11
  go_wp2_with fail
  go_ret2
  exact ⟨rfl, (Below.refl _ _).alloc (Nat.le_refl _) _⟩
set_option maxRecDepth 10000 in
set_option maxHeartbeats 400000 in
theorem value_int (neg : Bool) (l : List UInt8) (A : Option Addr) (n c : Nat) (bits : Int) (s : ByteArray) (A' : Option Addr) (n' c' : Nat) (w : World) (hn : l.length = n) (hl : n ≤ 2147483640) (hc0 : n ≤ c) (hr : Reads w w.heap.size 1 A n (bv l)) :
    Calls Tryz.prog 8 #[.agg #[.int .i64 2, .bool neg, .slice A n c, .int .u64 bits, .string s, .slice A' n' c']] w fun e w' =>
      ∃ small bp, e = .returned (.tuple #[.iface 63 (.agg #[.int .i64 small, .pointer bp]), .bool true]) ∧ SInt w' w'.heap.size (sgn neg (beNat l)) small bp ∧ Below w.heap.size w w' := by
  have HR := Lib.hid (And.intro hr hn)
  clear hr hn
  go_enter Tryz.func8, Tryz.ntmps8
  go_wp2_with fail
  refine gen1 (M := fun W => Calls _ _ _ W _) fun W hB b hz => ?_
  refine (scalar_int neg l A n c bits s A' n' c' W HR.out.2 hl hc0 ((HR.out.1.below hB).more (by omega))).mono ?_
  rintro e w1 ⟨small, bp, rfl, hs, hB1⟩
  clear HR b
  go_wp2
  go_ret2
  exact ⟨small, bp, rfl, hs, hB.trans (hB1.mono (by omega))⟩
set_option maxRecDepth 10000 in
set_option maxHeartbeats 400000 in
theorem value_string (neg : Bool) (A : Option Addr) (n c : Nat) (bits : Int) (s : ByteArray) (A' : Option Addr) (n' c' : Nat) (w : World) :
    Calls Tryz.prog 8 #[.agg #[.int .i64 4, .bool neg, .slice A n c, .int .u64 bits, .string s, .slice A' n' c']] w fun e w' =>
      e = .returned (.tuple #[.iface 55 (.string s), .bool true]) ∧ Below w.heap.size w w' := by
  go_enter Tryz.func8, Tryz.ntmps8
  go_wp2_with fail
  refine gen1 (M := fun W => Calls _ _ _ W _) fun W hB b hz => ?_
  refine (scalar_string neg A n c bits s A' n' c' W).mono ?_
  rintro e w1 ⟨rfl, hB1⟩
  clear b
  go_wp2
  go_ret2
  exact ⟨rfl, hB.trans (hB1.mono (by omega))⟩
theorem ta_string (s : ByteArray) (w : World) : (Instr.typeAssert (.iface 55 (.string s)) 37 55 true).run Tryz.prog w = .ok (.tuple #[.string s, .bool true]) w := by kernel_rfl
theorem ta_int (v : Value) (w : World) : (Instr.typeAssert (.iface 63 v) 37 55 true).run Tryz.prog w = .ok (.tuple #[.string ⟨#[]⟩, .bool false]) w := by kernel_rfl
set_option maxRecDepth 10000 in
set_option maxHeartbeats 400000 in
theorem slAsString_string (s : ByteArray) (w : World) :
    Calls Tryz.prog 9 #[.iface 55 (.string s)] w fun e w' => e = .returned (.tuple #[.string s, .bool true]) ∧ w = w' := by
  have h := ta_string s w
  go_enter Tryz.func9, Tryz.ntmps9
  go_wp2
  go_ret2
  exact ⟨rfl, rfl⟩
set_option maxRecDepth 10000 in
set_option maxHeartbeats 400000 in
theorem slAsString_int (v : Value) (w : World) :
    Calls Tryz.prog 9 #[.iface 63 v] w fun e w' => e = .returned (.tuple #[.string ⟨#[]⟩, .bool false]) ∧ w = w' := by
  have h := ta_int v w
  go_enter Tryz.func9, Tryz.ntmps9
  go_wp2
  go_ret2
  exact ⟨rfl, rfl⟩
set_option maxRecDepth 10000 in
set_option maxHeartbeats 400000 in
theorem asString_int (neg : Bool) (l : List UInt8) (A : Option Addr) (n c : Nat) (bits : Int) (s : ByteArray) (A' : Option Addr) (n' c' : Nat) (w : World) (hn : l.length = n) (hl : n ≤ 2147483640) (hc0 : n ≤ c) (hr : Reads w w.heap.size 1 A n (bv l)) :
    Calls Tryz.prog 5 #[.agg #[.int .i64 2, .bool neg, .slice A n c, .int .u64 bits, .string s, .slice A' n' c']] w fun e w' =>
      e = .returned (.tuple #[.string ⟨#[]⟩, .bool false]) ∧ Below w.heap.size w w' := by
  have HR := Lib.hid (And.intro hr hn)
  clear hr hn
  go_enter Tryz.func5, Tryz.ntmps5
  go_wp2_with fail
  refine gen1 (M := fun W => Calls _ _ _ W _) fun W hB b hz => ?_
  refine (value_int neg l A n c bits s A' n' c' W HR.out.2 hl hc0 ((HR.out.1.below hB).more (by omega))).mono ?_
  rintro e w1 ⟨small, bp, rfl, hs, hB1⟩
  clear HR b hs
  have hB2 := hB.trans (hB1.mono (by omega))
  clear hB hB1
  go_wp2_with fail
  refine (slAsString_int _ w1).mono ?_
  rintro e w2 ⟨rfl, rfl⟩
  go_wp2
  go_ret2
  exact ⟨rfl, hB2⟩
set_option maxRecDepth 10000 in
set_option maxHeartbeats 400000 in
theorem asString_string (neg : Bool) (A : Option Addr) (n c : Nat) (bits : Int) (s : ByteArray) (A' : Option Addr) (n' c' : Nat) (w : World) :
    Calls Tryz.prog 5 #[.agg #[.int .i64 4, .bool neg, .slice A n c, .int .u64 bits, .string s, .slice A' n' c']] w fun e w' =>
      e = .returned (.tuple #[.string s, .bool true]) ∧ Below w.heap.size w w' := by
  go_enter Tryz.func5, Tryz.ntmps5
  go_wp2_with fail
  refine gen1 (M := fun W => Calls _ _ _ W _) fun W hB b hz => ?_
  refine (value_string neg A n c bits s A' n' c' W).mono ?_
  rintro e w1 ⟨rfl, hB1⟩
  have hB2 := hB.trans (hB1.mono (by omega))
  clear hB hB1 b
  go_wp2_with fail
  refine (slAsString_string _ w1).mono ?_
  rintro e w2 ⟨rfl, rfl⟩
  go_wp2
  go_ret2
  exact ⟨rfl, hB2⟩
end Go.Proofs.YtdlkgbgenmpkiaaGreatDoor
