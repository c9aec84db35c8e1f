/- A float's text: its parts, its digits, their layout. -/
import Derived.Test.YtmphnnmnbpheiaaGreatDoorFlShortF
import Derived.Deep.RegionHeld3
import Derived.Test.YtmphnnmnbpheiaaGreatDoorFlEfgN
import Derived.Test.YtmphnnmnbpheiaaGreatDoorFlEfgP
import Derived.Test.YtmphnnmnbpheiaaGreatDoorFlEfgF
namespace Go.Proofs.YtmphnnmnbpheiaaGreatDoor
open Go Go.RowKit
open Fl
theorem f64bits_run (b : Nat) (w : World) : (callFunc 70 #[.float .f64 b]).run Tryz.prog w = .ok (.value (.int .u64 (b : Int))) w := by
  rw [run_callFunc_extern Tryz.func70 (by kernel_rfl) (by kernel_rfl) (by kernel_rfl) (e := Go.Extern.MathFloatBits.float64bits) (by kernel_rfl)]
  rfl
/-- The text of digits with their point at a place. -/
def ftxt (neg : Bool) (l : List UInt8) (dp : Int) : List UInt8 := if dp - 1 < -4 ∨ 6 ≤ dp - 1 then efgE neg l (dp - 1) else efgF neg l dp
theorem efg_any (base gb : Nat) (l : List UInt8) (w0 w : World) (A : Option Addr) (c : Nat) (neg : Bool) (hD : Dst base gb l w0 w (.slice A 0 c) 0 []) (dp : Int) (nd : Nat) (hnd : nd = l.length) (h1 : 1 ≤ nd) (h17 : nd ≤ 17) (hx1 : -399 ≤ dp) (hx2 : dp ≤ 400) :
    Calls Tryz.prog 73 #[.slice A 0 c, .bool neg, .slice (some ⟨gb, 0, none⟩) 32 32, .int .i64 dp, .int .i64 nd, .int .i64 nd, .int .u8 103, .bool true] w (Told base w0 (ftxt neg l dp)) := by
  by_cases hE : dp - 1 < -4 ∨ 6 ≤ dp - 1
  · rw [ftxt, if_pos hE]
    rcases Nat.eq_or_lt_of_le h1 with h | h
    · cases neg
      · exact efgE_pos1 base gb l w0 w A c hD dp nd hnd h1 (by omega) hE (by omega) (by omega)
      · exact efgE_neg1 base gb l w0 w A c hD dp nd hnd h1 (by omega) hE (by omega) (by omega)
    · cases neg
      · exact efgE_posn base gb l w0 w A c hD dp nd hnd h h17 hE (by omega) (by omega)
      · exact efgE_negn base gb l w0 w A c hD dp nd hnd h h17 hE (by omega) (by omega)
  · rw [ftxt, if_neg hE]
    rcases Int.lt_or_le 0 dp with hp | hp
    · obtain ⟨p, rfl⟩ : ∃ p : Nat, dp = p := ⟨dp.toNat, by omega⟩
      rcases Nat.lt_or_ge p nd with h | h
      · cases neg
        · exact efgF_posB base gb l w0 w A c hD nd hnd h1 h17 p (by omega) h (by omega)
        · exact efgF_negB base gb l w0 w A c hD nd hnd h1 h17 p (by omega) h (by omega)
      · cases neg
        · exact efgF_posA base gb l w0 w A c hD nd hnd h1 h17 p h (by omega)
        · exact efgF_negA base gb l w0 w A c hD nd hnd h1 h17 p h (by omega)
    · obtain ⟨z, rfl⟩ : ∃ z : Nat, dp = -(z : Int) := ⟨(-dp).toNat, by omega⟩
      cases neg
      · exact efgF_posC base gb l w0 w A c hD nd hnd h1 h17 z (by omega)
      · exact efgF_negC base gb l w0 w A c hD nd hnd h1 h17 z (by omega)
/-- Digits with their point at a place, of which the float with a rung is the nearest. -/
def Rep (r : Nat) (l : List UInt8) (dp : Int) : Prop :=
  1 ≤ r ∧ Digs l ∧ (∀ h : 0 < l.length, l[0].toNat ≠ 48) ∧ l.length ≤ 17 ∧ ∃ q : Nat, (q : Int) + l.length = dp + 348 ∧ 24 ≤ q ∧ q ≤ 658 ∧ 1 ≤ dval l ∧ dval l < 10 ^ 17 ∧ rung (dval l * 10 ^ q * C1074) B348 = r
/-- The powers of ten that are words lie in their variable. -/
def TenTab (w : World) : Prop := Lib.TabIs Tryz.prog w "internal/strconv.uint64pow10" .u64 Lib.pow10Tab
theorem TenTab.below {w w' : World} {B : Nat} (h : TenTab w) (hb : Below B w w') (hB : 11 < B) : TenTab w' :=
  var?_below hb (by kernel_rfl) hB h
theorem len_word (M : Nat) (h0 : 1 ≤ M) (h1 : M < 9007199254740992) : ∃ sh, (Lib.bitLen M : Int) = 64 - (sh : Nat) ∧ 11 ≤ sh ∧ sh ≤ 63 ∧ 2 ^ 63 ≤ M * 2 ^ sh ∧ M * 2 ^ sh < 2 ^ 64 ∧ (2 ^ 52 ≤ M → sh = 11) ∧ (M < 2 ^ 52 → 12 ≤ sh) := by
  obtain ⟨a1, a2, a3⟩ := Lib.bitLenAux_bounds 64 M (by omega) (by omega)
  have e : Lib.bitLen M = Lib.bitLenAux 64 M := rfl
  rw [← e] at a1 a2 a3
  generalize Lib.bitLen M = L at *
  have hL : L ≤ 53 := by
    rcases Nat.lt_or_ge 53 L with h | h
    · have := Nat.pow_le_pow_right (n := 2) (by decide) (show 53 ≤ L - 1 by omega)
      omega
    · exact h
  refine ⟨64 - L, by omega, by omega, by omega, ?_, ?_, ?_, ?_⟩
  · have := Nat.mul_le_mul_right (2 ^ (64 - L)) a2
    rw [← Nat.pow_add, show L - 1 + (64 - L) = 63 by omega] at this
    exact this
  · have := Nat.mul_lt_mul_of_pos_right a3 (Nat.pow_pos (n := 64 - L) (show 0 < 2 by decide))
    rw [← Nat.pow_add, show L + (64 - L) = 64 by omega] at this
    exact this
  · intro h
    rcases Nat.lt_or_ge L 53 with h' | h'
    · have := Nat.pow_le_pow_right (n := 2) (by decide) (show L ≤ 52 by omega)
      omega
    · omega
  · intro h
    rcases Nat.lt_or_ge L 53 with h' | h'
    · omega
    · have := Nat.pow_le_pow_right (n := 2) (by decide) (show 52 ≤ L - 1 by omega)
      omega
theorem own_below {w w' : World} {base e size n : Nat} {v : Value} {xs : List Value} (h : w.ownsRow base e size v n xs) (hb : Below w.heap.size w w') : w'.ownsRow base e size v n xs := by
  obtain ⟨h1, h2⟩ := h
  refine ⟨h1, ?_⟩
  rcases h2 with h2 | ⟨g, cap, cur, hv, hg, hh, r⟩
  · exact .inl h2
  · have hlt : g < w.heap.size := by
      rcases Nat.lt_or_ge g w.heap.size with h | h
      · exact h
      · rw [Array.getElem?_eq_none h] at hh; cases hh
    exact .inr ⟨g, cap, cur, hv, hg, (hb.block g hlt).trans hh, r⟩
theorem nDigits_le {d : Nat} (hd : 1 ≤ d) : ∀ k, 1 ≤ k → d < 10 ^ k → Lib.nDigits d ≤ k := by
  intro k
  induction k with
  | zero => intro h; omega
  | succ k ih =>
    intro _ hk'
    rcases Nat.lt_or_ge d (10 ^ k) with h5 | h5
    · rcases Nat.eq_zero_or_pos k with rfl | hk0
      · simp at h5; omega
      · have := ih hk0 h5; omega
    · rw [Lib.nDigits_unique k d h5 hk']; exact Nat.le_refl _
theorem first_not_zero {d nd : Nat} {l : List UInt8} (hl : Digs l) (hll : l.length ≤ nd) (hval : dval l * 10 ^ (nd - l.length) = d) (hd1 : 1 ≤ d) (hnd : nd = Lib.nDigits d) (h : 0 < l.length) : l[0].toNat ≠ 48 := by
  intro h0
  cases l with
  | nil => simp at h
  | cons b l =>
    rw [List.getElem_cons_zero] at h0
    have hlt := dval_lt l (fun x hx => (hl.range x (List.mem_cons_of_mem _ hx)).2)
    rw [dval_cons, h0, Nat.sub_self, Nat.zero_mul, Nat.zero_add] at hval
    rw [List.length_cons] at hll hval
    have h1 : d < 10 ^ (nd - 1) := by
      rw [← hval, show nd - 1 = l.length + (nd - (l.length + 1)) by omega, Nat.pow_add]
      exact Nat.mul_lt_mul_of_pos_right hlt (Nat.pow_pos (by decide))
    rcases Nat.eq_zero_or_pos (nd - 1) with h2 | h2
    · rw [h2] at h1; simp at h1; omega
    · have := nDigits_le hd1 _ h2 h1
      omega
theorem rep_of {d q nd r : Nat} {l : List UInt8} (hl : Digs l) (hll : l.length ≤ nd) (hval : dval l * 10 ^ (nd - l.length) = d) (hnd : nd ≤ 17) (hndd : nd = Lib.nDigits d) (hd1 : 1 ≤ d) (hd2 : d < 10 ^ 17) (hq1 : 24 ≤ q) (hq2 : q ≤ 641)
    (hr : rung (d * 10 ^ q * C1074) B348 = r) (hr1 : 1 ≤ r) : Rep r l ((nd : Int) + ((q : Int) - 348)) := by
  have hp := Nat.pow_pos (n := nd - l.length) (show 0 < 10 by decide)
  have h1 : 1 ≤ dval l := by
    rcases Nat.eq_zero_or_pos (dval l) with h | h
    · rw [h, Nat.zero_mul] at hval; omega
    · exact h
  have h2 : dval l ≤ d := by rw [← hval]; exact Nat.le_mul_of_pos_right _ hp
  have hl1 := hl.pos
  refine ⟨hr1, hl, first_not_zero hl hll hval hd1 hndd, by omega, nd - l.length + q, by omega, by omega, by omega, h1, by omega, ?_⟩
  rw [Nat.pow_add, ← Nat.mul_assoc, hval]
  exact hr
set_option maxRecDepth 10000 in
set_option maxHeartbeats 4000000 in
theorem ftoaN_any (base : Nat) (w0 w : World) (A : Option Addr) (c : Nat) (b M ex fr : Nat) (neg : Bool) (hM0 : 1 ≤ M) (hM : M < 9007199254740992) (hM2 : Hid (2 ^ 52 ≤ M)) (hex : 1 ≤ ex) (hex2 : ex ≤ 2046)
    (F1 : ((b : Int) / 9223372036854775808 != 0) = neg) (F2 : bits .and .i64 (wrap64 ((b : Int) / 4503599627370496)) 2047 = (ex : Int)) (F3 : bits .and .u64 (b : Int) 4503599627370495 = (fr : Int))
    (F4 : bits .or .u64 (fr : Int) 4503599627370496 = (M : Int))
    (hown : Hid (w.ownsRow base 5 1 (.slice A 0 c) 0 [])) (hbelow : Hid (Below base w0 w)) (hbase : Hid (base ≤ w.heap.size)) (hT : Hid (PowTab w ∧ TenTab w)) (hw : Hid (11 < w.heap.size ∧ 10 < w.heap.size)) :
    Calls Tryz.prog 50 #[.slice A 0 c, .float .f64 b, .int .u8 103, .int .i64 (-1)] w fun e w' => ∃ l dp, Rep ((ex - 1) * 2 ^ 52 + M) l dp ∧ Told base w0 (ftxt neg l dp) e w' := by
  have H := fun w => f64bits_run b w
  obtain ⟨sh, s1, s2, s3, s4, s5, s6, s7⟩ := len_word M hM0 hM
  have HL := Lib.hid (fun W => Tryz.bits_Len64 (M : Int) W (by omega) (by omega))
  rw [show (M : Int).toNat = M from rfl, s1] at HL
  obtain ⟨mm, hmm⟩ : ∃ mm : Nat, Hid (mm = M * 2 ^ sh) := ⟨_, rfl⟩
  have F5 : IntKind.u64.wrap ((M : Int) * 2 ^ sh) = (mm : Int) := by
    rw [show (M : Int) * 2 ^ sh = ((M * 2 ^ sh : Nat) : Int) by rw [Int.natCast_mul, Int.natCast_pow]; rfl, Go.Proofs.Mul64.wrapN _ s5, hmm.out]
  have HS := Lib.hid (And.intro s4 (And.intro s5 s6))
  have es : 64 - (64 - sh) = sh := by omega
  have ei : (64 : Int) - (64 - (sh : Int)) = sh := by omega
  clear s1 s4 s5 s6 s7
  go_enter Tryz.func50, Tryz.ntmps50
  go_wp2_with (simp only [H])
  go_quiet (fail)
  go_wp2_with fail
  refine gen1 (w := w.drewN nq) (M := fun W => Calls _ _ _ W _) fun W1 hB1 b1 hz1 => ?_
  refine (HL.out W1).mono ?_
  rintro e w2 ⟨rfl, rfl⟩
  have hB1' : Below w.heap.size w w2 := ⟨hB1.os, hB1.tape, hB1.output, hB1.size, hB1.block⟩
  have hz1' : w2.heap.size = w.heap.size + 1 := hz1
  have b1' : Blk w2 w.heap.size 124 (Array.replicate 32 (.int .u8 0)) := b1
  have HB1 := Lib.hid (And.intro hB1' (And.intro b1' hz1'))
  clear hB1 b1 hz1 hB1' b1' hz1'
  go_wp2_with fail
  rw [show (ex : Int) + -1023 - sh - 52 = ((ex - 1 : Nat) : Int) - 1074 - sh by omega]
  have hT2 : PowTab w2 := hT.out.1.below HB1.out.1 hw.out.2
  have hS := shortFloat_any M (ex - 1) sh hM0 (by omega) (by omega) ⟨HS.out.1, HS.out.2.1⟩ (Or.inl (HS.out.2.2 hM2.out)) w2 hT2 (by have := HB1.out.2.2; have := hw.out.2; omega)
  rw [← hmm.out] at hS
  refine hS.mono ?_
  clear hS hT2
  rintro e w3 ⟨d, q, rfl, hd1, hd2, hq1, hq2, hr, hB3⟩
  have HR := Lib.hid hr
  have HB3 := Lib.hid hB3
  clear hr hB3
  obtain ⟨nd, hnd⟩ : ∃ nd, Hid (nd = Lib.nDigits d) := ⟨_, rfl⟩
  have hd64 : d < 18446744073709551616 := by omega
  have hB13 := HB1.out.1.trans (HB3.out.mono (by have := HB1.out.2.2; omega))
  have ht3 : TenTab w3 := hT.out.2.below hB13 hw.out.1
  have b3 : Blk w3 w.heap.size 124 (Array.replicate 32 (.int .u8 0)) := HB1.out.2.1.below HB3.out (by have := HB1.out.2.2; omega)
  have HW3 := Lib.hid (And.intro hB13 (And.intro ht3 b3))
  clear hB13 ht3 b3
  go_wp2_with fail
  go_region_held3 (fun _ => True) (trivial)
    (first
      | (go_at_call 76; refine (Tryz.internal_strconv_numDigits d hd1 hd64 _ (by exact HW3.out.2.1)).mono ?_; rintro e w4 ⟨rfl, rfl⟩; rw [← hnd.out])
      | (go_at_call 75; refine (setDigits_any w.heap.size d nd ((q : Int) - 348) hd1 hd2 hnd.out (by omega) (by omega) _ (by exact HW3.out.2.2)).mono ?_; rintro e w5 ⟨l, hl, hll, hval, rfl, hdig, hg5, hz5⟩; have HL5 := Lib.hid (And.intro hl (And.intro hll (And.intro hval (And.intro hdig (And.intro hg5 hz5))))); clear hl hll hval hdig hg5 hz5))
  go_wp2_with fail
  have hg := HL5.out.2.2.2.2.1
  have hg' : w3.grownBy w5 (some w.heap.size) := ⟨hg.os, hg.tape, hg.output, hg.size, hg.block⟩
  have hB5 : Below w.heap.size w w5 := HW3.out.1.grown hg' (by have := HB1.out.2.2; have := HB3.out.size; omega) (fun _ e => by cases e; exact Nat.le_refl _)
  have hD : Dst base w.heap.size l w0 w5 (.slice A 0 c) 0 [] :=
    ⟨rfl, own_below hown.out hB5, hbelow.out.trans (hB5.mono hbase.out), HL5.out.2.2.2.1, fun e => by have := own_lt hown.out _ e; omega, by have := hB5.size; have := hbase.out; omega⟩
  have hn17 : nd ≤ 17 := by rw [hnd.out]; exact nd_le hd1 hd2
  refine (efg_any base w.heap.size l w0 w5 A c neg hD _ l.length rfl HL5.out.1.pos (by have := HL5.out.2.1; omega) (by omega) (by omega)).mono ?_
  rintro e w6 ⟨A6, c6, rfl, h1, h2⟩
  have H6 := Lib.hid (And.intro h1 h2)
  clear h1 h2 hD hB5 hg hg'
  go_wp2_with fail
  go_ret
  exact ⟨l, _, rep_of HL5.out.1 HL5.out.2.1 HL5.out.2.2.1 hn17 hnd.out hd1 hd2 hq1 hq2 HR.out (by omega), A6, c6, rfl, H6.out⟩
set_option maxRecDepth 10000 in
set_option maxHeartbeats 4000000 in
theorem ftoaS_any (base : Nat) (w0 w : World) (A : Option Addr) (c : Nat) (b M : Nat) (neg : Bool) (hM0 : 1 ≤ M) (hM : M < 9007199254740992) (hM2 : Hid (M < 2 ^ 52))
    (F1 : ((b : Int) / 9223372036854775808 != 0) = neg) (F2 : bits .and .i64 (wrap64 ((b : Int) / 4503599627370496)) 2047 = 0) (F3 : bits .and .u64 (b : Int) 4503599627370495 = (M : Int))
    (hown : Hid (w.ownsRow base 5 1 (.slice A 0 c) 0 [])) (hbelow : Hid (Below base w0 w)) (hbase : Hid (base ≤ w.heap.size)) (hT : Hid (PowTab w ∧ TenTab w)) (hw : Hid (11 < w.heap.size ∧ 10 < w.heap.size)) :
    Calls Tryz.prog 50 #[.slice A 0 c, .float .f64 b, .int .u8 103, .int .i64 (-1)] w fun e w' => ∃ l dp, Rep (0 * 2 ^ 52 + M) l dp ∧ Told base w0 (ftxt neg l dp) e w' := by
  have H := fun w => f64bits_run b w
  obtain ⟨sh, s1, s2, s3, s4, s5, s6, s7⟩ := len_word M hM0 hM
  have HL := Lib.hid (fun W => Tryz.bits_Len64 (M : Int) W (by omega) (by omega))
  rw [show (M : Int).toNat = M from rfl, s1] at HL
  obtain ⟨mm, hmm⟩ : ∃ mm : Nat, Hid (mm = M * 2 ^ sh) := ⟨_, rfl⟩
  have F5 : IntKind.u64.wrap ((M : Int) * 2 ^ sh) = (mm : Int) := by
    rw [show (M : Int) * 2 ^ sh = ((M * 2 ^ sh : Nat) : Int) by rw [Int.natCast_mul, Int.natCast_pow]; rfl, Go.Proofs.Mul64.wrapN _ s5, hmm.out]
  have HS := Lib.hid (And.intro s4 (And.intro s5 s7))
  have es : 64 - (64 - sh) = sh := by omega
  have ei : (64 : Int) - (64 - (sh : Int)) = sh := by omega
  clear s1 s4 s5 s6 s7
  go_enter Tryz.func50, Tryz.ntmps50
  go_wp2_with (simp only [H])
  go_quiet (fail)
  go_wp2_with fail
  refine gen1 (w := w.drewN nq) (M := fun W => Calls _ _ _ W _) fun W1 hB1 b1 hz1 => ?_
  refine (HL.out W1).mono ?_
  rintro e w2 ⟨rfl, rfl⟩
  have hB1' : Below w.heap.size w w2 := ⟨hB1.os, hB1.tape, hB1.output, hB1.size, hB1.block⟩
  have hz1' : w2.heap.size = w.heap.size + 1 := hz1
  have b1' : Blk w2 w.heap.size 124 (Array.replicate 32 (.int .u8 0)) := b1
  have HB1 := Lib.hid (And.intro hB1' (And.intro b1' hz1'))
  clear hB1 b1 hz1 hB1' b1' hz1'
  go_wp2_with fail
  rw [show (-1022 : Int) - sh - 52 = ((0 : Nat) : Int) - 1074 - sh by omega]
  have hT2 : PowTab w2 := hT.out.1.below HB1.out.1 hw.out.2
  have hS := shortFloat_any M 0 sh hM0 (by omega) (by omega) ⟨HS.out.1, HS.out.2.1⟩ (Or.inr ⟨rfl, HS.out.2.2 hM2.out⟩) w2 hT2 (by have := HB1.out.2.2; have := hw.out.2; omega)
  rw [← hmm.out] at hS
  refine hS.mono ?_
  clear hS hT2
  rintro e w3 ⟨d, q, rfl, hd1, hd2, hq1, hq2, hr, hB3⟩
  have HR := Lib.hid hr
  have HB3 := Lib.hid hB3
  clear hr hB3
  obtain ⟨nd, hnd⟩ : ∃ nd, Hid (nd = Lib.nDigits d) := ⟨_, rfl⟩
  have hd64 : d < 18446744073709551616 := by omega
  have hB13 := HB1.out.1.trans (HB3.out.mono (by have := HB1.out.2.2; omega))
  have ht3 : TenTab w3 := hT.out.2.below hB13 hw.out.1
  have b3 : Blk w3 w.heap.size 124 (Array.replicate 32 (.int .u8 0)) := HB1.out.2.1.below HB3.out (by have := HB1.out.2.2; omega)
  have HW3 := Lib.hid (And.intro hB13 (And.intro ht3 b3))
  clear hB13 ht3 b3
  go_wp2_with fail
  go_region_held3 (fun _ => True) (trivial)
    (first
      | (go_at_call 76; refine (Tryz.internal_strconv_numDigits d hd1 hd64 _ (by exact HW3.out.2.1)).mono ?_; rintro e w4 ⟨rfl, rfl⟩; rw [← hnd.out])
      | (go_at_call 75; refine (setDigits_any w.heap.size d nd ((q : Int) - 348) hd1 hd2 hnd.out (by omega) (by omega) _ (by exact HW3.out.2.2)).mono ?_; rintro e w5 ⟨l, hl, hll, hval, rfl, hdig, hg5, hz5⟩; have HL5 := Lib.hid (And.intro hl (And.intro hll (And.intro hval (And.intro hdig (And.intro hg5 hz5))))); clear hl hll hval hdig hg5 hz5))
  go_wp2_with fail
  have hg := HL5.out.2.2.2.2.1
  have hg' : w3.grownBy w5 (some w.heap.size) := ⟨hg.os, hg.tape, hg.output, hg.size, hg.block⟩
  have hB5 : Below w.heap.size w w5 := HW3.out.1.grown hg' (by have := HB1.out.2.2; have := HB3.out.size; omega) (fun _ e => by cases e; exact Nat.le_refl _)
  have hD : Dst base w.heap.size l w0 w5 (.slice A 0 c) 0 [] :=
    ⟨rfl, own_below hown.out hB5, hbelow.out.trans (hB5.mono hbase.out), HL5.out.2.2.2.1, fun e => by have := own_lt hown.out _ e; omega, by have := hB5.size; have := hbase.out; omega⟩
  have hn17 : nd ≤ 17 := by rw [hnd.out]; exact nd_le hd1 hd2
  refine (efg_any base w.heap.size l w0 w5 A c neg hD _ l.length rfl HL5.out.1.pos (by have := HL5.out.2.1; omega) (by omega) (by omega)).mono ?_
  rintro e w6 ⟨A6, c6, rfl, h1, h2⟩
  have H6 := Lib.hid (And.intro h1 h2)
  clear h1 h2 hD hB5 hg hg'
  go_wp2_with fail
  go_ret
  exact ⟨l, _, rep_of HL5.out.1 HL5.out.2.1 HL5.out.2.2.1 hn17 hnd.out hd1 hd2 hq1 hq2 HR.out (by omega), A6, c6, rfl, H6.out⟩
set_option maxRecDepth 10000 in
set_option maxHeartbeats 1000000 in
theorem efgZ_any (base gb : Nat) (w0 w : World) (A : Option Addr) (c : Nat) (neg : Bool) (hD : Hid (Dst base gb [] w0 w (.slice A 0 c) 0 [])) :
    Calls Tryz.prog 73 #[.slice A 0 c, .bool neg, .slice none 0 0, .int .i64 0, .int .i64 0, .int .i64 (-1), .int .u8 103, .bool true] w (Told base w0 (efgF neg [] 0)) := by
  cases neg
  · go_enter Tryz.func73, Tryz.ntmps73
    go_wp2_with (at_builtin; refine app_dst rfl _ _ rfl base gb [] w0 _ 0 [] rfl (hD.out.alloc _) _ _ _ _ [48] rfl (reads_new [48] (cells1 rfl) _ rfl) (by omega) ?_)
    intro A1 c1 w1 hD1
    have HD1 := Lib.hid hD1
    clear hD1
    go_wp2_with fail
    go_ret
    exact told_of HD1.out rfl
  · go_enter Tryz.func73, Tryz.ntmps73
    go_wp2_with (at_builtin; refine app_dst rfl _ _ rfl base gb [] w0 _ 0 [] rfl (hD.out.alloc _) _ _ _ _ [45] rfl (reads_new [45] (cells1 rfl) _ rfl) (by omega) ?_)
    intro A1 c1 w1 hD1
    have HD1 := Lib.hid hD1
    clear hD1
    go_wp2_with (at_builtin; refine app_dst rfl _ _ rfl base gb [] w0 _ 1 _ rfl (HD1.out.alloc _) _ _ _ _ [48] rfl (reads_new [48] (cells1 rfl) _ rfl) (by omega) ?_)
    intro A2 c2 w2 hD2
    have HD2 := Lib.hid hD2
    clear hD2
    go_wp2_with fail
    go_ret
    exact told_of HD2.out rfl
set_option maxRecDepth 10000 in
set_option maxHeartbeats 1000000 in
theorem ftoaZ_any (base : Nat) (w0 w : World) (A : Option Addr) (c : Nat) (b : Nat) (neg : Bool)
    (F1 : ((b : Int) / 9223372036854775808 != 0) = neg) (F2 : bits .and .i64 (wrap64 ((b : Int) / 4503599627370496)) 2047 = 0) (F3 : bits .and .u64 (b : Int) 4503599627370495 = 0)
    (hown : Hid (w.ownsRow base 5 1 (.slice A 0 c) 0 [])) (hbelow : Hid (Below base w0 w)) (hbase : Hid (base ≤ w.heap.size)) (hg : Hid (10 < base)) :
    Calls Tryz.prog 50 #[.slice A 0 c, .float .f64 b, .int .u8 103, .int .i64 (-1)] w (Told base w0 (efgF neg [] 0)) := by
  have H := fun w => f64bits_run b w
  go_enter Tryz.func50, Tryz.ntmps50
  go_wp2_with (simp only [H])
  go_quiet (fail)
  go_wp2_with fail
  have hD : Dst base 10 [] w0 (w.drewN nq) (.slice A 0 c) 0 [] :=
    ⟨rfl, hown.out, hbelow.out.drewN_ _, ⟨Nat.lt_of_lt_of_le hg.out hbase.out, fun k h => absurd h (by simp)⟩, fun e => by have := own_lt hown.out _ e; have := hg.out; omega, hbase.out⟩
  refine (efgZ_any base 10 w0 _ A c neg hD).mono ?_
  rintro e w6 ⟨A6, c6, rfl, h1, h2⟩
  have H6 := Lib.hid (And.intro h1 h2)
  clear h1 h2 hD
  go_wp2_with fail
  go_ret
  exact ⟨A6, c6, rfl, H6.out⟩
end Go.Proofs.YtmphnnmnbpheiaaGreatDoor
