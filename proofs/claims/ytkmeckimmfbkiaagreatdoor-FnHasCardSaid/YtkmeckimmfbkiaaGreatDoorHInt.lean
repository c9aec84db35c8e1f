/- An integer of the program as a byte: Uint64, AsInt; Bytes.Has and String.Has. Conditions: none. -/
import Derived.Test.YtkmeckimmfbkiaaGreatDoorHErrs
import Derived.Test.YtkmeckimmfbkiaaGreatDoorHText
import Derived.Test.YtkmeckimmfbkiaaGreatDoorJCmp2
namespace Go.Proofs.YtkmeckimmfbkiaaGreatDoor
open Go Go.RowKit
set_option maxRecDepth 10000 in
theorem bigSign_any (g x : Nat) (neg : Bool) (w : World) (hx : IntAt w w.heap.size g neg x) (h0 : 0 < x) : Calls Tryz.prog 321 #[.pointer (some ⟨g, 0, none⟩)] w fun e w' => e = .returned (.int .i64 (if neg then -1 else 1)) ∧ w' = w := by
  obtain ⟨A, c, hb, _, _, _⟩ := hx
  obtain ⟨k0, k1, _, _⟩ := hb.c2
  have hl : 0 < (limbs x).length := by rw [limbs_len_pos]; exact h0
  have hn : (((limbs x).length : Int) == 0) = false := by rw [beq_eq_false_iff_ne]; omega
  clear hb hl
  generalize (limbs x).length = n at *
  cases neg
  · go_enter Tryz.func321, Tryz.ntmps321
    go_wp2
    go_ret
    exact ⟨rfl, rfl⟩
  · go_enter Tryz.func321, Tryz.ntmps321
    go_wp2
    go_ret
    exact ⟨rfl, rfl⟩
set_option maxRecDepth 10000 in
theorem low64_one (ad : Addr) (c : Nat) (x : Int) (w : World) (h : w.cell? ad = some (.int .u64 x)) : Calls Tryz.prog 89 #[.slice (some ad) 1 c] w fun e w' => e = .returned (.int .u64 x) ∧ w' = w := by
  obtain ⟨g, o, r⟩ := ad
  have h' : w.cell? (Addr.add ⟨g, o, r⟩ 0) = some (.int .u64 x) := by simpa [Addr.add] using h
  go_enter Tryz.func89, Tryz.ntmps89
  go_wp2
  go_ret
  exact ⟨rfl, rfl⟩
set_option maxRecDepth 10000 in
theorem bigUint64_any (g x : Nat) (neg : Bool) (w : World) (hx : IntAt w w.heap.size g neg x) (h0 : 0 < x) (h1 : x < 18446744073709551616) : Calls Tryz.prog 324 #[.pointer (some ⟨g, 0, none⟩)] w fun e w' => e = .returned (.int .u64 (x : Int)) ∧ w' = w := by
  obtain ⟨A, c, hb, _, hr, _⟩ := hx
  rw [limbs_one x h1 h0] at hb hr
  obtain ⟨k0, k1, _, _⟩ := hb.c2
  obtain ⟨ad, u, rfl, _, hu, hcell⟩ := hr.at_ (k := 0) (by simp)
  have eu : u = .int .u64 (x : Int) := by simpa [wv] using hu.symm
  subst eu
  have HL := Lib.hid (low64_one ad c (x : Int) w (by simpa [Addr.add] using hcell))
  clear hb hr hu hcell
  go_enter Tryz.func324, Tryz.ntmps324
  go_wp2_with fail
  refine HL.out.mono ?_
  rintro e w1 ⟨rfl, rfl⟩
  go_wp2
  go_ret
  exact ⟨rfl, rfl⟩
set_option maxRecDepth 10000 in
theorem toUint64_any (g : Nat) (x : Int) (w : World) (hx : IntAt w w.heap.size g (decide (x < 0)) x.natAbs) (hs : (limbs x.natAbs).length ≤ 2147483640) (h0 : x ≠ 0) :
    Calls Tryz.prog 319 #[.pointer (some ⟨g, 0, none⟩)] w fun e w' => (∃ u acc : Int, e = .returned (.tuple #[.int .u64 u, .int .i8 acc]) ∧ (acc = 0 → x = u ∧ 0 ≤ u)) ∧ w' = w := by
  have HS := Lib.hid (bigSign_any g x.natAbs (decide (x < 0)) w hx (by omega))
  have HBL := Lib.hid (intBitLen_any g x.natAbs (decide (x < 0)) w hx hs)
  have HU := Lib.hid (bigUint64_any g x.natAbs (decide (x < 0)) w hx (by omega))
  clear hx hs
  by_cases hn : x < 0
  · rw [decide_eq_true hn] at HS
    clear HBL HU
    go_enter Tryz.func319, Tryz.ntmps319
    go_wp2_with fail
    refine HS.out.mono ?_
    rintro e w1 ⟨rfl, rfl⟩
    simp only [if_true]
    go_wp2
    go_ret2
    exact ⟨⟨0, 1, rfl, fun h => by cases h⟩, rfl⟩
  · rw [decide_eq_false hn] at HS
    have hb : nbits x.natAbs ≤ 64 ↔ x.natAbs < 2 ^ 64 := nbits_le x.natAbs 64
    by_cases h64 : x.natAbs < 18446744073709551616
    · have hb2 : nbits x.natAbs ≤ 64 := hb.2 (by rw [show (2 : Nat) ^ 64 = 18446744073709551616 from rfl]; exact h64)
      have hb3 : ¬ (64 : Int) < (nbits x.natAbs : Int) := by omega
      have hz : (x.natAbs : Int) = x ∧ 0 ≤ x := by omega
      have HZ := Lib.hid hz
      have HU2 := Lib.hid (HU.out h64)
      clear hb hb2 h64 HU hz hn h0
      generalize (x.natAbs : Int) = u at *
      generalize nbits x.natAbs = nb at *
      go_enter Tryz.func319, Tryz.ntmps319
      go_wp2_with fail
      refine HS.out.mono ?_
      rintro e w1 ⟨rfl, rfl⟩
      simp only [Bool.false_eq_true, if_false]
      go_wp2_with fail
      refine HBL.out.mono ?_
      rintro e w2 ⟨rfl, rfl⟩
      go_wp2_with fail
      refine HU2.out.mono ?_
      rintro e w2 ⟨rfl, rfl⟩
      go_wp2
      go_ret2
      exact ⟨⟨u, 0, rfl, fun _ => by have := HZ.out; omega⟩, rfl⟩
    · have hb2 : ¬ nbits x.natAbs ≤ 64 := fun h => h64 (by have := hb.1 h; rw [show (2 : Nat) ^ 64 = 18446744073709551616 from rfl] at this; exact this)
      have hb3 : (64 : Int) < (nbits x.natAbs : Int) := by omega
      clear hb hb2 h64 HU hn h0
      generalize nbits x.natAbs = nb at *
      go_enter Tryz.func319, Tryz.ntmps319
      go_wp2_with fail
      refine HS.out.mono ?_
      rintro e w1 ⟨rfl, rfl⟩
      simp only [Bool.false_eq_true, if_false]
      go_wp2_with fail
      refine HBL.out.mono ?_
      rintro e w2 ⟨rfl, rfl⟩
      go_wp2
      go_ret2
      exact ⟨⟨_, -1, rfl, fun h => by cases h⟩, rfl⟩
/-- The number without a sign, if it fits. -/
def U64 (w : World) (x : Int) (e : Ending) (w' : World) : Prop := (∃ (u : Int) (ok : Bool), e = .returned (.tuple #[.int .u64 u, .bool ok]) ∧ (ok = true → x = u ∧ 0 ≤ u) ∧ (ok = false → ¬ (0 ≤ x ∧ x < 256))) ∧ Below w.heap.size w w'
set_option maxRecDepth 10000 in
theorem intUint64_any (x a : Int) (p : Option Addr) (w : World) (hx : SInt w w.heap.size x a p) (hs : (limbs x.natAbs).length ≤ 2147483640) : Calls Tryz.prog 316 #[.agg #[.int .i64 a, .pointer p]] w (U64 w x) := by
  have HX := Lib.hid hx
  rcases hx with ⟨rfl, rfl, h1, h2⟩ | ⟨g, rfl, rfl, hi, hno⟩
  · by_cases hn : a < 0
    · go_enter Tryz.func316, Tryz.ntmps316
      go_wp2_with fail
      refine gen1 (M := fun W => Calls _ _ _ W _) fun W hB b1 hz => ?_
      refine (get_any _ _ W).mono ?_
      rintro e w1 ⟨rfl, hB1⟩
      have HB := Lib.hid (hB.trans (hB1.mono (by omega)))
      clear hB hB1 b1 hz
      go_wp2
      go_ret2
      exact ⟨⟨0, false, rfl, fun h => by simp at h, fun _ => by omega⟩, HB.out⟩
    · have w1 : IntKind.u64.wrap a = a := by rw [IntKind.wrap_u64]; omega
      go_enter Tryz.func316, Tryz.ntmps316
      go_wp2_with fail
      refine gen1 (M := fun W => Calls _ _ _ W _) fun W hB b1 hz => ?_
      refine (get_any _ _ W).mono ?_
      rintro e w1 ⟨rfl, hB1⟩
      have HB := Lib.hid (hB.trans (hB1.mono (by omega)))
      clear hB hB1 b1 hz
      go_wp2
      go_ret2
      exact ⟨⟨a, true, rfl, fun _ => ⟨rfl, by omega⟩, fun h => by simp at h⟩, HB.out⟩
  · have HT := Lib.hid fun (W : World) (hW : Below w.heap.size w W) => toUint64_any g x W ((hi.below hW).more hW.size) hs (by omega)
    have HN := Lib.hid hno
    clear hi hs hno
    go_enter Tryz.func316, Tryz.ntmps316
    go_wp2_with fail
    refine gen1 (M := fun W => Calls _ _ _ W _) fun W hB b1 hz => ?_
    refine (get_any _ _ W).mono ?_
    rintro e w1 ⟨rfl, hB1⟩
    have HB := Lib.hid (hB.trans (hB1.mono (by omega)))
    clear hB hB1 b1 hz
    go_wp2_with fail
    refine (HT.out w1 HB.out).mono ?_
    rintro e w2 ⟨⟨u, acc, rfl, hacc⟩, rfl⟩
    have HA := Lib.hid hacc
    clear hacc
    by_cases h0 : acc = 0
    · subst h0
      go_wp2
      go_ret2
      exact ⟨⟨u, true, rfl, fun _ => HA.out trivial, fun h => by simp at h⟩, HB.out⟩
    · have h1 : (acc != 0) = true := by rw [bne_iff_ne]; exact h0
      clear h0
      go_wp2
      go_ret2
      exact ⟨⟨0, false, rfl, fun h => by simp at h, fun _ => by have := HN.out; omega⟩, HB.out⟩
set_option maxRecDepth 10000 in
set_option maxHeartbeats 2000000 in
/-- AsInt, into a byte. -/
theorem asByte_any (x a : Int) (p : Option Addr) (g : Nat) (w : World) (hx : SInt w w.heap.size x a p) (hs : (limbs x.natAbs).length ≤ 2147483640) (hb : Blk w g 5 #[.int .u8 0]) :
    Calls Tryz.prog 313 #[.iface 94 (.agg #[.int .i64 a, .pointer p]), .iface 279 (.pointer (some ⟨g, 0, none⟩))] w fun e w' =>
      w.grownBy w' (some g) ∧ ((0 ≤ x ∧ x < 256 ∧ e = .returned .nilIface ∧ Blk w' g 5 #[.int .u8 x]) ∨ (¬ (0 ≤ x ∧ x < 256) ∧ ∃ t v, e = .returned (.iface t v))) := by
  have T0 : ∀ w, (Instr.typeAssert (.iface 94 (.agg #[.int .i64 a, .pointer p])) 43 94 true).run Tryz.prog w = .ok (.tuple #[.agg #[.int .i64 a, .pointer p], .bool true]) w := fun w => by kernel_rfl
  have T1 : ∀ w, (Instr.typeAssert (.iface 279 (.pointer (some ⟨g, 0, none⟩))) 20 316 true).run Tryz.prog w = .ok (.tuple #[.pointer none, .bool false]) w := fun w => by kernel_rfl
  have T2 : ∀ w, (Instr.typeAssert (.iface 279 (.pointer (some ⟨g, 0, none⟩))) 20 279 true).run Tryz.prog w = .ok (.tuple #[.pointer (some ⟨g, 0, none⟩), .bool true]) w := fun w => by kernel_rfl
  have T3 : ∀ w, (Instr.typeAssert (.iface 279 (.pointer (some ⟨g, 0, none⟩))) 20 317 true).run Tryz.prog w = .ok (.tuple #[.pointer none, .bool false]) w := fun w => by kernel_rfl
  have T4 : ∀ w, (Instr.typeAssert (.iface 279 (.pointer (some ⟨g, 0, none⟩))) 20 318 true).run Tryz.prog w = .ok (.tuple #[.pointer none, .bool false]) w := fun w => by kernel_rfl
  have T5 : ∀ w, (Instr.typeAssert (.iface 279 (.pointer (some ⟨g, 0, none⟩))) 20 319 true).run Tryz.prog w = .ok (.tuple #[.pointer none, .bool false]) w := fun w => by kernel_rfl
  have T6 : ∀ w, (Instr.typeAssert (.iface 279 (.pointer (some ⟨g, 0, none⟩))) 20 320 true).run Tryz.prog w = .ok (.tuple #[.pointer none, .bool false]) w := fun w => by kernel_rfl
  have T7 : ∀ w, (Instr.typeAssert (.iface 279 (.pointer (some ⟨g, 0, none⟩))) 20 321 true).run Tryz.prog w = .ok (.tuple #[.pointer none, .bool false]) w := fun w => by kernel_rfl
  have T8 : ∀ w, (Instr.typeAssert (.iface 279 (.pointer (some ⟨g, 0, none⟩))) 20 322 true).run Tryz.prog w = .ok (.tuple #[.pointer none, .bool false]) w := fun w => by kernel_rfl
  have T9 : ∀ w, (Instr.typeAssert (.iface 279 (.pointer (some ⟨g, 0, none⟩))) 20 324 true).run Tryz.prog w = .ok (.tuple #[.pointer none, .bool false]) w := fun w => by kernel_rfl
  have T10 : ∀ w, (Instr.typeAssert (.iface 279 (.pointer (some ⟨g, 0, none⟩))) 20 325 true).run Tryz.prog w = .ok (.tuple #[.pointer none, .bool false]) w := fun w => by kernel_rfl
  have T11 : ∀ w, (Instr.typeAssert (.iface 279 (.pointer (some ⟨g, 0, none⟩))) 20 326 true).run Tryz.prog w = .ok (.tuple #[.pointer none, .bool false]) w := fun w => by kernel_rfl
  have HU := Lib.hid fun (W : World) (hW : Below w.heap.size w W) => intUint64_any x a p W ((hx.below hW).more hW.size) hs
  have HB := Lib.hid hb
  clear hx hs hb
  go_enter Tryz.func313, Tryz.ntmps313
  go_wp2_with fail
  refine gen1 (M := fun W => Calls _ _ _ W _) fun W hB b1 hz => ?_
  have hzz : w.heap.size < W.heap.size := by omega
  clear hz b1
  refine (HU.out W hB).mono ?_
  rintro e w1 ⟨⟨u, ok, rfl, hyes, hno⟩, hB1⟩
  have HBB := Lib.hid (hB.trans (hB1.mono hB.size))
  have bg := HB.out.below HBB.out HB.out.lt
  have HBG := Lib.hid bg
  obtain ⟨k0, f0⟩ := bg.c1
  have HY := Lib.hid (And.intro hyes hno)
  clear hB hB1 hzz bg hyes hno HU
  have grown : ∀ W', Below w.heap.size w W' → w.grownBy W' (some g) := fun W' h => ⟨h.os, h.tape, h.output, h.size, fun k hk _ => h.block k hk⟩
  cases ok
  · go_wp2_with fail
    refine (errorsNew_any _ w1).mono ?_
    rintro e w2 ⟨⟨T, z, rfl⟩, hB2⟩
    have HB2 := Lib.hid (HBB.out.trans (hB2.mono HBB.out.size))
    clear hB2
    go_wp2
    go_ret
    exact ⟨grown _ HB2.out, .inr ⟨HY.out.2 trivial, _, _, rfl⟩⟩
  · by_cases h256 : u < 256
    · have h1 : ¬ (256 : Int) ≤ u := by omega
      have w2 : IntKind.u8.wrap u = u := by have := (HY.out.1 rfl).2; rw [IntKind.wrap_u8]; omega
      have HO := Lib.hid h256
      clear h256
      go_wp2
      go_ret
      have hu := HY.out.1 trivial
      refine ⟨?_, .inl ⟨by omega, by have := HO.out; omega, rfl, ?_⟩⟩
      · exact grown_set (grown _ HBB.out) _
      · have := HBG.out.set_ 0 (.int .u8 u)
        rw [hu.1]
        simpa using this
    · have h1 : (256 : Int) ≤ u := by omega
      have HO := Lib.hid h256
      clear h256
      go_wp2_with fail
      refine (errorsNew_any _ w1).mono ?_
      rintro e w2 ⟨⟨T, z, rfl⟩, hB2⟩
      have HB2 := Lib.hid (HBB.out.trans (hB2.mono HBB.out.size))
      clear hB2
      go_wp2
      go_ret
      exact ⟨grown _ HB2.out, .inr ⟨by have := HY.out.1 trivial; have := HO.out; omega, _, _, rfl⟩⟩
end Go.Proofs.YtkmeckimmfbkiaaGreatDoor
