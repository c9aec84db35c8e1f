/- The reference's Clean: values without parts. (Printed by gencl.py.). -/
import Derived.Test.YtkmeckimmfbkiaaGreatDoorJSKey
namespace Go.Proofs.YtkmeckimmfbkiaaGreatDoor
open Go Go.RowKit
theorem VN.past {w w' : World} {P P' : Nat → Prop} {s : S} {v : Value} {g : Nat} (h : VN w P s v) (hg : w.grownBy w' (some g)) (hP : ∀ b, P b → b ≠ g ∧ b < w.heap.size ∧ P' b) : VN w' P' s v :=
  VN.keep (fun p hp => World.cell?_of_block (hg.block p.block (hP _ hp).2.1 (fun e => (hP _ hp).1 (by injection e)))) (fun b hb => (hP b hb).2.2) s v h
set_option maxRecDepth 10000 in
set_option maxHeartbeats 8000000 in
theorem clean_none (k : Int) (neg : Bool) (A : Option Addr) (n c : Nat) (b : Int) (t : ByteArray) (K : Option Addr) (m d : Nat) (dp : Int) (w : World) (hk : (wrap64 (k.tmod 10 + 10)).tmod 10 = 0 ∨ (dp ≤ 0 ∧ (wrap64 (k.tmod 10 + 10)).tmod 10 = 6)) :
    Calls Tryz.prog 5 #[.agg #[.int .i64 k, .bool neg, .slice A n c, .int .u64 b, .string t, .slice K m d], .int .i64 dp] w (RetN w noP .none) := by
  rcases hk with hk | ⟨h, hk⟩
  · go_enter Tryz.func5, Tryz.ntmps5
    go_wp2
    all_goals
      refine gen2 (M := fun W => bodyPost _ _ _ _ _ W) fun W hB b1 b2 hz => ?_
      refine ret_row rfl _ b2 rfl Tryz.underlying26 rfl size28 rfl ⟨_, rfl, by simp only [VN]; rfl, hB⟩
  · go_enter Tryz.func5, Tryz.ntmps5
    go_wp2
    all_goals
      refine gen2 (M := fun W => bodyPost _ _ _ _ _ W) fun W hB b1 b2 hz => ?_
      refine ret_row rfl _ b2 rfl Tryz.underlying26 rfl size28 rfl ⟨_, rfl, by simp only [VN]; rfl, hB⟩
set_option maxRecDepth 10000 in
set_option maxHeartbeats 8000000 in
theorem clean_float (k : Int) (neg : Bool) (A : Option Addr) (n c : Nat) (b : Int) (t : ByteArray) (K : Option Addr) (m d : Nat) (dp : Int) (w : World) (hk : (wrap64 (k.tmod 10 + 10)).tmod 10 = 3 ∨ (dp ≤ 0 ∧ (wrap64 (k.tmod 10 + 10)).tmod 10 = 9)) (hb : 0 ≤ b ∧ b < 18446744073709551616) :
    Calls Tryz.prog 5 #[.agg #[.int .i64 k, .bool neg, .slice A n c, .int .u64 b, .string t, .slice K m d], .int .i64 dp] w (RetN w noP (.float b.toNat)) := by
  obtain ⟨f, rfl⟩ : ∃ f : Nat, b = (f : Int) := ⟨b.toNat, by omega⟩
  have hf : f < 18446744073709551616 := by omega
  clear hb
  rcases hk with hk | ⟨h, hk⟩
  · go_enter Tryz.func5, Tryz.ntmps5
    go_wp2
    all_goals
      refine gen2 (M := fun W => bodyPost _ _ _ _ _ W) fun W hB b1 b2 hz => ?_
      refine ret_row rfl _ b2 rfl Tryz.underlying26 rfl size28 rfl ⟨_, rfl, by simp only [VN]; exact ⟨rfl, hf⟩, hB⟩
  · go_enter Tryz.func5, Tryz.ntmps5
    go_wp2
    all_goals
      refine gen2 (M := fun W => bodyPost _ _ _ _ _ W) fun W hB b1 b2 hz => ?_
      refine ret_row rfl _ b2 rfl Tryz.underlying26 rfl size28 rfl ⟨_, rfl, by simp only [VN]; exact ⟨rfl, hf⟩, hB⟩
set_option maxRecDepth 10000 in
set_option maxHeartbeats 8000000 in
theorem clean_str (k : Int) (neg : Bool) (A : Option Addr) (n c : Nat) (b : Int) (t : ByteArray) (K : Option Addr) (m d : Nat) (dp : Int) (w : World) (hk : (wrap64 (k.tmod 10 + 10)).tmod 10 = 4) :
    Calls Tryz.prog 5 #[.agg #[.int .i64 k, .bool neg, .slice A n c, .int .u64 b, .string t, .slice K m d], .int .i64 dp] w (fun e w' => ∃ s, RetN w noP (.str s) e w') := by
  rcases Nat.lt_or_ge 60 t.size with h60 | h60
  · have hmin : min (t.size : Int) 60 = 60 := by omega
    have hlt : (60 : Int) ≤ (t.size : Int) := by omega
    go_enter Tryz.func5, Tryz.ntmps5
    go_wp2
    all_goals
      refine gen2 (M := fun W => bodyPost _ _ _ _ _ W) fun W hB b1 b2 hz => ?_
      refine ret_row rfl _ b2 rfl Tryz.underlying26 rfl size28 rfl ⟨_, _, rfl, by simp only [VN]; exact ⟨rfl, by simp [ByteArray.size_extract]; omega⟩, hB⟩
  · have hmin : min (t.size : Int) 60 = (t.size : Int) := by omega
    go_enter Tryz.func5, Tryz.ntmps5
    go_wp2
    all_goals
      refine gen2 (M := fun W => bodyPost _ _ _ _ _ W) fun W hB b1 b2 hz => ?_
      refine ret_row rfl _ b2 rfl Tryz.underlying26 rfl size28 rfl ⟨_, _, rfl, by simp only [VN]; exact ⟨rfl, h60⟩, hB⟩
set_option maxRecDepth 10000 in
set_option maxHeartbeats 8000000 in
theorem clean_bytes (k : Int) (neg : Bool) (A : Option Addr) (n c : Nat) (b : Int) (t : ByteArray) (K : Option Addr) (m d : Nat) (dp : Int) (w : World) (hk : (wrap64 (k.tmod 10 + 10)).tmod 10 = 5) :
    Calls Tryz.prog 5 #[.agg #[.int .i64 k, .bool neg, .slice A n c, .int .u64 b, .string t, .slice K m d], .int .i64 dp] w (fun e w' => ∃ s, RetN w noP (.bytes s) e w') := by
  rcases Nat.lt_or_ge 60 t.size with h60 | h60
  · have hmin : min (t.size : Int) 60 = 60 := by omega
    have hlt : (60 : Int) ≤ (t.size : Int) := by omega
    go_enter Tryz.func5, Tryz.ntmps5
    go_wp2
    all_goals
      refine gen2 (M := fun W => bodyPost _ _ _ _ _ W) fun W hB b1 b2 hz => ?_
      refine ret_row rfl _ b2 rfl Tryz.underlying26 rfl size28 rfl ⟨_, _, rfl, by simp only [VN]; exact ⟨rfl, by simp [ByteArray.size_extract]; omega⟩, hB⟩
  · have hmin : min (t.size : Int) 60 = (t.size : Int) := by omega
    go_enter Tryz.func5, Tryz.ntmps5
    go_wp2
    all_goals
      refine gen2 (M := fun W => bodyPost _ _ _ _ _ W) fun W hB b1 b2 hz => ?_
      refine ret_row rfl _ b2 rfl Tryz.underlying26 rfl size28 rfl ⟨_, _, rfl, by simp only [VN]; exact ⟨rfl, h60⟩, hB⟩
def RetAB (w : World) (e : Ending) (w' : World) : Prop := ∃ q : Bool, RetN w noP (.bool q) e w'
theorem ret_bool (q : Bool) {w w1 W6 : World} {i : Int} (hi : i = if q = true then 1 else 0) (hg : w1.grownBy W6 (some (w.heap.size + 1))) (hB : Below w.heap.size w w1) : RetAB w (.returned (.agg #[.int .i64 1, .bool false, .slice none 0 0, .int .u64 i, .string ⟨#[]⟩, .slice none 0 0])) W6 := by
  subst hi
  refine ⟨q, _, rfl, ?_, below_grown hB hg (by omega) hB.size⟩
  simp only [VN]
  rfl
theorem ret_true {w w1 W6 : World} (hg : w1.grownBy W6 (some (w.heap.size + 1))) (hB : Below w.heap.size w w1) : RetAB w (.returned (.agg #[.int .i64 1, .bool false, .slice none 0 0, .int .u64 1, .string ⟨#[]⟩, .slice none 0 0])) W6 := ret_bool true rfl hg hB
theorem ret_false {w w1 W6 : World} (hg : w1.grownBy W6 (some (w.heap.size + 1))) (hB : Below w.heap.size w w1) : RetAB w (.returned (.agg #[.int .i64 1, .bool false, .slice none 0 0, .int .u64 0, .string ⟨#[]⟩, .slice none 0 0])) W6 := ret_bool false rfl hg hB
set_option maxRecDepth 10000 in
set_option maxHeartbeats 8000000 in
theorem clean_bool (k : Int) (neg : Bool) (A : Option Addr) (n c : Nat) (b : Int) (t : ByteArray) (K : Option Addr) (m d : Nat) (dp : Int) (w : World) (hk : (wrap64 (k.tmod 10 + 10)).tmod 10 = 1 ∨ (dp ≤ 0 ∧ (wrap64 (k.tmod 10 + 10)).tmod 10 = 7)) :
    Calls Tryz.prog 5 #[.agg #[.int .i64 k, .bool neg, .slice A n c, .int .u64 b, .string t, .slice K m d], .int .i64 dp] w (RetAB w) := by
  cases hq : (bits .and .u64 b 1 == 1) with
  | true =>
    rcases hk with hk | ⟨h, hk⟩
    · go_enter Tryz.func5, Tryz.ntmps5
      go_wp2_with fail
      all_goals
        refine gen2 (M := fun W => Calls _ _ _ W _) fun W hB b1 b2 hz => ?_
        have hz1 : w.heap.size + 1 < W.heap.size := by omega
        clear hz
        refine (boolVal_any true W).mono ?_
        rintro e w1 ⟨rfl, hB1⟩
        have b2 := b2.below hB1 (by omega)
        obtain ⟨r0, r1, r2, r3, r4, r5, f0, f1, f2, f3, f4, f5⟩ := b2.c6
        have HB := Lib.hid (And.intro b2 (hB.trans (hB1.mono (by omega))))
        clear b1 b2 hB hB1
        unfold valV nilS noT
        go_wp2
        refine gen_set6 (M := fun V => bodyPost _ _ _ _ _ V) HB.out.1 fun W6 b6 hg6 hz6 => ?_
        refine ret_row rfl _ b6 rfl Tryz.underlying26 rfl size28 rfl (ret_true hg6 HB.out.2)
    · go_enter Tryz.func5, Tryz.ntmps5
      go_wp2_with fail
      all_goals
        refine gen2 (M := fun W => Calls _ _ _ W _) fun W hB b1 b2 hz => ?_
        have hz1 : w.heap.size + 1 < W.heap.size := by omega
        clear hz
        refine (boolVal_any true W).mono ?_
        rintro e w1 ⟨rfl, hB1⟩
        have b2 := b2.below hB1 (by omega)
        obtain ⟨r0, r1, r2, r3, r4, r5, f0, f1, f2, f3, f4, f5⟩ := b2.c6
        have HB := Lib.hid (And.intro b2 (hB.trans (hB1.mono (by omega))))
        clear b1 b2 hB hB1
        unfold valV nilS noT
        go_wp2
        refine gen_set6 (M := fun V => bodyPost _ _ _ _ _ V) HB.out.1 fun W6 b6 hg6 hz6 => ?_
        refine ret_row rfl _ b6 rfl Tryz.underlying26 rfl size28 rfl (ret_true hg6 HB.out.2)
  | false =>
    rcases hk with hk | ⟨h, hk⟩
    · go_enter Tryz.func5, Tryz.ntmps5
      go_wp2_with fail
      all_goals
        refine gen2 (M := fun W => Calls _ _ _ W _) fun W hB b1 b2 hz => ?_
        have hz1 : w.heap.size + 1 < W.heap.size := by omega
        clear hz
        refine (boolVal_any false W).mono ?_
        rintro e w1 ⟨rfl, hB1⟩
        have b2 := b2.below hB1 (by omega)
        obtain ⟨r0, r1, r2, r3, r4, r5, f0, f1, f2, f3, f4, f5⟩ := b2.c6
        have HB := Lib.hid (And.intro b2 (hB.trans (hB1.mono (by omega))))
        clear b1 b2 hB hB1
        unfold valV nilS noT
        go_wp2
        refine gen_set6 (M := fun V => bodyPost _ _ _ _ _ V) HB.out.1 fun W6 b6 hg6 hz6 => ?_
        refine ret_row rfl _ b6 rfl Tryz.underlying26 rfl size28 rfl (ret_false hg6 HB.out.2)
    · go_enter Tryz.func5, Tryz.ntmps5
      go_wp2_with fail
      all_goals
        refine gen2 (M := fun W => Calls _ _ _ W _) fun W hB b1 b2 hz => ?_
        have hz1 : w.heap.size + 1 < W.heap.size := by omega
        clear hz
        refine (boolVal_any false W).mono ?_
        rintro e w1 ⟨rfl, hB1⟩
        have b2 := b2.below hB1 (by omega)
        obtain ⟨r0, r1, r2, r3, r4, r5, f0, f1, f2, f3, f4, f5⟩ := b2.c6
        have HB := Lib.hid (And.intro b2 (hB.trans (hB1.mono (by omega))))
        clear b1 b2 hB hB1
        unfold valV nilS noT
        go_wp2
        refine gen_set6 (M := fun V => bodyPost _ _ _ _ _ V) HB.out.1 fun W6 b6 hg6 hz6 => ?_
        refine ret_row rfl _ b6 rfl Tryz.underlying26 rfl size28 rfl (ret_false hg6 HB.out.2)
set_option maxRecDepth 10000 in
set_option maxHeartbeats 8000000 in
theorem clean_int (k : Int) (neg : Bool) (A : Option Addr) (n c : Nat) (b : Int) (t : ByteArray) (K : Option Addr) (m d : Nat) (dp : Int) (w : World) (hk : (wrap64 (k.tmod 10 + 10)).tmod 10 = 2 ∨ (dp ≤ 0 ∧ (wrap64 (k.tmod 10 + 10)).tmod 10 = 8)) (l : List UInt8) (hn : l.length = n) (hnc : n ≤ c) (hr : Reads w w.heap.size 1 A n (bv l)) :
    Calls Tryz.prog 5 #[.agg #[.int .i64 k, .bool neg, .slice A n c, .int .u64 b, .string t, .slice K m d], .int .i64 dp] w (RetN w noP (.int (sgn neg (beNat (l.take 40))))) := by
  obtain ⟨q, hq⟩ : ∃ q, q = min n 40 := ⟨_, rfl⟩
  have htk : l.take 40 = l.take q := by
    rcases Nat.lt_or_ge n 40 with h | h
    · rw [hq, Nat.min_eq_left (by omega), List.take_of_length_le (by omega), List.take_of_length_le (by omega)]
    · rw [hq, Nat.min_eq_right h]
  have HR := Lib.hid (by have := hr.take (k := q) (by omega); rwa [bv_take] at this : Reads w w.heap.size 1 A q (bv (l.take q)))
  rw [htk]
  have hq1 : min (n : Int) 40 = (q : Int) := by omega
  have hq2 : (q : Int) ≤ (c : Int) := by omega
  have hq3 : q ≤ 40 := by omega
  have hq4 : (0 : Int) ≤ (q : Int) := by omega
  have hq5 : q ≤ n := by omega
  clear hr htk hq
  rcases hk with hk | ⟨h, hk⟩
  · go_enter Tryz.func5, Tryz.ntmps5
    go_wp2_with fail
    all_goals
      refine gen2 (M := fun W => Code.wp _ _ _ _ W) fun W hB b1 b2 hz => ?_
      have hz1 : w.heap.size + 1 < W.heap.size := by omega
      clear hz
      obtain ⟨k0, k1, k2, k3, k4, k5, _, _, _, _, _, _⟩ := b1.c6
      have hR := ((HR.out.below hB).more hB.size).drew
      have HC := Lib.hid (of_si neg (l.take q) A q c W.drew (by rw [List.length_take]; omega) (by omega) (by omega) hR)
      have HB := Lib.hid (And.intro hB (And.intro b1 b2))
      clear b1 b2 hB hR
      go_region_held3 (fun w' => w'.cell? ⟨w.heap.size, 1, none⟩ = some (.bool neg) ∧ w'.cell? ⟨w.heap.size, 2, none⟩ = some (.slice A n c)) (first | (with_reducible exact ⟨k1, k2⟩) | go_keep)
        ((first
          | (go_at_call 12; refine HC.out.mono ?_
             rintro e w5 ⟨v5, rfl, hs5, hB5⟩
             have hB5 : Below W.heap.size W w5 := ⟨hB5.os, hB5.tape, hB5.output, hB5.size, hB5.block⟩
             have b1 := HB.out.2.1.below hB5 (by omega)
             obtain ⟨k0, k1, k2, k3, k4, k5, _, _, _, _, _, _⟩ := b1.c6
             have HI := Lib.hid (intVal_any _ v5 w5 (hs5.wide (by omega)))
             have hz5 := hB5.size
             have HB5 := Lib.hid (And.intro hB5 b1)
             clear hs5 hB5 b1)
          | (go_at_call 11; refine HI.out.mono ?_
             rintro e w6 ⟨v6, rfl, hv6, hB6⟩
             have b1 := HB5.out.2.below hB6 (by omega)
             have b2 := (HB.out.2.2.below HB5.out.1 (by omega)).below hB6 (by omega)
             obtain ⟨k0, k1, k2, k3, k4, k5, _, _, _, _, _, _⟩ := b1.c6
             obtain ⟨r0, r1, r2, r3, r4, r5, f0, f1, f2, f3, f4, f5⟩ := b2.c6
             obtain ⟨ng6, A6, n6, c6, bb6, tt6, K6, m6, d6, rfl⟩ := hv6.six
             have HV6 := Lib.hid (And.intro hv6 (And.intro hB6 (And.intro b2 (HB5.out.1.trans (hB6.mono (by omega))))))
             clear hv6 hB6 b1 b2)))
      go_wp2
      refine gen_set6 (M := fun V => bodyPost _ _ _ _ _ V) HV6.out.2.2.1 fun W6 b6 hg6 hz6 => ?_
      have hs6 := HV6.out.2.1.size
      have hBw := HB.out.1.trans (HV6.out.2.2.2.mono (by omega))
      refine ret_row rfl _ b6 rfl Tryz.underlying26 rfl size28 rfl ⟨_, rfl, HV6.out.1.past hg6 (fun bb hb => ?_), below_grown hBw hg6 (by omega) hBw.size⟩
      have hb : w5.heap.size ≤ bb ∧ bb < w6.heap.size := by rcases hb with h | h; exact h.elim; exact h
      exact ⟨by omega, hb.2, .inr ⟨by omega, by omega⟩⟩
  · go_enter Tryz.func5, Tryz.ntmps5
    go_wp2_with fail
    all_goals
      refine gen2 (M := fun W => Code.wp _ _ _ _ W) fun W hB b1 b2 hz => ?_
      have hz1 : w.heap.size + 1 < W.heap.size := by omega
      clear hz
      obtain ⟨k0, k1, k2, k3, k4, k5, _, _, _, _, _, _⟩ := b1.c6
      have hR := ((HR.out.below hB).more hB.size).drew
      have HC := Lib.hid (of_si neg (l.take q) A q c W.drew (by rw [List.length_take]; omega) (by omega) (by omega) hR)
      have HB := Lib.hid (And.intro hB (And.intro b1 b2))
      clear b1 b2 hB hR
      go_region_held3 (fun w' => w'.cell? ⟨w.heap.size, 1, none⟩ = some (.bool neg) ∧ w'.cell? ⟨w.heap.size, 2, none⟩ = some (.slice A n c)) (first | (with_reducible exact ⟨k1, k2⟩) | go_keep)
        ((first
          | (go_at_call 12; refine HC.out.mono ?_
             rintro e w5 ⟨v5, rfl, hs5, hB5⟩
             have hB5 : Below W.heap.size W w5 := ⟨hB5.os, hB5.tape, hB5.output, hB5.size, hB5.block⟩
             have b1 := HB.out.2.1.below hB5 (by omega)
             obtain ⟨k0, k1, k2, k3, k4, k5, _, _, _, _, _, _⟩ := b1.c6
             have HI := Lib.hid (intVal_any _ v5 w5 (hs5.wide (by omega)))
             have hz5 := hB5.size
             have HB5 := Lib.hid (And.intro hB5 b1)
             clear hs5 hB5 b1)
          | (go_at_call 11; refine HI.out.mono ?_
             rintro e w6 ⟨v6, rfl, hv6, hB6⟩
             have b1 := HB5.out.2.below hB6 (by omega)
             have b2 := (HB.out.2.2.below HB5.out.1 (by omega)).below hB6 (by omega)
             obtain ⟨k0, k1, k2, k3, k4, k5, _, _, _, _, _, _⟩ := b1.c6
             obtain ⟨r0, r1, r2, r3, r4, r5, f0, f1, f2, f3, f4, f5⟩ := b2.c6
             obtain ⟨ng6, A6, n6, c6, bb6, tt6, K6, m6, d6, rfl⟩ := hv6.six
             have HV6 := Lib.hid (And.intro hv6 (And.intro hB6 (And.intro b2 (HB5.out.1.trans (hB6.mono (by omega))))))
             clear hv6 hB6 b1 b2)))
      go_wp2
      refine gen_set6 (M := fun V => bodyPost _ _ _ _ _ V) HV6.out.2.2.1 fun W6 b6 hg6 hz6 => ?_
      have hs6 := HV6.out.2.1.size
      have hBw := HB.out.1.trans (HV6.out.2.2.2.mono (by omega))
      refine ret_row rfl _ b6 rfl Tryz.underlying26 rfl size28 rfl ⟨_, rfl, HV6.out.1.past hg6 (fun bb hb => ?_), below_grown hBw hg6 (by omega) hBw.size⟩
      have hb : w5.heap.size ≤ bb ∧ bb < w6.heap.size := by rcases hb with h | h; exact h.elim; exact h
      exact ⟨by omega, hb.2, .inr ⟨by omega, by omega⟩⟩
end Go.Proofs.YtkmeckimmfbkiaaGreatDoor
