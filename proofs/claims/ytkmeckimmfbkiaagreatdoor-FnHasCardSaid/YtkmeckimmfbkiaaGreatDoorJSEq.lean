/- The reference's Equal, of keys. Conditions: none. -/
import Derived.Test.YtkmeckimmfbkiaaGreatDoorJSEq1
namespace Go.Proofs.YtkmeckimmfbkiaaGreatDoor
open Go Go.RowKit
theorem bytes_beq' (a b : ByteArray) : (a.toList == b.toList) = decide (a = b) := by
  rw [Bool.eq_iff_iff]
  simp only [beq_iff_eq, decide_eq_true_eq, ByteArray.toList_eq]
  constructor
  · intro h
    have h2 : a.data = b.data := Array.toList_inj.1 h
    cases a; cases b; simpa using h2
  · rintro rfl; rfl
set_option maxRecDepth 10000 in
set_option maxHeartbeats 1000000 in
theorem equal_num (k1 : Int) (neg1 : Bool) (A1 : Option Addr) (n1 c1 : Nat) (b1 : Int) (t1 : ByteArray) (K1 : Option Addr) (m1 d1 : Nat) (k2 : Int) (neg2 : Bool) (A2 : Option Addr) (n2 c2 : Nat) (b2 : Int) (t2 : ByteArray) (K2 : Option Addr) (m2 d2 : Nat) (c : Int) (w : World) (h1 : (k1 == 2 || k1 == 3) = true) (h2 : (k2 == 2 || k2 == 3) = true)
    (hc : ∀ V, Below w.heap.size w V → Calls Tryz.prog 58 #[(.agg #[.int .i64 k1, .bool neg1, .slice A1 n1 c1, .int .u64 b1, .string t1, .slice K1 m1 d1]), (.agg #[.int .i64 k2, .bool neg2, .slice A2 n2 c2, .int .u64 b2, .string t2, .slice K2 m2 d2])] V fun e w' => e = .returned (.int .i64 c) ∧ Below V.heap.size V w') :
    Calls Tryz.prog 41 #[(.agg #[.int .i64 k1, .bool neg1, .slice A1 n1 c1, .int .u64 b1, .string t1, .slice K1 m1 d1]), (.agg #[.int .i64 k2, .bool neg2, .slice A2 n2 c2, .int .u64 b2, .string t2, .slice K2 m2 d2])] w (RetB w (c == 0)) := by
  have HC := Lib.hid hc
  clear hc
  go_enter Tryz.func41, Tryz.ntmps41
  go_wp2_with fail
  refine gen2 (M := fun W => Calls _ _ _ W _) fun W hB b1 b2 hz => ?_
  have hz1 : w.heap.size + 1 < W.heap.size := by omega
  clear hz
  have HB := Lib.hid (And.intro hB (And.intro b1 b2))
  clear hB b1 b2
  refine (number_any k1 neg1 A1 n1 c1 b1 t1 K1 m1 d1 W).mono ?_
  rintro e w1 ⟨rfl, hB1⟩
  rw [h1]
  obtain ⟨x0, x1, x2, x3, x4, x5, _, _, _, _, _, _⟩ := (HB.out.2.1.below hB1 (by omega)).c6
  obtain ⟨y0, y1, y2, y3, y4, y5, _, _, _, _, _, _⟩ := (HB.out.2.2.below hB1 (by omega)).c6
  have hs1 := hB1.size
  have HB1 := Lib.hid hB1
  clear hB1
  clear h1
  go_wp2_with fail
  clear x0 x1 x2 x3 x4 x5 y0 y1 y2 y3 y4 y5
  refine (number_any k2 neg2 A2 n2 c2 b2 t2 K2 m2 d2 w1).mono ?_
  rintro e w2 ⟨rfl, hB2⟩
  rw [h2]
  have hB2 := HB1.out.trans (hB2.mono hs1)
  obtain ⟨x0, x1, x2, x3, x4, x5, _, _, _, _, _, _⟩ := (HB.out.2.1.below hB2 (by omega)).c6
  obtain ⟨y0, y1, y2, y3, y4, y5, _, _, _, _, _, _⟩ := (HB.out.2.2.below hB2 (by omega)).c6
  have hs2 := hB2.size
  have HB2 := Lib.hid hB2
  clear hB2
  clear h2
  have HC2 := Lib.hid (HC.out w2 (HB.out.1.trans (HB2.out.mono HB.out.1.size)))
  go_wp2_with fail
  refine HC2.out.mono ?_
  rintro e w3 ⟨rfl, hB3⟩
  have HB3 := Lib.hid (HB.out.1.trans ((HB2.out.trans (hB3.mono hs2)).mono HB.out.1.size))
  clear hB3
  clear x0 x1 x2 x3 x4 x5 y0 y1 y2 y3 y4 y5
  go_wp2
  go_ret
  exact ⟨rfl, HB3.out⟩
set_option maxRecDepth 10000 in
set_option maxHeartbeats 1000000 in
theorem equal_diff (k1 : Int) (neg1 : Bool) (A1 : Option Addr) (n1 c1 : Nat) (b1 : Int) (t1 : ByteArray) (K1 : Option Addr) (m1 d1 : Nat) (k2 : Int) (neg2 : Bool) (A2 : Option Addr) (n2 c2 : Nat) (b2 : Int) (t2 : ByteArray) (K2 : Option Addr) (m2 d2 : Nat) (w : World) (h1 : ((k1 == 2 || k1 == 3) && (k2 == 2 || k2 == 3)) = false) (hk : (k1 != k2) = true ∨ ((k1 != k2) = false ∧ ((m1 : Int) != (m2 : Int)) = true)) :
    Calls Tryz.prog 41 #[(.agg #[.int .i64 k1, .bool neg1, .slice A1 n1 c1, .int .u64 b1, .string t1, .slice K1 m1 d1]), (.agg #[.int .i64 k2, .bool neg2, .slice A2 n2 c2, .int .u64 b2, .string t2, .slice K2 m2 d2])] w (RetB w false) := by
  go_enter Tryz.func41, Tryz.ntmps41
  go_wp2_with fail
  refine gen2 (M := fun W => Calls _ _ _ W _) fun W hB b1 b2 hz => ?_
  have hz1 : w.heap.size + 1 < W.heap.size := by omega
  clear hz
  have HB := Lib.hid (And.intro hB (And.intro b1 b2))
  clear hB b1 b2
  refine (number_any k1 neg1 A1 n1 c1 b1 t1 K1 m1 d1 W).mono ?_
  rintro e w1 ⟨rfl, hB1⟩
  obtain ⟨x0, x1, x2, x3, x4, x5, _, _, _, _, _, _⟩ := (HB.out.2.1.below hB1 (by omega)).c6
  obtain ⟨y0, y1, y2, y3, y4, y5, _, _, _, _, _, _⟩ := (HB.out.2.2.below hB1 (by omega)).c6
  have hs1 := hB1.size
  have HB1 := Lib.hid hB1
  clear hB1
  cases hn : (k1 == 2 || k1 == 3) with
  | false =>
    rcases hk with hk | ⟨hk, hm⟩
    · clear h1
      go_wp2
      go_ret
      exact ⟨rfl, HB.out.1.trans (HB1.out.mono HB.out.1.size)⟩
    · clear h1
      go_wp2
      go_ret
      exact ⟨rfl, HB.out.1.trans (HB1.out.mono HB.out.1.size)⟩
  | true =>
    rw [hn, Bool.true_and] at h1
    go_wp2_with fail
    clear x0 x1 x2 x3 x4 x5 y0 y1 y2 y3 y4 y5
    refine (number_any k2 neg2 A2 n2 c2 b2 t2 K2 m2 d2 w1).mono ?_
    rintro e w2 ⟨rfl, hB2⟩
    rw [h1]
    have hB2 := HB1.out.trans (hB2.mono hs1)
    obtain ⟨x0, x1, x2, x3, x4, x5, _, _, _, _, _, _⟩ := (HB.out.2.1.below hB2 (by omega)).c6
    obtain ⟨y0, y1, y2, y3, y4, y5, _, _, _, _, _, _⟩ := (HB.out.2.2.below hB2 (by omega)).c6
    have hs2 := hB2.size
    have HB2 := Lib.hid hB2
    clear hB2

    rcases hk with hk | ⟨hk, hm⟩
    · clear h1 hn
      go_wp2
      go_ret
      exact ⟨rfl, HB.out.1.trans (HB2.out.mono HB.out.1.size)⟩
    · clear h1 hn
      go_wp2
      go_ret
      exact ⟨rfl, HB.out.1.trans (HB2.out.mono HB.out.1.size)⟩
set_option maxRecDepth 10000 in
set_option maxHeartbeats 1000000 in
theorem equal_none (neg1 : Bool) (A1 : Option Addr) (n1 c1 : Nat) (b1 : Int) (t1 : ByteArray) (K1 : Option Addr) (m1 d1 : Nat) (neg2 : Bool) (A2 : Option Addr) (n2 c2 : Nat) (b2 : Int) (t2 : ByteArray) (K2 : Option Addr) (m2 d2 : Nat) (hm : m1 = m2) (w : World) :
    Calls Tryz.prog 41 #[(.agg #[.int .i64 0, .bool neg1, .slice A1 n1 c1, .int .u64 b1, .string t1, .slice K1 m1 d1]), (.agg #[.int .i64 0, .bool neg2, .slice A2 n2 c2, .int .u64 b2, .string t2, .slice K2 m2 d2])] w (RetB w true) := by
  have hmm : ((m1 : Int) != (m2 : Int)) = false := by rw [hm]; simp
  clear hm
  go_enter Tryz.func41, Tryz.ntmps41
  go_wp2_with fail
  refine gen2 (M := fun W => Calls _ _ _ W _) fun W hB b1 b2 hz => ?_
  have hz1 : w.heap.size + 1 < W.heap.size := by omega
  clear hz
  have HB := Lib.hid (And.intro hB (And.intro b1 b2))
  clear hB b1 b2
  refine (number_any 0 neg1 A1 n1 c1 b1 t1 K1 m1 d1 W).mono ?_
  rintro e w1 ⟨rfl, hB1⟩
  obtain ⟨x0, x1, x2, x3, x4, x5, _, _, _, _, _, _⟩ := (HB.out.2.1.below hB1 (by omega)).c6
  obtain ⟨y0, y1, y2, y3, y4, y5, _, _, _, _, _, _⟩ := (HB.out.2.2.below hB1 (by omega)).c6
  have hs1 := hB1.size
  have HB1 := Lib.hid hB1
  clear hB1
  rw [show ((0 : Int) == 2 || (0 : Int) == 3) = false from rfl]
  go_wp2
  go_ret
  exact ⟨rfl, HB.out.1.trans (HB1.out.mono HB.out.1.size)⟩
set_option maxRecDepth 10000 in
set_option maxHeartbeats 1000000 in
theorem equal_bool (neg1 : Bool) (A1 : Option Addr) (n1 c1 : Nat) (b1 : Int) (t1 : ByteArray) (K1 : Option Addr) (m1 d1 : Nat) (neg2 : Bool) (A2 : Option Addr) (n2 c2 : Nat) (b2 : Int) (t2 : ByteArray) (K2 : Option Addr) (m2 d2 : Nat) (hm : m1 = m2) (w : World) :
    Calls Tryz.prog 41 #[(.agg #[.int .i64 1, .bool neg1, .slice A1 n1 c1, .int .u64 b1, .string t1, .slice K1 m1 d1]), (.agg #[.int .i64 1, .bool neg2, .slice A2 n2 c2, .int .u64 b2, .string t2, .slice K2 m2 d2])] w (RetB w (b1 == b2)) := by
  have hmm : ((m1 : Int) != (m2 : Int)) = false := by rw [hm]; simp
  clear hm
  go_enter Tryz.func41, Tryz.ntmps41
  go_wp2_with fail
  refine gen2 (M := fun W => Calls _ _ _ W _) fun W hB b1 b2 hz => ?_
  have hz1 : w.heap.size + 1 < W.heap.size := by omega
  clear hz
  have HB := Lib.hid (And.intro hB (And.intro b1 b2))
  clear hB b1 b2
  refine (number_any 1 neg1 A1 n1 c1 b1 t1 K1 m1 d1 W).mono ?_
  rintro e w1 ⟨rfl, hB1⟩
  obtain ⟨x0, x1, x2, x3, x4, x5, _, _, _, _, _, _⟩ := (HB.out.2.1.below hB1 (by omega)).c6
  obtain ⟨y0, y1, y2, y3, y4, y5, _, _, _, _, _, _⟩ := (HB.out.2.2.below hB1 (by omega)).c6
  have hs1 := hB1.size
  have HB1 := Lib.hid hB1
  clear hB1
  rw [show ((1 : Int) == 2 || (1 : Int) == 3) = false from rfl]
  go_wp2
  go_ret
  exact ⟨rfl, HB.out.1.trans (HB1.out.mono HB.out.1.size)⟩
set_option maxRecDepth 10000 in
set_option maxHeartbeats 2000000 in
theorem equal_row (k : Int) (m : Nat) (neg1 : Bool) (A1 : Option Addr) (n1 c1 : Nat) (b1 : Int) (t1 : ByteArray) (K1 : Option Addr) (d1 : Nat) (neg2 : Bool) (A2 : Option Addr) (n2 c2 : Nat) (b2 : Int) (t2 : ByteArray) (K2 : Option Addr) (d2 : Nat) (xs ys : List Value) (R : Nat → Bool) (T : Bool) (w : World) (hm : m ≤ 16)
    (hk0 : (k == 0) = false) (hk1 : (k == 1) = false) (hk2 : (k == 2) = false) (hk3 : (k == 3) = false) (hk8 : (k == 8) = false) (hk9 : (k == 9) = false)
    (hx : Reads w w.heap.size 6 K1 m xs) (hy : Reads w w.heap.size 6 K2 m ys) (hF : ∀ i, i < m → R i = false → T = false) (hT : (∀ i, i < m → R i = true) → T = decide (t1 = t2))
    (ih : ∀ (i : Nat) (u v : Value), i < m → RowV xs i u → RowV ys i v → ∀ W, Below w.heap.size w W → Calls Tryz.prog 41 #[u, v] W (RetB W (R i))) :
    Calls Tryz.prog 41 #[(.agg #[.int .i64 k, .bool neg1, .slice A1 n1 c1, .int .u64 b1, .string t1, .slice K1 m d1]), (.agg #[.int .i64 k, .bool neg2, .slice A2 n2 c2, .int .u64 b2, .string t2, .slice K2 m d2])] w (RetB w T) := by
  have HX := Lib.hid (And.intro hx (And.intro hy ih))
  have HT := Lib.hid (And.intro hF hT)
  have hkk : (k != k) = false := by simp
  have hmm : ((m : Int) != (m : Int)) = false := by simp
  clear hx hy ih hF hT
  go_enter Tryz.func41, Tryz.ntmps41
  go_wp2_with fail
  refine gen2 (M := fun W => Calls _ _ _ W _) fun W hB b1 b2 hz => ?_
  have hz1 : w.heap.size + 1 < W.heap.size := by omega
  clear hz
  have HB := Lib.hid (And.intro hB (And.intro b1 b2))
  clear hB b1 b2
  refine (number_any k neg1 A1 n1 c1 b1 t1 K1 m d1 W).mono ?_
  rintro e w1 ⟨rfl, hB1⟩
  obtain ⟨x0, x1, x2, x3, x4, x5, _, _, _, _, _, _⟩ := (HB.out.2.1.below hB1 (by omega)).c6
  obtain ⟨y0, y1, y2, y3, y4, y5, _, _, _, _, _, _⟩ := (HB.out.2.2.below hB1 (by omega)).c6
  have hs1 := hB1.size
  have HB1 := Lib.hid hB1
  clear hB1
  rw [show (k == 2 || k == 3) = false by rw [hk2, hk3]; rfl]
  go_wp2_with fail
  clear x0 x1 x2 x3 x4 x5 y0 y1 y2 y3 y4 y5
  go_loopw [7] (fun vi wr => ∃ i : Nat, vi = .int .i64 i ∧ i ≤ m ∧ (∀ j, j < i → R j = true) ∧ Below W.heap.size W wr) (fun vi _ => m - (intOf vi).toNat)
  case atStart => exact ⟨0, rfl, by omega, fun j hj => by omega, HB1.out⟩
  case round =>
    obtain ⟨i, rfl, hi, hall, hB⟩ := hrel
    obtain ⟨x0, x1, x2, x3, x4, x5, _, _, _, _, _, _⟩ := (HB.out.2.1.below hB (by omega)).c6
    obtain ⟨y0, y1, y2, y3, y4, y5, _, _, _, _, _, _⟩ := (HB.out.2.2.below hB (by omega)).c6
    rcases Nat.lt_or_ge i m with hlt | hge
    · have bi : (i : Int) < (m : Int) := by omega
      have wi : IntKind.i64.wrap ((i : Int) + 1) = (i : Int) + 1 := by rw [IntKind.wrap_i64]; omega
      obtain ⟨ad, p0, p1, p2, p3, p4, p5, rfl, had, hrow, hsix⟩ := HX.out.1.six2 hlt
      obtain ⟨bd, q0, q1, q2, q3, q4, q5, rfl, hbd, hrow2, hsix2⟩ := HX.out.2.1.six2 hlt
      have hBW := HB.out.1.trans (hB.mono HB.out.1.size)
      have HC := Lib.hid (HX.out.2.2 i _ _ hlt hrow hrow2 wr.drew hBW.drew)
      have HS := Lib.hid (And.intro hsix (And.intro had (And.intro hsix2 hbd)))
      obtain ⟨g0, g1, g2, g3, g4, g5⟩ := hsix.below hBW had
      obtain ⟨j0, j1, j2, j3, j4, j5⟩ := hsix2.below hBW hbd
      have HH := Lib.hid (And.intro hall hB)
      clear hsix hsix2 hBW hall hB hrow hrow2
      go_wp2_with fail
      go_region_held3 (fun w' => (w'.cell? ⟨w.heap.size, 5, none⟩ = some (.slice (some ad) m d1) ∧ w'.cell? ⟨w.heap.size + 1, 5, none⟩ = some (.slice (some bd) m d2)) ∧ (w'.cell? (ad.add (i * 6)) = some p0 ∧ w'.cell? ⟨(ad.add (i * 6)).block, (ad.add (i * 6)).off + 1, none⟩ = some p1 ∧ w'.cell? ⟨(ad.add (i * 6)).block, (ad.add (i * 6)).off + 2, none⟩ = some p2 ∧ w'.cell? ⟨(ad.add (i * 6)).block, (ad.add (i * 6)).off + 3, none⟩ = some p3 ∧ w'.cell? ⟨(ad.add (i * 6)).block, (ad.add (i * 6)).off + 4, none⟩ = some p4 ∧ w'.cell? ⟨(ad.add (i * 6)).block, (ad.add (i * 6)).off + 5, none⟩ = some p5) ∧ (w'.cell? (bd.add (i * 6)) = some q0 ∧ w'.cell? ⟨(bd.add (i * 6)).block, (bd.add (i * 6)).off + 1, none⟩ = some q1 ∧ w'.cell? ⟨(bd.add (i * 6)).block, (bd.add (i * 6)).off + 2, none⟩ = some q2 ∧ w'.cell? ⟨(bd.add (i * 6)).block, (bd.add (i * 6)).off + 3, none⟩ = some q3 ∧ w'.cell? ⟨(bd.add (i * 6)).block, (bd.add (i * 6)).off + 4, none⟩ = some q4 ∧ w'.cell? ⟨(bd.add (i * 6)).block, (bd.add (i * 6)).off + 5, none⟩ = some q5))
        (exact ⟨⟨x5, y5⟩, ⟨g0, g1, g2, g3, g4, g5⟩, j0, j1, j2, j3, j4, j5⟩)
        ((go_at_call 41; refine HC.out.mono ?_
          rintro e w5 ⟨rfl, hB5⟩
          have hB5 : Below W.heap.size W w5 := HH.out.2.trans (Below.mono ⟨hB5.os, hB5.tape, hB5.output, hB5.size, hB5.block⟩ HH.out.2.size)
          obtain ⟨x0, x1, x2, x3, x4, x5, _, _, _, _, _, _⟩ := (HB.out.2.1.below hB5 (by omega)).c6
          obtain ⟨y0, y1, y2, y3, y4, y5, _, _, _, _, _, _⟩ := (HB.out.2.2.below hB5 (by omega)).c6
          obtain ⟨g0, g1, g2, g3, g4, g5⟩ := HS.out.1.below (HB.out.1.trans (hB5.mono HB.out.1.size)) HS.out.2.1
          obtain ⟨j0, j1, j2, j3, j4, j5⟩ := HS.out.2.2.1.below (HB.out.1.trans (hB5.mono HB.out.1.size)) HS.out.2.2.2
          have HB5 := Lib.hid hB5
          clear hB5))
      rcases hRe : R i with _ | _
      · have HRe := Lib.hid (HT.out.1 i hlt hRe)
        clear hRe
        go_wp2
        go_ret
        exact ⟨by rw [HRe.out]; rfl, HB.out.1.trans (HB5.out.mono HB.out.1.size)⟩
      · have HRe := Lib.hid hRe
        clear hRe
        go_wp2
        go_roundw
        case rel =>
          refine ⟨i + 1, by go_num, by omega, fun j hj => ?_, HB5.out⟩
          rcases Nat.lt_or_ge j i with h | h
          · exact HH.out.1 j h
          · have hji : j = i := by omega
            rw [hji]; exact HRe.out
        case measure => simp [intOf]; omega
    · have bi : ¬ (i : Int) < (m : Int) := by omega
      have HH := Lib.hid hB
      have HTT := Lib.hid (HT.out.2 fun j hj => hall j (by omega))
      have hbe := bytes_beq' t1 t2
      clear hall hB
      go_wp2
      go_ret
      refine ⟨?_, HB.out.1.trans (HH.out.mono HB.out.1.size)⟩
      rw [HTT.out, ← bytes_beq']
      first | rfl | (simp only [hbe]; rfl)
end Go.Proofs.YtkmeckimmfbkiaaGreatDoor
namespace Go.Proofs.YtkmeckimmfbkiaaGreatDoor
open Go Go.RowKit
def kindN : S → Int
  | .none => 0
  | .bool _ => 1
  | .int _ => 2
  | .float _ => 3
  | .str _ => 4
  | .bytes _ => 5
  | .list _ => 6
  | .tuple _ => 7
  | .dict _ => 8
  | .set _ => 9
def isNum : S → Bool
  | .int _ => true
  | .float _ => true
  | _ => false
theorem isNum_kind (s : S) : (kindN s == 2 || kindN s == 3) = isNum s := by cases s <;> rfl
theorem VAt.shape {w : World} {B : Nat} : ∀ {s : S} {u : Value}, VAt w B s u → ∃ neg A n c b t K m d, u = .agg #[.int .i64 (kindN s), .bool neg, .slice A n c, .int .u64 b, .string t, .slice K m d]
  | .none, u, h => by simp only [VAt] at h; subst h; exact ⟨_, _, _, _, _, _, _, _, _, rfl⟩
  | .bool _, u, h => by simp only [VAt] at h; subst h; exact ⟨_, _, _, _, _, _, _, _, _, rfl⟩
  | .int _, u, h => by simp only [VAt] at h; obtain ⟨A, c, l, rfl, _⟩ := h; exact ⟨_, _, _, _, _, _, _, _, _, rfl⟩
  | .float _, u, h => by simp only [VAt] at h; obtain ⟨rfl, _⟩ := h; exact ⟨_, _, _, _, _, _, _, _, _, rfl⟩
  | .str _, u, h => by simp only [VAt] at h; obtain ⟨rfl, _⟩ := h; exact ⟨_, _, _, _, _, _, _, _, _, rfl⟩
  | .bytes _, u, h => by simp only [VAt] at h; obtain ⟨rfl, _⟩ := h; exact ⟨_, _, _, _, _, _, _, _, _, rfl⟩
  | .list _, u, h => by simp only [VAt] at h; obtain ⟨A, c, xs, rfl, _⟩ := h; exact ⟨_, _, _, _, _, _, _, _, _, rfl⟩
  | .tuple _, u, h => by simp only [VAt] at h; obtain ⟨A, c, xs, rfl, _⟩ := h; exact ⟨_, _, _, _, _, _, _, _, _, rfl⟩
  | .dict _, u, h => by simp only [VAt] at h; obtain ⟨A, c, xs, rfl, _⟩ := h; exact ⟨_, _, _, _, _, _, _, _, _, rfl⟩
  | .set _, u, h => by simp only [VAt] at h; obtain ⟨A, c, xs, rfl, _⟩ := h; exact ⟨_, _, _, _, _, _, _, _, _, rfl⟩
theorem eqS_kinds (s t : S) (hk : kindN s ≠ kindN t) (hn : (isNum s && isNum t) = false) : eqS s t = false := by
  cases s <;> cases t <;> first | rfl | (exact absurd rfl hk) | (simp [isNum] at hn; done) | simp [eqS]
theorem KidsV.row {w : World} {B : Nat} {l : List S} {xs : List Value} {k : Nat} {s : S} {u : Value} (h : KidsV w B l xs) (hs : l[k]? = some s) (hr : RowV xs k u) : VAt w B s u := by
  obtain ⟨c0, c1, c2, c3, c4, c5, e0, e1, e2, e3, e4, e5, hv⟩ := h.get l xs k s hs
  obtain ⟨d0, d1, d2, d3, d4, d5, rfl, f0, f1, f2, f3, f4, f5⟩ := hr
  rw [e0] at f0; rw [e1] at f1; rw [e2] at f2; rw [e3] at f3; rw [e4] at f4; rw [e5] at f5
  cases f0; cases f1; cases f2; cases f3; cases f4; cases f5
  exact hv
theorem ord_beq (x y : Int) : (Fl.ordI (compare x y) == 0) = (x == y) := by
  rw [Bool.eq_iff_iff]
  simp only [beq_iff_eq]
  rw [Fl.ordI_zero]
  rcases Int.lt_trichotomy x y with h | h | h
  · rw [Fl.cmp_lt h]; constructor
    · intro h; cases h
    · intro h; omega
  · rw [Fl.cmp_eq h]; simp [h]
  · rw [Fl.cmp_gt h]; constructor
    · intro h; cases h
    · intro h; omega
theorem cmpW_beq (B C : W) : (Fl.cmpW B C == 0) = decide (B = C) := by
  rw [Bool.eq_iff_iff]
  simp only [beq_iff_eq, decide_eq_true_eq]
  exact Fl.cmpW_zero B C
theorem cmpW_nbeq (B C : W) : (-(Fl.cmpW B C) == 0) = decide (C = B) := by
  rw [Bool.eq_iff_iff]
  simp only [beq_iff_eq, decide_eq_true_eq]
  rw [← Fl.cmpW_zero C B, Fl.cmpW_swap C B]
  omega
theorem spEqual_step (d : Nat)
    (ih : ∀ (s t : S) (u v : Value) (w : World), lev s ≤ d → keyS s = true → keyS t = true → VAt w w.heap.size s u → VAt w w.heap.size t v → Calls Tryz.prog 41 #[u, v] w (RetB w (eqS s t)))
    (s t : S) (u v : Value) (w : World) (hl : lev s ≤ d + 1) (ks : keyS s = true) (kt : keyS t = true) (hu : VAt w w.heap.size s u) (hv : VAt w w.heap.size t v) :
    Calls Tryz.prog 41 #[u, v] w (RetB w (eqS s t)) := by
  obtain ⟨neg1, A1, n1, c1, b1, t1, K1, m1, d1, eu⟩ := hu.shape
  obtain ⟨neg2, A2, n2, c2, b2, t2, K2, m2, d2, ev⟩ := hv.shape
  by_cases hn : (isNum s && isNum t) = true
  · rw [Bool.and_eq_true] at hn
    have key : ∀ c : Int, (∀ V, Below w.heap.size w V → Calls Tryz.prog 58 #[u, v] V fun e w' => e = .returned (.int .i64 c) ∧ Below V.heap.size V w') → Calls Tryz.prog 41 #[u, v] w (RetB w (c == 0)) := fun c hc => by
      subst eu ev
      exact equal_num _ neg1 A1 n1 c1 b1 t1 K1 m1 d1 _ neg2 A2 n2 c2 b2 t2 K2 m2 d2 c w (by rw [isNum_kind]; exact hn.1) (by rw [isNum_kind]; exact hn.2) hc
    cases s with
    | int x =>
      cases t with
      | int y =>
        rw [show eqS (.int x) (.int y) = (Fl.ordI (compare x y) == 0) by rw [ord_beq]; simp [eqS]]
        exact key _ fun V hV => cmpN_ii x y u v V ((hu.below hV).more hV.size) ((hv.below hV).more hV.size)
      | float g =>
        rw [show eqS (.int x) (.float g) = (Fl.cmpW (.num (x * unitF)) (wf g) == 0) by rw [cmpW_beq]; simp [eqS]]
        exact key _ fun V hV => cmpN_if x g u v V ((hu.below hV).more hV.size) ((hv.below hV).more hV.size)
      | _ => simp [isNum] at hn
    | float f =>
      cases t with
      | int y =>
        rw [show eqS (.float f) (.int y) = (-(Fl.cmpW (.num (y * unitF)) (wf f)) == 0) by rw [cmpW_nbeq]; simp [eqS]]
        exact key _ fun V hV => cmpN_fi f y u v V ((hu.below hV).more hV.size) ((hv.below hV).more hV.size)
      | float g =>
        rw [show eqS (.float f) (.float g) = (Fl.cmpW (wf f) (wf g) == 0) by rw [cmpW_beq]; simp [eqS]]
        exact key _ fun V hV => cmpN_ff f g u v V ((hu.below hV).more hV.size) ((hv.below hV).more hV.size)
      | _ => simp [isNum] at hn
    | _ => simp [isNum] at hn
  · replace hn : (isNum s && isNum t) = false := by simpa using hn
    have hn2 : ((kindN s == 2 || kindN s == 3) && (kindN t == 2 || kindN t == 3)) = false := by rw [isNum_kind, isNum_kind]; exact hn
    by_cases hk : kindN s = kindN t
    · cases s with
      | none =>
        cases t <;> first | (simp [kindN] at hk; done) | skip
        simp only [VAt] at hu hv
        subst hu hv
        rw [show eqS .none .none = true by simp [eqS]]
        exact equal_none _ _ _ _ _ _ _ _ _ _ _ _ _ _ _ _ _ _ rfl w
      | bool a =>
        cases t <;> first | (simp [kindN] at hk; done) | skip
        rename_i b
        simp only [VAt] at hu hv
        subst hu hv
        rw [show eqS (.bool a) (.bool b) = ((if a = true then (1 : Int) else 0) == (if b = true then 1 else 0)) by cases a <;> cases b <;> simp [eqS]]
        exact equal_bool _ _ _ _ _ _ _ _ _ _ _ _ _ _ _ _ _ _ rfl w
      | str a =>
        cases t <;> first | (simp [kindN] at hk; done) | skip
        rename_i b
        simp only [VAt] at hu hv
        obtain ⟨rfl, _⟩ := hu
        obtain ⟨rfl, _⟩ := hv
        rw [show eqS (.str a) (.str b) = decide (a = b) by simp [eqS]]
        exact equal_row 4 0 _ _ _ _ _ _ _ _ _ _ _ _ _ _ _ _ [] [] (fun _ => true) _ w (by omega) rfl rfl rfl rfl rfl rfl Reads.none_ Reads.none_ (fun i hi => by omega) (fun _ => rfl) (fun i _ _ hi => by omega)
      | bytes a =>
        cases t <;> first | (simp [kindN] at hk; done) | skip
        rename_i b
        simp only [VAt] at hu hv
        obtain ⟨rfl, _⟩ := hu
        obtain ⟨rfl, _⟩ := hv
        rw [show eqS (.bytes a) (.bytes b) = decide (a = b) by simp [eqS]]
        exact equal_row 5 0 _ _ _ _ _ _ _ _ _ _ _ _ _ _ _ _ [] [] (fun _ => true) _ w (by omega) rfl rfl rfl rfl rfl rfl Reads.none_ Reads.none_ (fun i hi => by omega) (fun _ => rfl) (fun i _ _ hi => by omega)
      | tuple l =>
        cases t <;> first | (simp [kindN] at hk; done) | skip
        rename_i r
        simp only [keyS] at ks kt
        simp only [lev] at hl
        by_cases hlen : l.length = r.length
        · simp only [VAt] at hu hv
          obtain ⟨A, c, xs, rfl, q1, q2, q3, q4⟩ := hu
          obtain ⟨A', c', ys, rfl, z1, z2, z3, z4⟩ := hv
          rw [show eqS (.tuple l) (.tuple r) = eqL l r by simp [eqS]]
          rw [← hlen] at z3 ⊢
          refine equal_row 7 l.length _ _ _ _ _ _ _ _ _ _ _ _ _ _ _ _ xs ys (fun i => match l[i]?, r[i]? with | some a, some b => eqS a b | _, _ => true) _ w q1 rfl rfl rfl rfl rfl rfl q3 z3 ?_ ?_ ?_
          · intro i hi hR
            have ha := List.getElem?_eq_getElem hi
            have hb := List.getElem?_eq_getElem (show i < r.length by omega)
            simp only [ha, hb] at hR
            exact eqL_take l r i hi hlen _ _ ha hb hR
          · intro hall
            rw [eqL_all l r hlen fun i a b ha hb => ?_]
            · simp
            · have h := hall i (by have := List.getElem?_eq_some_iff.1 ha; obtain ⟨h, _⟩ := this; exact h)
              simp only [ha, hb] at h
              exact h
          · intro i u v hi hru hrv W hW
            have ha := List.getElem?_eq_getElem hi
            have hb := List.getElem?_eq_getElem (show i < r.length by omega)
            simp only [ha, hb]
            exact ih _ _ u v W (by have := lev_get l i _ ha; omega) (keyL_get l i _ ha ks) (keyL_get r i _ hb kt) (((q4.row ha hru).below hW).more hW.size) (((z4.row hb hrv).below hW).more hW.size)
        · rw [show eqS (.tuple l) (.tuple r) = false by simp only [eqS]; exact eqL_of_ne l r hlen]
          simp only [VAt] at hu hv
          obtain ⟨A, c, xs, rfl, _⟩ := hu
          obtain ⟨A', c', ys, rfl, _⟩ := hv
          exact equal_diff _ _ _ _ _ _ _ _ _ _ _ _ _ _ _ _ _ _ _ _ w rfl (.inr ⟨rfl, by rw [bne_iff_ne]; omega⟩)
      | int x =>
        cases t <;> first | (simp [kindN] at hk; done) | (simp [isNum] at hn; done)
      | float x =>
        cases t <;> first | (simp [kindN] at hk; done) | (simp [isNum] at hn; done)
      | list l => simp [keyS] at ks
      | dict l => simp [keyS] at ks
      | set l => simp [keyS] at ks
    · rw [eqS_kinds s t hk hn]
      subst eu ev
      exact equal_diff _ _ _ _ _ _ _ _ _ _ _ _ _ _ _ _ _ _ _ _ w hn2 (.inl (by rw [bne_iff_ne]; exact hk))
/-- The reference's Equal on values that can be keys. -/
theorem spEqual_any : ∀ (d : Nat) (s t : S) (u v : Value) (w : World), lev s ≤ d → keyS s = true → keyS t = true → VAt w w.heap.size s u → VAt w w.heap.size t v → Calls Tryz.prog 41 #[u, v] w (RetB w (eqS s t))
  | 0, s, _, _, _, _, hl, _, _, _, _ => by have := lev_pos s; omega
  | d + 1, s, t, u, v, w, hl, ks, kt, hu, hv => spEqual_step d (spEqual_any d) s t u v w hl ks kt hu hv
end Go.Proofs.YtkmeckimmfbkiaaGreatDoor
namespace Go.Proofs.YtkmeckimmfbkiaaGreatDoor
open Go Go.RowKit
/-- A row in blocks of which P holds. -/
def RN (w : World) (P : Nat → Prop) (size : Nat) (A : Option Addr) (n : Nat) (xs : List Value) : Prop :=
  xs.length = n * size ∧ (0 < n → ∃ ad, A = some ad ∧ P ad.block ∧ ∀ j u, xs[j]? = some u → w.cell? (ad.add j) = some u)
theorem RN.keep {w w' : World} {P P' : Nat → Prop} {size n : Nat} {A : Option Addr} {xs : List Value} (h : RN w P size A n xs) (hk : ∀ p : Addr, P p.block → w'.cell? p = w.cell? p) (hB : ∀ b, P b → P' b) : RN w' P' size A n xs :=
  ⟨h.1, fun hn => by
    obtain ⟨ad, e, hb, hc⟩ := h.2 hn
    exact ⟨ad, e, hB _ hb, fun j u hu => (hk _ (by rw [block_of_add]; exact hb)).trans (hc j u hu)⟩⟩
theorem RN.toReads {w : World} {P : Nat → Prop} {B size n : Nat} {A : Option Addr} {xs : List Value} (h : RN w P size A n xs) (hB : ∀ b, P b → b < B) : Reads w B size A n xs :=
  ⟨h.1, fun hn => by
    obtain ⟨ad, e, hb, hc⟩ := h.2 hn
    exact ⟨ad, e, hB _ hb, hc⟩⟩
theorem RN.of_own {w : World} {base e size n c : Nat} {A : Option Addr} {xs : List Value} (h : w.ownsRow base e size (.slice A n c) n xs) : RN w (fun b => some b = (Value.slice A n c).ownBlock ∧ base ≤ b ∧ b < w.heap.size) size A n xs := by
  refine ⟨h.1, fun hn => ?_⟩
  obtain ⟨g, cap, hv, hb, hlt⟩ := h.form hn
  have hA : A = some ⟨g, 0, none⟩ := by injection hv
  subst hA
  exact ⟨_, rfl, ⟨rfl, hb, hlt⟩, h.cells (g := g) rfl⟩
mutual
/-- A value of the thin package that stands for s; its parts lie in blocks of which P holds. -/
def VN (w : World) (P : Nat → Prop) : S → Value → Prop
  | .none, v => v = valV 0 false nilS 0 noT nilS
  | .bool b, v => v = valV 1 false nilS (if b then 1 else 0) noT nilS
  | .int x, v => ∃ A c l, v = valV 2 (decide (x < 0)) (.slice A (List.length l) c) 0 noT nilS ∧ beNat l = x.natAbs ∧ (∀ h : 0 < l.length, l[0] ≠ 0) ∧ l.length ≤ 40 ∧ l.length ≤ c ∧ RN w P 1 A l.length (bv l)
  | .float f, v => v = valV 3 false nilS f noT nilS ∧ f < 18446744073709551616
  | .str s, v => v = valV 4 false nilS 0 s nilS ∧ s.size ≤ 60
  | .bytes s, v => v = valV 5 false nilS 0 s nilS ∧ s.size ≤ 60
  | .list l, v => ∃ A c xs, v = valV 6 false nilS 0 noT (.slice A l.length c) ∧ l.length ≤ 16 ∧ l.length ≤ c ∧ RN w P 6 A l.length xs ∧ KN w P l xs
  | .tuple l, v => ∃ A c xs, v = valV 7 false nilS 0 noT (.slice A l.length c) ∧ l.length ≤ 16 ∧ l.length ≤ c ∧ RN w P 6 A l.length xs ∧ KN w P l xs
  | .dict l, v => ∃ A c xs, v = valV 8 false nilS 0 noT (.slice A l.length c) ∧ l.length ≤ 16 ∧ l.length ≤ c ∧ RN w P 6 A l.length xs ∧ KN w P l xs
  | .set l, v => ∃ A c xs, v = valV 9 false nilS 0 noT (.slice A l.length c) ∧ l.length ≤ 16 ∧ l.length ≤ c ∧ RN w P 6 A l.length xs ∧ KN w P l xs
/-- Rows of six cells, one row a value. -/
def KN (w : World) (P : Nat → Prop) : List S → List Value → Prop
  | [], xs => xs = []
  | s :: l, xs => ∃ c0 c1 c2 c3 c4 c5 ys, xs = c0 :: c1 :: c2 :: c3 :: c4 :: c5 :: ys ∧ VN w P s (.agg #[c0, c1, c2, c3, c4, c5]) ∧ KN w P l ys
end
mutual
theorem VN.keep {w w' : World} {P P' : Nat → Prop} (hk : ∀ p : Addr, P p.block → w'.cell? p = w.cell? p) (hB : ∀ b, P b → P' b) : ∀ (s : S) (v : Value), VN w P s v → VN w' P' s v
  | .none, v, h => h
  | .bool _, v, h => h
  | .int _, v, h => by
    simp only [VN] at h ⊢
    obtain ⟨A, c, l, h1, h2, h3, h4, h5, h6⟩ := h
    exact ⟨A, c, l, h1, h2, h3, h4, h5, h6.keep hk hB⟩
  | .float _, v, h => h
  | .str _, v, h => h
  | .bytes _, v, h => h
  | .list l, v, h => by
    simp only [VN] at h ⊢
    obtain ⟨A, c, xs, h1, h2, h3, h4, h5⟩ := h
    exact ⟨A, c, xs, h1, h2, h3, h4.keep hk hB, KN.keep hk hB l xs h5⟩
  | .tuple l, v, h => by
    simp only [VN] at h ⊢
    obtain ⟨A, c, xs, h1, h2, h3, h4, h5⟩ := h
    exact ⟨A, c, xs, h1, h2, h3, h4.keep hk hB, KN.keep hk hB l xs h5⟩
  | .dict l, v, h => by
    simp only [VN] at h ⊢
    obtain ⟨A, c, xs, h1, h2, h3, h4, h5⟩ := h
    exact ⟨A, c, xs, h1, h2, h3, h4.keep hk hB, KN.keep hk hB l xs h5⟩
  | .set l, v, h => by
    simp only [VN] at h ⊢
    obtain ⟨A, c, xs, h1, h2, h3, h4, h5⟩ := h
    exact ⟨A, c, xs, h1, h2, h3, h4.keep hk hB, KN.keep hk hB l xs h5⟩
theorem KN.keep {w w' : World} {P P' : Nat → Prop} (hk : ∀ p : Addr, P p.block → w'.cell? p = w.cell? p) (hB : ∀ b, P b → P' b) : ∀ (l : List S) (xs : List Value), KN w P l xs → KN w' P' l xs
  | [], xs, h => h
  | s :: l, xs, h => by
    simp only [KN] at h ⊢
    obtain ⟨c0, c1, c2, c3, c4, c5, ys, h1, h2, h3⟩ := h
    exact ⟨c0, c1, c2, c3, c4, c5, ys, h1, VN.keep hk hB s _ h2, KN.keep hk hB l ys h3⟩
end
mutual
theorem VN.toV {w : World} {P : Nat → Prop} {B : Nat} (hB : ∀ b, P b → b < B) : ∀ (s : S) (v : Value), VN w P s v → VAt w B s v
  | .none, v, h => h
  | .bool _, v, h => h
  | .int _, v, h => by
    simp only [VN, VAt] at h ⊢
    obtain ⟨A, c, l, h1, h2, h3, h4, h5, h6⟩ := h
    exact ⟨A, c, l, h1, h2, h3, h4, h5, h6.toReads hB⟩
  | .float _, v, h => h
  | .str _, v, h => h
  | .bytes _, v, h => h
  | .list l, v, h => by
    simp only [VN, VAt] at h ⊢
    obtain ⟨A, c, xs, h1, h2, h3, h4, h5⟩ := h
    exact ⟨A, c, xs, h1, h2, h3, h4.toReads hB, KN.toV hB l xs h5⟩
  | .tuple l, v, h => by
    simp only [VN, VAt] at h ⊢
    obtain ⟨A, c, xs, h1, h2, h3, h4, h5⟩ := h
    exact ⟨A, c, xs, h1, h2, h3, h4.toReads hB, KN.toV hB l xs h5⟩
  | .dict l, v, h => by
    simp only [VN, VAt] at h ⊢
    obtain ⟨A, c, xs, h1, h2, h3, h4, h5⟩ := h
    exact ⟨A, c, xs, h1, h2, h3, h4.toReads hB, KN.toV hB l xs h5⟩
  | .set l, v, h => by
    simp only [VN, VAt] at h ⊢
    obtain ⟨A, c, xs, h1, h2, h3, h4, h5⟩ := h
    exact ⟨A, c, xs, h1, h2, h3, h4.toReads hB, KN.toV hB l xs h5⟩
theorem KN.toV {w : World} {P : Nat → Prop} {B : Nat} (hB : ∀ b, P b → b < B) : ∀ (l : List S) (xs : List Value), KN w P l xs → KidsV w B l xs
  | [], xs, h => h
  | s :: l, xs, h => by
    simp only [KN, KidsV] at h ⊢
    obtain ⟨c0, c1, c2, c3, c4, c5, ys, h1, h2, h3⟩ := h
    exact ⟨c0, c1, c2, c3, c4, c5, ys, h1, VN.toV hB s _ h2, KN.toV hB l ys h3⟩
end
theorem KN.snoc {w : World} {P : Nat → Prop} {s : S} {c0 c1 c2 c3 c4 c5 : Value} (hv : VN w P s (.agg #[c0, c1, c2, c3, c4, c5])) : ∀ (l : List S) (xs : List Value), KN w P l xs → KN w P (l ++ [s]) (xs ++ [c0, c1, c2, c3, c4, c5])
  | [], xs, h => by
    simp only [KN] at h
    subst h
    simp only [List.nil_append, KN]
    exact ⟨c0, c1, c2, c3, c4, c5, [], rfl, hv, rfl⟩
  | a :: l, xs, h => by
    simp only [KN] at h
    obtain ⟨d0, d1, d2, d3, d4, d5, ys, rfl, h2, h3⟩ := h
    simp only [List.cons_append, KN]
    exact ⟨d0, d1, d2, d3, d4, d5, ys ++ [c0, c1, c2, c3, c4, c5], rfl, h2, KN.snoc hv l ys h3⟩
theorem KN.get {w : World} {P : Nat → Prop} : ∀ (l : List S) (xs : List Value) (k : Nat) (s : S), KN w P l xs → l[k]? = some s →
    ∃ c0 c1 c2 c3 c4 c5, xs[6 * k]? = some c0 ∧ xs[6 * k + 1]? = some c1 ∧ xs[6 * k + 2]? = some c2 ∧ xs[6 * k + 3]? = some c3 ∧ xs[6 * k + 4]? = some c4 ∧ xs[6 * k + 5]? = some c5 ∧ VN w P s (.agg #[c0, c1, c2, c3, c4, c5])
  | a :: l, xs, 0, s, h, hs => by
    simp only [KN] at h
    obtain ⟨d0, d1, d2, d3, d4, d5, ys, rfl, h2, h3⟩ := h
    simp at hs
    subst hs
    exact ⟨d0, d1, d2, d3, d4, d5, rfl, rfl, rfl, rfl, rfl, rfl, h2⟩
  | a :: l, xs, k + 1, s, h, hs => by
    simp only [KN] at h
    obtain ⟨d0, d1, d2, d3, d4, d5, ys, rfl, h2, h3⟩ := h
    obtain ⟨c0, c1, c2, c3, c4, c5, e0, e1, e2, e3, e4, e5, hv⟩ := KN.get l ys k s h3 (by simpa using hs)
    refine ⟨c0, c1, c2, c3, c4, c5, ?_, ?_, ?_, ?_, ?_, ?_, hv⟩ <;>
      simpa [show 6 * (k + 1) = 6 * k + 6 by omega] using (by assumption)
  | [], xs, k, s, h, hs => by simp at hs
theorem KN.row {w : World} {P : Nat → Prop} {l : List S} {xs : List Value} {k : Nat} {s : S} {u : Value} (h : KN w P l xs) (hs : l[k]? = some s) (hr : RowV xs k u) : VN w P s u := by
  obtain ⟨c0, c1, c2, c3, c4, c5, e0, e1, e2, e3, e4, e5, hv⟩ := h.get l xs k s hs
  obtain ⟨d0, d1, d2, d3, d4, d5, rfl, f0, f1, f2, f3, f4, f5⟩ := hr
  rw [e0] at f0; rw [e1] at f1; rw [e2] at f2; rw [e3] at f3; rw [e4] at f4; rw [e5] at f5
  cases f0; cases f1; cases f2; cases f3; cases f4; cases f5
  exact hv
theorem VN.six {w : World} {P : Nat → Prop} {s : S} {v : Value} (h : VN w P s v) : ∃ neg A n c b t K m d, v = .agg #[.int .i64 (kindN s), .bool neg, .slice A n c, .int .u64 b, .string t, .slice K m d] := by
  cases s <;> simp only [VN] at h
  case none => subst h; exact ⟨_, _, _, _, _, _, _, _, _, rfl⟩
  case bool => subst h; exact ⟨_, _, _, _, _, _, _, _, _, rfl⟩
  case int => obtain ⟨A, c, l, rfl, _⟩ := h; exact ⟨_, _, _, _, _, _, _, _, _, rfl⟩
  case float => obtain ⟨rfl, _⟩ := h; exact ⟨_, _, _, _, _, _, _, _, _, rfl⟩
  case str => obtain ⟨rfl, _⟩ := h; exact ⟨_, _, _, _, _, _, _, _, _, rfl⟩
  case bytes => obtain ⟨rfl, _⟩ := h; exact ⟨_, _, _, _, _, _, _, _, _, rfl⟩
  case list => obtain ⟨A, c, xs, rfl, _⟩ := h; exact ⟨_, _, _, _, _, _, _, _, _, rfl⟩
  case tuple => obtain ⟨A, c, xs, rfl, _⟩ := h; exact ⟨_, _, _, _, _, _, _, _, _, rfl⟩
  case dict => obtain ⟨A, c, xs, rfl, _⟩ := h; exact ⟨_, _, _, _, _, _, _, _, _, rfl⟩
  case set => obtain ⟨A, c, xs, rfl, _⟩ := h; exact ⟨_, _, _, _, _, _, _, _, _, rfl⟩
/-- Rows of six cells, one more. -/
theorem KN.push {w w5 w8 : World} {Q Q5 Q8 : Nat → Prop} {l : List S} {xs : List Value} {s : S} {c0 c1 c2 c3 c4 c5 : Value} (hK : KN w Q l xs) (hv : VN w5 Q5 s (.agg #[c0, c1, c2, c3, c4, c5]))
    (h1 : ∀ b, Q b → Q8 b) (h2 : ∀ b, Q5 b → Q8 b) (e1 : ∀ p : Addr, Q p.block → w8.cell? p = w.cell? p) (e2 : ∀ p : Addr, Q5 p.block → w8.cell? p = w5.cell? p) : KN w8 Q8 (l ++ [s]) (xs ++ [c0, c1, c2, c3, c4, c5]) :=
  KN.snoc (VN.keep e2 h2 s _ hv) l xs (KN.keep e1 h1 l xs hK)
end Go.Proofs.YtkmeckimmfbkiaaGreatDoor
namespace Go.Proofs.YtkmeckimmfbkiaaGreatDoor
open Go Go.RowKit
theorem infoVal : (Tryz.prog.info? 26).map (fun i => (i.zero, i.size, i.bytes)) = some (some (.agg #[.int .i64 0, .bool false, .slice none 0 0, .int .u64 0, .string ⟨#[]⟩, .slice none 0 0]), 6, 88) := by kernel_rfl
theorem KN.append {w : World} {P : Nat → Prop} : ∀ (l r : List S) (xs ys : List Value), KN w P l xs → KN w P r ys → KN w P (l ++ r) (xs ++ ys)
  | [], r, xs, ys, h, hr => by
    simp only [KN] at h
    subst h
    exact hr
  | a :: l, r, xs, ys, h, hr => by
    simp only [KN] at h
    obtain ⟨d0, d1, d2, d3, d4, d5, zs, rfl, h2, h3⟩ := h
    simp only [List.cons_append, KN]
    exact ⟨d0, d1, d2, d3, d4, d5, zs ++ ys, rfl, h2, KN.append l r zs ys h3 hr⟩
theorem KN.one {w : World} {P : Nat → Prop} {s : S} {c0 c1 c2 c3 c4 c5 : Value} (h : VN w P s (.agg #[c0, c1, c2, c3, c4, c5])) : KN w P [s] [c0, c1, c2, c3, c4, c5] := by
  simp only [KN]
  exact ⟨c0, c1, c2, c3, c4, c5, [], rfl, h, rfl⟩
theorem KN.len {w : World} {P : Nat → Prop} : ∀ {l : List S} {xs : List Value}, KN w P l xs → xs.length = l.length * 6
  | [], xs, h => by simp only [KN] at h; subst h; rfl
  | a :: l, xs, h => by
    simp only [KN] at h
    obtain ⟨d0, d1, d2, d3, d4, d5, zs, rfl, h2, h3⟩ := h
    simp only [List.length_cons, KN.len h3]
    omega
/-- The value in block gO: of kind kd, its kids l; P tells the blocks from outside in which parts may lie. -/
def OutI (W : World) (gO : Nat) (kd : Int) (P : Nat → Prop) (l : List S) (n : Nat) (wr : World) (K : Option Addr) (c : Nat) (xs : List Value) : Prop :=
  l.length = n ∧ Blk wr gO 26 #[.int .i64 kd, .bool false, .slice none 0 0, .int .u64 0, .string ⟨#[]⟩, .slice K n c] ∧
  wr.ownsRow (gO + 1) 26 6 (.slice K n c) n xs ∧
  KN wr (fun b => (P b ∨ (gO < b ∧ b < wr.heap.size)) ∧ some b ≠ (Value.slice K n c).ownBlock) l xs ∧
  Below gO W wr
theorem OutI.start {W wr : World} {gO : Nat} {kd : Int} {P : Nat → Prop} (hb : Blk wr gO 26 #[.int .i64 kd, .bool false, .slice none 0 0, .int .u64 0, .string ⟨#[]⟩, .slice none 0 0]) (hB : Below gO W wr) : OutI W gO kd P [] 0 wr none 0 [] :=
  ⟨rfl, hb, World.ownsRow_nil _ _ _ _, by simp only [KN], hB⟩
theorem OutI.push {W wr w5 w7 : World} {gO : Nat} {kd : Int} {P : Nat → Prop} {l news : List S} {n m : Nat} {K K' : Option Addr} {c c' : Nat} {xs ys : List Value} {o : Obj}
    (h : OutI W gO kd P l n wr K c xs) (hP : ∀ b, P b → b < gO) (h5 : Below wr.heap.size wr w5) (hv : KN w5 (fun b => P b ∨ (wr.heap.size ≤ b ∧ b < w5.heap.size)) news ys) (hm : news.length = m)
    (hg : (w5.alloc o).grownBy w7 (Value.slice K n c).ownBlock) (ho : w7.ownsRow (gO + 1) 26 6 (.slice K' (n + m) c') (n + m) (xs ++ ys))
    (hr : (Value.slice K' (n + m) c').ownBlock = (Value.slice K n c).ownBlock ∨ (Value.slice K' (n + m) c').ownBlock = some (w5.alloc o).heap.size) :
    OutI W gO kd P (l ++ news) (n + m) (w7.setCell ⟨gO, 5, none⟩ (.slice K' (n + m) c')) K' c' (xs ++ ys) := by
  obtain ⟨hl, hb, hown, hK, hB⟩ := h
  have hgO := hb.lt
  have hs5 := h5.size
  have hs7 := hg.size
  simp only [World.size_alloc] at hs7
  have hrow : ∀ g, (Value.slice K n c).ownBlock = some g → gO + 1 ≤ g ∧ g < wr.heap.size := hown.lt
  have hcell : ∀ p : Addr, p.block < w5.heap.size → p.block ≠ gO → some p.block ≠ (Value.slice K n c).ownBlock → (w7.setCell ⟨gO, 5, none⟩ (.slice K' (n + m) c')).cell? p = w5.cell? p := fun p hp hne hnr => by
    refine (World.cell?_of_block (Below.heap_setCell w7 ⟨gO, 5, none⟩ _ p.block hne)).trans ?_
    refine (World.cell?_of_block (hg.block p.block (by simp; omega) hnr)).trans ?_
    exact World.cell?_of_block (Below.heap_alloc w5 o p.block hp)
  have hb7 : Blk w7 gO 26 #[.int .i64 kd, .bool false, .slice none 0 0, .int .u64 0, .string ⟨#[]⟩, .slice K n c] := by
    refine ((hb.below h5 hgO).alloc o).grown hg (fun e => ?_)
    have := hrow gO e.symm
    omega
  have hnew : ∀ b, b < w5.heap.size → some b ≠ (Value.slice K n c).ownBlock → some b ≠ (Value.slice K' (n + m) c').ownBlock := fun b hb1 hb2 => by
    rcases hr with e | e
    · rw [e]; exact hb2
    · rw [e]; intro h; injection h with h; simp at h; omega
  refine ⟨by rw [List.length_append, hl, hm], by simpa using hb7.set_ 5 (.slice K' (n + m) c'), ?_, ?_, ?_⟩
  · exact ho.kept (row := some gO) (grown_set (World.grownBy.refl w7 (some gO)) _) (by
      cases e : (Value.slice K' (n + m) c').ownBlock with
      | none => exact .inl rfl
      | some g => refine .inr fun h => ?_; injection h with h; have := ho.lt g e; omega)
  · refine KN.append l news xs ys (KN.keep (fun p hp => ?_) (fun b hb1 => ?_) l xs hK) (KN.keep (fun p hp => ?_) (fun b hb1 => ?_) news ys hv)
    · have hlt : p.block < wr.heap.size := by rcases hp.1 with h | h; (have := hP _ h; omega); exact h.2
      have hne : p.block ≠ gO := by rcases hp.1 with h | h; (have := hP _ h; omega); omega
      exact (hcell p (by omega) hne hp.2).trans (World.cell?_of_block (h5.block p.block hlt))
    · have hlt : b < wr.heap.size := by rcases hb1.1 with h | h; (have := hP _ h; omega); exact h.2
      refine ⟨?_, hnew b (by omega) hb1.2⟩
      rcases hb1.1 with h | h
      · exact .inl h
      · exact .inr ⟨h.1, by simp; omega⟩
    · have hlt : p.block < w5.heap.size := by rcases hp with h | h; (have := hP _ h; omega); exact h.2
      have hne : p.block ≠ gO := by rcases hp with h | h; (have := hP _ h; omega); omega
      refine hcell p hlt hne (fun e => ?_)
      have := hrow p.block e.symm
      rcases hp with h | h
      · have := hP _ h; omega
      · omega
    · have hlt : b < w5.heap.size := by rcases hb1 with h | h; (have := hP _ h; omega); exact h.2
      refine ⟨?_, hnew b hlt (fun e => ?_)⟩
      · rcases hb1 with h | h
        · exact .inl h
        · exact .inr ⟨by omega, by simp; omega⟩
      · have := hrow b e.symm
        rcases hb1 with h | h
        · have := hP _ h; omega
        · omega
  · refine (Below.grown (((hB.trans (h5.mono (by omega))).alloc (by omega) o)) hg (by simp; omega) (fun k hk => ?_)).setCell (Nat.le_refl _) _
    have := hrow k hk
    omega
theorem OutI.rn {W wr : World} {gO : Nat} {kd : Int} {P : Nat → Prop} {l : List S} {n : Nat} {K : Option Addr} {c : Nat} {xs : List Value} (h : OutI W gO kd P l n wr K c xs) :
    n ≤ c ∧ RN wr (fun b => P b ∨ (gO < b ∧ b < wr.heap.size)) 6 K n xs ∧ KN wr (fun b => P b ∨ (gO < b ∧ b < wr.heap.size)) l xs := by
  obtain ⟨hl, hb, hown, hK, hB⟩ := h
  obtain ⟨A, c', e, hc, _, _⟩ := own_slice hown
  injection e with e1 e2 e3
  subst e3
  exact ⟨hc, (RN.of_own hown).keep (fun _ _ => rfl) (fun b hb => .inr ⟨by omega, hb.2.2⟩), KN.keep (fun _ _ => rfl) (fun b hb => hb.1) l xs hK⟩
end Go.Proofs.YtkmeckimmfbkiaaGreatDoor
