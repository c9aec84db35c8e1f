/- The reference's Equal on every value. Conditions: none. -/
import Derived.Test.YtkmeckimmfbkiaaGreatDoorJSKey
import Derived.Test.YtkmeckimmfbkiaaGreatDoorKEq
namespace Go.Proofs.YtkmeckimmfbkiaaGreatDoor
open Go Go.RowKit
/-- Find among values: where it is found. -/
theorem findAt (step : Nat) (hs : 0 < step) (hs2 : step ≤ 2) (l : List S) (n c lv : Nat) (A : Option Addr) (xs : List Value) (s : S) (k0 k1 k2 k3 k4 k5 : Value) (w : World) (hn : l.length = n) (hn16 : n ≤ 16) (hr : Reads w w.heap.size 6 A n xs) (hK : KidsV w w.heap.size l xs) (hk : VAt w w.heap.size s (.agg #[k0, k1, k2, k3, k4, k5])) (hks : keyS s = true) (hkl : keysK step l) (hlv : levL l ≤ lv) (h1 : ∀ u ∈ [k0, k1, k2, k3, k4, k5], u.oneCell' = true) :
    Calls Tryz.prog 23 #[.slice A n c, .int .i64 step, .agg #[k0, k1, k2, k3, k4, k5]] w fun e w' => ∃ r : Int, e = .returned (.int .i64 r) ∧ Below w.heap.size w w' ∧ ((r = -1 ∧ ∀ i a, l[step * i]? = some a → eqS s a = false) ∨ ∃ (j : Nat) (a : S), r = ((step * j : Nat) : Int) ∧ l[step * j]? = some a ∧ eqS s a = true) := by
  refine (findK_any step n c A xs k0 k1 k2 k3 k4 k5 (fun i => match l[i]? with | some a => eqS a s | none => false) w hs hs2 hn16 hr h1 fun i v hi him hrow W hW => ?_).mono ?_
  · have ha := List.getElem?_eq_getElem (show i < l.length by omega)
    simp only [ha]
    have hki : keyS l[i] = true := hkl (i / step) _ (by rw [Nat.mul_div_cancel' (Nat.dvd_of_mod_eq_zero him)]; exact ha)
    exact spEqual_any lv _ s v _ W (Nat.le_trans (lev_get l i _ ha) hlv) hki hks (((hK.row ha hrow).below hW).more hW.size) ((hk.below hW).more hW.size)
  · rintro e w' ⟨r, rfl, hB, h⟩
    refine ⟨r, rfl, hB, ?_⟩
    rcases h with ⟨h1, h2⟩ | ⟨i, h1, hi, him, hR⟩
    · refine .inl ⟨h1, fun i a ha => ?_⟩
      have hil : step * i < n := by
        rcases Nat.lt_or_ge (step * i) l.length with h | h
        · omega
        · rw [List.getElem?_eq_none h] at ha; cases ha
      have := h2 (step * i) hil (Nat.mul_mod_right _ _)
      simp only [ha] at this
      rw [eqS_symm]; exact this
    · have ha := List.getElem?_eq_getElem (show i < l.length by omega)
      simp only [ha] at hR
      have e : step * (i / step) = i := Nat.mul_div_cancel' (Nat.dvd_of_mod_eq_zero him)
      exact .inr ⟨i / step, l[i], by rw [e]; exact h1, by rw [e]; exact ha, by rw [eqS_symm]; exact hR⟩
theorem VAt.ones {w : World} {B : Nat} {s : S} {k0 k1 k2 k3 k4 k5 : Value} (h : VAt w B s (.agg #[k0, k1, k2, k3, k4, k5])) : ∀ u ∈ [k0, k1, k2, k3, k4, k5], u.oneCell' = true := by
  obtain ⟨c0, c1, c2, c3, c4, c5, e, h1⟩ := h.six
  injection e with e
  cases e
  exact h1
set_option maxRecDepth 10000 in
set_option maxHeartbeats 1000000 in
theorem within_any (neg1 : Bool) (A1 : Option Addr) (n1 c1 : Nat) (b1 : Int) (t1 : ByteArray) (K1 : Option Addr) (d1 : Nat) (k2 : Int) (neg2 : Bool) (A2 : Option Addr) (n2 c2 : Nat) (b2 : Int) (t2 : ByteArray) (K2 : Option Addr) (m2 d2 : Nat) (k1 : Int) (xs ys : List Value) (l r : List S) (lv : Nat) (w : World) (hm : l.length ≤ 16) (hm2 : r.length = m2) (hm3 : m2 ≤ 16)
    (hx : Reads w w.heap.size 6 K1 l.length xs) (hy : Reads w w.heap.size 6 K2 m2 ys) (hKx : KidsV w w.heap.size l xs) (hKy : KidsV w w.heap.size r ys) (hkx : keysK 1 l) (hky : keysK 1 r) (hlv : levL r ≤ lv) :
    Calls Tryz.prog 59 #[(.agg #[.int .i64 k1, .bool neg1, .slice A1 n1 c1, .int .u64 b1, .string t1, .slice K1 l.length d1]), (.agg #[.int .i64 k2, .bool neg2, .slice A2 n2 c2, .int .u64 b2, .string t2, .slice K2 m2 d2])] w (RetB w (l.all (fun x => r.any (fun y => eqS x y)))) := by
  obtain ⟨T, hT⟩ : ∃ T, T = l.all (fun x => r.any (fun y => eqS x y)) := ⟨_, rfl⟩
  obtain ⟨m, hml⟩ : ∃ m, m = l.length := ⟨_, rfl⟩
  rw [← hT]
  rw [← hml] at hx hm ⊢
  have HX := Lib.hid (And.intro hx (And.intro hy (And.intro hKx (And.intro hKy (And.intro hkx (And.intro hky hlv))))))
  have HT := Lib.hid (And.intro hT (And.intro hml hm2))
  clear hx hy hKx hKy hkx hky hlv hT hml hm2
  go_enter Tryz.func59, Tryz.ntmps59
  go_wp2_with fail
  refine gen2 (M := fun W => Code.wp _ _ _ _ W) fun W hB b1 b2 hz => ?_
  have hz1 : w.heap.size + 1 < W.heap.size := by omega
  clear hz
  have HB := Lib.hid (And.intro hB (And.intro b1 b2))
  clear hB b1 b2
  go_loopw [5] (fun vi wr => ∃ i : Nat, vi = .int .i64 i ∧ i ≤ m ∧ (∀ j a, j < i → l[j]? = some a → r.any (fun y => eqS a y) = true) ∧ Below W.heap.size W wr) (fun vi _ => m - (intOf vi).toNat)
  case atStart => exact ⟨0, rfl, by omega, fun j a hj => by omega, Below.refl _ _⟩
  case round =>
    obtain ⟨i, rfl, hi, hall, hB⟩ := hrel
    obtain ⟨x0, x1, x2, x3, x4, x5, _, _, _, _, _, _⟩ := (HB.out.2.1.below hB (by omega)).c6
    obtain ⟨y0, y1, y2, y3, y4, y5, _, _, _, _, _, _⟩ := (HB.out.2.2.below hB (by omega)).c6
    rcases Nat.lt_or_ge i m with hlt | hge
    · have bi : (i : Int) < (m : Int) := by omega
      have wi : IntKind.i64.wrap ((i : Int) + 1) = (i : Int) + 1 := by rw [IntKind.wrap_i64]; omega
      obtain ⟨ad, p0, p1, p2, p3, p4, p5, rfl, had, hrow, hsix⟩ := HX.out.1.six2 hlt
      have hBW := HB.out.1.trans (hB.mono HB.out.1.size)
      obtain ⟨a, ha⟩ : ∃ a, l[i]? = some a := ⟨_, List.getElem?_eq_getElem (by rw [← HT.out.2.1]; exact hlt)⟩
      have hv : VAt w w.heap.size a (.agg #[p0, p1, p2, p3, p4, p5]) := HX.out.2.2.1.row ha hrow
      have hone := hv.ones
      have HC := Lib.hid (findAt 1 (by decide) (by decide) r m2 d2 lv K2 ys a p0 p1 p2 p3 p4 p5 wr.drew HT.out.2.2 hm3 ((HX.out.2.1.below hBW.drew).more hBW.drew.size) ((HX.out.2.2.2.1.below hBW.drew).more hBW.drew.size) ((hv.below hBW.drew).more hBW.drew.size) (HX.out.2.2.2.2.1 i a (by rw [Nat.one_mul]; exact ha)) HX.out.2.2.2.2.2.1 HX.out.2.2.2.2.2.2 hone)
      have HS := Lib.hid (And.intro hsix had)
      obtain ⟨g0, g1, g2, g3, g4, g5⟩ := hsix.below hBW had
      have HH := Lib.hid (And.intro hall (And.intro hB ha))
      clear hsix hBW hall hB hrow hv hone ha
      go_wp2_with fail
      go_region_held3 (fun w' => (w'.cell? ⟨w.heap.size, 5, none⟩ = some (.slice (some ad) m d1) ∧ w'.cell? ⟨w.heap.size + 1, 5, none⟩ = some (.slice K2 m2 d2)) ∧ (w'.cell? (ad.add (i * 6)) = some p0 ∧ w'.cell? ⟨(ad.add (i * 6)).block, (ad.add (i * 6)).off + 1, none⟩ = some p1 ∧ w'.cell? ⟨(ad.add (i * 6)).block, (ad.add (i * 6)).off + 2, none⟩ = some p2 ∧ w'.cell? ⟨(ad.add (i * 6)).block, (ad.add (i * 6)).off + 3, none⟩ = some p3 ∧ w'.cell? ⟨(ad.add (i * 6)).block, (ad.add (i * 6)).off + 4, none⟩ = some p4 ∧ w'.cell? ⟨(ad.add (i * 6)).block, (ad.add (i * 6)).off + 5, none⟩ = some p5))
        (exact ⟨⟨x5, y5⟩, g0, g1, g2, g3, g4, g5⟩)
        ((go_at_call 23; refine HC.out.mono ?_
          rintro e w5 ⟨q, rfl, hB5, hq⟩
          have hB5 : Below W.heap.size W w5 := HH.out.2.1.trans (Below.mono ⟨hB5.os, hB5.tape, hB5.output, hB5.size, hB5.block⟩ HH.out.2.1.size)
          obtain ⟨x0, x1, x2, x3, x4, x5, _, _, _, _, _, _⟩ := (HB.out.2.1.below hB5 (by omega)).c6
          obtain ⟨y0, y1, y2, y3, y4, y5, _, _, _, _, _, _⟩ := (HB.out.2.2.below hB5 (by omega)).c6
          obtain ⟨g0, g1, g2, g3, g4, g5⟩ := HS.out.1.below (HB.out.1.trans (hB5.mono HB.out.1.size)) HS.out.2
          have HB5 := Lib.hid hB5
          clear hB5))
      rcases hq with ⟨rfl, hno⟩ | ⟨j, b, rfl, hj, he⟩
      · have HRe : T = false := by
          rw [HT.out.1, List.all_eq_false]
          refine ⟨a, List.mem_of_getElem? HH.out.2.2, ?_⟩
          rw [Bool.not_eq_true, List.any_eq_false]
          intro y hy
          obtain ⟨j, hj⟩ := List.getElem?_of_mem hy
          rw [hno j y (by rw [Nat.one_mul]; exact hj)]
          decide
        have HRe := Lib.hid HRe
        clear hno
        go_wp2
        go_ret
        exact ⟨by rw [HRe.out]; rfl, HB.out.1.trans (HB5.out.mono HB.out.1.size)⟩
      · have hq : ¬ ((1 * j : Nat) : Int) < 0 := by omega
        have HRe := Lib.hid (show r.any (fun y => eqS a y) = true from List.any_eq_true.2 ⟨b, List.mem_of_getElem? hj, he⟩)
        clear hj he
        go_wp2
        go_roundw
        case rel =>
          refine ⟨i + 1, by go_num, by omega, fun j' a' hj ha' => ?_, HB5.out⟩
          rcases Nat.lt_or_ge j' i with h | h
          · exact HH.out.1 j' a' h ha'
          · have hji : j' = i := by omega
            rw [hji, HH.out.2.2] at ha'
            injection ha' with ha'
            rw [← ha']; exact HRe.out
        case measure => simp [intOf]; omega
    · have bi : ¬ (i : Int) < (m : Int) := by omega
      have HH := Lib.hid hB
      have HTT : T = true := by
        rw [HT.out.1, List.all_eq_true]
        intro x hx
        obtain ⟨j, hj⟩ := List.getElem?_of_mem hx
        obtain ⟨hlt, _⟩ := List.getElem?_eq_some_iff.1 hj
        exact hall j x (by have := HT.out.2.1; omega) hj
      clear hall hB
      go_wp2
      go_ret
      exact ⟨rfl, HB.out.1.trans (HH.out.mono HB.out.1.size)⟩
end Go.Proofs.YtkmeckimmfbkiaaGreatDoor
namespace Go.Proofs.YtkmeckimmfbkiaaGreatDoor
open Go Go.RowKit
set_option maxRecDepth 10000 in
set_option maxHeartbeats 4000000 in
theorem equal_dict (neg1 : Bool) (A1 : Option Addr) (n1 c1 : Nat) (b1 : Int) (t1 : ByteArray) (K1 : Option Addr) (d1 : Nat) (neg2 : Bool) (A2 : Option Addr) (n2 c2 : Nat) (b2 : Int) (t2 : ByteArray) (K2 : Option Addr) (d2 : Nat) (xs ys : List Value) (l r : List S) (m lv : Nat) (w : World) (hm : m ≤ 16) (hm1 : l.length = m) (hm2 : r.length = m) (hev : m % 2 = 0)
    (hx : Reads w w.heap.size 6 K1 m xs) (hy : Reads w w.heap.size 6 K2 m ys) (hKx : KidsV w w.heap.size l xs) (hKy : KidsV w w.heap.size r ys) (hkx : keysK 2 l) (hky : keysK 2 r) (hdy : distK 2 r) (hlv : levL r ≤ lv)
    (ih : ∀ (i j : Nat) (a b : S) (u v : Value), l[i]? = some a → r[j]? = some b → RowV xs i u → RowV ys j v → ∀ W, Below w.heap.size w W → Calls Tryz.prog 41 #[u, v] W (RetB W (eqV a b))) :
    Calls Tryz.prog 41 #[(.agg #[.int .i64 8, .bool neg1, .slice A1 n1 c1, .int .u64 b1, .string t1, .slice K1 m d1]), (.agg #[.int .i64 8, .bool neg2, .slice A2 n2 c2, .int .u64 b2, .string t2, .slice K2 m d2])] w (RetB w (subD l r)) := by
  obtain ⟨T, hT⟩ : ∃ T, T = subD l r := ⟨_, rfl⟩
  rw [← hT]
  have HX := Lib.hid (And.intro hx (And.intro hy (And.intro hKx (And.intro hKy (And.intro hkx (And.intro hky (And.intro hdy (And.intro hlv ih))))))))
  have HT := Lib.hid (And.intro hT (And.intro hm1 hm2))
  have hmm : ((m : Int) != (m : Int)) = false := by simp
  clear hx hy hKx hKy hkx hky hlv hT hm1 hm2 hdy ih
  go_enter Tryz.func41, Tryz.ntmps41
  go_wp2_with fail
  refine gen2 (M := fun W => Calls _ _ _ W _) fun W hB b1 b2 hz => ?_
  have hz1 : w.heap.size + 1 < W.heap.size := by omega
  clear hz
  have HB := Lib.hid (And.intro hB (And.intro b1 b2))
  clear hB b1 b2
  refine (number_any 8 neg1 A1 n1 c1 b1 t1 K1 m d1 W).mono ?_
  rintro e w1 ⟨rfl, hB1⟩
  obtain ⟨x0, x1, x2, x3, x4, x5, _, _, _, _, _, _⟩ := (HB.out.2.1.below hB1 (by omega)).c6
  obtain ⟨y0, y1, y2, y3, y4, y5, _, _, _, _, _, _⟩ := (HB.out.2.2.below hB1 (by omega)).c6
  have hs1 := hB1.size
  have HB1 := Lib.hid hB1
  clear hB1
  rw [show ((8 : Int) == 2 || (8 : Int) == 3) = false from rfl]
  go_wp2_with fail
  clear x0 x1 x2 x3 x4 x5 y0 y1 y2 y3 y4 y5
  go_loopw [5] (fun vi wr => ∃ k : Nat, vi = .int .i64 ((2 * k : Nat) : Int) ∧ 2 * k ≤ m ∧ (∀ j a v, j < k → l[2 * j]? = some a → l[2 * j + 1]? = some v → ∃ v', lookK a r = some v' ∧ eqV v v' = true) ∧ Below W.heap.size W wr) (fun vi _ => m - (intOf vi).toNat)
  case atStart => exact ⟨0, rfl, by omega, fun j a v hj => by omega, HB1.out⟩
  case round =>
    obtain ⟨k, rfl, hi, hall, hB⟩ := hrel
    obtain ⟨i, hik⟩ : ∃ i, i = 2 * k := ⟨_, rfl⟩
    rw [← hik]
    have HK := Lib.hid hik
    rw [← hik] at hi
    obtain ⟨x0, x1, x2, x3, x4, x5, _, _, _, _, _, _⟩ := (HB.out.2.1.below hB (by omega)).c6
    obtain ⟨y0, y1, y2, y3, y4, y5, _, _, _, _, _, _⟩ := (HB.out.2.2.below hB (by omega)).c6
    have w1 : IntKind.i64.wrap ((i : Int) + 1) = (i : Int) + 1 := by rw [IntKind.wrap_i64]; omega
    rcases Nat.lt_or_ge i m with hlt | hge
    · have hlt1 : i + 1 < m := by omega
      clear hik
      have bi : (i : Int) + 1 < (m : Int) := by omega
      have bi0 : (i : Int) < (m : Int) := by omega
      have w2 : IntKind.i64.wrap ((i : Int) + 2) = (i : Int) + 2 := by rw [IntKind.wrap_i64]; omega
      obtain ⟨ad, p0, p1, p2, p3, p4, p5, rfl, had, hrow, hsix⟩ := HX.out.1.six2 hlt
      have hBW := HB.out.1.trans (hB.mono HB.out.1.size)
      obtain ⟨a, ha⟩ : ∃ a, l[i]? = some a := ⟨_, List.getElem?_eq_getElem (by rw [HT.out.2.1]; exact hlt)⟩
      obtain ⟨v, hva⟩ : ∃ v, l[i + 1]? = some v := ⟨_, List.getElem?_eq_getElem (by rw [HT.out.2.1]; exact hlt1)⟩
      have hv : VAt w w.heap.size a (.agg #[p0, p1, p2, p3, p4, p5]) := HX.out.2.2.1.row ha hrow
      have hone := hv.ones
      have HC := Lib.hid (findAt 2 (by decide) (by decide) r m d2 lv K2 ys a p0 p1 p2 p3 p4 p5 wr.drew HT.out.2.2 hm ((HX.out.2.1.below hBW.drew).more hBW.drew.size) ((HX.out.2.2.2.1.below hBW.drew).more hBW.drew.size) ((hv.below hBW.drew).more hBW.drew.size) (HX.out.2.2.2.2.1 k a (by rw [← HK.out]; exact ha)) HX.out.2.2.2.2.2.1 HX.out.2.2.2.2.2.2.2.1 hone)
      have HS := Lib.hid (And.intro hsix had)
      obtain ⟨g0, g1, g2, g3, g4, g5⟩ := hsix.below hBW had
      have HH := Lib.hid (And.intro hall (And.intro hB (And.intro ha hva)))
      clear hsix hBW hall hB hrow hv hone ha hva
      go_wp2_with fail
      go_region_held3 (fun w' => (w'.cell? ⟨w.heap.size, 5, none⟩ = some (.slice (some ad) m d1) ∧ w'.cell? ⟨w.heap.size + 1, 5, none⟩ = some (.slice K2 m d2)) ∧ (w'.cell? (ad.add (i * 6)) = some p0 ∧ w'.cell? ⟨(ad.add (i * 6)).block, (ad.add (i * 6)).off + 1, none⟩ = some p1 ∧ w'.cell? ⟨(ad.add (i * 6)).block, (ad.add (i * 6)).off + 2, none⟩ = some p2 ∧ w'.cell? ⟨(ad.add (i * 6)).block, (ad.add (i * 6)).off + 3, none⟩ = some p3 ∧ w'.cell? ⟨(ad.add (i * 6)).block, (ad.add (i * 6)).off + 4, none⟩ = some p4 ∧ w'.cell? ⟨(ad.add (i * 6)).block, (ad.add (i * 6)).off + 5, none⟩ = some p5))
        (exact ⟨⟨x5, y5⟩, g0, g1, g2, g3, g4, g5⟩)
        ((go_at_call 23; refine HC.out.mono ?_
          rintro e w5 ⟨q, rfl, hB5, hq⟩
          have hB5 : Below W.heap.size W w5 := HH.out.2.1.trans (Below.mono ⟨hB5.os, hB5.tape, hB5.output, hB5.size, hB5.block⟩ HH.out.2.1.size)
          obtain ⟨x0, x1, x2, x3, x4, x5, _, _, _, _, _, _⟩ := (HB.out.2.1.below hB5 (by omega)).c6
          obtain ⟨y0, y1, y2, y3, y4, y5, _, _, _, _, _, _⟩ := (HB.out.2.2.below hB5 (by omega)).c6
          obtain ⟨g0, g1, g2, g3, g4, g5⟩ := HS.out.1.below (HB.out.1.trans (hB5.mono HB.out.1.size)) HS.out.2
          have HB5 := Lib.hid hB5
          clear hB5))
      rcases hq with ⟨rfl, hno⟩ | ⟨j, b, rfl, hj, he⟩
      · have HRe := Lib.hid (show T = false from by
          rw [HT.out.1, ← Bool.not_eq_true]
          intro h
          obtain ⟨v', h1, _⟩ := (subD_iff l r).1 h k a v (by rw [← HK.out]; exact HH.out.2.2.1) (by rw [← HK.out]; exact HH.out.2.2.2)
          rw [look_none hno] at h1
          cases h1)
        clear hno
        go_wp2_with fail
        go_quiet (fail)
        go_wp2
        go_ret
        exact ⟨by rw [HRe.out]; rfl, HB.out.1.trans ((HB5.out.drewN_ _).mono HB.out.1.size)⟩
      · have hJm : 2 * j < m := by obtain ⟨h, _⟩ := List.getElem?_eq_some_iff.1 hj; have := HT.out.2.2; omega
        obtain ⟨J, hJ⟩ : ∃ J, J = 2 * j := ⟨_, rfl⟩
        rw [← hJ] at hj hJm ⊢
        have hJ1 : J + 1 < m := by omega
        have HJ := Lib.hid hJ
        have bJ : ¬ (J : Int) < 0 := by omega
        have wJ : IntKind.i64.wrap ((J : Int) + 1) = (J : Int) + 1 := by rw [IntKind.wrap_i64]; omega
        have bJ1 : (J : Int) + 1 < (m : Int) := by omega
        have gJ : (0 : Int) ≤ (J : Int) + 1 := by omega
        have gi : (0 : Int) ≤ (i : Int) + 1 := by omega
        clear hJ
        obtain ⟨b', hb'⟩ : ∃ b', r[J + 1]? = some b' := ⟨_, List.getElem?_eq_getElem (by rw [HT.out.2.2]; exact hJ1)⟩
        obtain ⟨ad', f0, f1, f2, f3, f4, f5, ead, had', hrow', hsix'⟩ := HX.out.1.six2 hlt1
        cases ead
        obtain ⟨bd, q0, q1, q2, q3, q4, q5, rfl, hbd, hrow2, hsix2⟩ := HX.out.2.1.six2 hJ1
        have hBW := HB.out.1.trans (HB5.out.mono HB.out.1.size)
        have HC2 := Lib.hid (HX.out.2.2.2.2.2.2.2.2 (i + 1) (J + 1) v b' _ _ HH.out.2.2.2 hb' hrow' hrow2 w5.drew hBW.drew)
        obtain ⟨s0, s1, s2, s3, s4, s5⟩ := hsix'.below hBW had'
        obtain ⟨j0, j1, j2, j3, j4, j5⟩ := hsix2.below hBW hbd
        have HJJ := Lib.hid (And.intro hj (And.intro he hb'))
        have HS2 := Lib.hid (And.intro hsix' (And.intro had' (And.intro hsix2 hbd)))
        clear hj he hb' hrow' hsix' hrow2 hsix2 hBW g0 g1 g2 g3 g4 g5
        go_wp2_with fail
        go_region_held3 (fun w' => (w'.cell? ⟨w.heap.size, 5, none⟩ = some (.slice (some ad) m d1) ∧ w'.cell? ⟨w.heap.size + 1, 5, none⟩ = some (.slice (some bd) m d2)) ∧ (w'.cell? (ad.add ((i + 1) * 6)) = some f0 ∧ w'.cell? ⟨(ad.add ((i + 1) * 6)).block, (ad.add ((i + 1) * 6)).off + 1, none⟩ = some f1 ∧ w'.cell? ⟨(ad.add ((i + 1) * 6)).block, (ad.add ((i + 1) * 6)).off + 2, none⟩ = some f2 ∧ w'.cell? ⟨(ad.add ((i + 1) * 6)).block, (ad.add ((i + 1) * 6)).off + 3, none⟩ = some f3 ∧ w'.cell? ⟨(ad.add ((i + 1) * 6)).block, (ad.add ((i + 1) * 6)).off + 4, none⟩ = some f4 ∧ w'.cell? ⟨(ad.add ((i + 1) * 6)).block, (ad.add ((i + 1) * 6)).off + 5, none⟩ = some f5) ∧ (w'.cell? (bd.add ((J + 1) * 6)) = some q0 ∧ w'.cell? ⟨(bd.add ((J + 1) * 6)).block, (bd.add ((J + 1) * 6)).off + 1, none⟩ = some q1 ∧ w'.cell? ⟨(bd.add ((J + 1) * 6)).block, (bd.add ((J + 1) * 6)).off + 2, none⟩ = some q2 ∧ w'.cell? ⟨(bd.add ((J + 1) * 6)).block, (bd.add ((J + 1) * 6)).off + 3, none⟩ = some q3 ∧ w'.cell? ⟨(bd.add ((J + 1) * 6)).block, (bd.add ((J + 1) * 6)).off + 4, none⟩ = some q4 ∧ w'.cell? ⟨(bd.add ((J + 1) * 6)).block, (bd.add ((J + 1) * 6)).off + 5, none⟩ = some q5))
          (exact ⟨⟨x5, y5⟩, ⟨s0, s1, s2, s3, s4, s5⟩, j0, j1, j2, j3, j4, j5⟩)
          ((go_at_call 41; refine HC2.out.mono ?_
            rintro e w6 ⟨rfl, hB6⟩
            have hB6 : Below W.heap.size W w6 := HB5.out.trans (Below.mono ⟨hB6.os, hB6.tape, hB6.output, hB6.size, hB6.block⟩ HB5.out.size)
            obtain ⟨x0, x1, x2, x3, x4, x5, _, _, _, _, _, _⟩ := (HB.out.2.1.below hB6 (by omega)).c6
            obtain ⟨y0, y1, y2, y3, y4, y5, _, _, _, _, _, _⟩ := (HB.out.2.2.below hB6 (by omega)).c6
            obtain ⟨s0, s1, s2, s3, s4, s5⟩ := HS2.out.1.below (HB.out.1.trans (hB6.mono HB.out.1.size)) HS2.out.2.1
            obtain ⟨j0, j1, j2, j3, j4, j5⟩ := HS2.out.2.2.1.below (HB.out.1.trans (hB6.mono HB.out.1.size)) HS2.out.2.2.2
            have HB6 := Lib.hid hB6
            clear hB6))
        have hlook : lookK a r = some b' := look_some (j := j) HX.out.2.2.2.2.2.2.1 (by rw [← HJ.out]; exact HJJ.out.1) (by rw [← HJ.out]; exact HJJ.out.2.2) HJJ.out.2.1
        have HL := Lib.hid hlook
        clear hlook
        rw [decide_eq_false (show ¬ (J : Int) < 0 by omega)]
        rcases hRe : eqV v b' with _ | _
        · have HRe := Lib.hid (show T = false from by
            rw [HT.out.1, ← Bool.not_eq_true]
            intro h
            obtain ⟨v', h1, h2⟩ := (subD_iff l r).1 h k a v (by rw [← HK.out]; exact HH.out.2.2.1) (by rw [← HK.out]; exact HH.out.2.2.2)
            rw [HL.out] at h1
            injection h1 with h1
            rw [← h1, hRe] at h2
            cases h2)
          clear hRe
          go_wp2
          go_ret
          exact ⟨by rw [HRe.out]; rfl, HB.out.1.trans (HB6.out.mono HB.out.1.size)⟩
        · have HRe := Lib.hid hRe
          clear hRe
          go_wp2
          go_roundw
          case rel =>
            refine ⟨k + 1, ?_, by have := HK.out; omega, fun j' a' v' hj' ha' hv' => ?_, HB6.out⟩
            · congr 1
              have := HK.out
              omega
            · rcases Nat.lt_or_ge j' k with h | h
              · exact HH.out.1 j' a' v' h ha' hv'
              · have hji : j' = k := by omega
                subst hji
                rw [← HK.out, HH.out.2.2.1] at ha'
                rw [← HK.out, HH.out.2.2.2] at hv'
                injection ha' with ha'
                injection hv' with hv'
                rw [← ha', ← hv']
                exact ⟨b', HL.out, HRe.out⟩
          case measure => simp [intOf]; omega
    · have bi : ¬ (i : Int) + 1 < (m : Int) := by omega
      have HH := Lib.hid hB
      have HTT := Lib.hid (show T = true from by
        rw [HT.out.1, subD_iff]
        intro j a v e1 e2
        obtain ⟨hlt, _⟩ := List.getElem?_eq_some_iff.1 e2
        exact hall j a v (by have := HT.out.2.1; omega) e1 e2)
      clear hall hB hik
      go_wp2
      go_ret
      exact ⟨by rw [HTT.out]; rfl, HB.out.1.trans (HH.out.mono HB.out.1.size)⟩
end Go.Proofs.YtkmeckimmfbkiaaGreatDoor
namespace Go.Proofs.YtkmeckimmfbkiaaGreatDoor
open Go Go.RowKit
set_option maxRecDepth 10000 in
set_option maxHeartbeats 1000000 in
theorem equal_set (neg1 : Bool) (A1 : Option Addr) (n1 c1 : Nat) (b1 : Int) (t1 : ByteArray) (K1 : Option Addr) (d1 : Nat) (neg2 : Bool) (A2 : Option Addr) (n2 c2 : Nat) (b2 : Int) (t2 : ByteArray) (K2 : Option Addr) (d2 : Nat) (m : Nat) (T : Bool) (w : World)
    (hw : ∀ W, Below w.heap.size w W → Calls Tryz.prog 59 #[(.agg #[.int .i64 9, .bool neg1, .slice A1 n1 c1, .int .u64 b1, .string t1, .slice K1 m d1]), (.agg #[.int .i64 9, .bool neg2, .slice A2 n2 c2, .int .u64 b2, .string t2, .slice K2 m d2])] W (RetB W T)) :
    Calls Tryz.prog 41 #[(.agg #[.int .i64 9, .bool neg1, .slice A1 n1 c1, .int .u64 b1, .string t1, .slice K1 m d1]), (.agg #[.int .i64 9, .bool neg2, .slice A2 n2 c2, .int .u64 b2, .string t2, .slice K2 m d2])] w (RetB w T) := by
  have HW := Lib.hid hw
  have hmm : ((m : Int) != (m : Int)) = false := by simp
  clear hw
  go_enter Tryz.func41, Tryz.ntmps41
  go_wp2_with fail
  refine gen2 (M := fun W => Calls _ _ _ W _) fun W hB b1 b2 hz => ?_
  have hz1 : w.heap.size + 1 < W.heap.size := by omega
  clear hz
  have HB := Lib.hid (And.intro hB (And.intro b1 b2))
  clear hB b1 b2
  refine (number_any 9 neg1 A1 n1 c1 b1 t1 K1 m d1 W).mono ?_
  rintro e w1 ⟨rfl, hB1⟩
  obtain ⟨x0, x1, x2, x3, x4, x5, _, _, _, _, _, _⟩ := (HB.out.2.1.below hB1 (by omega)).c6
  obtain ⟨y0, y1, y2, y3, y4, y5, _, _, _, _, _, _⟩ := (HB.out.2.2.below hB1 (by omega)).c6
  have hs1 := hB1.size
  have HB1 := Lib.hid (HB.out.1.trans (hB1.mono HB.out.1.size))
  clear hB1
  rw [show ((9 : Int) == 2 || (9 : Int) == 3) = false from rfl]
  go_wp2_with fail
  refine (HW.out w1 HB1.out).mono ?_
  rintro e w2 ⟨rfl, hB2⟩
  have HB2 := Lib.hid (HB1.out.trans (hB2.mono HB1.out.size))
  clear hB2
  go_wp2
  go_ret
  exact ⟨rfl, HB2.out⟩
theorem eqV_kinds (s t : S) (hk : kindN s ≠ kindN t) (hn : (isNum s && isNum t) = false) : eqV s t = false := by
  cases s <;> cases t <;> first | rfl | (exact absurd rfl hk) | (simp [isNum] at hn; done) | simp [eqV, eqS]
theorem eqVL_take : ∀ (l r : List S) (i : Nat) (a b : S), l[i]? = some a → r[i]? = some b → eqV a b = false → eqVL l r = false
  | x :: l, y :: r, 0, a, b, h1, h2, h => by
    simp at h1 h2
    subst h1 h2
    simp only [eqVL, h, Bool.false_and]
  | x :: l, y :: r, i + 1, a, b, h1, h2, h => by
    simp only [eqVL, eqVL_take l r i a b (by simpa using h1) (by simpa using h2) h, Bool.and_false]
  | [], r, i, a, b, h1, _, _ => by simp at h1
  | _ :: _, [], i, a, b, _, h2, _ => by simp at h2
theorem eqVL_all : ∀ (l r : List S), l.length = r.length → (∀ (i : Nat) (a b : S), l[i]? = some a → r[i]? = some b → eqV a b = true) → eqVL l r = true
  | [], [], _, _ => rfl
  | x :: l, y :: r, hl, h => by
    simp only [eqVL, Bool.and_eq_true]
    exact ⟨h 0 x y rfl rfl, eqVL_all l r (by simpa using hl) fun i a b h1 h2 => h (i + 1) a b (by simpa using h1) (by simpa using h2)⟩
  | [], _ :: _, hl, _ => by simp at hl
  | _ :: _, [], hl, _ => by simp at hl
theorem eqVL_of_ne : ∀ (l r : List S), l.length ≠ r.length → eqVL l r = false
  | [], [], h => absurd rfl h
  | x :: l, y :: r, h => by simp only [eqVL, eqVL_of_ne l r (by simpa using h), Bool.and_false]
  | [], _ :: _, _ => by simp [eqVL]
  | _ :: _, [], _ => by simp [eqVL]
/-- Rows, one by one. -/
theorem equal_kids (d : Nat)
    (ih : ∀ (s t : S) (u v : Value) (w : World), lev s ≤ d → lev t ≤ d → good s → good t → VAt w w.heap.size s u → VAt w w.heap.size t v → Calls Tryz.prog 41 #[u, v] w (RetB w (eqV s t)))
    (k : Int) (hk : k = 6 ∨ k = 7) (l r : List S) (A : Option Addr) (c : Nat) (xs : List Value) (A' : Option Addr) (c' : Nat) (ys : List Value) (w : World) (hl : levL l ≤ d) (hl2 : levL r ≤ d) (gl : goodL l) (gr : goodL r)
    (q1 : l.length ≤ 16) (q3 : Reads w w.heap.size 6 A l.length xs) (q4 : KidsV w w.heap.size l xs) (z3 : Reads w w.heap.size 6 A' r.length ys) (z4 : KidsV w w.heap.size r ys) :
    Calls Tryz.prog 41 #[valV k false nilS 0 noT (.slice A l.length c), valV k false nilS 0 noT (.slice A' r.length c')] w (RetB w (eqVL l r)) := by
  have hk2 : ((k == 2 || k == 3) && (k == 2 || k == 3)) = false := by rcases hk with rfl | rfl <;> rfl
  by_cases hlen : l.length = r.length
  · rw [← hlen] at z3 ⊢
    refine equal_row k l.length _ _ _ _ _ _ _ _ _ _ _ _ _ _ _ _ xs ys (fun i => match l[i]?, r[i]? with | some a, some b => eqV a b | _, _ => true) _ w q1 (by rcases hk with rfl | rfl <;> rfl) (by rcases hk with rfl | rfl <;> rfl) (by rcases hk with rfl | rfl <;> rfl) (by rcases hk with rfl | rfl <;> rfl) (by rcases hk with rfl | rfl <;> rfl) (by rcases hk with rfl | rfl <;> rfl) q3 z3 ?_ ?_ ?_
    · intro i hi hR
      have ha := List.getElem?_eq_getElem hi
      have hb := List.getElem?_eq_getElem (show i < r.length by omega)
      simp only [ha, hb] at hR
      exact eqVL_take l r i _ _ ha hb hR
    · intro hall
      rw [eqVL_all l r hlen fun i a b ha hb => ?_]
      · simp
      · have h := hall i (by have := List.getElem?_eq_some_iff.1 ha; obtain ⟨h, _⟩ := this; exact h)
        simp only [ha, hb] at h
        exact h
    · intro i u v hi hru hrv W hW
      have ha := List.getElem?_eq_getElem hi
      have hb := List.getElem?_eq_getElem (show i < r.length by omega)
      simp only [ha, hb]
      exact ih _ _ u v W (by have := lev_get l i _ ha; omega) (by have := lev_get r i _ hb; omega) (goodL_get l i _ ha gl) (goodL_get r i _ hb gr) (((q4.row ha hru).below hW).more hW.size) (((z4.row hb hrv).below hW).more hW.size)
  · rw [eqVL_of_ne l r hlen]
    exact equal_diff _ _ _ _ _ _ _ _ _ _ _ _ _ _ _ _ _ _ _ _ w hk2 (.inr ⟨by simp, by rw [bne_iff_ne]; omega⟩)
theorem spEqV_step (d : Nat)
    (ih : ∀ (s t : S) (u v : Value) (w : World), lev s ≤ d → lev t ≤ d → good s → good t → VAt w w.heap.size s u → VAt w w.heap.size t v → Calls Tryz.prog 41 #[u, v] w (RetB w (eqV s t)))
    (s t : S) (u v : Value) (w : World) (hl : lev s ≤ d + 1) (hl2 : lev t ≤ d + 1) (gs : good s) (gt : good t) (hu : VAt w w.heap.size s u) (hv : VAt w w.heap.size t v) :
    Calls Tryz.prog 41 #[u, v] w (RetB w (eqV s t)) := by
  by_cases hkey : keyS s = true ∧ keyS t = true
  · rw [eqV_key s t hkey.1 hkey.2]
    exact spEqual_any (d + 1) s t u v w hl hkey.1 hkey.2 hu hv
  by_cases hn : (isNum s && isNum t) = true
  · exfalso
    apply hkey
    rw [Bool.and_eq_true] at hn
    constructor
    · cases s <;> first | rfl | (simp [isNum] at hn; done)
    · cases t <;> first | rfl | (simp [isNum] at hn; done)
  replace hn : (isNum s && isNum t) = false := by simpa using hn
  by_cases hk : kindN s = kindN t
  · cases s with
    | list l =>
      cases t <;> first | (simp [kindN] at hk; done) | skip
      rename_i r
      simp only [lev] at hl hl2
      simp only [VAt] at hu hv
      obtain ⟨A, c, xs, rfl, q1, q2, q3, q4⟩ := hu
      obtain ⟨A', c', ys, rfl, z1, z2, z3, z4⟩ := hv
      rw [show eqV (.list l) (.list r) = eqVL l r by simp only [eqV]]
      exact equal_kids d ih 6 (.inl rfl) l r A c xs A' c' ys w (by omega) (by omega) gs.2 gt.2 q1 q3 q4 z3 z4
    | tuple l =>
      cases t <;> first | (simp [kindN] at hk; done) | skip
      rename_i r
      simp only [lev] at hl hl2
      simp only [VAt] at hu hv
      obtain ⟨A, c, xs, rfl, q1, q2, q3, q4⟩ := hu
      obtain ⟨A', c', ys, rfl, z1, z2, z3, z4⟩ := hv
      rw [show eqV (.tuple l) (.tuple r) = eqVL l r by simp only [eqV]]
      exact equal_kids d ih 7 (.inr rfl) l r A c xs A' c' ys w (by omega) (by omega) gs.2 gt.2 q1 q3 q4 z3 z4
    | dict l =>
      cases t <;> first | (simp [kindN] at hk; done) | skip
      rename_i r
      simp only [lev] at hl hl2
      simp only [VAt] at hu hv
      obtain ⟨A, c, xs, rfl, q1, q2, q3, q4⟩ := hu
      obtain ⟨A', c', ys, rfl, z1, z2, z3, z4⟩ := hv
      obtain ⟨_, ev, kl, dl, gl⟩ := gs
      obtain ⟨_, ev2, kr, dr, gr⟩ := gt
      by_cases hlen : l.length = r.length
      · rw [show eqV (.dict l) (.dict r) = subD l r by simp [eqV, hlen]]
        rw [← hlen] at z3 ⊢
        exact equal_dict _ _ _ _ _ _ _ _ _ _ _ _ _ _ _ _ xs ys l r l.length d w q1 rfl hlen.symm ev q3 z3 q4 z4 kl kr dr (by omega) fun i j a b u v ha hb hru hrv W hW =>
          ih a b u v W (by have := lev_get l i a ha; omega) (by have := lev_get r j b hb; omega) (goodL_get l i a ha gl) (goodL_get r j b hb gr) (((q4.row ha hru).below hW).more hW.size) (((z4.row hb hrv).below hW).more hW.size)
      · rw [show eqV (.dict l) (.dict r) = false by simp [eqV, hlen]]
        exact equal_diff _ _ _ _ _ _ _ _ _ _ _ _ _ _ _ _ _ _ _ _ w rfl (.inr ⟨by simp, by rw [bne_iff_ne]; omega⟩)
    | set l =>
      cases t <;> first | (simp [kindN] at hk; done) | skip
      rename_i r
      simp only [lev] at hl hl2
      simp only [VAt] at hu hv
      obtain ⟨A, c, xs, rfl, q1, q2, q3, q4⟩ := hu
      obtain ⟨A', c', ys, rfl, z1, z2, z3, z4⟩ := hv
      obtain ⟨_, kl, dl, gl⟩ := gs
      obtain ⟨_, kr, dr, gr⟩ := gt
      by_cases hlen : l.length = r.length
      · rw [show eqV (.set l) (.set r) = l.all (fun x => r.any (fun y => eqS x y)) by simp [eqV, hlen]]
        rw [← hlen] at z3 ⊢
        exact equal_set _ _ _ _ _ _ _ _ _ _ _ _ _ _ _ _ l.length _ w fun W hW =>
          within_any _ _ _ _ _ _ _ _ _ _ _ _ _ _ _ _ _ _ _ xs ys l r d W q1 hlen.symm q1 ((q3.below hW).more hW.size) ((z3.below hW).more hW.size) ((q4.below hW).more hW.size) ((z4.below hW).more hW.size) kl kr (by omega)
      · rw [show eqV (.set l) (.set r) = false by simp [eqV, hlen]]
        exact equal_diff _ _ _ _ _ _ _ _ _ _ _ _ _ _ _ _ _ _ _ _ w rfl (.inr ⟨by simp, by rw [bne_iff_ne]; omega⟩)
    | none => cases t <;> first | (simp [kindN] at hk; done) | (exact absurd ⟨rfl, rfl⟩ hkey)
    | bool b => cases t <;> first | (simp [kindN] at hk; done) | (exact absurd ⟨rfl, rfl⟩ hkey)
    | int x => cases t <;> first | (simp [kindN] at hk; done) | (exact absurd ⟨rfl, rfl⟩ hkey)
    | float x => cases t <;> first | (simp [kindN] at hk; done) | (exact absurd ⟨rfl, rfl⟩ hkey)
    | str x => cases t <;> first | (simp [kindN] at hk; done) | (exact absurd ⟨rfl, rfl⟩ hkey)
    | bytes x => cases t <;> first | (simp [kindN] at hk; done) | (exact absurd ⟨rfl, rfl⟩ hkey)
  · rw [eqV_kinds s t hk hn]
    obtain ⟨neg1, A1, n1, c1, b1, t1, K1, m1, d1, eu⟩ := hu.shape
    obtain ⟨neg2, A2, n2, c2, b2, t2, K2, m2, d2, ev⟩ := hv.shape
    have hn2 : ((kindN s == 2 || kindN s == 3) && (kindN t == 2 || kindN t == 3)) = false := by rw [isNum_kind, isNum_kind]; exact hn
    subst eu ev
    exact equal_diff _ _ _ _ _ _ _ _ _ _ _ _ _ _ _ _ _ _ _ _ w hn2 (.inl (by rw [bne_iff_ne]; exact hk))
/-- The reference's Equal. -/
theorem spEqV_any : ∀ (d : Nat) (s t : S) (u v : Value) (w : World), lev s ≤ d → lev t ≤ d → good s → good t → VAt w w.heap.size s u → VAt w w.heap.size t v → Calls Tryz.prog 41 #[u, v] w (RetB w (eqV s t))
  | 0, s, _, _, _, _, hl, _, _, _, _, _ => by have := lev_pos s; omega
  | d + 1, s, t, u, v, w, hl, hl2, gs, gt, hu, hv => spEqV_step d (spEqV_any d) s t u v w hl hl2 gs gt hu hv
end Go.Proofs.YtkmeckimmfbkiaaGreatDoor
