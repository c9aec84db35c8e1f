/- The reference's Hashable, Long and Find, of every value. Conditions: none. -/
import Derived.Test.YtkmeckimmfbkiaaGreatDoorKSEq
namespace Go.Proofs.YtkmeckimmfbkiaaGreatDoor
open Go Go.RowKit
set_option maxRecDepth 10000 in
set_option maxHeartbeats 1000000 in
theorem hashable_row (neg : Bool) (A : Option Addr) (n c : Nat) (b : Int) (t : ByteArray) (K : Option Addr) (m d : Nat) (xs : List Value) (R : Nat → Bool) (T : Bool) (w : World) (hm : m ≤ 16) (hx : Reads w w.heap.size 6 K m xs) (hF : ∀ i, i < m → R i = false → T = false) (hT : (∀ i, i < m → R i = true) → T = true)
    (ih : ∀ (i : Nat) (u : Value), i < m → RowV xs i u → ∀ W, Below w.heap.size w W → Calls Tryz.prog 40 #[u] W (RetB W (R i))) :
    Calls Tryz.prog 40 #[.agg #[.int .i64 7, .bool neg, .slice A n c, .int .u64 b, .string t, .slice K m d]] w (RetB w T) := by
  have HX := Lib.hid (And.intro hx ih)
  have HT := Lib.hid (And.intro hF hT)
  clear hx ih hF hT
  go_enter Tryz.func40, Tryz.ntmps40
  go_wp2_with fail
  refine gen1 (M := fun W => Code.wp _ _ _ _ W) fun W hB b1 hz => ?_
  have hz1 : w.heap.size < W.heap.size := by omega
  clear hz
  have HB := Lib.hid (And.intro hB b1)
  clear hB b1
  go_loopw [3] (fun vi wr => ∃ i : Nat, vi = .int .i64 i ∧ i ≤ m ∧ (∀ j, j < i → R j = true) ∧ Below W.heap.size W wr) (fun vi _ => m - (intOf vi).toNat)
  case atStart => exact ⟨0, rfl, by omega, fun j hj => by omega, Below.refl _ _⟩
  case round =>
    obtain ⟨i, rfl, hi, hall, hB⟩ := hrel
    obtain ⟨x0, x1, x2, x3, x4, x5, _, _, _, _, _, _⟩ := (HB.out.2.below hB (by omega)).c6
    rcases Nat.lt_or_ge i m with hlt | hge
    · have bi : (i : Int) < (m : Int) := by omega
      have wi : IntKind.i64.wrap ((i : Int) + 1) = (i : Int) + 1 := by rw [IntKind.wrap_i64]; omega
      obtain ⟨ad, p0, p1, p2, p3, p4, p5, rfl, had, hrow, hsix⟩ := HX.out.1.six2 hlt
      have hBW := HB.out.1.trans (hB.mono HB.out.1.size)
      have HC := Lib.hid (HX.out.2 i _ hlt hrow wr hBW)
      obtain ⟨g0, g1, g2, g3, g4, g5⟩ := hsix.below hBW had
      have HH := Lib.hid (And.intro hall hB)
      clear hsix hBW hall hB hrow
      go_wp2_with fail
      refine HC.out.mono ?_
      rintro e w5 ⟨rfl, hB5⟩
      have HB5 := Lib.hid (HH.out.2.trans (hB5.mono HH.out.2.size))
      clear hB5 HC
      rcases hRe : R i with _ | _
      · have HRe := Lib.hid (HT.out.1 i hlt hRe)
        clear hRe
        go_wp2
        go_ret
        exact ⟨by rw [HRe.out]; rfl, HB.out.1.trans (HB5.out.mono HB.out.1.size)⟩
      · have HRe := Lib.hid hRe
        clear hRe
        go_wp2
        exact ⟨⟨i + 1, by go_num, by omega, fun j hj => by
          rcases Nat.lt_or_ge j i with h | h
          · exact HH.out.1 j h
          · have hji : j = i := by omega
            rw [hji]; exact HRe.out, HB5.out⟩, by simp [intOf]; omega⟩
    · have bi : ¬ (i : Int) < (m : Int) := by omega
      have HH := Lib.hid hB
      have HRe := Lib.hid (HT.out.2 fun j hj => hall j (by omega))
      clear hB hall
      go_wp2
      go_ret
      exact ⟨by rw [HRe.out]; rfl, HB.out.1.trans (HH.out.mono HB.out.1.size)⟩
set_option maxRecDepth 10000 in
theorem hashable_flat (k : Int) (T : Bool) (neg : Bool) (A : Option Addr) (n c : Nat) (b : Int) (t : ByteArray) (K : Option Addr) (m d : Nat) (w : World) (hk : (k == 7) = false) (hT : decide (k < 6) = T) :
    Calls Tryz.prog 40 #[.agg #[.int .i64 k, .bool neg, .slice A n c, .int .u64 b, .string t, .slice K m d]] w (RetB w T) := by
  have HT := Lib.hid hT
  clear hT
  go_enter Tryz.func40, Tryz.ntmps40
  go_wp2
  go_ret
  exact ⟨by rw [← HT.out]; rfl, (Below.refl _ _).alloc (Nat.le_refl _) _⟩
theorem keyL_false {l : List S} {k : Nat} {a : S} (h : l[k]? = some a) (hk : keyS a = false) : keyL l = false := by
  rcases hl : keyL l with _ | _
  · rfl
  · rw [keyL_get l k a h hl] at hk; cases hk
theorem keyL_all : ∀ (l : List S), (∀ (k : Nat) (a : S), l[k]? = some a → keyS a = true) → keyL l = true
  | [], _ => rfl
  | a :: l, h => by
    simp only [keyL, Bool.and_eq_true]
    exact ⟨h 0 a rfl, keyL_all l fun k b hb => h (k + 1) b (by simpa using hb)⟩
theorem hashable_any : ∀ (d : Nat) (s : S) (v : Value) (w : World), lev s ≤ d → good s → VAt w w.heap.size s v → Calls Tryz.prog 40 #[v] w (RetB w (keyS s))
  | 0, s, _, _, hl, _, _ => by have := lev_pos s; omega
  | d + 1, s, v, w, hl, gs, hv => by
    by_cases h7 : kindN s = 7
    · cases s <;> first | (simp [kindN] at h7; done) | skip
      rename_i l
      simp only [lev] at hl
      simp only [VAt] at hv
      obtain ⟨A, c, xs, rfl, h16, hc, hx, hK⟩ := hv
      show Calls _ _ _ _ (RetB w (keyL l))
      refine hashable_row _ _ _ _ _ _ _ _ _ xs (fun i => match l[i]? with | some a => keyS a | none => true) (keyL l) w h16 hx ?_ ?_ ?_
      · intro i hi hR
        have ha := List.getElem?_eq_getElem hi
        simp only [ha] at hR
        exact keyL_false ha hR
      · intro hall
        refine keyL_all l fun k a ha => ?_
        have h := hall k (List.getElem?_eq_some_iff.1 ha).1
        simp only [ha] at h
        exact h
      · intro i u hi hrow W hW
        have ha := List.getElem?_eq_getElem hi
        simp only [ha]
        have hla := lev_get l i _ ha
        exact hashable_any d _ u W (by omega) (goodL_get l i _ ha gs.2) (((hK.row ha hrow).below hW).more hW.size)
    · obtain ⟨neg, A, n, c, b, t, K, m, dd, rfl⟩ := hv.shape
      refine hashable_flat _ _ _ _ _ _ _ _ _ _ _ w (by rw [beq_eq_false_iff_ne]; exact h7) ?_
      cases s <;> first | rfl | (exact absurd rfl h7)
set_option maxRecDepth 10000 in
set_option maxHeartbeats 1000000 in
theorem long_row (k : Int) (neg : Bool) (A : Option Addr) (n c : Nat) (b : Int) (t : ByteArray) (K : Option Addr) (m d : Nat) (xs : List Value) (w : World) (hm : m ≤ 16) (ht : t.size ≤ 60) (hx : Reads w w.heap.size 6 K m xs)
    (ih : ∀ (i : Nat) (u : Value), i < m → RowV xs i u → ∀ W, Below w.heap.size w W → Calls Tryz.prog 18 #[u] W (RetB W false)) :
    Calls Tryz.prog 18 #[.agg #[.int .i64 k, .bool neg, .slice A n c, .int .u64 b, .string t, .slice K m d]] w (RetB w false) := by
  have HX := Lib.hid (And.intro hx ih)
  have HD := Lib.hid (show decide ((60 : Int) < (t.size : Int)) = false by rw [decide_eq_false_iff_not]; omega)
  clear hx ih ht
  go_enter Tryz.func18, Tryz.ntmps18
  go_wp2_with fail
  refine gen1 (M := fun W => Code.wp _ _ _ _ W) fun W hB b1 hz => ?_
  have hz1 : w.heap.size < W.heap.size := by omega
  clear hz
  have HB := Lib.hid (And.intro hB b1)
  clear hB b1
  go_loopw [3] (fun vi wr => ∃ i : Nat, vi = .int .i64 i ∧ i ≤ m ∧ Below W.heap.size W wr) (fun vi _ => m - (intOf vi).toNat)
  case atStart => exact ⟨0, rfl, by omega, Below.refl _ _⟩
  case round =>
    obtain ⟨i, rfl, hi, hB⟩ := hrel
    obtain ⟨x0, x1, x2, x3, x4, x5, _, _, _, _, _, _⟩ := (HB.out.2.below hB (by omega)).c6
    rcases Nat.lt_or_ge i m with hlt | hge
    · have bi : (i : Int) < (m : Int) := by omega
      have wi : IntKind.i64.wrap ((i : Int) + 1) = (i : Int) + 1 := by rw [IntKind.wrap_i64]; omega
      obtain ⟨ad, p0, p1, p2, p3, p4, p5, rfl, had, hrow, hsix⟩ := HX.out.1.six2 hlt
      have hBW := HB.out.1.trans (hB.mono HB.out.1.size)
      have HC := Lib.hid (HX.out.2 i _ hlt hrow wr hBW)
      obtain ⟨g0, g1, g2, g3, g4, g5⟩ := hsix.below hBW had
      have HH := Lib.hid hB
      clear hsix hBW hB hrow
      go_wp2_with fail
      refine HC.out.mono ?_
      rintro e w5 ⟨rfl, hB5⟩
      have HB5 := Lib.hid (HH.out.trans (hB5.mono HH.out.size))
      clear hB5 HC
      go_wp2
      exact ⟨⟨i + 1, by go_num, by omega, HB5.out⟩, by simp [intOf]; omega⟩
    · have bi : ¬ (i : Int) < (m : Int) := by omega
      have HH := Lib.hid hB
      clear hB
      go_wp2
      go_ret
      exact ⟨by show Ending.returned (.bool (decide ((60 : Int) < (t.size : Int)))) = _; rw [HD.out], HB.out.1.trans (HH.out.mono HB.out.1.size)⟩
theorem long_any : ∀ (d : Nat) (s : S) (v : Value) (w : World), lev s ≤ d → good s → VAt w w.heap.size s v → Calls Tryz.prog 18 #[v] w (RetB w false)
  | 0, s, _, _, hl, _, _ => by have := lev_pos s; omega
  | d + 1, s, v, w, hl, gs, hv => by
    have flat : ∀ (k : Int) (neg : Bool) (A : Option Addr) (n c : Nat) (b : Int) (t : ByteArray), t.size ≤ 60 → Calls Tryz.prog 18 #[.agg #[.int .i64 k, .bool neg, .slice A n c, .int .u64 b, .string t, .slice none 0 0]] w (RetB w false) :=
      fun k neg A n c b t ht => long_row k neg A n c b t none 0 0 [] w (by omega) ht Reads.none_ fun i u hi => by omega
    have kids : ∀ (k : Int) (l : List S) (A : Option Addr) (c : Nat) (xs : List Value), l.length ≤ 16 → levL l ≤ d → goodL l → Reads w w.heap.size 6 A l.length xs → KidsV w w.heap.size l xs → Calls Tryz.prog 18 #[valV k false nilS 0 noT (.slice A l.length c)] w (RetB w false) :=
      fun k l A c xs h16 hlv gl hx hK => long_row k _ _ _ _ _ _ _ _ _ xs w h16 (by decide) hx fun i u hi hrow W hW => by
        have ha := List.getElem?_eq_getElem hi
        have hla := lev_get l i _ ha
        exact long_any d _ u W (by omega) (goodL_get l i _ ha gl) (((hK.row ha hrow).below hW).more hW.size)
    cases s with
    | none => simp only [VAt] at hv; subst hv; exact flat _ _ _ _ _ _ _ (by decide)
    | bool x => simp only [VAt] at hv; subst hv; exact flat _ _ _ _ _ _ _ (by decide)
    | int x => simp only [VAt] at hv; obtain ⟨A, c, l, rfl, _⟩ := hv; exact flat _ _ _ _ _ _ _ (by decide)
    | float x => simp only [VAt] at hv; obtain ⟨rfl, _⟩ := hv; exact flat _ _ _ _ _ _ _ (by decide)
    | str x => simp only [VAt] at hv; obtain ⟨rfl, ht⟩ := hv; exact flat _ _ _ _ _ _ _ ht
    | bytes x => simp only [VAt] at hv; obtain ⟨rfl, ht⟩ := hv; exact flat _ _ _ _ _ _ _ ht
    | list l => simp only [lev] at hl; simp only [VAt] at hv; obtain ⟨A, c, xs, rfl, h16, hc, hx, hK⟩ := hv; exact kids _ l A c xs h16 (by omega) gs.2 hx hK
    | tuple l => simp only [lev] at hl; simp only [VAt] at hv; obtain ⟨A, c, xs, rfl, h16, hc, hx, hK⟩ := hv; exact kids _ l A c xs h16 (by omega) gs.2 hx hK
    | dict l => simp only [lev] at hl; simp only [VAt] at hv; obtain ⟨A, c, xs, rfl, h16, hc, hx, hK⟩ := hv; exact kids _ l A c xs h16 (by omega) gs.2.2.2.2 hx hK
    | set l => simp only [lev] at hl; simp only [VAt] at hv; obtain ⟨A, c, xs, rfl, h16, hc, hx, hK⟩ := hv; exact kids _ l A c xs h16 (by omega) gs.2.2.2 hx hK
/-- Find, among any values. -/
theorem findV_any (l : List S) (n c : Nat) (A : Option Addr) (xs : List Value) (t : S) (k0 k1 k2 k3 k4 k5 : Value) (w : World) (hn : l.length = n) (hn16 : n ≤ 16) (hr : Reads w w.heap.size 6 A n xs) (hK : KidsV w w.heap.size l xs) (hk : VAt w w.heap.size t (.agg #[k0, k1, k2, k3, k4, k5])) (hl : levL l ≤ 10) (hl2 : lev t ≤ 10) (gl : goodL l) (gt : good t) (h1 : ∀ u ∈ [k0, k1, k2, k3, k4, k5], u.oneCell' = true) :
    Calls Tryz.prog 23 #[.slice A n c, .int .i64 1, .agg #[k0, k1, k2, k3, k4, k5]] w fun e w' => ∃ r : Int, e = .returned (.int .i64 r) ∧ decide (0 ≤ r) = (l.any fun a => eqV a t) ∧ Below w.heap.size w w' := by
  refine (find_any 1 n c A xs k0 k1 k2 k3 k4 k5 (fun i => match l[i]? with | some a => eqV a t | none => false) w (by decide) (by decide) hn16 hr h1 fun i v hi hrow W hW => ?_).mono ?_
  · have ha := List.getElem?_eq_getElem (show i < l.length by omega)
    simp only [ha]
    have hla := lev_get l i _ ha
    exact spEqV_any 10 _ t v _ W (by omega) hl2 (goodL_get l i _ ha gl) gt (((hK.row ha hrow).below hW).more hW.size) ((hk.below hW).more hW.size)
  · rintro e w' ⟨r, rfl, hB, h⟩
    refine ⟨r, rfl, ?_, hB⟩
    rcases h with ⟨rfl, hall⟩ | ⟨i, rfl, hi, _, hR⟩
    · rw [show (l.any fun a => eqV a t) = false from List.any_eq_false.2 fun a ha => by
        obtain ⟨k, hk, rfl⟩ := List.getElem_of_mem ha
        have h := hall k (by omega) (Nat.mod_one k)
        rw [List.getElem?_eq_getElem hk] at h
        simp only at h
        rw [h]; simp]
      rfl
    · have ha := List.getElem?_eq_getElem (show i < l.length by omega)
      simp only [ha] at hR
      rw [show (l.any fun a => eqV a t) = true from List.any_eq_true.2 ⟨_, List.mem_of_getElem? ha, hR⟩]
      simp
end Go.Proofs.YtkmeckimmfbkiaaGreatDoor
