/- The law of lengths. -/
import Derived.Test.YtdfpfnmbembpoaaGreatDoorJSCl4
import Derived.Test.YtdfpfnmbembpoaaGreatDoorLen
namespace Go.Proofs.YtdfpfnmbembpoaaGreatDoor
open Go Go.RowKit
set_option maxRecDepth 10000 in
theorem length_any (s : S) (v : Value) (w : World) (hv : VAt w w.heap.size s v) : Calls Tryz.prog 10 #[v] w fun e w' => e = .returned (.int .i64 (lenS s)) ∧ Below w.heap.size w w' := by
  obtain ⟨z, hz⟩ : ∃ z, z = lenS s := ⟨_, rfl⟩
  rw [← hz]
  have HZ := Lib.hid hz
  clear hz
  cases s <;> simp only [VAt] at hv
  case none =>
    subst hv
    unfold valV nilS noT
    go_enter Tryz.func10, Tryz.ntmps10
    go_wp2
    go_ret
    exact ⟨by rw [HZ.out]; rfl, (Below.refl _ _).alloc (Nat.le_refl _) _⟩
  case bool b =>
    subst hv
    unfold valV nilS noT
    go_enter Tryz.func10, Tryz.ntmps10
    go_wp2
    all_goals
      go_ret
      exact ⟨by rw [HZ.out]; rfl, (Below.refl _ _).alloc (Nat.le_refl _) _⟩
  case int x =>
    obtain ⟨A, c, l, rfl, _⟩ := hv
    unfold valV nilS noT
    go_enter Tryz.func10, Tryz.ntmps10
    go_wp2
    go_ret
    exact ⟨by rw [HZ.out]; rfl, (Below.refl _ _).alloc (Nat.le_refl _) _⟩
  case float f =>
    obtain ⟨rfl, _⟩ := hv
    unfold valV nilS noT
    go_enter Tryz.func10, Tryz.ntmps10
    go_wp2
    go_ret
    exact ⟨by rw [HZ.out]; rfl, (Below.refl _ _).alloc (Nat.le_refl _) _⟩
  case str t =>
    obtain ⟨rfl, _⟩ := hv
    unfold valV nilS
    go_enter Tryz.func10, Tryz.ntmps10
    go_wp2
    go_ret
    exact ⟨by rw [HZ.out]; rfl, (Below.refl _ _).alloc (Nat.le_refl _) _⟩
  case bytes t =>
    obtain ⟨rfl, _⟩ := hv
    unfold valV nilS
    go_enter Tryz.func10, Tryz.ntmps10
    go_wp2
    go_ret
    exact ⟨by rw [HZ.out]; rfl, (Below.refl _ _).alloc (Nat.le_refl _) _⟩
  case list l =>
    obtain ⟨A, c, xs, rfl, _⟩ := hv
    unfold valV nilS noT
    go_enter Tryz.func10, Tryz.ntmps10
    go_wp2
    go_ret
    exact ⟨by rw [HZ.out]; rfl, (Below.refl _ _).alloc (Nat.le_refl _) _⟩
  case tuple l =>
    obtain ⟨A, c, xs, rfl, _⟩ := hv
    unfold valV nilS noT
    go_enter Tryz.func10, Tryz.ntmps10
    go_wp2
    go_ret
    exact ⟨by rw [HZ.out]; rfl, (Below.refl _ _).alloc (Nat.le_refl _) _⟩
  case dict l =>
    obtain ⟨A, c, xs, rfl, h16, _⟩ := hv
    have hq : IntKind.i64.wrap (Int.tdiv ((l.length : Nat) : Int) 2) = ((l.length / 2 : Nat) : Int) := by
      rw [IntKind.wrap_i64, Int.tdiv_eq_ediv_of_nonneg (by omega)]; omega
    have hq2 : wrap64 (Int.tdiv ((l.length : Nat) : Int) 2) = ((l.length / 2 : Nat) : Int) := by
      rw [Int.tdiv_eq_ediv_of_nonneg (by omega)]; unfold wrap64; omega
    unfold valV nilS noT
    go_enter Tryz.func10, Tryz.ntmps10
    go_wp2
    go_ret
    exact ⟨by rw [HZ.out]; rfl, (Below.refl _ _).alloc (Nat.le_refl _) _⟩
  case set l =>
    obtain ⟨A, c, xs, rfl, _⟩ := hv
    unfold valV nilS noT
    go_enter Tryz.func10, Tryz.ntmps10
    go_wp2
    go_ret
    exact ⟨by rw [HZ.out]; rfl, (Below.refl _ _).alloc (Nat.le_refl _) _⟩
/-- The test of sizes. -/
def FitsR (w : World) (e : Ending) (w' : World) : Prop := ∃ q : Bool, e = .returned (.bool q) ∧ Below w.heap.size w w'
set_option maxRecDepth 10000 in
theorem fits_any (k : Int) (neg : Bool) (A : Option Addr) (n c : Nat) (b : Int) (t : ByteArray) (K : Option Addr) (m d : Nat) (w : World) :
    Calls Tryz.prog 5 #[.agg #[.int .i64 k, .bool neg, .slice A n c, .int .u64 b, .string t, .slice K m d]] w (FitsR w) := by
  by_cases h1 : (2147483647 : Int) < (n : Int)
  · go_enter Tryz.func5, Tryz.ntmps5
    go_wp2
    go_ret
    exact ⟨false, rfl, (Below.refl _ _).alloc (Nat.le_refl _) _⟩
  by_cases h2 : (2147483647 : Int) < (t.size : Int)
  · go_enter Tryz.func5, Tryz.ntmps5
    go_wp2
    go_ret
    exact ⟨false, rfl, (Below.refl _ _).alloc (Nat.le_refl _) _⟩
  by_cases h3 : (2147483647 : Int) < (m : Int)
  · go_enter Tryz.func5, Tryz.ntmps5
    go_wp2
    go_ret
    exact ⟨false, rfl, (Below.refl _ _).alloc (Nat.le_refl _) _⟩
  · go_enter Tryz.func5, Tryz.ntmps5
    go_wp2
    go_ret
    exact ⟨true, rfl, (Below.refl _ _).alloc (Nat.le_refl _) _⟩
set_option maxRecDepth 10000 in
theorem implLen_any (s : S) (v : Value) (w : World) (hl : lev s ≤ 10) (hg : good s) (hkt : KT w) (hkl : KL w) (hv : VAt w w.heap.size s v) :
    Calls Tryz.prog 9 #[v] w fun e w' => e = .returned (.tuple #[.int .i64 (lenS s), .bool true]) ∧ Below w.heap.size w w' := by
  have HV := Lib.hid (And.intro hl (And.intro hg (And.intro hkt (And.intro hkl hv))))
  obtain ⟨neg, A, n, c, b, t, K, m, d, rfl⟩ := hv.shape
  generalize kindN s = kd at HV ⊢
  clear hl hg hkt hkl hv
  go_enter Tryz.func9, Tryz.ntmps9
  go_wp2_with fail
  refine gen1 (M := fun W => Calls _ _ _ W _) fun W hB b1 hz => ?_
  have hz1 : w.heap.size < W.heap.size := by omega
  clear hz b1
  refine (value_any 10 s _ W (by omega) HV.out.1 HV.out.2.1 (HV.out.2.2.1.below hB) (HV.out.2.2.2.1.below hB) ((HV.out.2.2.2.2.below hB).more (by omega))).mono ?_
  rintro e w1 ⟨u, rfl, hB1, hF⟩
  have HU := Lib.hid hF.self
  have HB := Lib.hid (hB.trans (hB1.mono (by omega)))
  clear hB hB1 hF
  go_wp2_with fail
  refine (len_any s u w1 _ HU.out).mono ?_
  rintro e w2 ⟨rfl, rfl⟩
  go_wp2
  go_ret2
  exact ⟨rfl, HB.out⟩
set_option maxRecDepth 10000 in
theorem lenLaw_any (v : Value) (w : World) (hv : InVal w w.heap.size 3 v) (hkt : KT w) (hkl : KL w) : Calls Tryz.prog 4 #[v] w fun e w' => e = .returned (.bool true) ∧ Below w.heap.size w w' := by
  have HV := Lib.hid (And.intro hv (And.intro hkt hkl))
  obtain ⟨k, neg, A, n, c, b, t, K, m, d, rfl⟩ : ∃ k neg A n c b t K m d, v = .agg #[.int .i64 k, .bool neg, .slice A n c, .int .u64 b, .string t, .slice K m d] := by
    unfold InVal at hv
    obtain ⟨k, neg, A, l, c, bits, t, K, kn, kc, rfl, _⟩ := hv
    exact ⟨_, _, _, _, _, _, _, _, _, _, rfl⟩
  clear hv hkt hkl
  go_enter Tryz.func4, Tryz.ntmps4
  go_wp2_with fail
  refine gen1 (M := fun W => Calls _ _ _ W _) fun W hB b1 hz => ?_
  have hz1 : w.heap.size < W.heap.size := by omega
  clear hz
  refine (fits_any k neg A n c b t K m d W).mono ?_
  rintro e w1 ⟨q, rfl, hB1⟩
  have b2 := b1.below hB1 (by omega)
  have hB2 := hB.trans (hB1.mono (by omega))
  have hs1 := hB1.size
  obtain ⟨k0, k1, k2, k3, k4, k5, _, _, _, _, _, _⟩ := b2.c6
  have HB := Lib.hid hB2
  clear hB hB1 b1 b2 hB2
  cases q
  · go_wp2
    go_ret
    exact ⟨rfl, HB.out⟩
  · go_wp2_with fail
    refine (clean_any 3 (by omega) _ w1 ((HV.out.1.below HB.out).more HB.out.size)).mono ?_
    rintro e w2 ⟨s, hg, hl, v2, rfl, hv2, hB2⟩
    obtain ⟨ng6, A6, n6, c6, bb6, tt6, K6, m6, d6, rfl⟩ := hv2.six
    generalize kindN s = kd6 at hv2 ⊢
    have hs2 := hB2.size
    have hv2 := VN.toV (B := w2.heap.size) (fun b hb => by rcases hb with h | h; exact h.elim; exact h.2) _ _ hv2
    have HB2 := Lib.hid (HB.out.trans (hB2.mono (by omega)))
    have HV2 := Lib.hid (And.intro hg (And.intro hl hv2))
    clear hg hl hv2 hB2 k0 k1 k2 k3 k4 k5
    go_wp2_with fail
    refine gen1 (M := fun W => Calls _ _ _ W _) fun W3 hB3 b3 hz => ?_
    have hz3 : w2.heap.size < W3.heap.size := by omega
    clear hz
    have hB3w := HB2.out.trans (hB3.mono (by omega))
    refine (implLen_any s _ W3 (by have := HV2.out.2.1; omega) HV2.out.1 (HV.out.2.1.below hB3w) (HV.out.2.2.below hB3w) ((HV2.out.2.2.below hB3).more (by omega))).mono ?_
    rintro e w4 ⟨rfl, hB4⟩
    have b4 := b3.below hB4 (by omega)
    have hs4 := hB4.size
    obtain ⟨k0, k1, k2, k3, k4, k5, _, _, _, _, _, _⟩ := b4.c6
    have HB4 := Lib.hid (And.intro (hB3w.trans (hB4.mono (by have := hB3w.size; omega))) (hB3.trans (hB4.mono (by omega))))
    clear hB3 hB4 b3 b4 hB3w
    go_wp2_with fail
    refine (length_any s _ w4 ((HV2.out.2.2.below HB4.out.2).more HB4.out.2.size)).mono ?_
    rintro e w5 ⟨rfl, hB5⟩
    have HB5 := Lib.hid (HB4.out.1.trans (hB5.mono HB4.out.1.size))
    clear hB5
    go_wp2
    go_ret
    exact ⟨rfl, HB5.out⟩
end Go.Proofs.YtdfpfnmbembpoaaGreatDoor
