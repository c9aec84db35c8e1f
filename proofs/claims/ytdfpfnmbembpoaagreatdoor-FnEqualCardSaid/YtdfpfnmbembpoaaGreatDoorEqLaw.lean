/- FnEqual's law: the thin package's Equal, both ways round and of a value with itself, against the reference's Equal. Conditions: the package variables karatsubaThreshold and CompareLimit hold 40 and 10. -/
import Derived.Test.YtdfpfnmbembpoaaGreatDoorKTwo
import Derived.Test.YtdfpfnmbembpoaaGreatDoorJSCl4
import Derived.Test.YtdfpfnmbembpoaaGreatDoorKCmp
import Derived.Test.YtdfpfnmbembpoaaGreatDoorKVal
import Derived.Test.YtdfpfnmbembpoaaGreatDoorKEq
namespace Go.Proofs.YtdfpfnmbembpoaaGreatDoor
open Go Go.RowKit
/-- The test of sizes. -/
def FitsR (w : World) (e : Ending) (w' : World) : Prop := ∃ q : Bool, e = .returned (.bool q) ∧ Below w.heap.size w w'
set_option maxRecDepth 10000 in
theorem fits_any (k : Int) (neg : Bool) (A : Option Addr) (n c : Nat) (b : Int) (t : ByteArray) (K : Option Addr) (m d : Nat) (w : World) :
    Calls Tryz.prog 5 #[.agg #[.int .i64 k, .bool neg, .slice A n c, .int .u64 b, .string t, .slice K m d]] w (FitsR w) := by
  by_cases h1 : (2147483647 : Int) < (n : Int)
  · go_enter Tryz.func5, Tryz.ntmps5
    go_wp2
    go_ret
    exact ⟨false, rfl, (Below.refl _ _).alloc (Nat.le_refl _) _⟩
  by_cases h2 : (2147483647 : Int) < (t.size : Int)
  · go_enter Tryz.func5, Tryz.ntmps5
    go_wp2
    go_ret
    exact ⟨false, rfl, (Below.refl _ _).alloc (Nat.le_refl _) _⟩
  by_cases h3 : (2147483647 : Int) < (m : Int)
  · go_enter Tryz.func5, Tryz.ntmps5
    go_wp2
    go_ret
    exact ⟨false, rfl, (Below.refl _ _).alloc (Nat.le_refl _) _⟩
  · go_enter Tryz.func5, Tryz.ntmps5
    go_wp2
    go_ret
    exact ⟨true, rfl, (Below.refl _ _).alloc (Nat.le_refl _) _⟩
theorem wp_region_inv' {P : Program} {ops : Array Oper} {Q : Exit → Act → World → Prop} {id : Nat} {a : Act} {w : World} (hm : P.follows .mixedOrders = true) (I : Act → Array Bool → Act → World → Prop)
    (h0 : I a (Array.replicate ops.size false) a w.drew)
    (hstep : ∀ (l : Array Bool) (a' : Act) (w : World) (i : Nat), i ∈ Region.ready .any ops l → I a l a' w → wpOp P ops Q i (fun a' w' => I a (l.setIfInBounds i true) a' w') a' w)
    (hdone : ∀ (l : Array Bool) (a' : Act) (w : World), Region.ready .any ops l = [] → I a l a' w → Q .normal a' w) : (Code.region id ops true).wp P Q a w :=
  wp_region_inv hm (I a) h0 hstep hdone
/-- What the thin package's Equal answers. -/
def ImplEq : Prop := ∀ (s t : S) (x y : Value) (w : World), lev s ≤ 10 → lev t ≤ 10 → good s → good t → KT w → KL w → VAt w w.heap.size s x → VAt w w.heap.size t y →
  Calls Tryz.prog 7 #[x, y] w fun e w' => e = .returned (.tuple #[.bool (eqV s t), .bool true, .bool true]) ∧ Below w.heap.size w w'
/-- What the reference's Equal answers. -/
def SpecEq : Prop := ∀ (s t : S) (x y : Value) (w : World), lev s ≤ 10 → lev t ≤ 10 → good s → good t → VAt w w.heap.size s x → VAt w w.heap.size t y →
  Calls Tryz.prog 8 #[x, y] w (RetB w (eqV s t))
set_option maxRecDepth 10000 in
set_option maxHeartbeats 1000000 in
theorem implEqual_any : ImplEq := by
  intro s t x y w hl hl2 gs gt hkt hkl hx hy
  have HV := Lib.hid (And.intro hl (And.intro hl2 (And.intro gs (And.intro gt (And.intro hkt (And.intro hkl (And.intro hx hy)))))))
  obtain ⟨neg, A, n, c, b, u, K, m, d, rfl⟩ := hx.shape
  obtain ⟨neg', A', n', c', b', u', K', m', d', rfl⟩ := hy.shape
  generalize hR : eqV s t = R
  generalize kindN s = kd at HV ⊢
  generalize kindN t = kd' at HV ⊢
  have HR := Lib.hid hR
  clear hl hl2 gs gt hkt hkl hx hy hR
  go_enter Tryz.func7, Tryz.ntmps7
  go_wp2_with fail
  refine gen2 (M := fun W => Calls _ _ _ W _) fun W hB b1 b2 hz => ?_
  have hz1 : w.heap.size + 1 < W.heap.size := by omega
  clear hz b1
  refine (valueD_any 10 s _ W (by omega) HV.out.1 HV.out.2.2.1 (HV.out.2.2.2.2.1.below hB) (HV.out.2.2.2.2.2.1.below hB) ((HV.out.2.2.2.2.2.2.1.below hB).more (by omega))).mono ?_
  rintro e w1 ⟨v, rfl, hB1, hF⟩
  have b3 := b2.below hB1 (by omega)
  obtain ⟨k0, k1, k2, k3, k4, k5, _, _, _, _, _, _⟩ := b3.c6
  have HB := Lib.hid (hB.trans (hB1.mono (by omega)))
  have HF := Lib.hid hF.self
  clear hB hB1 hF b2 b3
  go_wp2_with fail
  refine (valueD_any 10 t _ w1 (by omega) HV.out.2.1 HV.out.2.2.2.1 (HV.out.2.2.2.2.1.below HB.out) (HV.out.2.2.2.2.2.1.below HB.out) ((HV.out.2.2.2.2.2.2.2.below HB.out).more HB.out.size)).mono ?_
  rintro e w2 ⟨v', rfl, hB2, hF2⟩
  have HB2 := Lib.hid (HB.out.trans (hB2.mono HB.out.size))
  have HE := Lib.hid (equalV_any s t v v' w2 HV.out.1 HV.out.2.2.1 HV.out.2.2.2.1 (HV.out.2.2.2.2.1.below HB2.out) (HV.out.2.2.2.2.2.1.below HB2.out) ((HF.out.below hB2).more hB2.size) hF2.self)
  clear hB2 hF2 HF k0 k1 k2 k3 k4 k5 HV
  go_wp2_with fail
  refine HE.out.mono ?_
  rintro e w3 ⟨rfl, hB3⟩
  have HB3 := Lib.hid (HB2.out.trans (hB3.mono HB2.out.size))
  clear hB3 HE
  rw [HR.out]
  clear HR
  cases R
  · go_wp2_with fail
    go_quiet (fail)
    go_wp2
    go_ret3
    exact ⟨rfl, HB3.out.drewN_ _⟩
  · go_wp2_with fail
    go_quiet (fail)
    go_wp2
    go_ret3
    exact ⟨rfl, HB3.out.drewN_ _⟩
set_option maxRecDepth 10000 in
set_option maxHeartbeats 8000000 in
theorem eqLaw_gen (hF : ∀ (k : Int) (neg : Bool) (A : Option Addr) (n c : Nat) (b : Int) (t : ByteArray) (K : Option Addr) (m d : Nat) (w : World), Calls Tryz.prog 5 #[.agg #[.int .i64 k, .bool neg, .slice A n c, .int .u64 b, .string t, .slice K m d]] w (FitsR w)) (hC : CleanC 3) (hI : ImplEq) (hR : SpecEq) (x y : Value) (w : World) (hkt : KT w) (hkl : KL w) (hx : InVal w w.heap.size 3 x) (hy : InVal w w.heap.size 3 y) : Calls Tryz.prog 3 #[x, y] w fun e w' => e = .returned (.bool true) ∧ Below w.heap.size w w' := by
  have HV := Lib.hid (And.intro hx (And.intro hy (And.intro hF hC)))
  have HE := Lib.hid (And.intro hI (And.intro hR (And.intro hkt hkl)))
  obtain ⟨k, neg, A, n, c, b, t, K, m, d, rfl⟩ : ∃ k neg A n c b t K m d, x = .agg #[.int .i64 k, .bool neg, .slice A n c, .int .u64 b, .string t, .slice K m d] := by
    unfold InVal at hx
    obtain ⟨k, neg, A, l, c, bits, t, K, kn, kc, rfl, _⟩ := hx
    exact ⟨_, _, _, _, _, _, _, _, _, _, rfl⟩
  obtain ⟨k', neg', A', n', c', b', t', K', m', d', rfl⟩ : ∃ k neg A n c b t K m d, y = .agg #[.int .i64 k, .bool neg, .slice A n c, .int .u64 b, .string t, .slice K m d] := by
    unfold InVal at hy
    obtain ⟨k, neg, A, l, c, bits, t, K, kn, kc, rfl, _⟩ := hy
    exact ⟨_, _, _, _, _, _, _, _, _, _, rfl⟩
  clear hx hy hF hC hI hR hkt hkl
  go_enter Tryz.func3, Tryz.ntmps3
  go_wp2_with fail
  refine gen2 (M := fun W => Calls _ _ _ W _) fun W hB b1 b2 hz => ?_
  have hz1 : w.heap.size + 1 < W.heap.size := by omega
  clear hz
  refine (HV.out.2.2.1 k neg A n c b t K m d W).mono ?_
  rintro e w1 ⟨q, rfl, hB1⟩
  have b3 := b1.below hB1 (by omega)
  have b4 := b2.below hB1 (by omega)
  have hB2 := hB.trans (hB1.mono (by omega))
  have hs1 := hB1.size
  have hz2 : w.heap.size + 1 < w1.heap.size := by omega
  have HB := Lib.hid hB2
  have BB := Lib.hid (And.intro b3 b4)
  clear hB hB1 b1 b2 hB2 hs1 hz1
  obtain ⟨k0, k1, k2, k3, k4, k5, _, _, _, _, _, _⟩ := b3.c6
  obtain ⟨l0, l1, l2, l3, l4, l5, _, _, _, _, _, _⟩ := b4.c6
  clear b3 b4
  cases q
  · go_wp2
    go_ret
    exact ⟨rfl, HB.out⟩
  · go_wp2_with fail
    refine (HV.out.2.2.1 k' neg' A' n' c' b' t' K' m' d' w1).mono ?_
    rintro e w2 ⟨q, rfl, hB2⟩
    cases q
    · have HB2 := Lib.hid (HB.out.trans (hB2.mono (by omega)))
      clear hB2
      go_wp2
      go_ret
      exact ⟨rfl, HB2.out⟩
    · have b3 := BB.out.1.below hB2 (by omega)
      have b4 := BB.out.2.below hB2 (by omega)
      have HB2 := Lib.hid (And.intro b3 (And.intro b4 (And.intro (HB.out.trans (hB2.mono (by omega))) (show w.heap.size + 1 < w2.heap.size from Nat.lt_of_lt_of_le hz2 hB2.size))))
      clear hB2 b3 b4 k0 k1 k2 k3 k4 k5 l0 l1 l2 l3 l4 l5
      go_wp2_with fail
      have HI := Lib.hid (And.intro HV.out.1 HV.out.2.1)
      have HC := Lib.hid HV.out.2.2.2
      clear HV HB BB
      refine wp_region_inv' (by kernel_rfl) (fun a0 l a w' => ∃ v25 v26 v27 v28 v5 v6, a = (((((a0.put (some 25) v25).put (some 26) v26).put (some 27) v27).put (some 28) v28).put (some 5) v5).put (some 6) v6 ∧
        ((∃ b0 b1 b2 b3 b4 b5, l = #[b0, b1, b2, b3, b4, b5, false, false] ∧ (b3 = true → b2 = true) ∧ StA w2.heap.size w2 4 4 (.agg #[.int .i64 k, .bool neg, .slice A n c, .int .u64 b, .string t, .slice K m d]) (.agg #[.int .i64 k', .bool neg', .slice A' n' c', .int .u64 b', .string t', .slice K' m' d']) b0 b1 b2 b3 b4 b5 v25 v26 v27 v28 v5 v6 w') ∨
         (l = #[true, true, true, true, true, true, true, false] ∧ StB w2.heap.size w2 4 4 v26 v28 v5 v6 w') ∨
         (l = #[true, true, true, true, true, true, true, true] ∧ StC w2.heap.size w2 4 4 v26 v28 v5 v6 w'))) ?_ ?_ ?_
      · exact ⟨undef, undef, undef, undef, undef, undef, rfl, .inl ⟨false, false, false, false, false, false, rfl, fun e => by simp at e, StA.start (Nat.le_refl _) (Below.refl _ _).drew⟩⟩
      · intro l a w3 i hi hI
        obtain ⟨v25, v26, v27, v28, v5, v6, rfl, hI⟩ := hI
        have h8 : i < 8 := ready_lt hi
        generalize Exit.then _ _ = Q
        obtain rfl | rfl | rfl | rfl | rfl | rfl | rfl | rfl : i = 0 ∨ i = 1 ∨ i = 2 ∨ i = 3 ∨ i = 4 ∨ i = 5 ∨ i = 6 ∨ i = 7 := by omega
        · rcases hI with ⟨b0, b1, b2, b3, b4, b5, rfl, hcl, hst⟩ | ⟨rfl, hst⟩ | ⟨rfl, hst⟩
          rotate_left
          · exact absurd (ready_at hi rfl).1 (by decide)
          · exact absurd (ready_at hi rfl).1 (by decide)
          have bl := HB2.out.1.below hst.1 (HB2.out.1).lt
          obtain ⟨k0, k1, k2, k3, k4, k5, _, _, _, _, _, _⟩ := bl.c6
          have HS := Lib.hid (And.intro hcl hst)
          clear bl hst hcl hi
          refine wpOp_step rfl fun K' hK' => ?_
          have HK := Lib.hid hK'
          clear hK'
          go_simp
          exact HK.out _ _ ⟨_, v26, v27, v28, v5, v6, rfl, .inl ⟨true, b1, b2, b3, b4, b5, rfl, HS.out.1, HS.out.2.load1⟩⟩
        · rcases hI with ⟨b0, b1, b2, b3, b4, b5, rfl, hcl, hst⟩ | ⟨rfl, hst⟩ | ⟨rfl, hst⟩
          rotate_left
          · exact absurd (ready_at hi rfl).1 (by decide)
          · exact absurd (ready_at hi rfl).1 (by decide)
          have e0 : b0 = true := (ready_at hi rfl).2 ⟨0, .data⟩ (by simp) rfl
          obtain rfl := hst.2.2.1 e0
          have hBw := HB2.out.2.2.1.trans (hst.1.mono HB2.out.2.2.1.size)
          have HIN := Lib.hid ((HI.out.1.below hBw).more hBw.size)
          have HS := Lib.hid (And.intro hcl hst)
          clear hst hcl hi hBw
          refine wpOp_step rfl fun K' hK' => ?_
          have HK := Lib.hid hK'
          clear hK'
          go_simp
          refine (HC.out _ w3 HIN.out).mono ?_
          intro e w4 h
          obtain ⟨v, rfl, hB, hm⟩ := MadeV.of HS.out.2.2.1 h
          exact HK.out _ _ ⟨_, v, v27, v28, v5, v6, rfl, .inl ⟨b0, true, b2, b3, b4, b5, rfl, HS.out.1, HS.out.2.call1 hB hm⟩⟩
        · rcases hI with ⟨b0, b1, b2, b3, b4, b5, rfl, hcl, hst⟩ | ⟨rfl, hst⟩ | ⟨rfl, hst⟩
          rotate_left
          · exact absurd (ready_at hi rfl).1 (by decide)
          · exact absurd (ready_at hi rfl).1 (by decide)
          have bl := HB2.out.2.1.below hst.1 (HB2.out.2.1).lt
          obtain ⟨k0, k1, k2, k3, k4, k5, _, _, _, _, _, _⟩ := bl.c6
          have HS := Lib.hid (And.intro hcl hst)
          clear bl hst hcl hi
          refine wpOp_step rfl fun K' hK' => ?_
          have HK := Lib.hid hK'
          clear hK'
          go_simp
          exact HK.out _ _ ⟨v25, v26, _, v28, v5, v6, rfl, .inl ⟨b0, b1, true, b3, b4, b5, rfl, fun _ => rfl, HS.out.2.load2⟩⟩
        · rcases hI with ⟨b0, b1, b2, b3, b4, b5, rfl, hcl, hst⟩ | ⟨rfl, hst⟩ | ⟨rfl, hst⟩
          rotate_left
          · exact absurd (ready_at hi rfl).1 (by decide)
          · exact absurd (ready_at hi rfl).1 (by decide)
          have e0 : b2 = true := (ready_at hi rfl).2 ⟨2, .data⟩ (by simp) rfl
          obtain rfl := hst.2.2.2.1 e0
          have hBw := HB2.out.2.2.1.trans (hst.1.mono HB2.out.2.2.1.size)
          have HIN := Lib.hid ((HI.out.2.below hBw).more hBw.size)
          have HS := Lib.hid (And.intro hcl hst)
          clear hst hcl hi hBw
          refine wpOp_step rfl fun K' hK' => ?_
          have HK := Lib.hid hK'
          clear hK'
          go_simp
          refine (HC.out _ w3 HIN.out).mono ?_
          intro e w4 h
          obtain ⟨v, rfl, hB, hm⟩ := MadeV.of HS.out.2.2.1 h
          exact HK.out _ _ ⟨v25, v26, _, v, v5, v6, rfl, .inl ⟨b0, b1, b2, true, b4, b5, rfl, fun _ => e0, HS.out.2.call2 hB hm⟩⟩
        · rcases hI with ⟨b0, b1, b2, b3, b4, b5, rfl, hcl, hst⟩ | ⟨rfl, hst⟩ | ⟨rfl, hst⟩
          rotate_left
          · exact absurd (ready_at hi rfl).1 (by decide)
          · exact absurd (ready_at hi rfl).1 (by decide)
          have HS := Lib.hid (And.intro hcl hst)
          clear hst hcl hi
          refine wpOp_step rfl fun K' hK' => ?_
          have HK := Lib.hid hK'
          clear hK'
          go_simp
          exact HK.out _ _ ⟨v25, v26, v27, v28, _, v6, rfl, .inl ⟨b0, b1, b2, b3, true, b5, rfl, HS.out.1, HS.out.2.alloc1⟩⟩
        · rcases hI with ⟨b0, b1, b2, b3, b4, b5, rfl, hcl, hst⟩ | ⟨rfl, hst⟩ | ⟨rfl, hst⟩
          rotate_left
          · exact absurd (ready_at hi rfl).1 (by decide)
          · exact absurd (ready_at hi rfl).1 (by decide)
          have HS := Lib.hid (And.intro hcl hst)
          clear hst hcl hi
          refine wpOp_step rfl fun K' hK' => ?_
          have HK := Lib.hid hK'
          clear hK'
          go_simp
          exact HK.out _ _ ⟨v25, v26, v27, v28, v5, _, rfl, .inl ⟨b0, b1, b2, b3, b4, true, rfl, HS.out.1, HS.out.2.alloc2⟩⟩
        · rcases hI with ⟨b0, b1, b2, b3, b4, b5, rfl, hcl, hst⟩ | ⟨rfl, hst⟩ | ⟨rfl, hst⟩
          rotate_left
          · exact absurd (ready_at hi rfl).1 (by decide)
          · exact absurd (ready_at hi rfl).1 (by decide)
          obtain ⟨_, hr⟩ := ready_at hi rfl
          obtain rfl : b0 = true := hr ⟨0, .phase⟩ (by simp) rfl
          obtain rfl : b1 = true := hr ⟨1, .phase⟩ (by simp) rfl
          obtain rfl : b3 = true := hr ⟨3, .chain⟩ (by simp) rfl
          obtain rfl : b4 = true := hr ⟨4, .phase⟩ (by simp) rfl
          obtain rfl : b5 = true := hr ⟨5, .phase⟩ (by simp) rfl
          obtain rfl : b2 = true := hcl rfl
          clear hr hi hcl
          have HS := Lib.hid hst
          obtain ⟨_, _, h3, h4, lo1, hi1, lo2, hi2, p5, p6, m1, m2, r1, r2, _⟩ := hst
          obtain ⟨z0, z1, z2, z3, z4, z5, z6, z7, z8, z9, rfl⟩ := (m1 rfl).six
          obtain ⟨rfl, _, _, bp⟩ := r1 rfl
          have BP := Lib.hid bp
          obtain ⟨k0, k1, k2, k3, k4, k5, f0, f1, f2, f3, f4, f5⟩ := bp.c6
          clear m1 m2 r1 r2 bp h3 h4
          refine wpOp_step rfl fun K' hK' => ?_
          have HK := Lib.hid hK'
          clear hK'
          go_simp
          refine gen_set6 (M := fun V => K' _ V) BP.out fun W6 b6 hg6 _ => ?_
          exact HK.out _ _ ⟨v25, _, v27, v28, _, v6, rfl, .inr (.inl ⟨rfl, HS.out.store rfl rfl b6 hg6⟩)⟩
        · rcases hI with ⟨b0, b1, b2, b3, b4, b5, rfl, hcl, hst⟩ | ⟨rfl, hst⟩ | ⟨rfl, hst⟩
          · exact absurd ((ready_at hi rfl).2 ⟨6, .phase⟩ (by simp) rfl) (by simp)
          rotate_left
          · exact absurd (ready_at hi rfl).1 (by decide)
          clear hi
          have HS := Lib.hid hst
          obtain ⟨_, _, lo1, hi1, lo2, hi2, p5, p6, x0, x1, x2, x3, x4, x5, h3, m1, m2, r1, r2, _⟩ := hst
          obtain ⟨z0, z1, z2, z3, z4, z5, z6, z7, z8, z9, rfl⟩ := m2.six
          obtain ⟨rfl, _, _, bp⟩ := r2
          have BP := Lib.hid bp
          obtain ⟨k0, k1, k2, k3, k4, k5, f0, f1, f2, f3, f4, f5⟩ := bp.c6
          clear m1 m2 r1 bp h3
          refine wpOp_step rfl fun K' hK' => ?_
          have HK := Lib.hid hK'
          clear hK'
          go_simp
          refine gen_set6 (M := fun V => K' _ V) BP.out fun W6 b6 hg6 _ => ?_
          exact HK.out _ _ ⟨v25, v26, v27, _, v5, _, rfl, .inr (.inr ⟨rfl, HS.out.store rfl rfl b6 hg6⟩)⟩
      · intro l a w3 hi hI
        obtain ⟨v25, v26, v27, v28, v5, v6, rfl, hI⟩ := hI
        rcases hI with ⟨b0, b1, b2, b3, b4, b5, rfl, _, _⟩ | ⟨rfl, _⟩ | ⟨rfl, hst⟩
        · cases b0 <;> cases b1 <;> cases b2 <;> cases b3 <;> cases b4 <;> cases b5 <;> exact absurd hi (by decide +kernel)
        · exact absurd hi (by decide +kernel)
        clear hi
        obtain ⟨hB3, hn3, lo1, hi1, lo2, hi2, p5, p6, x0, x1, x2, x3, x4, x5, y0, y1, y2, y3, y4, y5, rfl, rfl, m1, m2, ⟨rfl, _, hp5, bx⟩, ⟨rfl, _, hp6, by0⟩, _⟩ := hst
        obtain ⟨s, gs, ls, _, hs1, vs⟩ := m1
        obtain ⟨s', gt, lt, _, ht1, vt⟩ := m2
        have VX : VAt w3 w3.heap.size s (.agg #[x0, x1, x2, x3, x4, x5]) := VN.toV (B := w3.heap.size) (fun b hb => by rcases hb with h | h; exact h.elim; omega) _ _ vs
        have VY : VAt w3 w3.heap.size s' (.agg #[y0, y1, y2, y3, y4, y5]) := VN.toV (B := w3.heap.size) (fun b hb => by rcases hb with h | h; exact h.elim; omega) _ _ vt
        have hBw := HB2.out.2.2.1.trans (hB3.mono HB2.out.2.2.1.size)
        have HX := Lib.hid (And.intro gs (And.intro gt (And.intro VX (And.intro VY (And.intro (show lev s ≤ 10 by omega) (show lev s' ≤ 10 by omega))))))
        have HK := Lib.hid (And.intro (HE.out.2.2.1.below hBw) (HE.out.2.2.2.below hBw))
        have HBX := Lib.hid (And.intro bx by0)
        have HBW := Lib.hid hBw
        obtain ⟨k0, k1, k2, k3, k4, k5, _, _, _, _, _, _⟩ := bx.c6
        obtain ⟨l0, l1, l2, l3, l4, l5, _, _, _, _, _, _⟩ := by0.c6
        clear hB3 hn3 gs ls vs gt lt vt VX VY hBw bx by0 hs1 ht1
        simp only [Act.put, List.setIfInBounds_toArray, List.set_cons_zero, List.set_cons_succ]
        go_wp2_with fail
        refine (HE.out.1 s s' _ _ w3 HX.out.2.2.2.2.1 HX.out.2.2.2.2.2 HX.out.1 HX.out.2.1 HK.out.1 HK.out.2 HX.out.2.2.1 HX.out.2.2.2.1).mono ?_
        rintro e w4 ⟨rfl, hB4⟩
        obtain ⟨k0, k1, k2, k3, k4, k5, _, _, _, _, _, _⟩ := (HBX.out.1.below hB4 hp5).c6
        obtain ⟨l0, l1, l2, l3, l4, l5, _, _, _, _, _, _⟩ := (HBX.out.2.below hB4 hp6).c6
        have HB4 := Lib.hid hB4
        clear hB4
        go_wp2_with fail
        refine (HE.out.1 s' s _ _ w4 HX.out.2.2.2.2.2 HX.out.2.2.2.2.1 HX.out.2.1 HX.out.1 (HK.out.1.below HB4.out) (HK.out.2.below HB4.out) ((HX.out.2.2.2.1.below HB4.out).more HB4.out.size) ((HX.out.2.2.1.below HB4.out).more HB4.out.size)).mono ?_
        rintro e w5 ⟨rfl, hB5⟩
        replace hB5 := HB4.out.trans (hB5.mono HB4.out.size)
        obtain ⟨k0, k1, k2, k3, k4, k5, _, _, _, _, _, _⟩ := (HBX.out.1.below hB5 hp5).c6
        obtain ⟨l0, l1, l2, l3, l4, l5, _, _, _, _, _, _⟩ := (HBX.out.2.below hB5 hp6).c6
        have HB5 := Lib.hid hB5
        clear hB5
        go_wp2_with fail
        refine (HE.out.1 s s _ _ w5 HX.out.2.2.2.2.1 HX.out.2.2.2.2.1 HX.out.1 HX.out.1 (HK.out.1.below HB5.out) (HK.out.2.below HB5.out) ((HX.out.2.2.1.below HB5.out).more HB5.out.size) ((HX.out.2.2.1.below HB5.out).more HB5.out.size)).mono ?_
        rintro e w6 ⟨rfl, hB6⟩
        replace hB6 := HB5.out.trans (hB6.mono HB5.out.size)
        obtain ⟨k0, k1, k2, k3, k4, k5, _, _, _, _, _, _⟩ := (HBX.out.1.below hB6 hp5).c6
        obtain ⟨l0, l1, l2, l3, l4, l5, _, _, _, _, _, _⟩ := (HBX.out.2.below hB6 hp6).c6
        have HB6 := Lib.hid hB6
        clear hB6
        go_wp2_with fail
        refine (HE.out.2.1 s s' _ _ w6 HX.out.2.2.2.2.1 HX.out.2.2.2.2.2 HX.out.1 HX.out.2.1 ((HX.out.2.2.1.below HB6.out).more HB6.out.size) ((HX.out.2.2.2.1.below HB6.out).more HB6.out.size)).mono ?_
        rintro e w7 ⟨rfl, hB7⟩
        replace hB7 := HB6.out.trans (hB7.mono HB6.out.size)
        have HB7 := Lib.hid (HBW.out.trans (hB7.mono HBW.out.size))
        have e1 := eqV_symm HX.out.2.1 HX.out.1
        have e2 := eqV_refl s HX.out.1
        rw [e1, e2]
        clear hB7 k0 k1 k2 k3 k4 k5 l0 l1 l2 l3 l4 l5 e1 e2
        generalize eqV s s' = R
        cases R
        · go_wp2
          go_ret
          exact ⟨rfl, HB7.out⟩
        · go_wp2
          go_ret
          exact ⟨rfl, HB7.out⟩
theorem eqLaw_any (x y : Value) (w : World) (hx : InVal w w.heap.size 3 x) (hy : InVal w w.heap.size 3 y) (hkt : KT w) (hkl : KL w) : Calls Tryz.prog 3 #[x, y] w fun e w' => e = .returned (.bool true) ∧ Below w.heap.size w w' :=
  eqLaw_gen fits_any (clean_any 3 (by omega)) implEqual_any (fun s t u v w hl hl2 gs gt hu hv => spEqV_any 10 s t u v w hl hl2 gs gt hu hv) x y w hkt hkl hx hy
end Go.Proofs.YtdfpfnmbembpoaaGreatDoor
