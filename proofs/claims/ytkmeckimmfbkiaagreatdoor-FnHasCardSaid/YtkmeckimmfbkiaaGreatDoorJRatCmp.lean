/- Comparison of rationals. Conditions: the package variable karatsubaThreshold holds 40. -/
import Derived.Test.YtkmeckimmfbkiaaGreatDoorJNum
import Derived.Test.YtkmeckimmfbkiaaGreatDoorJPure
import Derived.Test.YtkmeckimmfbkiaaGreatDoorJArith
import Derived.Defers
namespace Go.Proofs.YtkmeckimmfbkiaaGreatDoor
open Go Go.RowKit
set_option maxRecDepth 10000 in
set_option maxHeartbeats 400000 in
theorem numSetInt64_any (g o : Nat) (x : Int) (h1 : -9223372036854775808 < x) (h2 : x < 9223372036854775808) (b0 : Bool) (w : World) (T : TypeId) (cz : Array Value) (hb : Blk w g T cz) (h0 : cz[o]? = some (.bool b0)) (h1' : cz[o + 1]? = some (.slice none 0 0)) :
    Calls Tryz.prog 117 #[.pointer (some ⟨g, o, none⟩), .int .i64 x] w fun e w' => e = .returned (.pointer (some ⟨g, o, none⟩)) ∧ SetAt w g o (decide (x < 0)) x.natAbs w' := by
  have k0 := (hb.cell o).trans h0
  have k1 := (hb.cell (o + 1)).trans h1'
  have HC := Lib.hid (setUint64Nil_any x.natAbs w (by omega))
  have HB := Lib.hid (And.intro hb (And.intro h0 h1'))
  have hg := hb.lt
  have fin : ∀ (b : Bool) (e : Ending) (w1 : World), (OwnsNat w x.natAbs e w1 ∧ ∃ A c, e = .returned (.slice A (limbs x.natAbs).length c) ∧ c ≤ (limbs x.natAbs).length) → ∃ A c, e = .returned (.slice A (limbs x.natAbs).length c) ∧ w1.cell? ⟨g, o, none⟩ = some (.bool b0) ∧ w1.cell? ⟨g, o + 1, none⟩ = some (.slice none 0 0) ∧ w1.frozen? ⟨g, o, none⟩ = false ∧ w1.frozen? ⟨g, o + 1, none⟩ = false ∧
      Hid (SetAt w g o b x.natAbs ((w1.setCell ⟨g, o + 1, none⟩ (.slice A (limbs x.natAbs).length c)).setCell ⟨g, o, none⟩ (.bool b))) := by
    rintro b e w1 ⟨⟨A, c, rfl, ho, hc, hB⟩, _⟩
    have hb1 := HB.out.1.below hB hg
    exact ⟨A, c, rfl, (hb1.cell o).trans HB.out.2.1, (hb1.cell (o + 1)).trans HB.out.2.2, hb1.frozen o, hb1.frozen (o + 1), ⟨_, A, c, hB, NewNat.of_own ho hc, rfl⟩⟩
  have HF := Lib.hid fin
  clear hb h0 h1' fin
  rcases Int.lt_or_le x 0 with hn | hn
  · have b1 : decide (x < 0) = true := decide_eq_true hn
    have e1 : IntKind.i64.wrap (-x) = (x.natAbs : Int) := by rw [IntKind.wrap_i64]; omega
    have e2 : IntKind.u64.wrap (x.natAbs : Int) = (x.natAbs : Int) := by rw [IntKind.wrap_u64]; omega
    have hm : 0 ≤ (x.natAbs : Int) := by omega
    generalize x.natAbs = m at *
    go_enter Tryz.func117, Tryz.ntmps117
    go_wp2_with fail
    refine HC.out.mono ?_
    rintro e w1 h
    obtain ⟨A, c, rfl, k0, k1, z0, z1, H⟩ := HF.out true e w1 h
    clear h
    go_wp2
    go_ret
    exact ⟨rfl, by rw [b1]; exact H.out⟩
  · have b1 : decide (x < 0) = false := decide_eq_false (by omega)
    obtain ⟨m, rfl⟩ : ∃ m : Nat, x = (m : Int) := ⟨x.natAbs, by omega⟩
    simp only [Int.natAbs_natCast] at *
    go_enter Tryz.func117, Tryz.ntmps117
    go_wp2_with fail
    refine HC.out.mono ?_
    rintro e w1 h
    obtain ⟨A, c, rfl, k0, k1, z0, z1, H⟩ := HF.out false e w1 h
    clear h
    go_wp2
    go_ret
    exact ⟨rfl, by rw [b1]; exact H.out⟩
set_option maxRecDepth 10000 in
set_option maxHeartbeats 400000 in
theorem ratSetInt64_any (g : Nat) (x : Int) (h1 : -9223372036854775808 < x) (h2 : x < 9223372036854775808) (w : World) (hb : Blk w g 200 #[.bool false, .slice none 0 0, .bool false, .slice none 0 0]) :
    Calls Tryz.prog 110 #[.pointer (some ⟨g, 0, none⟩), .int .i64 x] w (SetRat w g (decide (x < 0)) x.natAbs 1) := by
  have HC := Lib.hid (numSetInt64_any g 0 x h1 h2 false w _ _ hb rfl rfl)
  have HB := Lib.hid hb
  have hg := hb.lt
  clear hb
  generalize decide (x < 0) = neg at *
  generalize x.natAbs = m at *
  go_enter Tryz.func110, Tryz.ntmps110
  go_wp2_with fail
  refine HC.out.mono ?_
  rintro e w1 ⟨rfl, hS⟩
  obtain ⟨A, c, hb1, hr1, hc1, hn1, hg1, hz1⟩ := hS.out HB.out
  have hb1 : Blk w1 g 200 #[.bool neg, .slice A (limbs m).length c, .bool false, .slice none 0 0] := by simpa using hb1
  obtain ⟨k0, k1, k2, k3, z0, z1, z2, z3⟩ := hb1.c4
  have HS := Lib.hid (And.intro hb1 (And.intro hr1 (And.intro hc1 (And.intro hn1 (And.intro hg1 hz1)))))
  clear hS hb1 hr1 hc1 hn1 hg1 hz1
  go_wp2_with fail
  refine (setWordNil_any 1 w1 (by decide)).mono ?_
  rintro e w2 ⟨⟨D, d, rfl, ho, hd, hB⟩, _⟩
  obtain ⟨hb1, hr1, hc1, hn1, hg1, hz1⟩ := HS.out
  have hgl1 := hb1.lt
  have hb2 := hb1.below hB hgl1
  obtain ⟨k0, k1, k2, k3, z0, z1, z2, z3⟩ := hb2.c4
  have HO := Lib.hid (And.intro ho (And.intro hd (And.intro hB hb2)))
  clear hb1 hr1 hc1 hn1 hg1 hz1 ho hd hB hb2
  go_wp2
  go_ret
  obtain ⟨hb1, hr1, hc1, hn1, hg1, hz1⟩ := HS.out
  obtain ⟨ho, hd, hB, hb2⟩ := HO.out
  have hN : NewNat w1 w2 D d 1 := NewNat.of_own ho hd
  have hb3 := hb2.set_ 3 (.slice D (limbs 1).length d)
  have hl := hb2.lt
  refine ⟨rfl, ⟨A, c, D, d, by simpa using hb3, by simpa using hl, ?_, hc1, ?_, hd⟩, ?_⟩
  · exact (((hr1.below hB).more hB.size).far (p := ⟨g, 3, none⟩) (fun ad e => by have := hn1 ad e; show ad.block ≠ g; omega) _).more (by simp)
  · exact (hN.1.far (p := ⟨g, 3, none⟩) (fun ad e => by have := hN.2.2 ad e; show ad.block ≠ g; omega) _).more (by simp)
  · exact grown_set (grown_trans hg1 (grown_of_below hB (some g))) _
/-- Three ways: how two integers stand. -/
def cmpI (x y : Int) : Int := Fl.ordI (compare x y)
theorem cmpN_ord (x y : Nat) : cmpN x y = cmpI x y := by
  unfold cmpN cmpI
  rcases Nat.lt_trichotomy x y with h | h | h
  · rw [if_pos h, Fl.cmp_lt (by omega)]; rfl
  · subst h; rw [if_neg (by omega), if_pos rfl, Fl.cmp_eq rfl]; rfl
  · rw [if_neg (by omega), if_neg (by omega), Fl.cmp_gt (by omega)]; rfl
theorem cmpI_neg (x y : Int) : cmpI (-x) (-y) = - cmpI x y := by
  unfold cmpI
  rcases Int.lt_trichotomy x y with h | h | h
  · rw [Fl.cmp_lt h, Fl.cmp_gt (show -y < -x by omega)]; rfl
  · subst h; rw [Fl.cmp_eq rfl, Fl.cmp_eq rfl]; rfl
  · rw [Fl.cmp_gt h, Fl.cmp_lt (show -x < -y by omega)]; rfl
/-- A reader's contract, met behind an earlier region's draws. -/
theorem quiet_plus {P : Program} {f : FuncId} {args : Array Value} {w : World} {q n : Nat} {v : Value}
    (h : Calls P f args (w.drewN (q + n)) fun e w' => e = .returned v ∧ ∃ m, w' = (w.drewN (q + n)).drewN m) : Calls P f args (w.drewN (q + n)) fun e w'' => e = .returned v ∧ ∃ m, w'' = w.drewN (q + m) :=
  h.mono fun _ _ ⟨he, m, hm⟩ => ⟨he, n + m, by rw [hm, World.drewN_drewN, Nat.add_assoc]⟩
theorem run_eq_ptr_other {P : Program} (w : World) {tp te : TypeId} {j : TypeInfo} {a b : Addr} {ca cb : Array Value} {ta tb : TypeId} (hp : P.underlying tp = some (.pointer te)) (hte : P.info? te = some j) (hsz : j.size ≠ 0)
    (hne : a ≠ b) (ha : w.heap[a.block]? = some (.cells ca ta (0, 0))) (hb : w.heap[b.block]? = some (.cells cb tb (0, 0))) :
    (binOp .eql tp (.pointer (some a)) (.pointer (some b))).run P w = .ok (.bool false) w := by
  have h : ∀ d : Nat, (Op.equalIn (d + 1) tp (.pointer (some a)) (.pointer (some b))).run P w = .ok false w := fun d => by
    simp [Op.equalIn, run_underlying hp, sizeOf, typeInfo, hte, hsz, run_sameAddr_other w hne ha hb]
  simp only [binOp]
  simp [Op.equal, Op.maxDepth, h 9999]
set_option maxRecDepth 10000 in
set_option maxHeartbeats 400000 in
theorem intCmp_any (gx gy X Y : Nat) (nx ny : Bool) (w : World) (hx : IntAt w w.heap.size gx nx X) (hy : IntAt w w.heap.size gy ny Y) (hsx : (limbs X).length ≤ 2147483000) (hne : gx ≠ gy) (h0 : nx = true → 0 < X) (h1 : ny = true → 0 < Y) :
    Calls Tryz.prog 114 #[.pointer (some ⟨gx, 0, none⟩), .pointer (some ⟨gy, 0, none⟩)] w fun e w' => e = .returned (.int .i64 (cmpI (sgn nx X) (sgn ny Y))) ∧ ∃ k, w' = w.drewN k := by
  obtain ⟨A, c, bA, lA, rA, lcA⟩ := hx
  obtain ⟨D, d, bB, lB, rB, lcB⟩ := hy
  obtain ⟨i, hi, hi0⟩ := info97
  have hq := run_eq_ptr_other (P := Tryz.prog) (a := ⟨gx, 0, none⟩) (b := ⟨gy, 0, none⟩) w Tryz.underlying90 hi hi0 (by intro h; exact hne (by injection h)) bA bB
  clear hi hi0
  obtain ⟨p0, p1, p2, p3⟩ := bA.c2
  obtain ⟨r0, r1, r2, r3⟩ := bB.c2
  have F := Lib.hid fun (n : Nat) => natCmp_any X Y A D _ _ c d (w.drewN n) rfl rfl hsx lcA lcB (rA.drewN n) (rB.drewN n)
  clear bA rA lcA bB rB lcB hsx
  generalize (limbs X).length = n1 at *
  generalize (limbs Y).length = n2 at *
  have HV : Hid ((nx = ny → (if nx then -cmpN X Y else cmpN X Y) = cmpI (sgn nx X) (sgn ny Y)) ∧ (nx = true → ny = false → cmpI (sgn nx X) (sgn ny Y) = -1) ∧ (nx = false → ny = true → cmpI (sgn nx X) (sgn ny Y) = 1)) := by
    refine Lib.hid ⟨?_, ?_, ?_⟩
    · rintro rfl
      cases nx
      · simp [sgn, cmpN_ord]
      · simp [sgn, cmpN_ord, cmpI_neg]
    · rintro rfl rfl
      have := h0 rfl
      unfold cmpI
      rw [Fl.cmp_lt (by simp only [sgn_true, sgn_false]; omega)]; rfl
    · rintro rfl rfl
      have := h1 rfl
      unfold cmpI
      rw [Fl.cmp_gt (by simp only [sgn_true, sgn_false]; omega)]; rfl
  generalize cmpI (sgn nx X) (sgn ny Y) = R at *
  have hlo : -1 ≤ cmpN X Y ∧ cmpN X Y ≤ 1 := by unfold cmpN; split <;> (try split) <;> omega
  obtain ⟨hlo1, hlo2⟩ := hlo
  generalize cmpN X Y = r at *
  go_enter Tryz.func114, Tryz.ntmps114
  cases nx <;> cases ny
  · have hv := Lib.hid (HV.out.1 rfl)
    go_wp2_with fail
    go_quiet (fail)
    go_wp2_with fail
    go_quiet ((go_at_call 120; with_reducible exact quiet_plus (F.out _)))
    go_wp2
    go_ret
    exact ⟨by rw [← hv.out]; rfl, _, rfl⟩
  · have hv := Lib.hid (HV.out.2.2 rfl rfl)
    go_wp2_with fail
    go_quiet (fail)
    go_wp2_with fail
    go_ret
    exact ⟨by rw [hv.out]; rfl, _, rfl⟩
  · have hv := Lib.hid (HV.out.2.1 rfl rfl)
    go_wp2_with fail
    go_quiet (fail)
    go_wp2_with fail
    go_ret
    exact ⟨by rw [hv.out]; rfl, _, rfl⟩
  · have hv := Lib.hid (HV.out.1 rfl)
    have e1 : IntKind.i64.wrap (-r) = -r := by rw [IntKind.wrap_i64]; omega
    go_wp2_with fail
    go_quiet (fail)
    go_wp2_with fail
    go_quiet ((go_at_call 120; with_reducible exact quiet_plus (F.out _)))
    go_wp2
    go_ret
    exact ⟨by rw [← hv.out]; rfl, _, rfl⟩
end Go.Proofs.YtkmeckimmfbkiaaGreatDoor
namespace Go.Proofs.YtkmeckimmfbkiaaGreatDoor
open Go Go.RowKit
/-- The threshold of the multiplication stands as it is laid. -/
def KT (w : World) : Prop := w.cell? ⟨4, 0, none⟩ = some (.int .i64 40)
theorem KT.below {w w' : World} (h : KT w) (hb : Below w.heap.size w w') : KT w' := (hb.cell (World.block_lt_of_cell? w _ h)).trans h
theorem KT.belowB {w w' : World} {B : Nat} (h : KT w) (hb : Below B w w') (hB : 4 < B) : KT w' := (hb.cell (p := ⟨4, 0, none⟩) hB).trans h
theorem KT.lt {w : World} (h : KT w) : 4 < w.heap.size := World.block_lt_of_cell? w ⟨4, 0, none⟩ h
set_option maxRecDepth 10000 in
set_option maxHeartbeats 400000 in
theorem scaleDenom_any (gz gx ox X f : Nat) (nx : Bool) (stk : Value) (D : Option Addr) (d : Nat) (w : World) (U : TypeId) (cx : Array Value) (hx : NumAt w w.heap.size gx ox nx X) (hbx : Blk w gx U cx) (hz : Blk w gz 132 #[.bool false, .slice none 0 0]) (hf : Reads w w.heap.size 1 D (limbs f).length (wv (limbs f))) (hd : (limbs f).length ≤ d) (hf0 : 0 < f)
    (h40 : (limbs X).length < 40 ∨ (limbs f).length < 40) (hl : (limbs X).length ≤ 2147483000) (hl' : (limbs f).length ≤ 2147483000) (hne : gz ≠ gx) (hk : KT w) :
    Calls Tryz.prog 113 #[.pointer (some ⟨gz, 0, none⟩), stk, .pointer (some ⟨gx, ox, none⟩), .slice D (limbs f).length d] w fun e w' => e = .returned (.tuple #[]) ∧ IntAt w' w'.heap.size gz nx (X * f) ∧ w.grownBy w' (some gz) := by
  obtain ⟨A, c, kx0, kx1, hgx, hrx, hcx⟩ := hx
  have k0 := hz.cell 0
  have k1 := hz.cell 1
  have z0 := hz.frozen 0
  have z1 := hz.frozen 1
  have y0 := hbx.frozen ox
  have hg := hz.lt
  have HC := Lib.hid fun (V : World) c1 c2 c3 => mulNil_any X f stk A D _ _ c d V rfl rfl h40 hl hl' hcx hd c1 c2 c3
  have HH := Lib.hid (And.intro hrx (And.intro hf (And.intro hk (And.intro hz (And.intro hbx kx0)))))
  have hf1 : 0 < (limbs f).length := by rw [limbs_len_pos]; exact hf0
  clear hrx hf hk hz hbx h40 hl hl' hcx hd hf0
  generalize hn1 : (limbs X).length = n1 at *
  generalize hn2 : (limbs f).length = n2 at *
  have HN := Lib.hid (And.intro hn1 hn2)
  clear hn1 hn2
  have b0 : ((n2 : Int) == 0) = false := by rw [beq_eq_false_iff_ne]; omega
  have hn1' : ¬ gx = gz := fun h => hne h.symm
  go_enter Tryz.func113, Tryz.ntmps113
  go_wp2_with fail
  go_region_with
    ((go_at_call 119; refine (HC.out _ (by exact HH.out.2.2.1) (by exact HH.out.1) (by exact HH.out.2.1)).mono ?_; rintro e w3 ⟨A3, c3, rfl, ho, hc3, hB3⟩
      have hb1 := HH.out.2.2.2.1.drew.below hB3 hg
      have hbx1 := HH.out.2.2.2.2.1.drew.below hB3 hgx
      obtain ⟨k0, k1, z0, z1⟩ := hb1.c2
      have kx0 := (hB3.cell (p := ⟨gx, ox, none⟩) hgx).trans HH.out.2.2.2.2.2
      have y0 := hbx1.frozen ox))
  all_goals
    have hz3 := hB3.size
    simp only [World.size_drew] at hz3
    have HF := Lib.hid (And.intro ho (And.intro hB3 (And.intro hc3 hb1)))
    clear ho hB3 hb1 hbx1
    go_wp2
    refine bodyPost_end (results_none rfl _ _ _) rfl ?_
    obtain ⟨ho, hB3, hc3, hb1⟩ := HF.out
    have hS : SetAt w gz 0 nx (X * f) ((w3.setCell ⟨gz, 0 + 1, none⟩ (.slice A3 (limbs (X * f)).length c3)).setCell ⟨gz, 0, none⟩ (.bool nx)) := ⟨w3, A3, c3, ⟨hB3.os, hB3.tape, hB3.output, hB3.size, hB3.block⟩, NewNat.of_own ho hc3, rfl⟩
    obtain ⟨_, h1, h2⟩ := hS.int HH.out.2.2.2.1
    exact ⟨rfl, h1, h2⟩
end Go.Proofs.YtkmeckimmfbkiaaGreatDoor
namespace Go.Proofs.YtkmeckimmfbkiaaGreatDoor
open Go Go.RowKit
set_option maxRecDepth 10000 in
set_option maxHeartbeats 400000 in
theorem getStack_any (w : World) : Calls Tryz.prog 111 #[] w fun e w' => e = .returned (.pointer (some ⟨w.heap.size, 0, none⟩)) ∧ Blk w' w.heap.size 212 #[.pointer none] ∧ Below w.heap.size w w' ∧ w'.heap.size = w.heap.size + 1 := by
  go_enter Tryz.func111, Tryz.ntmps111
  go_wp2
  refine gen1 (M := fun W => bodyPost _ _ _ _ _ W) fun W hB b hz => ?_
  go_ret
  exact ⟨rfl, b, hB, hz⟩
set_option maxRecDepth 10000 in
set_option maxHeartbeats 400000 in
theorem free_any (g : Nat) (w : World) (h : w.cell? ⟨g, 0, none⟩ = some (.pointer none)) : CallsD Tryz.prog 112 #[.pointer (some ⟨g, 0, none⟩)] .returning w fun e u w' => u = .returning ∧ e = .returned (.tuple #[]) ∧ w' = w := by
  go_enter_d Tryz.func112, Tryz.ntmps112
  go_wp2
  exact bodyPost_end (results_none rfl _ _ _) rfl ⟨rfl, rfl⟩
/-- An int is set in another block. -/
theorem IntAt.grownInt {w w' : World} {B g k x : Nat} {neg b : Bool} {A' : Option Addr} {m c' : Nat} (h : IntAt w B g neg x) (hb : Blk w k 132 #[.bool b, .slice A' m c']) (hg : w.grownBy w' (some k)) (hne : g ≠ k) : IntAt w' w'.heap.size g neg x := by
  obtain ⟨A, c, h1, h2, h3, h4⟩ := h
  have hh : ∀ i, i < w.heap.size → i ≠ k → w'.heap[i]? = w.heap[i]? := fun i h1 h2 => hg.block i h1 (by intro e; exact h2 (by injection e))
  have hl := h1.lt
  have hs := hg.size
  refine ⟨A, c, (hh g hl hne).trans h1, by omega, ⟨h3.1, fun hn => ?_⟩, h4⟩
  obtain ⟨ad, e, hlt, hc⟩ := h3.2 hn
  have hz := hc 0 _ (wv_get (limbs x) 0 hn)
  have hadl := block_lt_of_cell hz
  have e0 : ad.add 0 = ad := rfl
  rw [e0] at hz hadl
  have hk : ad.block ≠ k := by
    intro hk
    obtain ⟨bl, off, spot⟩ := ad
    simp only at hk
    subst hk
    unfold Blk at hb
    simp only [World.cell?, hb] at hz
    split at hz
    · cases hz
    · rcases off with _ | _ | off <;> simp at hz
  exact ⟨ad, e, by omega, fun j v hj => (World.cell?_of_block (by rw [block_of_add]; exact hh ad.block hadl hk)).trans (hc j v hj)⟩
set_option maxRecDepth 10000 in
set_option maxHeartbeats 1000000 in
theorem ratCmp_any (gx gy a b c d : Nat) (nx ny : Bool) (w : World) (hx : RatAt w w.heap.size gx nx a b) (hy : RatAt w w.heap.size gy ny c d) (hb0 : 0 < b) (hd0 : 0 < d) (hnx : nx = true → 0 < a) (hny : ny = true → 0 < c)
    (la : (limbs a).length < 40) (lb : (limbs b).length < 40) (lc : (limbs c).length < 40) (ld : (limbs d).length < 40) (hlad : (limbs (a * d)).length ≤ 2147483000) (hk : KT w) :
    Calls Tryz.prog 104 #[.pointer (some ⟨gx, 0, none⟩), .pointer (some ⟨gy, 0, none⟩)] w fun e w' => e = .returned (.int .i64 (cmpI (sgn nx (a * d)) (sgn ny (c * b)))) ∧ Below w.heap.size w w' := by
  obtain ⟨A, ca, B, cb, bx, lx, ra, hca, rb, hcb⟩ := hx
  obtain ⟨C, cc, D, cd, by_, ly, rc, hcc, rd, hcd⟩ := hy
  have HX := Lib.hid (And.intro bx (And.intro by_ (And.intro ra (And.intro rb (And.intro rc (And.intro rd hk))))))
  have HC := Lib.hid (And.intro hca (And.intro hcb (And.intro hcc hcd)))
  clear bx by_ ra rb rc rd hk hca hcb hcc hcd
  go_enter_defers Tryz.func104, Tryz.ntmps104
  go_wp2_with fail
  refine gen2 (M := fun W => Calls _ _ _ W _) fun W hB b1 b2 hs => ?_
  refine (getStack_any W).mono ?_
  rintro e w1 ⟨rfl, b3, hB1, hs1⟩
  have hB2 := hB.trans (hB1.mono (by omega))
  have b1 := b1.below hB1 (by omega)
  have b2 := b2.below hB1 (by omega)
  obtain ⟨g1, hg1⟩ : ∃ g1, g1 = w.heap.size := ⟨_, rfl⟩
  obtain ⟨g3, hg3⟩ : ∃ g3, g3 = W.heap.size := ⟨_, rfl⟩
  have h12 : g1 + 1 < g3 := by omega
  have hwg : w.heap.size ≤ g1 := by omega
  have hw1 : g3 < w1.heap.size := by omega
  rw [← hg3] at b3 ⊢
  rw [← hg1] at b1 b2 ⊢
  have y3 : w1.cell? ⟨gy, 3, none⟩ = some (.slice D (limbs d).length cd) := (HX.out.2.1.below hB2 ly).cell 3
  have H1 := Lib.hid (And.intro hB2 (And.intro b1 (And.intro b2 b3)))
  clear hB b1 b2 b3 hs hB1 hs1 hB2 hg3 hg1
  go_wp2_with fail
  go_region_held3 (fun w' => w'.cell? ⟨gy, 3, none⟩ = some (.slice D (limbs d).length cd)) (exact y3)
    ((go_at_call 113; refine (scaleDenom_any g1 gx 0 a d nx _ D cd w1.drew _ _ (by exact NumAt.more (((RatAt.num ⟨A, ca, B, cb, HX.out.1, lx, HX.out.2.2.1, HC.out.1, HX.out.2.2.2.1, HC.out.2.1⟩).below H1.out.1.drew)) H1.out.1.size) (by exact HX.out.1.below H1.out.1.drew lx) (by exact H1.out.2.1) (by exact (HX.out.2.2.2.2.2.1.below H1.out.1.drew).more H1.out.1.size) HC.out.2.2.2 hd0 (.inl la) (by omega) (by omega) (by omega) (by exact HX.out.2.2.2.2.2.2.below H1.out.1.drew)).mono ?_
      rintro e w2 ⟨rfl, i1, hg⟩
      have hg : w1.grownBy w2 (some g1) := ⟨hg.os, hg.tape, hg.output, hg.size, hg.block⟩
      have hB3 : Below w.heap.size w w2 := H1.out.1.grown hg H1.out.1.size (fun k e => by cases e; omega)
      have hgr : ∀ k, k < w1.heap.size → k ≠ g1 → w2.heap[k]? = w1.heap[k]? := fun k h1 h2 => hg.block k h1 (by intro e; exact h2 (by injection e))
      have b2 : Blk w2 (g1 + 1) 132 #[.bool false, .slice none 0 0] := (hgr _ (by omega) (by omega)).trans H1.out.2.2.1
      have b3 : Blk w2 g3 212 #[.pointer none] := (hgr _ (by omega) (by omega)).trans H1.out.2.2.2
      have y3 : w2.cell? ⟨gy, 3, none⟩ = some (.slice D (limbs d).length cd) := (HX.out.2.1.below hB3 ly).cell 3
      have x3 : w2.cell? ⟨gx, 3, none⟩ = some (.slice B (limbs b).length cb) := (HX.out.1.below hB3 lx).cell 3
      have hs2 : w1.heap.size ≤ w2.heap.size := hg.size
      have H2 := Lib.hid (And.intro hB3 (And.intro i1 (And.intro b2 b3)))
      clear i1 hg hB3 hgr b2 b3))
  go_wp2_with fail
  go_region_held3 (fun w' => w'.cell? ⟨gx, 3, none⟩ = some (.slice B (limbs b).length cb)) (exact x3)
    ((go_at_call 113; refine (scaleDenom_any (g1 + 1) gy 0 c b ny _ B cb w2.drew _ _ (by exact NumAt.more (((RatAt.num ⟨C, cc, D, cd, HX.out.2.1, ly, HX.out.2.2.2.2.1, HC.out.2.2.1, HX.out.2.2.2.2.2.1, HC.out.2.2.2⟩).below H2.out.1.drew)) H2.out.1.size) (by exact HX.out.2.1.below H2.out.1.drew ly) (by exact H2.out.2.2.1) (by exact (HX.out.2.2.2.1.below H2.out.1.drew).more H2.out.1.size) HC.out.2.1 hb0 (.inl lc) (by omega) (by omega) (by omega) (by exact HX.out.2.2.2.2.2.2.below H2.out.1.drew)).mono ?_
      rintro e w3 ⟨rfl, i2, hg⟩
      have hg : w2.grownBy w3 (some (g1 + 1)) := ⟨hg.os, hg.tape, hg.output, hg.size, hg.block⟩
      have i1 := H2.out.2.1.grownInt H2.out.2.2.1 hg (by omega)
      have hB4 : Below w.heap.size w w3 := H2.out.1.grown hg H2.out.1.size (fun k e => by cases e; omega)
      have hgr : ∀ k, k < w2.heap.size → k ≠ g1 + 1 → w3.heap[k]? = w2.heap[k]? := fun k h1 h2 => hg.block k h1 (by intro e; exact h2 (by injection e))
      have b3 : Blk w3 g3 212 #[.pointer none] := (hgr _ (by omega) (by omega)).trans H2.out.2.2.2
      have x3 : w3.cell? ⟨gx, 3, none⟩ = some (.slice B (limbs b).length cb) := (HX.out.1.below hB4 lx).cell 3
      have s0 : w3.cell? ⟨g3, 0, none⟩ = some (.pointer none) := b3.cell 0
      have H3 := Lib.hid (And.intro hB4 (And.intro i1 (And.intro i2 b3)))
      clear hB4 i1 i2 hg b3 hgr))
  go_wp2_with fail
  refine (intCmp_any g1 (g1 + 1) (a * d) (c * b) nx ny w3 H3.out.2.1 H3.out.2.2.1 hlad (by omega) (fun h => Nat.mul_pos (hnx h) hd0) (fun h => Nat.mul_pos (hny h) hb0)).mono ?_
  rintro e w4 ⟨rfl, k, rfl⟩
  have hB5 := Lib.hid (H3.out.1.drewN_ k)
  go_wp2
  refine leaves_cons (f := 112) (args := #[.pointer (some ⟨g3, 0, none⟩)]) (by simp) (by simp [go_sem]) ?_
  refine (free_any g3 _ (by exact s0)).mono ?_
  rintro e u w5 ⟨rfl, rfl, rfl⟩
  exact ⟨_, results_tmp rfl _ _ _, rfl, hB5.out⟩
end Go.Proofs.YtkmeckimmfbkiaaGreatDoor
