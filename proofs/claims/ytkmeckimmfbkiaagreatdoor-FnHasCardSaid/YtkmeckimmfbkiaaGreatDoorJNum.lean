/- Integers and rationals in memory: set, divided out, shifted. Conditions: none. -/
import Derived.Test.YtkmeckimmfbkiaaGreatDoorJDivW
import Derived.Test.YtkmeckimmfbkiaaGreatDoorJArith
import Derived.Deep.RegionHeld3
import Derived.Deep.RegionWith
import Derived.BigQuiet
import Derived.Test.YtkmeckimmfbkiaaGreatDoorJPure
import Derived.Laws.BitsAllLaws
namespace Go.Proofs.YtkmeckimmfbkiaaGreatDoor
open Go Go.RowKit
/-- A big integer at block g, place o: its sign, its words. -/
def NumAt (w : World) (B g o : Nat) (neg : Bool) (x : Nat) : Prop :=
  ∃ A c, w.cell? ⟨g, o, none⟩ = some (.bool neg) ∧ w.cell? ⟨g, o + 1, none⟩ = some (.slice A (limbs x).length c) ∧ g < B ∧ Reads w B 1 A (limbs x).length (wv (limbs x)) ∧ (limbs x).length ≤ c
section
variable {w w' : World} {B B' g o x : Nat} {neg : Bool}
theorem NumAt.below (h : NumAt w B g o neg x) (hb : Below B w w') : NumAt w' B g o neg x := by
  obtain ⟨A, c, h1, h2, h3, h4, h5⟩ := h
  exact ⟨A, c, (hb.cell (p := ⟨g, o, none⟩) h3).trans h1, (hb.cell (p := ⟨g, o + 1, none⟩) h3).trans h2, h3, h4.below hb, h5⟩
theorem NumAt.more (h : NumAt w B g o neg x) (hB : B ≤ B') : NumAt w B' g o neg x := by
  obtain ⟨A, c, h1, h2, h3, h4, h5⟩ := h
  exact ⟨A, c, h1, h2, by omega, h4.more hB, h5⟩
theorem IntAt.num (h : IntAt w B g neg x) : NumAt w B g 0 neg x := by
  obtain ⟨A, c, h1, h2, h3, h4⟩ := h
  exact ⟨A, c, h1.cell 0, h1.cell 1, h2, h3, h4⟩
theorem Reads.far {n : Nat} {A : Option Addr} {l : List Value} (h : Reads w B 1 A n l) {p : Addr} (hp : ∀ ad, A = some ad → ad.block ≠ p.block) (u : Value) : Reads (w.setCell p u) B 1 A n l := by
  refine ⟨h.1, fun hn => ?_⟩
  obtain ⟨ad, e, hlt, hc⟩ := h.2 hn
  exact ⟨ad, e, hlt, fun j v hj => cell_past (by rw [block_of_add]; exact hp ad e) (hc j v hj)⟩
/-- A big integer has been set at block g, place o: its words are new; but for its own two cells nothing that was there has turned. -/
def SetAt (w : World) (g o : Nat) (neg : Bool) (x : Nat) (w' : World) : Prop :=
  ∃ V A c, Below w.heap.size w V ∧ NewNat w V A c x ∧ w' = (V.setCell ⟨g, o + 1, none⟩ (.slice A (limbs x).length c)).setCell ⟨g, o, none⟩ (.bool neg)
theorem SetAt.out {T : TypeId} {cs : Array Value} (h : SetAt w g o neg x w') (hb : Blk w g T cs) :
    ∃ A c, Blk w' g T ((cs.setIfInBounds (o + 1) (.slice A (limbs x).length c)).setIfInBounds o (.bool neg)) ∧ Reads w' w'.heap.size 1 A (limbs x).length (wv (limbs x)) ∧ (limbs x).length ≤ c ∧ (∀ ad, A = some ad → w.heap.size ≤ ad.block) ∧ w.grownBy w' (some g) ∧ w.heap.size ≤ w'.heap.size := by
  obtain ⟨V, A, c, hB, hN, rfl⟩ := h
  have hg := hb.lt
  have hf : ∀ ad : Addr, A = some ad → ad.block ≠ g := fun ad e => by have := hN.2.2 ad e; omega
  refine ⟨A, c, ((hb.below hB hg).set_ _ _).set_ _ _, ?_, hN.2.1, hN.2.2, grown_set (grown_set (grown_of_below hB (some g)) _) _, by simpa using hB.size⟩
  exact ((hN.1.far (p := ⟨g, o + 1, none⟩) hf _).far (p := ⟨g, o, none⟩) hf _).more (by simp)
end
/-- An int's own block. -/
theorem SetAt.int {w w' : World} {g x : Nat} {neg b0 : Bool} {v0 : Value} (h : SetAt w g 0 neg x w') (hb : Blk w g 132 #[.bool b0, v0]) : SetInt w g neg x (.returned (.pointer (some ⟨g, 0, none⟩))) w' := by
  obtain ⟨A, c, h1, h2, h3, _, h5, h6⟩ := h.out hb
  refine ⟨rfl, ⟨A, c, by simpa using h1, ?_, h2, h3⟩, h5⟩
  have := hb.lt
  omega
theorem own_frozen {w : World} {base e size n c : Nat} {A : Option Addr} {xs : List Value} (h : w.ownsRow base e size (.slice A n c) n xs) : ∀ ad, A = some ad → w.frozen? ad = false := by
  rintro ad rfl
  rcases h.2 with ⟨h, _⟩ | ⟨g, cap, cur, hv, _, hh, _⟩
  · cases h
  · injection hv with h1
    injection h1 with h1
    subst h1
    simp [World.frozen?, hh]
/-- As SetAt, and the new words may be written. -/
def SetAtF (w : World) (g o : Nat) (neg : Bool) (x : Nat) (w' : World) : Prop :=
  ∃ V A c, Below w.heap.size w V ∧ NewNat w V A c x ∧ (∀ ad, A = some ad → V.frozen? ad = false) ∧ w' = (V.setCell ⟨g, o + 1, none⟩ (.slice A (limbs x).length c)).setCell ⟨g, o, none⟩ (.bool neg)
set_option maxRecDepth 10000 in
set_option maxHeartbeats 400000 in
theorem numSetF_any (g o gx ox x : Nat) (neg b0 : Bool) (w : World) (T U : TypeId) (cz cx : Array Value) (hx : NumAt w w.heap.size gx ox neg x) (hs : (limbs x).length ≤ 2147483640) (hne : g ≠ gx) (hb : Blk w g T cz) (hbx : Blk w gx U cx) (h0 : cz[o]? = some (.bool b0)) (h1 : cz[o + 1]? = some (.slice none 0 0)) :
    Calls Tryz.prog 73 #[.pointer (some ⟨g, o, none⟩), .pointer (some ⟨gx, ox, none⟩)] w fun e w' => e = .returned (.pointer (some ⟨g, o, none⟩)) ∧ SetAtF w g o neg x w' := by
  obtain ⟨A, c, kx0, kx1, hgx, hrx, hcx⟩ := hx
  obtain ⟨i, hi, hi0⟩ := info97
  have hq := run_neq_ptr_other (P := Tryz.prog) (a := ⟨g, o, none⟩) (b := ⟨gx, ox, none⟩) w Tryz.underlying90 hi hi0 (by intro h; exact hne (by injection h)) hb hbx
  clear hi hi0
  have k0 := (hb.cell o).trans h0
  have k1 := (hb.cell (o + 1)).trans h1
  have z0 := hb.frozen o
  have z1 := hb.frozen (o + 1)
  have y0 := hbx.frozen ox
  have y1 := hbx.frozen (ox + 1)
  have HH := Lib.hid (And.intro hrx (And.intro hb (And.intro hbx (And.intro kx0 kx1))))
  have HZ := Lib.hid (And.intro h0 h1)
  have hg := hb.lt
  generalize hn : (limbs x).length = n at *
  have HN := Lib.hid hn
  clear hrx hb hbx hn h0 h1
  go_enter Tryz.func73, Tryz.ntmps73
  go_wp2_with fail
  go_region_with
    ((go_at_call 87; refine (setNil_any x A n c _ HN.out hs hcx (by exact HH.out.1)).mono ?_; rintro e w3 ⟨A3, c3, rfl, ho, hc3, hB3⟩
      have hb1 := HH.out.2.1.drew.below hB3 hg
      have hbx1 := HH.out.2.2.1.drew.below hB3 hgx
      have k0 := (hb1.cell o).trans HZ.out.1
      have k1 := (hb1.cell (o + 1)).trans HZ.out.2
      have kx1 := (hB3.cell (p := ⟨gx, ox + 1, none⟩) hgx).trans HH.out.2.2.2.2
      have z0 := hb1.frozen o
      have z1 := hb1.frozen (o + 1)
      have kx0 := (hB3.cell (p := ⟨gx, ox, none⟩) hgx).trans HH.out.2.2.2.1
      have y0 := hbx1.frozen ox
      have hn1 : ¬ gx = g := fun h => hne h.symm))
  all_goals
    have hz3 := hB3.size
    simp only [World.size_drew] at hz3
    have HF := Lib.hid (And.intro ho (And.intro hB3 hc3))
    clear ho hB3 hb1 hbx1
    go_wp2
    go_ret
    obtain ⟨ho, hB3, hc3⟩ := HF.out
    exact ⟨rfl, _, A3, c3, ⟨hB3.os, hB3.tape, hB3.output, hB3.size, hB3.block⟩, NewNat.of_own ho hc3, own_frozen ho, rfl⟩
theorem numSet_any (g o gx ox x : Nat) (neg b0 : Bool) (w : World) (T U : TypeId) (cz cx : Array Value) (hx : NumAt w w.heap.size gx ox neg x) (hs : (limbs x).length ≤ 2147483640) (hne : g ≠ gx) (hb : Blk w g T cz) (hbx : Blk w gx U cx) (h0 : cz[o]? = some (.bool b0)) (h1 : cz[o + 1]? = some (.slice none 0 0)) :
    Calls Tryz.prog 73 #[.pointer (some ⟨g, o, none⟩), .pointer (some ⟨gx, ox, none⟩)] w fun e w' => e = .returned (.pointer (some ⟨g, o, none⟩)) ∧ SetAt w g o neg x w' :=
  (numSetF_any g o gx ox x neg b0 w T U cz cx hx hs hne hb hbx h0 h1).mono fun _e _w' ⟨he, V, A, c, h1, h2, _, h4⟩ => ⟨he, V, A, c, h1, h2, h4⟩
set_option maxRecDepth 10000 in
set_option maxHeartbeats 400000 in
theorem numAbsF_any (g gx ox x : Nat) (neg : Bool) (w : World) (U : TypeId) (cx : Array Value) (hx : NumAt w w.heap.size gx ox neg x) (hs : (limbs x).length ≤ 2147483640) (hne : g ≠ gx) (hb : Blk w g 132 #[.bool false, .slice none 0 0]) (hbx : Blk w gx U cx) :
    Calls Tryz.prog 152 #[.pointer (some ⟨g, 0, none⟩), .pointer (some ⟨gx, ox, none⟩)] w fun e w' => e = .returned (.pointer (some ⟨g, 0, none⟩)) ∧ ∃ A c, Blk w' g 132 #[.bool false, .slice A (limbs x).length c] ∧ Reads w' w'.heap.size 1 A (limbs x).length (wv (limbs x)) ∧ (limbs x).length ≤ c ∧ (∀ ad, A = some ad → w.heap.size ≤ ad.block ∧ w'.frozen? ad = false) ∧ w.grownBy w' (some g) := by
  have HC := Lib.hid (numSetF_any g 0 gx ox x neg false w _ U _ cx hx hs hne hb hbx rfl rfl)
  have HB := Lib.hid hb
  clear hx hb hbx
  go_enter Tryz.func152, Tryz.ntmps152
  go_wp2_with fail
  refine HC.out.mono ?_
  rintro e w1 ⟨rfl, V, A, c, hB, hN, hf, rfl⟩
  have hS : SetAt w g 0 neg x _ := ⟨V, A, c, hB, hN, rfl⟩
  have hgl := HB.out.lt
  have hb1 : Blk ((V.setCell ⟨g, 0 + 1, none⟩ (.slice A (limbs x).length c)).setCell ⟨g, 0, none⟩ (.bool neg)) g 132 #[.bool neg, .slice A (limbs x).length c] := by
    simpa using ((HB.out.below hB hgl).set_ 1 (.slice A (limbs x).length c)).set_ 0 (.bool neg)
  obtain ⟨_, _, _, _, _, _, hg1, hz1⟩ := hS.out HB.out
  clear hS
  have hr1 := (hN.1.far (p := ⟨g, 0 + 1, none⟩) (fun ad e => by have := hN.2.2 ad e; show ad.block ≠ g; omega) (.slice A (limbs x).length c)).far (p := ⟨g, 0, none⟩) (fun ad e => by have := hN.2.2 ad e; show ad.block ≠ g; omega) (.bool neg)
  have hr1 := hr1.more (B' := ((V.setCell ⟨g, 0 + 1, none⟩ (.slice A (limbs x).length c)).setCell ⟨g, 0, none⟩ (.bool neg)).heap.size) (by simp)
  have hf1 : ∀ ad, A = some ad → w.heap.size ≤ ad.block ∧ ((V.setCell ⟨g, 0 + 1, none⟩ (.slice A (limbs x).length c)).setCell ⟨g, 0, none⟩ (.bool neg)).frozen? ad = false := fun ad e => ⟨hN.2.2 ad e, by simpa using hf ad e⟩
  generalize (V.setCell ⟨g, 0 + 1, none⟩ (.slice A (limbs x).length c)).setCell ⟨g, 0, none⟩ (.bool neg) = w1 at *
  obtain ⟨k0, k1, z0, z1⟩ := hb1.c2
  have HS := Lib.hid (And.intro hb1 (And.intro hr1 (And.intro hN.2.1 (And.intro hf1 (And.intro hg1 hz1)))))
  clear hb1 hr1 hN hf hf1 hg1 hz1 hB HC
  go_wp2
  go_ret
  obtain ⟨hb1, hr1, hc1, hf1, hg1, hz1⟩ := HS.out
  have hb2 := hb1.set_ 0 (.bool false)
  refine ⟨rfl, A, c, by simpa using hb2, ?_, hc1, fun ad e => ⟨(hf1 ad e).1, by simpa using (hf1 ad e).2⟩, grown_set hg1 _⟩
  exact (hr1.far (p := ⟨g, 0, none⟩) (fun ad e => by have := (hf1 ad e).1; show ad.block ≠ g; omega) _).more (by simp)
theorem numAbs_any (g gx ox x : Nat) (neg : Bool) (w : World) (U : TypeId) (cx : Array Value) (hx : NumAt w w.heap.size gx ox neg x) (hs : (limbs x).length ≤ 2147483640) (hne : g ≠ gx) (hb : Blk w g 132 #[.bool false, .slice none 0 0]) (hbx : Blk w gx U cx) :
    Calls Tryz.prog 152 #[.pointer (some ⟨g, 0, none⟩), .pointer (some ⟨gx, ox, none⟩)] w (SetInt w g false x) :=
  (numAbsF_any g gx ox x neg w U cx hx hs hne hb hbx).mono fun _e _w' ⟨he, A, c, h1, h2, h3, _, h5⟩ => ⟨he, ⟨A, c, h1, h1.lt, h2, h3⟩, h5⟩
set_option maxRecDepth 10000 in
set_option maxHeartbeats 400000 in
theorem setUint64Nil_any (x : Nat) (w : World) (hx : x < 18446744073709551616) :
    Calls Tryz.prog 125 #[.slice none 0 0, .int .u64 x] w fun e w' => OwnsNat w x e w' ∧ ∃ A c, e = .returned (.slice A (limbs x).length c) ∧ c ≤ (limbs x).length := by
  have HC := Lib.hid (setWordNil_any x w hx)
  go_enter Tryz.func125, Tryz.ntmps125
  go_wp2_with fail
  refine HC.out.mono ?_
  rintro e w1 ⟨⟨A, c, rfl, ho, hc, hB⟩, A', c', e', hc'⟩
  have HO := Lib.hid (And.intro ho (And.intro hc hB))
  injection e' with e'
  injection e' with e1 e2 e3
  subst e1 e3
  clear ho hc hB
  go_wp2
  go_ret
  exact ⟨⟨_, _, rfl, HO.out.1, HO.out.2.1, HO.out.2.2⟩, _, _, rfl, hc'⟩
end Go.Proofs.YtkmeckimmfbkiaaGreatDoor
namespace Go.Proofs.YtkmeckimmfbkiaaGreatDoor
open Go Go.RowKit
/-- A new integer: its block, its words, newer than w. -/
def NewI (w : World) (x : Int) (e : Ending) (w' : World) : Prop := ∃ g, e = .returned (.pointer (some ⟨g, 0, none⟩)) ∧ w.heap.size ≤ g ∧ IntAt w' w'.heap.size g (decide (x < 0)) x.natAbs ∧ Below w.heap.size w w'
theorem reads_word {W : World} {B x : Nat} {ad : Addr} (h : W.cell? ad = some (.int .u64 x)) (hB : ad.block < B) : Reads W B 1 (some ad) 1 (wv [x]) := by
  refine ⟨rfl, fun _ => ⟨ad, rfl, hB, fun j u hj => ?_⟩⟩
  rcases j with _ | j
  · cases hj; exact h
  · cases hj
theorem intAt_word {W : World} {g x : Nat} {neg : Bool} {ad : Addr} {c : Nat} (hb : Blk W g 132 #[.bool neg, .slice (some ad) 1 c]) (h : W.cell? ad = some (.int .u64 x)) (hlt : ad.block < W.heap.size) (hc : 1 ≤ c) (h0 : 0 < x) (hx : x < 18446744073709551616) : IntAt W W.heap.size g neg x := by
  have hl := limbs_one x hx h0
  refine ⟨some ad, c, by rw [hl]; exact hb, hb.lt, by rw [hl]; exact reads_word h hlt, by rw [hl]; exact hc⟩
set_option maxRecDepth 10000 in
set_option maxHeartbeats 400000 in
theorem newInt_zero (w : World) : Calls Tryz.prog 136 #[.int .i64 0] w fun e w' => e = .returned (.pointer (some ⟨w.heap.size, 0, none⟩)) ∧ Blk w' w.heap.size 132 #[.bool false, .slice none 0 0] ∧ Below w.heap.size w w' ∧ w'.heap.size = w.heap.size + 1 := by
  go_enter Tryz.func136, Tryz.ntmps136
  go_wp2
  refine gen1 (M := fun W => bodyPost _ _ _ _ _ W) fun W hB b hz => ?_
  go_ret
  exact ⟨rfl, b, hB, hz⟩
set_option maxRecDepth 10000 in
set_option maxHeartbeats 400000 in
theorem newInt_any (x : Int) (h0 : x ≠ 0) (h1 : -9223372036854775808 < x) (h2 : x < 9223372036854775808) (w : World) : Calls Tryz.prog 136 #[.int .i64 x] w (NewI w x) := by
  have b0 : (x == 0) = false := by rw [beq_eq_false_iff_ne]; exact h0
  rcases Int.lt_or_le x 0 with hn | hn
  · have b1 : decide (x < 0) = true := decide_eq_true hn
    obtain ⟨m, hm⟩ : ∃ m : Nat, x = -(m : Int) := ⟨x.natAbs, by omega⟩
    subst hm
    have hm0 : 0 < m := by omega
    have hm1 : m < 9223372036854775808 := by omega
    go_enter Tryz.func136, Tryz.ntmps136
    go_wp2
    have e1 : IntKind.u64.wrap (-IntKind.u64.wrap (-(m : Int))) = (m : Int) := by
      rw [IntKind.wrap_u64, IntKind.wrap_u64]; omega
    rw [e1]
    refine gen2 (M := fun W => bodyPost _ _ _ _ _ W) fun W hB b7 b8 hz => ?_
    go_ret
    refine ⟨_, rfl, Nat.le_succ _, ?_, hB⟩
    rw [show (-(m : Int)).natAbs = m by omega, decide_eq_true hn]
    exact intAt_word b8 b7.c1.1 (by show w.heap.size < _; omega) (Nat.le_refl _) hm0 (by omega)
  · have b1 : decide (x < 0) = false := decide_eq_false (by omega)
    obtain ⟨m, hm⟩ : ∃ m : Nat, x = (m : Int) := ⟨x.natAbs, by omega⟩
    subst hm
    go_enter Tryz.func136, Tryz.ntmps136
    go_wp2
    refine gen2 (M := fun W => bodyPost _ _ _ _ _ W) fun W hB b7 b8 hz => ?_
    go_ret
    refine ⟨_, rfl, Nat.le_succ _, ?_, hB⟩
    rw [show ((m : Int)).natAbs = m by omega, b1]
    exact intAt_word b8 b7.c1.1 (by show w.heap.size < _; omega) (Nat.le_refl _) (by omega) (by omega)
set_option maxRecDepth 10000 in
theorem natOne_any (w : World) : Calls Tryz.prog 134 #[] w fun e w' => e = .returned (.slice (some ⟨w.heap.size, 0, none⟩) 1 1) ∧ w'.cell? ⟨w.heap.size, 0, none⟩ = some (.int .u64 1) ∧ Below w.heap.size w w' ∧ w'.heap.size = w.heap.size + 1 := by
  go_enter Tryz.func134, Tryz.ntmps134
  go_wp2
  refine gen1 (M := fun W => bodyPost _ _ _ _ _ W) fun W hB b hz => ?_
  go_ret
  exact ⟨rfl, b.c1.1, hB, hz⟩
set_option maxRecDepth 10000 in
set_option maxHeartbeats 400000 in
theorem intOne_any (w : World) : Calls Tryz.prog 122 #[] w (NewI w 1) := by
  go_enter Tryz.func122, Tryz.ntmps122
  go_wp2_with fail
  refine (natOne_any w).mono ?_
  rintro e w1 ⟨rfl, hc, hB, hz⟩
  go_wp2
  refine gen1 (M := fun W => bodyPost _ _ _ _ _ W) fun W hB2 b hz2 => ?_
  go_ret
  rw [hz] at b
  refine ⟨_, rfl, Nat.le_succ _, ?_, hB.trans (hB2.mono hB.size)⟩
  exact intAt_word b ((hB2.cell (p := ⟨w.heap.size, 0, none⟩) (by show w.heap.size < _; omega)).trans hc) (by show w.heap.size < _; omega) (Nat.le_refl _) (by decide) (by decide)
end Go.Proofs.YtkmeckimmfbkiaaGreatDoor
namespace Go.Proofs.YtkmeckimmfbkiaaGreatDoor
open Go Go.RowKit
theorem and63 (s : Nat) (h : s < 64) : bits .and .u64 (s : Int) 63 = (s : Int) := by
  have h1 := u64_and_nat s 63 (by omega) (by decide)
  rw [show 63 = 2 ^ 6 - 1 from rfl, Nat.and_two_pow_sub_one_eq_mod, Nat.mod_eq_of_lt (by omega)] at h1
  exact h1
theorem natCast_pow2 (s : Nat) : ((2 ^ s : Nat) : Int) = 2 ^ s := by rw [Int.natCast_pow]; rfl
set_option maxRecDepth 10000 in
set_option maxHeartbeats 400000 in
theorem lshVUg_one (x s t g k cap cx : Nat) (ws : List Nat) (ad : Addr) (w : World) (hs0 : 0 < s) (hs : s + t = 64) (ht : 0 < t) (hk : k < ws.length) (hx : x < 18446744073709551616) (hb : Blk w g 157 (wv ws).toArray) (hc : w.cell? ad = some (.int .u64 x)) (hne : ad.block ≠ g) :
    Calls Tryz.prog 169 #[.slice (some ⟨g, k, none⟩) 1 cap, .slice (some ad) 1 cx, .int .u64 s] w fun e w' => e = .returned (.int .u64 ((x / 2 ^ t : Nat) : Int)) ∧ Blk w' g 157 (wv (ws.set k (x * 2 ^ s % 18446744073709551616))).toArray ∧ w.grownBy w' (some g) := by
  have b0 : ((s : Int) == 0) = false := by rw [beq_eq_false_iff_ne]; omega
  have b1 := and63 s (by omega)
  have b2 : IntKind.u64.wrap (64 - (s : Int)) = (t : Int) := by
    rw [IntKind.wrap_u64]; omega
  have b3 := and63 t (by omega)
  have q0 := (hb.cell k).trans ((wv_cell ws k).trans (by rw [List.getElem?_eq_getElem hk]))
  have q1 := hb.frozen k
  have c0 : w.cell? (ad.add 0) = some (.int .u64 x) := hc
  have HB := Lib.hid (And.intro hb (And.intro hne hx))
  clear hb hx
  go_enter Tryz.func169, Tryz.ntmps169
  go_wp2_with fail
  go_loopw [8] (fun vi wr => vi = .int .i64 0 ∧ wr = w) (fun _ _ => 0)
  case atStart => exact ⟨rfl, rfl⟩
  case round =>
    obtain ⟨rfl, rfl⟩ := hrel
    go_wp2_with fail
    go_ret
    obtain ⟨hb, hne, hx⟩ := HB.out
    have e1 : IntKind.u64.wrap ((x : Int) * 2 ^ s) = ((x * 2 ^ s % 18446744073709551616 : Nat) : Int) := by
      rw [IntKind.wrap_u64, ← natCast_pow2, ← Int.natCast_mul]; rfl
    have e2 : (x : Int) / 2 ^ t = ((x / 2 ^ t : Nat) : Int) := by
      rw [← natCast_pow2]; rfl
    rw [e1, e2]
    have hb2 := hb.set_ k (.int .u64 (x * 2 ^ s % 18446744073709551616 : Nat))
    rw [wv_set] at hb2
    exact ⟨rfl, hb2, grown_set (World.grownBy.refl _ _) _⟩
theorem lshVU_one (x s t g k cap cx : Nat) (ws : List Nat) (ad : Addr) (w : World) (hs0 : 0 < s) (hs : s + t = 64) (ht : 0 < t) (hk : k < ws.length) (hx : x < 18446744073709551616) (hb : Blk w g 157 (wv ws).toArray) (hc : w.cell? ad = some (.int .u64 x)) (hne : ad.block ≠ g) :
    Calls Tryz.prog 151 #[.slice (some ⟨g, k, none⟩) 1 cap, .slice (some ad) 1 cx, .int .u64 s] w fun e w' => e = .returned (.int .u64 ((x / 2 ^ t : Nat) : Int)) ∧ Blk w' g 157 (wv (ws.set k (x * 2 ^ s % 18446744073709551616))).toArray ∧ w.grownBy w' (some g) := by
  have HC := Lib.hid (lshVUg_one x s t g k cap cx ws ad w hs0 hs ht hk hx hb hc hne)
  clear hb hc
  go_enter Tryz.func151, Tryz.ntmps151
  go_wp2_with fail
  refine HC.out.mono ?_
  rintro e w1 ⟨rfl, h⟩
  have H := Lib.hid h
  clear h
  go_wp2
  go_ret
  exact ⟨rfl, H.out⟩
theorem rep_set (q v : Nat) : (List.replicate (q + 6) 0).set q v = List.replicate q 0 ++ v :: List.replicate 5 0 := by
  rw [← List.replicate_append_replicate, List.set_append_right _ _ (by simp)]
  simp [List.replicate_succ]
theorem rep_set2 (q lo hi : Nat) : (List.replicate q 0 ++ lo :: List.replicate 5 0).set (q + 1) hi = List.replicate q 0 ++ lo :: hi :: List.replicate 4 0 := by
  rw [List.set_append_right _ _ (by simp)]
  simp [List.replicate_succ]
theorem natV_rep (q : Nat) (l : List Nat) : natV (List.replicate q 0 ++ l) = 18446744073709551616 ^ q * natV l := by
  rw [natV_append, natV_zeros _ (fun x hx => List.eq_of_mem_replicate hx), List.length_replicate, Nat.zero_add]
/-- The words are laid: the low ones are zero, then the shifted word's two halves. -/
theorem lsh_fin (w w2 : World) (q lo hi X : Nat) (hb : Blk w2 w.heap.size 157 (wv (List.replicate q 0 ++ lo :: hi :: List.replicate 4 0)).toArray) (hB : Below w.heap.size w w2) (hlo : lo < 18446744073709551616) (hhi : hi < 18446744073709551616) (hq : q ≤ 63) (hX : 18446744073709551616 ^ q * (lo + 18446744073709551616 * hi) = X) :
    Calls Tryz.prog 86 #[.slice (some ⟨w.heap.size, 0, none⟩) (q + 2) (q + 6)] w2 (OwnsNat w X) := by
  have h := norm_own w w2 (List.replicate q 0 ++ lo :: hi :: List.replicate 4 0) w.heap.size (q + 2) (q + 6) hb (Nat.le_refl _) (by simp) (by omega) (by omega) (by omega) (by
    intro x hx
    rcases List.mem_append.1 hx with h | h
    · rw [List.eq_of_mem_replicate h]; omega
    · rcases List.mem_cons.1 h with h | h
      · omega
      · rcases List.mem_cons.1 h with h | h
        · omega
        · rw [List.eq_of_mem_replicate h]; omega) hB
  have e : (List.replicate q 0 ++ lo :: hi :: List.replicate 4 0).take (q + 2) = List.replicate q 0 ++ [lo, hi] := by
    rw [List.take_append, List.take_of_length_le (by simp), List.length_replicate, Nat.add_sub_cancel_left]; rfl
  rw [e, natV_rep] at h
  simp only [natV, Nat.mul_zero, Nat.add_zero] at h
  rw [hX] at h
  exact h
theorem lsh_halves (x r t : Nat) (h : r + t = 64) (hx : x < 18446744073709551616) : x * 2 ^ r % 18446744073709551616 + 18446744073709551616 * (x / 2 ^ t) = x * 2 ^ r ∧ x / 2 ^ t < 18446744073709551616 := by
  have e : 18446744073709551616 = 2 ^ r * 2 ^ t := by rw [← Nat.pow_add, h]
  refine ⟨?_, Nat.lt_of_le_of_lt (Nat.div_le_self _ _) hx⟩
  have h1 : x * 2 ^ r / 18446744073709551616 = x / 2 ^ t := by
    rw [e, Nat.mul_comm x, Nat.mul_div_mul_left _ _ (Nat.pow_pos (by decide))]
  rw [← h1]
  omega
theorem lsh_worth (x q r s : Nat) (hs : s = 64 * q + r) : 18446744073709551616 ^ q * (x * 2 ^ r) = x * 2 ^ s := by
  rw [hs, Nat.pow_add, show (18446744073709551616 : Nat) = 2 ^ 64 from rfl, ← Nat.pow_mul]
  ac_rfl
set_option maxRecDepth 10000 in
set_option maxHeartbeats 400000 in
theorem natLshOne_any (x s : Nat) (ad : Addr) (w : World) (hx0 : 0 < x) (hx : x < 18446744073709551616) (hs0 : 0 < s) (hs : s ≤ 4000) (hc : w.cell? ad = some (.int .u64 x)) (hlt : ad.block < w.heap.size) :
    Calls Tryz.prog 135 #[.slice (some ad) 1 1, .slice (some ad) 1 1, .int .u64 s] w (OwnsNat w (x * 2 ^ s)) := by
  have b0 : ((s : Int) == 0) = false := by rw [beq_eq_false_iff_ne]; omega
  obtain ⟨q, hq⟩ : ∃ q, q = s / 64 := ⟨_, rfl⟩
  obtain ⟨r, hr⟩ : ∃ r, r = s % 64 := ⟨_, rfl⟩
  have hs64 : s = 64 * q + r := by omega
  have hr64 : r < 64 := by omega
  have q1 : (s : Int) / 64 = (q : Int) := by omega
  have q2 : (s : Int) % 64 = (r : Int) := by omega
  clear hq hr
  have HX := Lib.hid (And.intro hs64 (And.intro hx0 hx))
  have hq4 : q ≤ 63 := by omega
  have HC := Lib.hid (And.intro hc hlt)
  clear hs64 hx0 hx
  go_enter Tryz.func135, Tryz.ntmps135
  go_wp2_with fail
  rw [show 1 + (q : Int) + 1 = ((q + 2 : Nat) : Int) by omega]
  refine (makeNew_any (some ad) 1 1 (q + 2) (by omega) (by omega) (by omega) w).mono ?_
  rintro e w1 ⟨rfl, hB, hb, hz⟩
  have hc1 := (hB.cell hlt).trans hc
  have hne : ad.block ≠ w.heap.size := by omega
  rw [show q + 2 + 4 = q + 6 by omega] at hb ⊢
  have e2 : ((q + 2 : Nat) : Int) = (q : Int) + 2 := by omega
  have e6 : ((q + 6 : Nat) : Int) = (q : Int) + 6 := by omega
  have n1 : IntKind.i64.wrap (1 + (q : Int) - 1) = (q : Int) := by rw [IntKind.wrap_i64]; omega
  have HB := Lib.hid (And.intro hB (And.intro hb hz))
  clear hB hb hz hc
  rcases Nat.eq_zero_or_pos r with h0 | h0
  · subst h0
    have hb' : w1.heap[w.heap.size]? = some (.cells (wv (List.replicate (q + 6) 0)).toArray 157 (0, 0)) := HB.out.2.1
    go_wp2_with (with_reducible refine wpList_copy_splice rfl (.tmp 46) (.tmp 47) 130 130 rfl 157 Tryz.underlying130 size116 (some ⟨w.heap.size, q, none⟩) (some ad) (1 + q - q) 6 1 1 rfl rfl w.heap.size q (wv (List.replicate (q + 6) 0)) 157 hb' (wv [x]) (by simp [wv_len]) ?hpos ?hfit (wv_one _) w.heap.size w HB.out.1 (Nat.le_refl _) ?_)
    case hpos =>
      intro _ j v hj
      rcases j with _ | j
      · cases hj; exact hc1
      · cases hj
    case hfit => simp [wv_len]
    intro w2 hw2 hB2
    have hb2 : Blk w2 w.heap.size 157 (wv (List.replicate q 0 ++ x :: List.replicate 5 0)).toArray := by
      have h := hw2.out
      unfold Blk
      rw [h]
      congr 2
      simp [splice, wv, List.drop_replicate]
    have k0 := (hb2.cell (1 + q)).trans ((wv_cell _ _).trans (by rw [show 1 + q = q + 1 by omega, List.getElem?_append_right (by simp)]))
    have z0 := hb2.frozen (1 + q)
    have hb3 : Blk (w2.setCell ⟨w.heap.size, 1 + q, none⟩ (.int .u64 0)) w.heap.size 157 (wv (List.replicate q 0 ++ x :: 0 :: List.replicate 4 0)).toArray := by
      have h := hb2.set_ (1 + q) (.int .u64 (0 : Nat))
      rw [wv_set, show 1 + q = q + 1 by omega, rep_set2] at h
      rw [show 1 + q = q + 1 by omega]
      exact h
    obtain ⟨V, hcl, hbV, hgV, hsV⟩ := clear_any w.heap.size 0 q (q + 6) _ _ hb3 (by simp)
    rw [List.take_zero, List.nil_append, Nat.zero_add, List.drop_append, List.drop_of_length_le (by simp), List.length_replicate, Nat.sub_self, List.drop_zero, List.nil_append] at hbV
    have hBV : Below w.heap.size w V := (hB2.setCell (p := ⟨w.heap.size, 1 + q, none⟩) (Nat.le_refl _) _).grown hgV (by have := hB2.size; simpa using this) (fun k e => by cases e; exact Nat.le_refl _)
    obtain ⟨e1, hx0, hx⟩ := HX.out
    have HN := Lib.hid (lsh_fin w V q x 0 (x * 2 ^ s) hbV hBV hx (by decide) hq4 (by rw [Nat.mul_zero, Nat.add_zero]; simpa using lsh_worth x q 0 s e1))
    clear hb' hw2 hb2 hb3 hbV hgV hB2 hBV e1 hx0 hx
    go_wp2_with (simp only [hcl])
    refine HN.out.mono ?_
    rintro e w3 ⟨A3, c3, rfl, ho, hc3, hB3⟩
    have HO := Lib.hid (And.intro ho (And.intro hc3 hB3))
    clear ho hc3 hB3
    go_wp2
    go_ret
    exact ⟨A3, c3, rfl, HO.out.1, HO.out.2.1, HO.out.2.2⟩
  · have r0 : ((r : Int) == 0) = false := by rw [beq_eq_false_iff_ne]; omega
    obtain ⟨t, ht⟩ : ∃ t, r + t = 64 := ⟨64 - r, by omega⟩
    obtain ⟨e1, hx0, hx⟩ := HX.out
    have hh := lsh_halves x r t ht hx
    have HC2 := Lib.hid (lshVU_one x r t w.heap.size q 6 1 (List.replicate (q + 6) 0) ad w1 h0 ht (by omega) (by simp) hx HB.out.2.1 hc1 hne)
    have HW := Lib.hid (And.intro hh (And.intro (lsh_worth x q r s e1) (show x * 2 ^ r % 18446744073709551616 < 18446744073709551616 from Nat.mod_lt _ (by decide))))
    clear e1 hx0 hx hh
    go_wp2_with fail
    refine HC2.out.mono ?_
    rintro e w2 ⟨rfl, hb2, hg2⟩
    rw [rep_set] at hb2
    have hB2 := HB.out.1.grown hg2 (by have := HB.out.2.2; omega) (fun k e => by cases e; exact Nat.le_refl _)
    generalize x / 2 ^ t = hi at *
    have k0 := (hb2.cell (1 + q)).trans ((wv_cell _ _).trans (by rw [show 1 + q = q + 1 by omega, List.getElem?_append_right (by simp)]))
    have z0 := hb2.frozen (1 + q)
    have hb3 : Blk (w2.setCell ⟨w.heap.size, 1 + q, none⟩ (.int .u64 hi)) w.heap.size 157 (wv (List.replicate q 0 ++ x * 2 ^ r % 18446744073709551616 :: hi :: List.replicate 4 0)).toArray := by
      have h := hb2.set_ (1 + q) (.int .u64 hi)
      rw [wv_set, show 1 + q = q + 1 by omega, rep_set2] at h
      rw [show 1 + q = q + 1 by omega]
      exact h
    obtain ⟨V, hcl, hbV, hgV, hsV⟩ := clear_any w.heap.size 0 q (q + 6) _ _ hb3 (by simp)
    rw [List.take_zero, List.nil_append, Nat.zero_add, List.drop_append, List.drop_of_length_le (by simp), List.length_replicate, Nat.sub_self, List.drop_zero, List.nil_append] at hbV
    have hBV : Below w.heap.size w V := (hB2.setCell (p := ⟨w.heap.size, 1 + q, none⟩) (Nat.le_refl _) _).grown hgV (by have := hB2.size; simpa using this) (fun k e => by cases e; exact Nat.le_refl _)
    obtain ⟨⟨f1, f2⟩, f3, f4⟩ := HW.out
    have HN := Lib.hid (lsh_fin w V q _ hi (x * 2 ^ s) hbV hBV f4 f2 hq4 (by rw [f1]; exact f3))
    clear hb2 hb3 hbV hgV hg2 hB2 hBV f1 f2 f3 f4
    go_wp2_with (simp only)
    refine HN.out.mono ?_
    rintro e w3 ⟨A3, c3, rfl, ho, hc3, hB3⟩
    have HO := Lib.hid (And.intro ho (And.intro hc3 hB3))
    clear ho hc3 hB3
    go_wp2
    go_ret
    exact ⟨A3, c3, rfl, HO.out.1, HO.out.2.1, HO.out.2.2⟩
end Go.Proofs.YtkmeckimmfbkiaaGreatDoor
namespace Go.Proofs.YtkmeckimmfbkiaaGreatDoor
open Go Go.RowKit
set_option maxRecDepth 10000 in
set_option maxHeartbeats 400000 in
theorem numSetUint64_any (g o x : Nat) (b0 : Bool) (w : World) (T : TypeId) (cz : Array Value) (hx : x < 18446744073709551616) (hb : Blk w g T cz) (h0 : cz[o]? = some (.bool b0)) (h1 : cz[o + 1]? = some (.slice none 0 0)) :
    Calls Tryz.prog 121 #[.pointer (some ⟨g, o, none⟩), .int .u64 x] w fun e w' => e = .returned (.pointer (some ⟨g, o, none⟩)) ∧ ∃ V A c, Below w.heap.size w V ∧ NewNat w V A c x ∧ c ≤ (limbs x).length ∧ w' = (V.setCell ⟨g, o + 1, none⟩ (.slice A (limbs x).length c)).setCell ⟨g, o, none⟩ (.bool false) := by
  have k0 := (hb.cell o).trans h0
  have k1 := (hb.cell (o + 1)).trans h1
  have HC := Lib.hid (setUint64Nil_any x w hx)
  have HB := Lib.hid (And.intro hb (And.intro h0 h1))
  have hg := hb.lt
  clear hb h0 h1
  go_enter Tryz.func121, Tryz.ntmps121
  go_wp2_with fail
  refine HC.out.mono ?_
  rintro e w1 ⟨⟨A, c, rfl, ho, hc, hB⟩, A', c', e', hc'⟩
  injection e' with e'
  injection e' with e1 e2 e3
  subst e1 e3
  obtain ⟨hb, h0, h1⟩ := HB.out
  have hb1 := hb.below hB hg
  have k0 := (hb1.cell o).trans h0
  have k1 := (hb1.cell (o + 1)).trans h1
  have z0 := hb1.frozen o
  have z1 := hb1.frozen (o + 1)
  have HO := Lib.hid (And.intro ho (And.intro hc (And.intro hB hc')))
  clear ho hc hB hc' hb h0 h1 hb1
  go_wp2
  go_ret
  exact ⟨rfl, _, A, c, HO.out.2.2.1, NewNat.of_own HO.out.1 HO.out.2.1, HO.out.2.2.2, rfl⟩
theorem run_eq_ptr_same {P : Program} (w : World) {tp te : TypeId} {j : TypeInfo} {a : Addr} (hp : P.underlying tp = some (.pointer te)) (hte : P.info? te = some j) (_hsz : j.size ≠ 0) :
    (binOp .eql tp (.pointer (some a)) (.pointer (some a))).run P w = .ok (.bool true) w := by
  have h : ∀ d : Nat, (Op.equalIn (d + 1) tp (.pointer (some a)) (.pointer (some a))).run P w = .ok true w := fun d => by
    simp [Op.equalIn, run_underlying hp, sizeOf, typeInfo, hte, run_sameAddr_same]
  simp only [binOp]
  simp [Op.equal, Op.maxDepth, h 9999]
set_option maxRecDepth 10000 in
set_option maxHeartbeats 400000 in
theorem same_word (ad : Addr) (c : Nat) (w : World) : Calls Tryz.prog 150 #[.slice (some ad) 1 c, .slice (some ad) 1 c] w fun e w' => e = .returned (.bool true) ∧ ∃ k, w' = w.drewN k := by
  obtain ⟨i, hi, _, hz1, _⟩ := info_parts info116
  have hq : ∀ W : World, (binOp .eql 231 (.pointer (some ad)) (.pointer (some ad))).run Tryz.prog W = .ok (.bool true) W := fun W => run_eq_ptr_same W Tryz.underlying231 hi (by omega)
  clear hi hz1
  go_enter Tryz.func150, Tryz.ntmps150
  go_wp2
  go_quiet (fail)
  go_wp2
  go_ret
  exact ⟨rfl, _, rfl⟩
set_option maxRecDepth 10000 in
set_option maxHeartbeats 400000 in
theorem same_nil (c d : Nat) (w : World) : Calls Tryz.prog 150 #[.slice none 0 c, .slice none 0 d] w fun e w' => e = .returned (.bool false) ∧ ∃ k, w' = w.drewN k := by
  go_enter Tryz.func150, Tryz.ntmps150
  go_wp2
  go_quiet (fail)
  go_wp2
  go_ret
  exact ⟨rfl, _, rfl⟩
set_option maxRecDepth 10000 in
set_option maxHeartbeats 400000 in
theorem numLsh_any (g o x s : Nat) (neg : Bool) (ad : Addr) (w : World) (T : TypeId) (cz : Array Value) (hx0 : 0 < x) (hx : x < 18446744073709551616) (hs0 : 0 < s) (hs : s ≤ 4000) (hb : Blk w g T cz) (h0 : cz[o]? = some (.bool neg)) (h1 : cz[o + 1]? = some (.slice (some ad) 1 1)) (hc : w.cell? ad = some (.int .u64 x)) (hlt : ad.block < w.heap.size) :
    Calls Tryz.prog 123 #[.pointer (some ⟨g, o, none⟩), .pointer (some ⟨g, o, none⟩), .int .u64 s] w fun e w' => e = .returned (.pointer (some ⟨g, o, none⟩)) ∧ SetAt w g o neg (x * 2 ^ s) w' := by
  have k0 := (hb.cell o).trans h0
  have k1 := (hb.cell (o + 1)).trans h1
  have z0 := hb.frozen o
  have z1 := hb.frozen (o + 1)
  have HC := Lib.hid fun (V : World) c1 c2 => natLshOne_any x s ad V hx0 hx hs0 hs c1 c2
  have HB := Lib.hid (And.intro hb (And.intro h0 (And.intro h1 (And.intro hc hlt))))
  have hg := hb.lt
  clear hb h0 h1 hc hlt
  go_enter Tryz.func123, Tryz.ntmps123
  go_wp2_with fail
  go_region_with
    ((go_at_call 135; refine (HC.out _ (by exact HB.out.2.2.2.1) (by exact HB.out.2.2.2.2)).mono ?_; rintro e w3 ⟨A3, c3, rfl, ho, hc3, hB3⟩
      have hb1 := HB.out.1.drew.below hB3 hg
      have k0 := (hb1.cell o).trans HB.out.2.1
      have k1 := (hb1.cell (o + 1)).trans HB.out.2.2.1
      have z0 := hb1.frozen o
      have z1 := hb1.frozen (o + 1)
      clear hb1))
  all_goals
    have HF := Lib.hid (And.intro ho (And.intro hB3 hc3))
    clear ho hB3
    go_wp2
    go_ret
    obtain ⟨ho, hB3, hc3⟩ := HF.out
    exact ⟨rfl, _, A3, c3, ⟨hB3.os, hB3.tape, hB3.output, hB3.size, hB3.block⟩, NewNat.of_own ho hc3, rfl⟩
end Go.Proofs.YtkmeckimmfbkiaaGreatDoor
namespace Go.Proofs.YtkmeckimmfbkiaaGreatDoor
open Go Go.RowKit
theorem set_self {cz : Array Value} {i : Nat} {v : Value} (h : cz[i]? = some v) : cz.setIfInBounds i v = cz := by
  apply Array.ext_getElem?
  intro j
  rw [Array.getElem?_setIfInBounds]
  by_cases e : i = j
  · subst e
    obtain ⟨hi, hv⟩ := Array.getElem?_eq_some_iff.1 h
    rw [if_pos rfl, if_pos hi, h]
  · rw [if_neg e]
set_option maxRecDepth 10000 in
set_option maxHeartbeats 400000 in
theorem natLsh0_word (ad : Addr) (w : World) : Calls Tryz.prog 135 #[.slice (some ad) 1 1, .slice (some ad) 1 1, .int .u64 0] w fun e w' => e = .returned (.slice (some ad) 1 1) ∧ ∃ k, w' = w.drewN k := by
  go_enter Tryz.func135, Tryz.ntmps135
  go_wp2_with fail
  refine (same_word ad 1 w).mono ?_
  rintro e w1 ⟨rfl, k, rfl⟩
  go_wp2
  go_ret
  exact ⟨rfl, k, rfl⟩
set_option maxRecDepth 10000 in
set_option maxHeartbeats 400000 in
theorem natLsh0_nil (w : World) : Calls Tryz.prog 135 #[.slice none 0 0, .slice none 0 0, .int .u64 0] w (OwnsNat w 0) := by
  go_enter Tryz.func135, Tryz.ntmps135
  go_wp2_with fail
  refine (same_nil 0 0 w).mono ?_
  rintro e w1 ⟨rfl, k, rfl⟩
  go_wp2_with fail
  refine (aliasNil_any none 0 0 _).mono ?_
  rintro e w1 ⟨rfl, k2, rfl⟩
  go_wp2_with fail
  refine (setNil_any 0 none 0 0 _ (by rw [limbs_zero]; rfl) (by decide) (by decide) (by rw [limbs_zero]; exact Reads.none_)).mono ?_
  rintro e w1 ⟨A, c, rfl, ho, hc, hB⟩
  have HO := Lib.hid (And.intro ho (And.intro hc hB))
  clear ho hc hB
  go_wp2
  go_ret
  obtain ⟨ho, hc, hB⟩ := HO.out
  exact ⟨A, c, rfl, ho, hc, ((Below.refl w.heap.size w).drewN_ _).trans hB⟩
set_option maxRecDepth 10000 in
set_option maxHeartbeats 400000 in
theorem numLsh0_word (g o : Nat) (neg : Bool) (ad : Addr) (w : World) (T : TypeId) (cz : Array Value) (hb : Blk w g T cz) (h0 : cz[o]? = some (.bool neg)) (h1 : cz[o + 1]? = some (.slice (some ad) 1 1)) :
    Calls Tryz.prog 123 #[.pointer (some ⟨g, o, none⟩), .pointer (some ⟨g, o, none⟩), .int .u64 0] w fun e w' => e = .returned (.pointer (some ⟨g, o, none⟩)) ∧ Blk w' g T cz ∧ w.grownBy w' (some g) ∧ w'.heap.size = w.heap.size := by
  have k0 := (hb.cell o).trans h0
  have k1 := (hb.cell (o + 1)).trans h1
  have z0 := hb.frozen o
  have z1 := hb.frozen (o + 1)
  have HC := Lib.hid fun (V : World) => natLsh0_word ad V
  have HB := Lib.hid (And.intro hb (And.intro h0 h1))
  have hg := hb.lt
  clear hb h0 h1
  go_enter Tryz.func123, Tryz.ntmps123
  go_wp2_with fail
  go_region_with
    ((go_at_call 135; refine (HC.out _).mono ?_; rintro e w3 ⟨rfl, kk, rfl⟩))
  all_goals
    go_wp2
    go_ret
    obtain ⟨hb, h0, h1⟩ := HB.out
    have hb2 := (((hb.drew).drewN kk).set_ (o + 1) (.slice (some ad) 1 1)).set_ o (.bool neg)
    rw [set_self h1, set_self h0] at hb2
    exact ⟨rfl, hb2, grown_set (grown_set (grown_of_below ((Below.refl w.heap.size w).drewN_ _) (some g)) _) _, by simp⟩
/-- A rational number: a over b, in block g. -/
def RatAt (w : World) (B g : Nat) (neg : Bool) (a b : Nat) : Prop :=
  ∃ A ca D cd, Blk w g 200 #[.bool neg, .slice A (limbs a).length ca, .bool false, .slice D (limbs b).length cd] ∧ g < B ∧ Reads w B 1 A (limbs a).length (wv (limbs a)) ∧ (limbs a).length ≤ ca ∧ Reads w B 1 D (limbs b).length (wv (limbs b)) ∧ (limbs b).length ≤ cd
theorem RatAt.below {w w' : World} {B g a b : Nat} {neg : Bool} (h : RatAt w B g neg a b) (hb : Below B w w') : RatAt w' B g neg a b := by
  obtain ⟨A, ca, D, cd, h1, h2, h3, h4, h5, h6⟩ := h
  exact ⟨A, ca, D, cd, h1.below hb h2, h2, h3.below hb, h4, h5.below hb, h6⟩
theorem RatAt.more {w : World} {B B' g a b : Nat} {neg : Bool} (h : RatAt w B g neg a b) (hB : B ≤ B') : RatAt w B' g neg a b := by
  obtain ⟨A, ca, D, cd, h1, h2, h3, h4, h5, h6⟩ := h
  exact ⟨A, ca, D, cd, h1, by omega, h3.more hB, h4, h5.more hB, h6⟩
theorem RatAt.num {w : World} {B g a b : Nat} {neg : Bool} (h : RatAt w B g neg a b) : NumAt w B g 0 neg a := by
  obtain ⟨A, ca, D, cd, h1, h2, h3, h4, h5, h6⟩ := h
  exact ⟨A, ca, h1.cell 0, h1.cell 1, h2, h3, h4⟩
theorem RatAt.den {w : World} {B g a b : Nat} {neg : Bool} (h : RatAt w B g neg a b) : NumAt w B g 2 false b := by
  obtain ⟨A, ca, D, cd, h1, h2, h3, h4, h5, h6⟩ := h
  exact ⟨D, cd, h1.cell 2, h1.cell 3, h2, h5, h6⟩
/-- A rational number has been set in block g; nothing else that was there has turned. -/
def SetRat (w : World) (g : Nat) (neg : Bool) (a b : Nat) (e : Ending) (w' : World) : Prop :=
  e = .returned (.pointer (some ⟨g, 0, none⟩)) ∧ RatAt w' w'.heap.size g neg a b ∧ w.grownBy w' (some g)
set_option maxRecDepth 10000 in
set_option maxHeartbeats 400000 in
theorem ratSetInt_any (g gx x : Nat) (neg : Bool) (w : World) (hx : IntAt w w.heap.size gx neg x) (hs : (limbs x).length ≤ 2147483640) (hne : g ≠ gx) (hb : Blk w g 200 #[.bool false, .slice none 0 0, .bool false, .slice none 0 0]) :
    Calls Tryz.prog 109 #[.pointer (some ⟨g, 0, none⟩), .pointer (some ⟨gx, 0, none⟩)] w (SetRat w g neg x 1) := by
  have hbx : ∃ cx, Blk w gx 132 cx := by obtain ⟨A, c, h1, _⟩ := hx; exact ⟨_, h1⟩
  obtain ⟨cx, hbx⟩ := hbx
  have HC := Lib.hid (numSet_any g 0 gx 0 x neg false w _ _ _ cx hx.num hs hne hb hbx rfl rfl)
  have HB := Lib.hid hb
  have hg := hb.lt
  clear hx hb hbx
  go_enter Tryz.func109, Tryz.ntmps109
  go_wp2_with fail
  refine HC.out.mono ?_
  rintro e w1 ⟨rfl, hS⟩
  obtain ⟨A, c, hb1, hr1, hc1, hn1, hg1, hz1⟩ := hS.out HB.out
  have hb1 : Blk w1 g 200 #[.bool neg, .slice A (limbs x).length c, .bool false, .slice none 0 0] := by simpa using hb1
  obtain ⟨k0, k1, k2, k3, z0, z1, z2, z3⟩ := hb1.c4
  have HS := Lib.hid (And.intro hb1 (And.intro hr1 (And.intro hc1 (And.intro hn1 (And.intro hg1 hz1)))))
  clear hS hb1 hr1 hc1 hn1 hg1 hz1
  go_wp2_with fail
  refine (setWordNil_any 1 w1 (by decide)).mono ?_
  rintro e w2 ⟨⟨D, d, rfl, ho, hd, hB⟩, _⟩
  obtain ⟨hb1, hr1, hc1, hn1, hg1, hz1⟩ := HS.out
  have hgl1 := hb1.lt
  have hb2 := hb1.below hB hgl1
  obtain ⟨k0, k1, k2, k3, z0, z1, z2, z3⟩ := hb2.c4
  have HO := Lib.hid (And.intro ho (And.intro hd (And.intro hB hb2)))
  clear hb1 hr1 hc1 hn1 hg1 hz1 ho hd hB hb2
  go_wp2
  go_ret
  obtain ⟨hb1, hr1, hc1, hn1, hg1, hz1⟩ := HS.out
  obtain ⟨ho, hd, hB, hb2⟩ := HO.out
  have hN : NewNat w1 w2 D d 1 := NewNat.of_own ho hd
  have hb3 := hb2.set_ 3 (.slice D (limbs 1).length d)
  have hl := hb2.lt
  refine ⟨rfl, ⟨A, c, D, d, by simpa using hb3, by simpa using hl, ?_, hc1, ?_, hd⟩, ?_⟩
  · exact (((hr1.below hB).more hB.size).far (p := ⟨g, 3, none⟩) (fun ad e => by have := hn1 ad e; show ad.block ≠ g; omega) _).more (by simp)
  · exact (hN.1.far (p := ⟨g, 3, none⟩) (fun ad e => by have := hN.2.2 ad e; show ad.block ≠ g; omega) _).more (by simp)
  · exact grown_set (grown_trans hg1 (grown_of_below hB (some g))) _
end Go.Proofs.YtkmeckimmfbkiaaGreatDoor
