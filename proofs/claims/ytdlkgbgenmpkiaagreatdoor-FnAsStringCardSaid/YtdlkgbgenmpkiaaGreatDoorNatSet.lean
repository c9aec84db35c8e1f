/- nat.set onto nil; Int.SetBytes, Set, Neg. -/
import Derived.Test.YtdlkgbgenmpkiaaGreatDoorSetBytes
import Derived.Laws.CopyOwn
import Derived.Lib.Builder
import Derived.LaidEqlPtr
import Derived.Deep.RegionHeld3
import Derived.Deep.RegionWith
namespace Go.Proofs.YtdlkgbgenmpkiaaGreatDoor
open Go Go.RowKit
theorem size116 : (Tryz.prog.info? 116).map (·.size) = some 1 := by kernel_rfl
theorem ownsNat_mk {w w' : World} {x : Nat} {g n c : Nat} {cur : List Value} (hn : (limbs x).length = n) (hc : n ≤ c) (hm : c ≤ maxLen) (hg : w.heap.size ≤ g) (hb : w'.heap[g]? = some (.cells cur.toArray 116 (0, 0))) (hl : cur.length = c)
    (ht : cur.take n = wv (limbs x)) (hB : Below w.heap.size w w') : OwnsNat w x (.returned (.slice (some ⟨g, 0, none⟩) n c)) w' := by
  subst hn
  refine ⟨_, _, rfl, ⟨by simp [wv_len], .inr ⟨g, c, _, rfl, hg, hb, hc, hm, by simp; omega, ?_⟩⟩, hc, hB⟩
  simpa using ht
set_option maxRecDepth 10000 in
set_option maxHeartbeats 400000 in
theorem setNil_any (x : Nat) (A : Option Addr) (n c : Nat) (w : World) (hn : (limbs x).length = n) (hl : n ≤ 2147483640) (hc0 : n ≤ c) (hr : Reads w w.heap.size 1 A n (wv (limbs x))) :
    Calls Tryz.prog 41 #[.slice none 0 0, .slice A n c] w (OwnsNat w x) := by
  have HR := Lib.hid hr
  have HN := Lib.hid hn
  clear hr hn
  go_enter Tryz.func41, Tryz.ntmps41
  rcases Nat.eq_zero_or_pos n with h0 | h0
  · subst h0
    go_wp2_with fail
    refine (makeNil_zero w).mono ?_
    rintro e w1 ⟨rfl, rfl⟩
    go_wp2_with (with_reducible refine wpList_copy_nothing rfl _ _ _ _ rfl 116 Tryz.underlying95 size116 _ _ _ _ _ _ rfl rfl (by simp) ?_)
    go_wp2
    go_ret
    exact ⟨none, 0, by rw [HN.out]; rfl, by rw [HN.out, List.eq_nil_of_length_eq_zero HN.out]; exact World.ownsRow_nil _ _ _ _, by rw [HN.out]; exact Nat.le_refl _, Below.refl _ _⟩
  · go_wp2_with fail
    refine (makeNil_pos n h0 (by omega) w).mono ?_
    rintro e w1 ⟨c1, rfl, hB, hb, hz, hc1, hc2⟩
    have HZ := Lib.hid hz
    clear hz
    obtain ⟨ad, rfl⟩ : ∃ ad, A = some ad := (HR.out.2 h0).imp fun ad h => h.1
    have hb' : w1.heap[w.heap.size]? = some (.cells (List.replicate c1 (Value.int .u64 0)).toArray 116 (0, 0)) := by simpa [Blk] using hb
    go_wp2_with (with_reducible refine wpList_copy_splice rfl (.tmp 9) (.tmp 10) 95 95 rfl 116 Tryz.underlying95 size116 (some ⟨w.heap.size, 0, none⟩) (some ad) n c1 n c rfl rfl w.heap.size 0 (List.replicate c1 (Value.int .u64 0)) 116 hb' (wv (limbs x)) (by rw [wv_len, HN.out]; simp) ?hpos ?hfit (wv_one _) w.heap.size w hB (Nat.le_refl _) ?_)
    case hpos =>
      intro _ j v hj
      obtain ⟨ad', e, _, hc⟩ := (HR.out.below hB).2 h0
      cases e
      exact hc j v hj
    case hfit => rw [wv_len, HN.out]; simp; omega
    intro w2 hw2 hB2
    clear hb hb'
    go_wp2
    go_ret
    refine ownsNat_mk HN.out hc1 (by unfold maxLen; omega) (Nat.le_refl _) hw2.out ?_ ?_ hB2
    · simp [splice, wv_len, HN.out]; omega
    · simp [splice, wv_len, HN.out]
theorem run_neq_ptr_other {P : Program} (w : World) {tp te : TypeId} {j : TypeInfo} {a b : Addr} {ca cb : Array Value} {ta tb : TypeId} (hp : P.underlying tp = some (.pointer te)) (hte : P.info? te = some j) (hsz : j.size ≠ 0)
    (hne : a ≠ b) (ha : w.heap[a.block]? = some (.cells ca ta (0, 0))) (hb : w.heap[b.block]? = some (.cells cb tb (0, 0))) :
    (binOp .neq tp (.pointer (some a)) (.pointer (some b))).run P w = .ok (.bool true) w := by
  have h : ∀ d : Nat, (Op.equalIn (d + 1) tp (.pointer (some a)) (.pointer (some b))).run P w = .ok false w := fun d => by
    simp [Op.equalIn, run_underlying hp, sizeOf, typeInfo, hte, hsz, run_sameAddr_other w hne ha hb]
  simp only [binOp]
  simp [Op.equal, Op.maxDepth, h 9999]

/-- A big integer: its sign and its words in a block, the words below block B. -/
def IntAt (w : World) (B g : Nat) (neg : Bool) (x : Nat) : Prop :=
  ∃ A c, Blk w g 97 #[.bool neg, .slice A (limbs x).length c] ∧ g < B ∧ Reads w B 1 A (limbs x).length (wv (limbs x)) ∧ (limbs x).length ≤ c
theorem IntAt.below {w w' : World} {B g : Nat} {neg : Bool} {x : Nat} (h : IntAt w B g neg x) (hb : Below B w w') : IntAt w' B g neg x := by
  obtain ⟨A, c, h1, h2, h3, h4⟩ := h
  exact ⟨A, c, h1.below hb h2, h2, h3.below hb, h4⟩
theorem IntAt.more {w : World} {B B' g : Nat} {neg : Bool} {x : Nat} (h : IntAt w B g neg x) (hB : B ≤ B') : IntAt w B' g neg x := by
  obtain ⟨A, c, h1, h2, h3, h4⟩ := h
  exact ⟨A, c, h1, by omega, h3.more hB, h4⟩
/-- A big integer has been set in block g; nothing else that was there has turned. -/
def SetInt (w : World) (g : Nat) (neg : Bool) (x : Nat) (e : Ending) (w' : World) : Prop :=
  e = .returned (.pointer (some ⟨g, 0, none⟩)) ∧ IntAt w' w'.heap.size g neg x ∧ w.grownBy w' (some g)
theorem size97 : (Tryz.prog.info? 97).map (·.size) = some 2 := by kernel_rfl
theorem info97 : ∃ i, Tryz.prog.info? 97 = some i ∧ i.size ≠ 0 := by
  obtain ⟨i, hi, h⟩ := Option.map_eq_some_iff.1 size97
  exact ⟨i, hi, by omega⟩
theorem grown_of_below {w w' : World} (h : Below w.heap.size w w') (row : Option Nat) : w.grownBy w' row := ⟨h.os, h.tape, h.output, h.size, fun i hi _ => h.block i hi⟩
theorem grown_trans {a b c : World} {row : Option Nat} (h : a.grownBy b row) (k : b.grownBy c row) : a.grownBy c row :=
  ⟨k.os.trans h.os, k.tape.trans h.tape, k.output.trans h.output, Nat.le_trans h.size k.size, fun i hi hne => (k.block i (Nat.lt_of_lt_of_le hi h.size) hne).trans (h.block i hi hne)⟩
set_option maxRecDepth 10000 in
set_option maxHeartbeats 400000 in
theorem intSetBytes_any (l : List UInt8) (A : Option Addr) (n c g : Nat) (w : World) (hn : l.length = n) (hl : n ≤ 2147483640) (hc0 : n ≤ c) (hr : Reads w w.heap.size 1 A n (bv l)) (hb : Blk w g 97 #[.bool false, .slice none 0 0]) :
    Calls Tryz.prog 22 #[.pointer (some ⟨g, 0, none⟩), .slice A n c] w (SetInt w g false (beNat l)) := by
  obtain ⟨k0, k1, z0, z1⟩ := hb.c2
  have HH := Lib.hid (And.intro hn (And.intro hr hb))
  have hg := hb.lt
  clear hn hr hb
  go_enter Tryz.func22, Tryz.ntmps22
  go_wp2_with fail
  refine (setBytes_any l A n c w HH.out.1 hl hc0 HH.out.2.1).mono ?_
  rintro e w1 ⟨A1, c1, rfl, ho, hc1, hB⟩
  have hb1 := HH.out.2.2.below hB hg
  have hz := hB.size
  obtain ⟨k0, k1, z0, z1⟩ := hb1.c2
  have H1 := Lib.hid (And.intro ho (And.intro hB hb1))
  clear ho hB hb1
  go_wp2
  go_ret
  obtain ⟨ho, hB, hb1⟩ := H1.out
  have hb2 := (hb1.set_ 1 (.slice A1 (limbs (beNat l)).length c1)).set_ 0 (.bool false)
  have hg2 := grown_set (i := 0) (grown_set (i := 1) (grown_of_below hB (some g)) (.slice A1 (limbs (beNat l)).length c1)) (.bool false)
  refine ⟨rfl, ⟨A1, c1, by simpa using hb2, by simp; omega, ?_, hc1⟩, hg2⟩
  exact (Reads.of_own (ownsRow_setCell_below (ownsRow_setCell_below ho hg _) hg _)).more (by simp)
set_option maxRecDepth 10000 in
set_option maxHeartbeats 400000 in
theorem intSet_any (g gx x : Nat) (neg : Bool) (w : World) (hx : IntAt w w.heap.size gx neg x) (hs : (limbs x).length ≤ 2147483640) (hne : g ≠ gx) (hb : Blk w g 97 #[.bool false, .slice none 0 0]) :
    Calls Tryz.prog 28 #[.pointer (some ⟨g, 0, none⟩), .pointer (some ⟨gx, 0, none⟩)] w (SetInt w g neg x) := by
  obtain ⟨A, c, hbx, hgx, hrx, hcx⟩ := hx
  obtain ⟨i, hi, hi0⟩ := info97
  have hq := run_neq_ptr_other (P := Tryz.prog) (a := ⟨g, 0, none⟩) (b := ⟨gx, 0, none⟩) w Tryz.underlying59 hi hi0 (by intro h; exact hne (by injection h)) hb hbx
  clear hi hi0
  obtain ⟨k0, k1, z0, z1⟩ := hb.c2
  obtain ⟨p0, p1, y0, y1⟩ := hbx.c2
  have HH := Lib.hid (And.intro hrx (And.intro hb hbx))
  have hg := hb.lt
  generalize hn : (limbs x).length = n at *
  have HN := Lib.hid hn
  clear hrx hb hbx hn
  go_enter Tryz.func28, Tryz.ntmps28
  go_wp2_with fail
  go_region_with
    ((go_at_call 41; refine (setNil_any x A n c _ HN.out hs hcx (by exact HH.out.1)).mono ?_; rintro e w3 ⟨A3, c3, rfl, ho, hc3, hB3⟩
      have hb1 := HH.out.2.1.drew.below hB3 hg
      have hbx1 := HH.out.2.2.drew.below hB3 hgx
      obtain ⟨k0, q0, z0, z1⟩ := hb1.c2
      obtain ⟨p0, q1, y0, y1⟩ := hbx1.c2))
  all_goals
    have hn1 : ¬ gx = g := fun h => hne h.symm
    have hz3 := hB3.size
    simp only [World.size_drew] at hz3
    have HF := Lib.hid (And.intro ho (And.intro hB3 (And.intro hb1 hbx1)))
    clear ho hB3 hb1 hbx1
    go_wp2
    go_ret
    obtain ⟨ho, hB3, hb1, hbx1⟩ := HF.out
    have hb2 := (hb1.set_ 1 (.slice A3 (limbs x).length c3)).set_ 0 (.bool neg)
    have hg2 := grown_set (i := 0) (grown_set (i := 1) (grown_of_below (w := w.drew) hB3 (some g)) (.slice A3 (limbs x).length c3)) (.bool neg)
    refine ⟨rfl, ⟨A3, c3, by simpa using hb2, by simp; omega, ?_, hc3⟩, ⟨hg2.os, hg2.tape, hg2.output, hg2.size, hg2.block⟩⟩
    exact (Reads.of_own (ownsRow_setCell_below (ownsRow_setCell_below ho hg _) hg _)).more (by simp)
/-- 'z.Set(z)': nothing happens. -/
theorem intSetSame_any (g : Nat) (w : World) :
    Calls Tryz.prog 28 #[.pointer (some ⟨g, 0, none⟩), .pointer (some ⟨g, 0, none⟩)] w fun e w' => e = .returned (.pointer (some ⟨g, 0, none⟩)) ∧ w = w' := by
  obtain ⟨i, hi, hi0⟩ := info97
  have hq := Lib.run_neq_ptr_same (P := Tryz.prog) (w := w) ⟨g, 0, none⟩ Tryz.underlying59 hi
  clear hi hi0
  go_enter Tryz.func28, Tryz.ntmps28
  go_wp2
  go_ret
  exact ⟨rfl, rfl⟩
/-- Words do not lie in a big integer's own block. -/
theorem Reads.set_int {w : World} {B g n m c : Nat} {b : Bool} {A A' : Option Addr} {l : List Nat} (h : Reads w B 1 A n (wv l)) (hb : Blk w g 97 #[.bool b, .slice A' m c]) (i : Nat) (u : Value) : Reads (w.setCell ⟨g, i, none⟩ u) B 1 A n (wv l) := by
  refine ⟨h.1, fun hn => ?_⟩
  obtain ⟨ad, e, hlt, hc⟩ := h.2 hn
  have hlen : l.length = n := by have := h.1; rw [wv_len] at this; omega
  refine ⟨ad, e, hlt, fun j v hj => cell_past ?_ (hc j v hj)⟩
  rw [block_of_add]
  intro hg
  have h0 := hc 0 _ (wv_get l 0 (by omega))
  have e0 : ad.add 0 = ad := rfl
  rw [e0] at h0
  obtain ⟨bl, off, spot⟩ := ad
  simp only at hg
  subst hg
  unfold Blk at hb
  simp only [World.cell?, hb] at h0
  split at h0
  · cases h0
  · rcases off with _ | _ | off <;> simp at h0
theorem limbs_len_pos (x : Nat) : (0 < (limbs x).length) = (0 < x) := by
  rcases Nat.eq_zero_or_pos x with h | h
  · subst h; simp [limbs_zero]
  · rw [limbs_pos x h]; simp [h]
set_option maxRecDepth 10000 in
set_option maxHeartbeats 400000 in
/-- 'z.Neg(z)'. -/
theorem intNeg_any (g x : Nat) (neg : Bool) (w : World) (hx : IntAt w w.heap.size g neg x) (hs : (limbs x).length ≤ 2147483640) :
    Calls Tryz.prog 23 #[.pointer (some ⟨g, 0, none⟩), .pointer (some ⟨g, 0, none⟩)] w (SetInt w g (decide (0 < x) && !neg) x) := by
  obtain ⟨A, c, hb, hg, hr, hc⟩ := hx
  obtain ⟨k0, k1, z0, z1⟩ := hb.c2
  have HH := Lib.hid (And.intro hr hb)
  have hl := limbs_len_pos x
  generalize hn : (limbs x).length = n at *
  have HN := Lib.hid (And.intro hl hn)
  clear hr hb hl hn
  go_enter Tryz.func23, Tryz.ntmps23
  go_wp2_with fail
  refine (intSetSame_any g w).mono ?_
  rintro e w1 ⟨rfl, rfl⟩
  go_wp2
  · have hp : 0 < n := by omega
    have hv : (!neg) = (decide (0 < x) && !neg) := by
      have := HN.out.1
      rw [this] at hp
      simp [hp]
    go_ret
    have hb2 := HH.out.2.set_ 0 (.bool (!neg))
    have h2 := HN.out.2
    subst h2
    refine ⟨rfl, ⟨A, c, by rw [← hv]; simpa using hb2, by simpa using hg, ?_, hc⟩, grown_set (World.grownBy.refl w _) _⟩
    exact (HH.out.1.set_int HH.out.2 0 _).more (by simp)
  · have hp : ¬ 0 < n := by omega
    have hv : false = (decide (0 < x) && !neg) := by
      have := HN.out.1
      rw [this] at hp
      simp [hp]
    go_ret
    have hb2 := HH.out.2.set_ 0 (.bool false)
    have h2 := HN.out.2
    subst h2
    refine ⟨rfl, ⟨A, c, by rw [← hv]; simpa using hb2, by simpa using hg, ?_, hc⟩, grown_set (World.grownBy.refl w _) _⟩
    exact (HH.out.1.set_int HH.out.2 0 _).more (by simp)
end Go.Proofs.YtdlkgbgenmpkiaaGreatDoor
