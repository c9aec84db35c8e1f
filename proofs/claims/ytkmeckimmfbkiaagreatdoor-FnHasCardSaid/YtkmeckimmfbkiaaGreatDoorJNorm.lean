/- A rational is brought to lowest terms. Conditions: none. -/
import Derived.Test.YtkmeckimmfbkiaaGreatDoorJRatCmp
import Derived.Test.YtkmeckimmfbkiaaGreatDoorJLehmer
import Derived.Test.YtkmeckimmfbkiaaGreatDoorJVMem
namespace Go.Proofs.YtkmeckimmfbkiaaGreatDoor
open Go Go.RowKit
/-- Words do not lie in a rational number's own block. -/
theorem Reads.grownRat {w w' : World} {B g n n1 c1 n3 c3 : Nat} {b0 b2 : Bool} {A A1 A3 : Option Addr} {l : List Nat} (h : Reads w B 1 A n (wv l)) (hb : Blk w g 200 #[.bool b0, .slice A1 n1 c1, .bool b2, .slice A3 n3 c3]) (hg : w.grownBy w' (some g)) : Reads w' w'.heap.size 1 A n (wv l) := by
  refine ⟨h.1, fun hn => ?_⟩
  obtain ⟨ad, e, hlt, hc⟩ := h.2 hn
  have hl : l.length = n := by have := h.1; rw [wv_len] at this; omega
  have hz := hc 0 _ (wv_get l 0 (by omega))
  have hadl := block_lt_of_cell hz
  have e0 : ad.add 0 = ad := rfl
  rw [e0] at hz hadl
  have hs := hg.size
  have hk : ad.block ≠ g := by
    intro hk
    obtain ⟨bl, off, spot⟩ := ad
    simp only at hk
    subst hk
    unfold Blk at hb
    simp only [World.cell?, hb] at hz
    split at hz
    · cases hz
    · rcases off with _ | _ | _ | _ | off <;> simp at hz
  exact ⟨ad, e, by omega, fun j v hj => (World.cell?_of_block (by rw [block_of_add]; exact hg.block ad.block hadl (by intro e; exact hk (by injection e)))).trans (hc j v hj)⟩
theorem RatAt.grownRat {w w' : World} {B g a b : Nat} {neg : Bool} (h : RatAt w B g neg a b) {n0 : Bool} {A : Option Addr} {ca : Nat} {D : Option Addr} {cd : Nat} (hb : Blk w g 200 #[.bool neg, .slice A (limbs a).length ca, .bool false, .slice D (limbs b).length cd]) (hw : Blk w' g 200 #[.bool n0, .slice A (limbs a).length ca, .bool false, .slice D (limbs b).length cd]) (hg : w.grownBy w' (some g)) : RatAt w' w'.heap.size g n0 a b := by
  obtain ⟨A', ca', D', cd', h1, h2, h3, h4, h5, h6⟩ := h
  have ex : #[Value.bool neg, .slice A (limbs a).length ca, .bool false, .slice D (limbs b).length cd] = #[Value.bool neg, .slice A' (limbs a).length ca', .bool false, .slice D' (limbs b).length cd'] := by
    have h := hb.symm.trans h1
    injection h with h
    injection h
  simp only [Array.mk.injEq, List.cons.injEq, Value.slice.injEq, true_and, and_true] at ex
  obtain ⟨⟨rfl, rfl⟩, rfl, rfl⟩ := ex
  exact ⟨A, ca, D, cd, hw, hw.lt, h3.grownRat hb hg, h4, h5.grownRat hb hg, h6⟩
theorem gen_ab {M : World → Prop} {w : World} {g : Nat} {t : TypeId} {x0 x1 x2 x3 y0 y2 : Value} (hb : Blk w g t #[x0, x1, x2, x3])
    (h : ∀ W : World, Blk W g t #[y0, x1, y2, x3] → w.grownBy W (some g) → W.heap.size = w.heap.size → M W) : M ((w.setCell ⟨g, 0, none⟩ y0).setCell ⟨g, 2, none⟩ y2) :=
  h _ (by simpa using (hb.set_ 0 y0).set_ 2 y2) (grown_set (grown_set (World.grownBy.refl w (some g)) y0) y2) (by simp)
set_option maxRecDepth 10000 in
set_option maxHeartbeats 1000000 in
theorem ratNorm_any (g a b : Nat) (neg : Bool) (w : World) (hx : RatAt w w.heap.size g neg a b) (ha0 : 0 < a) (hb0 : 0 < b) (la : (limbs a).length ≤ 1000) (lb : (limbs b).length ≤ 1000) (h64 : a < 18446744073709551616 ∨ b < 18446744073709551616) (hgcd : Nat.gcd a b = 1) :
    Calls Tryz.prog 124 #[.pointer (some ⟨g, 0, none⟩)] w (SetRat w g neg a b) := by
  have HX := Lib.hid hx
  obtain ⟨A, ca, D, cd, bx, lx, ra, hca, rd, hcd⟩ := hx
  have a1 : 0 < (limbs a).length := by rw [limbs_len_pos]; exact ha0
  have b1 : 0 < (limbs b).length := by rw [limbs_len_pos]; exact hb0
  have a2 : (((limbs a).length : Int) == 0) = false := by rw [beq_eq_false_iff_ne]; omega
  have b2 : (((limbs b).length : Int) == 0) = false := by rw [beq_eq_false_iff_ne]; omega
  obtain ⟨x0, x1, x2, x3, z0, z1, z2, z3⟩ := bx.c4
  have HB := Lib.hid (And.intro bx (And.intro ra (And.intro hca (And.intro rd hcd))))
  clear bx ra hca rd hcd
  go_enter_defers Tryz.func124, Tryz.ntmps124
  go_wp2_with fail
  refine (getStack_any w).mono ?_
  rintro e w1 ⟨rfl, b3, hB1, hs1⟩
  have bx := HB.out.1.below hB1 lx
  obtain ⟨x0, x1, x2, x3, z0, z1, z2, z3⟩ := bx.c4
  obtain ⟨g3, hg3⟩ : ∃ g3, g3 = w.heap.size := ⟨_, rfl⟩
  rw [← hg3] at b3 ⊢
  have H1 := Lib.hid (And.intro bx (And.intro b3 hB1))
  have lg : g < g3 := by omega
  have lw : g3 < w1.heap.size := by omega
  have lw0 : w.heap.size ≤ g3 := by omega
  clear bx b3 hB1 hs1 hg3
  go_wp2_with fail
  refine gen_ab (M := fun W => Code.wp _ _ _ _ W) H1.out.1 fun W bW hgW hsW => ?_
  have hgrW : ∀ k, k < w1.heap.size → k ≠ g → W.heap[k]? = w1.heap[k]? := fun k h1 h2 => hgW.block k h1 (by intro e; exact h2 (by injection e))
  have rW : RatAt W W.heap.size g false a b := ((HX.out.below H1.out.2.2).more H1.out.2.2.size).grownRat H1.out.1 bW hgW
  have b3W : Blk W g3 212 #[.pointer none] := (hgrW g3 lw (by omega)).trans H1.out.2.1
  have HW := Lib.hid (And.intro bW (And.intro rW (And.intro b3W (And.intro hgW hsW))))
  have hWs : w1.heap.size ≤ W.heap.size := by omega
  clear bW hgW hsW hgrW rW b3W x0 x1 x2 x3 z0 z1 z2 z3
  go_region_held3 (fun _ => True) (trivial)
    (first
      | (go_at_call 136; refine (newInt_zero W.drew).mono ?_; rintro e w2 ⟨rfl, bz, hB2, hs2⟩
         have hB2 : Below W.heap.size W w2 := ⟨hB2.os, hB2.tape, hB2.output, hB2.size, hB2.block⟩
         have H2 := Lib.hid (And.intro bz hB2)
         have hs2 : w2.heap.size = W.heap.size + 1 := hs2
         clear bz hB2)
      | (go_at_call 137; refine (gcd_any W.heap.size g 0 2 a b false false w2 _ _ (by exact H2.out.1) ((HW.out.2.1.num.below H2.out.2).more H2.out.2.size) ((HW.out.2.1.den.below H2.out.2).more H2.out.2.size) (HW.out.1.below H2.out.2 (by omega)) (by omega) ha0 hb0 la lb h64).mono ?_; rintro e w3 ⟨rfl, iz, hg3⟩
         rw [hgcd] at iz
         have H3 := Lib.hid (And.intro iz hg3)
         have hs3 := hg3.size
         clear iz hg3))
  go_wp2_with fail
  have hB3 : Below W.heap.size W w3 := H2.out.2.grown H3.out.2 H2.out.2.size (fun k e => by cases e; exact Nat.le_refl _)
  have HB3 := Lib.hid hB3
  clear hB3
  refine (intOne_any w3).mono ?_
  rintro e w4 ⟨g4, rfl, hg4, i4, hB4⟩
  have i4 : IntAt w4 w4.heap.size g4 false 1 := i4
  have H4 := Lib.hid (And.intro i4 hB4)
  have hs4 := hB4.size
  clear i4 hB4
  go_wp2_with fail
  refine (intCmp_any W.heap.size g4 1 1 false false w4 ((H3.out.1.below H4.out.2).more hs4) H4.out.1 (by rw [limbs_one 1 (by decide) (by decide)]; decide) (by omega) (by simp) (by simp)).mono ?_
  rintro e w5 ⟨rfl, k, rfl⟩
  have hc : cmpI (sgn false 1) (sgn false 1) = 0 := by decide
  rw [hc]
  have hBW : Below W.heap.size W w4 := HB3.out.trans (H4.out.2.mono (by omega))
  have b4 := (HW.out.1.below hBW (by omega)).drewN k
  have b34 := (HW.out.2.2.1.below hBW (by omega)).drewN k
  have r4 := ((HW.out.2.1.below hBW).more hBW.size)
  obtain ⟨x0, x1, x2, x3, z0, z1, z2, z3⟩ := b4.c4
  have H5 := Lib.hid (And.intro hBW (And.intro b4 (And.intro b34 r4)))
  have s0 : ((w4.drewN k).setCell ⟨g, 0, none⟩ (.bool neg)).cell? ⟨g3, 0, none⟩ = some (.pointer none) := cell_past (w := w4.drewN k) (p := ⟨g3, 0, none⟩) (by show g3 ≠ g; omega) (b34.cell 0)
  clear hBW b4 b34 r4 hc
  go_wp2_with fail
  refine leaves_cons (f := 112) (args := #[.pointer (some ⟨g3, 0, none⟩)]) (by simp) (by simp [go_sem]) ?_
  refine (free_any g3 _ (by exact s0)).mono ?_
  rintro e u w5 ⟨rfl, rfl, rfl⟩
  refine ⟨_, results_tmp rfl _ _ _, rfl, ?_, ?_⟩
  · have hb6 := H5.out.2.1.set_ 0 (.bool neg)
    exact RatAt.grownRat (w := w4.drewN k) H5.out.2.2.2 H5.out.2.1 (by simpa using hb6) (grown_set (World.grownBy.refl _ _) _)
  · exact grown_set (grown_trans (grown_trans (grown_of_below H1.out.2.2 (some g)) HW.out.2.2.2.1) (grown_of_below (H5.out.1.drewN_ k) (some g))) _
end Go.Proofs.YtkmeckimmfbkiaaGreatDoor
namespace Go.Proofs.YtkmeckimmfbkiaaGreatDoor
open Go Go.RowKit
theorem setU_rat (g m : Nat) (w : World) (hm : m < 18446744073709551616) (hb : Blk w g 200 #[.bool false, .slice none 0 0, .bool false, .slice none 0 0]) :
    Calls Tryz.prog 121 #[.pointer (some ⟨g, 0, none⟩), .int .u64 m] w fun e w' => e = .returned (.pointer (some ⟨g, 0, none⟩)) ∧ ∃ A, Blk w' g 200 #[.bool false, .slice A (limbs m).length (limbs m).length, .bool false, .slice none 0 0] ∧ Reads w' w'.heap.size 1 A (limbs m).length (wv (limbs m)) ∧ (∀ ad, A = some ad → w.heap.size ≤ ad.block) ∧ w.grownBy w' (some g) := by
  refine (numSetUint64_any g 0 m false w _ _ hm hb rfl rfl).mono ?_
  rintro e w1 ⟨rfl, V, A, c, hB, hN, hc, rfl⟩
  have hc' : c = (limbs m).length := Nat.le_antisymm hc hN.2.1
  subst hc'
  have hS : SetAt w g 0 false m _ := ⟨V, A, _, hB, hN, rfl⟩
  have hgl := hb.lt
  obtain ⟨_, _, _, _, _, _, hg1, _⟩ := hS.out hb
  refine ⟨rfl, A, by simpa using ((hb.below hB hgl).set_ 1 (.slice A (limbs m).length (limbs m).length)).set_ 0 (.bool false), ?_, hN.2.2, hg1⟩
  exact ((hN.1.far (p := ⟨g, 0 + 1, none⟩) (fun ad e => by have := hN.2.2 ad e; show ad.block ≠ g; omega) _).far (p := ⟨g, 0, none⟩) (fun ad e => by have := hN.2.2 ad e; show ad.block ≠ g; omega) _).more (by simp)
theorem gen_a {M : World → Prop} {w : World} {g : Nat} {t : TypeId} {x0 x1 x2 x3 y0 : Value} (hb : Blk w g t #[x0, x1, x2, x3])
    (h : ∀ W : World, Blk W g t #[y0, x1, x2, x3] → w.grownBy W (some g) → W.heap.size = w.heap.size → M W) : M (w.setCell ⟨g, 0, none⟩ y0) :=
  h _ (by simpa using hb.set_ 0 y0) (grown_set (World.grownBy.refl w (some g)) y0) (by simp)
set_option maxRecDepth 10000 in
set_option maxHeartbeats 400000 in
theorem numLsh0_nil (g o : Nat) (neg : Bool) (w : World) (T : TypeId) (cz : Array Value) (hb : Blk w g T cz) (h0 : cz[o]? = some (.bool neg)) (h1 : cz[o + 1]? = some (.slice none 0 0)) :
    Calls Tryz.prog 123 #[.pointer (some ⟨g, o, none⟩), .pointer (some ⟨g, o, none⟩), .int .u64 0] w fun e w' => e = .returned (.pointer (some ⟨g, o, none⟩)) ∧ SetAt w g o neg 0 w' := by
  have k0 := (hb.cell o).trans h0
  have k1 := (hb.cell (o + 1)).trans h1
  have z0 := hb.frozen o
  have z1 := hb.frozen (o + 1)
  have HC := Lib.hid fun (V : World) => natLsh0_nil V
  have HB := Lib.hid (And.intro hb (And.intro h0 h1))
  have hg := hb.lt
  clear hb h0 h1
  go_enter Tryz.func123, Tryz.ntmps123
  go_wp2_with fail
  go_region_with
    ((go_at_call 135; refine (HC.out _).mono ?_; rintro e w3 ⟨A3, c3, rfl, ho, hc3, hB3⟩
      have hb1 := HB.out.1.drew.below hB3 hg
      have k0 := (hb1.cell o).trans HB.out.2.1
      have k1 := (hb1.cell (o + 1)).trans HB.out.2.2
      have z0 := hb1.frozen o
      have z1 := hb1.frozen (o + 1)
      clear hb1))
  all_goals
    have HF := Lib.hid (And.intro ho (And.intro hB3 hc3))
    clear ho hB3
    go_wp2
    go_ret
    obtain ⟨ho, hB3, hc3⟩ := HF.out
    exact ⟨rfl, _, A3, c3, ⟨hB3.os, hB3.tape, hB3.output, hB3.size, hB3.block⟩, NewNat.of_own ho hc3, rfl⟩
set_option maxRecDepth 10000 in
set_option maxHeartbeats 400000 in
theorem makeFits_one (bd : Addr) (w : World) : Calls Tryz.prog 84 #[.slice (some bd) 1 1, .int .i64 1] w fun e w' => e = .returned (.slice (some bd) 1 1) ∧ w' = w := by
  go_enter Tryz.func84, Tryz.ntmps84
  go_wp2
  go_ret
  exact ⟨rfl, rfl⟩
set_option maxRecDepth 10000 in
set_option maxHeartbeats 400000 in
theorem setWord_fits (bd : Addr) (x : Nat) (v : Value) (w : World) (hx : 0 < x) (h : w.cell? bd = some v) (hf : w.frozen? bd = false) : Calls Tryz.prog 116 #[.slice (some bd) 1 1, .int .u64 x] w fun e w' => e = .returned (.slice (some bd) 1 1) ∧ w' = w.setCell bd (.int .u64 x) := by
  have b0 : ((x : Int) == 0) = false := by rw [beq_eq_false_iff_ne]; omega
  go_enter Tryz.func116, Tryz.ntmps116
  go_wp2_with fail
  refine (makeFits_one bd w).mono ?_
  rintro e w1 ⟨rfl, rfl⟩
  go_wp2
  go_ret
  exact ⟨rfl, rfl⟩
set_option maxRecDepth 10000 in
set_option maxHeartbeats 1000000 in
/-- norm of nought over one. -/
theorem norm_zero (g ca : Nat) (n0 : Bool) (A : Option Addr) (bd : Addr) (w : World) (hb : Blk w g 200 #[.bool n0, .slice A 0 ca, .bool false, .slice (some bd) 1 1]) (hd : w.cell? bd = some (.int .u64 1)) (hf : w.frozen? bd = false) (hl : bd.block < w.heap.size) (hne : bd.block ≠ g) :
    Calls Tryz.prog 124 #[.pointer (some ⟨g, 0, none⟩)] w fun e w' => e = .returned (.pointer (some ⟨g, 0, none⟩)) ∧ RatAt w' w'.heap.size g false 0 1 ∧ (∀ k, k < w.heap.size → k ≠ g → k ≠ bd.block → w'.heap[k]? = w.heap[k]?) ∧ w'.os = w.os ∧ w'.tape = w.tape ∧ w'.output = w.output ∧ w.heap.size ≤ w'.heap.size := by
  obtain ⟨x0, x1, x2, x3, z0, z1, z2, z3⟩ := hb.c4
  have HB := Lib.hid (And.intro hb (And.intro hd (And.intro hl hne)))
  clear hb
  have hne2 : ¬ g = bd.block := fun h => hne h.symm
  go_enter_defers Tryz.func124, Tryz.ntmps124
  have c1 : (w.setCell ⟨g, 0, none⟩ (.bool false)).cell? bd = some (.int .u64 1) := cell_past (p := bd) hne hd
  have f1 : (w.setCell ⟨g, 0, none⟩ (.bool false)).frozen? bd = false := by simpa using hf
  have e3 : ((w.setCell ⟨g, 0, none⟩ (.bool false)).setCell bd (.int .u64 1)).cell? ⟨g, 3, none⟩ = some (.slice (some bd) 1 1) := cell_past (p := ⟨g, 3, none⟩) hne2 (cell_off x3)
  have HC := Lib.hid (setWord_fits bd 1 _ _ (by decide) c1 f1)
  clear c1
  go_wp2_with fail
  refine HC.out.mono ?_
  rintro e w1 ⟨rfl, rfl⟩
  go_wp2_with fail
  obtain ⟨hb, hd, hl, hne⟩ := HB.out
  have l0 : limbs 0 = [] := limbs_zero
  have l1 : limbs 1 = [1] := limbs_one 1 (by decide) (by decide)
  have hgl := hb.lt
  have hb2 := ((hb.set_ 0 (.bool false)).far (p := bd) (fun e => hne e.symm) (.int .u64 1)).set_ 3 (.slice (some bd) 1 1)
  have hw := World.cell?_setCell_same (w.setCell ⟨g, 0, none⟩ (.bool false)) bd (.int .u64 1) (cell_past (p := bd) hne hd)
  refine ⟨_, results_tmp rfl _ _ _, rfl, ⟨A, ca, some bd, 1, by rw [l0, l1]; simpa using hb2, by simpa using hgl, by rw [l0]; exact ⟨rfl, fun h => absurd h (by decide)⟩, by rw [l0]; exact Nat.zero_le _, by rw [l1]; exact reads_word (cell_past (p := bd) hne hw) (by simpa using hl), by rw [l1]; exact Nat.le_refl _⟩, ?_, rfl, rfl, rfl, by simp⟩
  intro k hk h1 h2
  rw [Below.heap_setCell _ ⟨g, 3, none⟩ _ k h1, Below.heap_setCell _ bd _ k h2, Below.heap_setCell _ ⟨g, 0, none⟩ _ k h1]
end Go.Proofs.YtkmeckimmfbkiaaGreatDoor
namespace Go.Proofs.YtkmeckimmfbkiaaGreatDoor
open Go Go.RowKit
set_option maxRecDepth 10000 in
set_option maxHeartbeats 400000 in
theorem setNil_word (x c : Nat) (ad : Addr) (w : World) (hc : w.cell? ad = some (.int .u64 x)) (hl : ad.block < w.heap.size) :
    Calls Tryz.prog 87 #[.slice none 0 0, .slice (some ad) 1 c] w fun e w' => e = .returned (.slice (some ⟨w.heap.size, 0, none⟩) 1 1) ∧ Below w.heap.size w w' ∧ Blk w' w.heap.size 157 #[.int .u64 x] := by
  go_enter Tryz.func87, Tryz.ntmps87
  go_wp2_with fail
  refine (makeNil_one w).mono ?_
  rintro e w1 ⟨rfl, hB, hb, hz⟩
  have hc1 := (hB.cell hl).trans hc
  have hb' : w1.heap[w.heap.size]? = some (.cells [Value.int .u64 0].toArray 157 (0, 0)) := hb
  go_wp2_with (with_reducible refine wpList_copy_splice rfl (.tmp 9) (.tmp 10) 130 130 rfl 157 Tryz.underlying130 size116 (some ⟨w.heap.size, 0, none⟩) (some ad) 1 1 1 c rfl rfl w.heap.size 0 [Value.int .u64 0] 157 hb' [Value.int .u64 x] rfl ?hpos ?hfit (by simp [Value.oneCell']) w.heap.size w hB (Nat.le_refl _) ?_)
  case hpos =>
    intro j v hj
    rcases j with _ | j
    · cases hj; exact hc1
    · cases hj
  case hfit => simp
  intro w2 hw2 hB2
  clear hb hb'
  go_wp2
  go_ret
  exact ⟨rfl, hB2, hw2.out⟩
set_option maxRecDepth 10000 in
set_option maxHeartbeats 400000 in
theorem numSet1_any (g o gx ox x c : Nat) (neg b0 : Bool) (ad : Addr) (w : World) (T U : TypeId) (cz cx : Array Value) (hb : Blk w g T cz) (hbx : Blk w gx U cx) (h0 : cz[o]? = some (.bool b0)) (h1 : cz[o + 1]? = some (.slice none 0 0)) (x0 : cx[ox]? = some (.bool neg)) (x1 : cx[ox + 1]? = some (.slice (some ad) 1 c)) (hw : w.cell? ad = some (.int .u64 x)) (hl : ad.block < w.heap.size) (hne : g ≠ gx) :
    Calls Tryz.prog 73 #[.pointer (some ⟨g, o, none⟩), .pointer (some ⟨gx, ox, none⟩)] w fun e w' => e = .returned (.pointer (some ⟨g, o, none⟩)) ∧ ∃ V, Below w.heap.size w V ∧ Blk V w.heap.size 157 #[.int .u64 x] ∧ w' = (V.setCell ⟨g, o + 1, none⟩ (.slice (some ⟨w.heap.size, 0, none⟩) 1 1)).setCell ⟨g, o, none⟩ (.bool neg) := by
  obtain ⟨i, hi, hi0⟩ := info97
  have hq := run_neq_ptr_other (P := Tryz.prog) (a := ⟨g, o, none⟩) (b := ⟨gx, ox, none⟩) w Tryz.underlying90 hi hi0 (by intro h; exact hne (by injection h)) hb hbx
  clear hi hi0
  have hgx := hbx.lt
  have k0 := (hb.cell o).trans h0
  have k1 := (hb.cell (o + 1)).trans h1
  have kx0 := (hbx.cell ox).trans x0
  have kx1 := (hbx.cell (ox + 1)).trans x1
  have z0 := hb.frozen o
  have z1 := hb.frozen (o + 1)
  have y0 := hbx.frozen ox
  have y1 := hbx.frozen (ox + 1)
  have HH := Lib.hid (And.intro hb (And.intro hbx (And.intro hw hl)))
  have HZ := Lib.hid (And.intro h0 (And.intro h1 (And.intro x0 x1)))
  have hg := hb.lt
  clear hb hbx hw hl h0 h1 x0 x1
  have hn1 : ¬ gx = g := fun h => hne h.symm
  go_enter Tryz.func73, Tryz.ntmps73
  go_wp2_with fail
  go_region_with
    ((go_at_call 87; refine (setNil_word x c ad _ (by exact HH.out.2.2.1) (by exact HH.out.2.2.2)).mono ?_; rintro e w3 ⟨rfl, hB3, hb3⟩
      have hb1 := HH.out.1.drew.below hB3 hg
      have hbx1 := HH.out.2.1.drew.below hB3 hgx
      have k0 := (hb1.cell o).trans HZ.out.1
      have k1 := (hb1.cell (o + 1)).trans HZ.out.2.1
      have kx0 := (hbx1.cell ox).trans HZ.out.2.2.1
      have kx1 := (hbx1.cell (ox + 1)).trans HZ.out.2.2.2
      have z0 := hb1.frozen o
      have z1 := hb1.frozen (o + 1)
      have y0 := hbx1.frozen ox))
  all_goals
    have HF := Lib.hid (And.intro hB3 hb3)
    clear hB3 hb3 hb1 hbx1
    go_wp2
    go_ret
    obtain ⟨hB3, hb3⟩ := HF.out
    exact ⟨rfl, _, ⟨hB3.os, hB3.tape, hB3.output, hB3.size, hB3.block⟩, hb3, rfl⟩
/-- z.b.Set(one): what the block of a rational number holds then. -/
theorem set1_rat {w V : World} {g la ca : Nat} {N : Bool} {A : Option Addr} (hb : Blk w g 200 #[.bool N, .slice A la ca, .bool false, .slice none 0 0]) (hB : Below w.heap.size w V) (hw : Blk V w.heap.size 157 #[.int .u64 1]) :
    Blk ((V.setCell ⟨g, 2 + 1, none⟩ (.slice (some ⟨w.heap.size, 0, none⟩) 1 1)).setCell ⟨g, 2, none⟩ (.bool false)) g 200 #[.bool N, .slice A la ca, .bool false, .slice (some ⟨w.heap.size, 0, none⟩) 1 1] ∧
    ((V.setCell ⟨g, 2 + 1, none⟩ (.slice (some ⟨w.heap.size, 0, none⟩) 1 1)).setCell ⟨g, 2, none⟩ (.bool false)).cell? ⟨w.heap.size, 0, none⟩ = some (.int .u64 1) ∧
    ((V.setCell ⟨g, 2 + 1, none⟩ (.slice (some ⟨w.heap.size, 0, none⟩) 1 1)).setCell ⟨g, 2, none⟩ (.bool false)).frozen? ⟨w.heap.size, 0, none⟩ = false ∧
    w.grownBy ((V.setCell ⟨g, 2 + 1, none⟩ (.slice (some ⟨w.heap.size, 0, none⟩) 1 1)).setCell ⟨g, 2, none⟩ (.bool false)) (some g) ∧
    w.heap.size < ((V.setCell ⟨g, 2 + 1, none⟩ (.slice (some ⟨w.heap.size, 0, none⟩) 1 1)).setCell ⟨g, 2, none⟩ (.bool false)).heap.size := by
  have hg := hb.lt
  have hwl := hw.lt
  refine ⟨by simpa using ((hb.below hB hg).set_ 3 (.slice (some ⟨w.heap.size, 0, none⟩) 1 1)).set_ 2 (.bool false), ?_, by simpa using hw.frozen 0, grown_set (grown_set (grown_of_below hB (some g)) _) _, by simpa using hwl⟩
  exact cell_past (p := ⟨w.heap.size, 0, none⟩) (by show w.heap.size ≠ g; omega) (cell_past (p := ⟨w.heap.size, 0, none⟩) (by show w.heap.size ≠ g; omega) (hw.cell 0))
set_option maxRecDepth 10000 in
set_option maxHeartbeats 400000 in
theorem setWord0_nil (w : World) : Calls Tryz.prog 116 #[.slice none 0 0, .int .u64 0] w fun e w' => e = .returned (.slice none 0 0) ∧ w' = w := by
  go_enter Tryz.func116, Tryz.ntmps116
  go_wp2
  go_ret
  exact ⟨rfl, rfl⟩
set_option maxRecDepth 10000 in
set_option maxHeartbeats 400000 in
theorem setUint64_nil0 (w : World) : Calls Tryz.prog 125 #[.slice none 0 0, .int .u64 0] w fun e w' => e = .returned (.slice none 0 0) ∧ w' = w := by
  go_enter Tryz.func125, Tryz.ntmps125
  go_wp2_with fail
  refine (setWord0_nil w).mono ?_
  rintro e w1 ⟨rfl, rfl⟩
  go_wp2
  go_ret
  exact ⟨rfl, rfl⟩
set_option maxRecDepth 10000 in
set_option maxHeartbeats 400000 in
theorem setU0_rat (g : Nat) (w : World) (hb : Blk w g 200 #[.bool false, .slice none 0 0, .bool false, .slice none 0 0]) :
    Calls Tryz.prog 121 #[.pointer (some ⟨g, 0, none⟩), .int .u64 0] w fun e w' => e = .returned (.pointer (some ⟨g, 0, none⟩)) ∧ Blk w' g 200 #[.bool false, .slice none 0 0, .bool false, .slice none 0 0] ∧ w.grownBy w' (some g) := by
  obtain ⟨k0, k1, k2, k3, z0, z1, z2, z3⟩ := hb.c4
  have HB := Lib.hid hb
  clear hb
  go_enter Tryz.func121, Tryz.ntmps121
  go_wp2_with fail
  refine (setUint64_nil0 w).mono ?_
  rintro e w1 ⟨rfl, rfl⟩
  go_wp2
  go_ret
  have hb2 := (HB.out.set_ 1 (.slice none 0 0)).set_ 0 (.bool false)
  exact ⟨rfl, by simpa using hb2, grown_set (grown_set (World.grownBy.refl _ _) _) _⟩
end Go.Proofs.YtkmeckimmfbkiaaGreatDoor
