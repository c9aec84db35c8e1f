/- Int.QuoRem by one word, into two new integers. -/
import Derived.Test.YtkmeckimmfbkiaaGreatDoorJNum
namespace Go.Proofs.YtkmeckimmfbkiaaGreatDoor
open Go Go.RowKit
theorem cell_off {w : World} {g i j : Nat} {u v : Value} (h : w.cell? ⟨g, j, none⟩ = some v) (hij : i ≠ j := by decide) : (w.setCell ⟨g, i, none⟩ u).cell? ⟨g, j, none⟩ = some v :=
  (World.cell?_setCell_other w ⟨g, i, none⟩ ⟨g, j, none⟩ u (by simp)).trans h
theorem gen_two {M : World → Prop} {w : World} {g k i : Nat} {T U : TypeId} {cs ds : Array Value} {u v : Value} (hg : Blk w g T cs) (hk : Blk w k U ds) (hne : g ≠ k)
    (h : ∀ W : World, Blk W g T (cs.setIfInBounds i u) → Blk W k U (ds.setIfInBounds i v) → (∀ j, j ≠ g → j ≠ k → W.heap[j]? = w.heap[j]?) → W.heap.size = w.heap.size → W.os = w.os → W.tape = w.tape → W.output = w.output → M W) : M ((w.setCell ⟨g, i, none⟩ u).setCell ⟨k, i, none⟩ v) :=
  h _ ((hg.set_ i u).far (p := ⟨k, i, none⟩) hne v) ((hk.far (p := ⟨g, i, none⟩) hne.symm u).set_ i v)
    (fun j h1 h2 => (Below.heap_setCell _ ⟨k, i, none⟩ v j h2).trans (Below.heap_setCell _ ⟨g, i, none⟩ u j h1)) (by simp) rfl rfl rfl
theorem qr_fin {w0 w3 W : World} {gq gr c1 c2 x1 x2 : Nat} {A1 A2 : Option Addr} {bq br : Bool} (hN1 : NewNat w0 w3 A1 c1 x1) (hN2 : NewNat w0 w3 A2 c2 x2) (hk : ∀ j, j ≠ gq → j ≠ gr → W.heap[j]? = w3.heap[j]?) (hs : W.heap.size = w3.heap.size)
    (b1 : Blk W gq 132 #[.bool bq, .slice A1 (limbs x1).length c1]) (b2 : Blk W gr 132 #[.bool br, .slice A2 (limbs x2).length c2]) (hq : gq < w0.heap.size) (hr : gr < w0.heap.size) (d : gq ≠ gr) (u v : Bool) :
    IntAt ((W.setCell ⟨gq, 0, none⟩ (.bool u)).setCell ⟨gr, 0, none⟩ (.bool v)) ((W.setCell ⟨gq, 0, none⟩ (.bool u)).setCell ⟨gr, 0, none⟩ (.bool v)).heap.size gq u x1 ∧
    IntAt ((W.setCell ⟨gq, 0, none⟩ (.bool u)).setCell ⟨gr, 0, none⟩ (.bool v)) ((W.setCell ⟨gq, 0, none⟩ (.bool u)).setCell ⟨gr, 0, none⟩ (.bool v)).heap.size gr v x2 ∧
    (∀ j, j ≠ gq → j ≠ gr → ((W.setCell ⟨gq, 0, none⟩ (.bool u)).setCell ⟨gr, 0, none⟩ (.bool v)).heap[j]? = w3.heap[j]?) ∧ ((W.setCell ⟨gq, 0, none⟩ (.bool u)).setCell ⟨gr, 0, none⟩ (.bool v)).heap.size = w3.heap.size := by
  have far : ∀ {A : Option Addr} {n : Nat} {l : List Nat}, Reads w3 w3.heap.size 1 A n (wv l) → (∀ ad, A = some ad → w0.heap.size ≤ ad.block) → Reads W W.heap.size 1 A n (wv l) := by
    intro A n l h hn
    refine ⟨h.1, fun h0 => ?_⟩
    obtain ⟨ad, e, hlt, hc⟩ := h.2 h0
    have := hn ad e
    exact ⟨ad, e, by omega, fun j t hj => (World.cell?_of_block (by rw [block_of_add]; exact hk ad.block (by omega) (by omega))).trans (hc j t hj)⟩
  have r1 := far hN1.1 hN1.2.2
  have r2 := far hN2.1 hN2.2.2
  have g1 : ∀ ad : Addr, A1 = some ad → ad.block ≠ gq ∧ ad.block ≠ gr := fun ad e => by have := hN1.2.2 ad e; omega
  have g2 : ∀ ad : Addr, A2 = some ad → ad.block ≠ gq ∧ ad.block ≠ gr := fun ad e => by have := hN2.2.2 ad e; omega
  have hz := b1.lt
  have hz2 := b2.lt
  have k1 := (b1.set_ 0 (.bool u)).far (p := ⟨gr, 0, none⟩) d (.bool v)
  have k2 := (b2.far (p := ⟨gq, 0, none⟩) d.symm (.bool u)).set_ 0 (.bool v)
  refine ⟨⟨A1, c1, by simpa using k1, by simpa using hz, ?_, hN1.2.1⟩, ⟨A2, c2, by simpa using k2, by simpa using hz2, ?_, hN2.2.1⟩, fun j h1 h2 => ?_, by simpa using hs⟩
  · exact ((r1.far (p := ⟨gq, 0, none⟩) (fun ad e => (g1 ad e).1) _).far (p := ⟨gr, 0, none⟩) (fun ad e => (g1 ad e).2) _).more (by simp)
  · exact ((r2.far (p := ⟨gq, 0, none⟩) (fun ad e => (g2 ad e).1) _).far (p := ⟨gr, 0, none⟩) (fun ad e => (g2 ad e).2) _).more (by simp)
  · exact ((Below.heap_setCell _ ⟨gr, 0, none⟩ _ j h2).trans (Below.heap_setCell _ ⟨gq, 0, none⟩ _ j h1)).trans (hk j h1 h2)
set_option maxRecDepth 10000 in
set_option maxHeartbeats 4000000 in
theorem quoRem_any (gq gx ox gy oy gr X y : Nat) (nx ny bq br : Bool) (w : World) (Tx Ty : TypeId) (kx ky : Array Value) (hx : NumAt w w.heap.size gx ox nx X) (hy : NumAt w w.heap.size gy oy ny y) (hbx : Blk w gx Tx kx) (hby : Blk w gy Ty ky) (hq : Blk w gq 132 #[.bool bq, .slice none 0 0]) (hr : Blk w gr 132 #[.bool br, .slice none 0 0])
    (hX : 1 < (limbs X).length ∨ y = 1) (hX' : (limbs X).length ≤ 2147483000) (hy0 : 0 < y) (hyX : y ≤ X) (hy64 : y < 18446744073709551616) (d1 : gq ≠ gr) (d2 : gq ≠ gx) (d3 : gq ≠ gy) (d4 : gr ≠ gx) (d5 : gr ≠ gy) :
    Calls Tryz.prog 171 #[.pointer (some ⟨gq, 0, none⟩), .pointer (some ⟨gx, ox, none⟩), .pointer (some ⟨gy, oy, none⟩), .pointer (some ⟨gr, 0, none⟩)] w fun e w' =>
      e = .returned (.tuple #[.pointer (some ⟨gq, 0, none⟩), .pointer (some ⟨gr, 0, none⟩)]) ∧ IntAt w' w'.heap.size gq (decide (0 < X / y) && nx != ny) (X / y) ∧ IntAt w' w'.heap.size gr (decide (0 < X % y) && nx) (X % y) ∧
        w.heap.size ≤ w'.heap.size ∧ w'.os = w.os ∧ w'.tape = w.tape ∧ w'.output = w.output ∧ (∀ k, k < w.heap.size → k ≠ gq → k ≠ gr → w'.heap[k]? = w.heap[k]?) := by
  obtain ⟨A, cx, kx0, kx1, hgx, hrx, hcx⟩ := hx
  obtain ⟨B, cy, ky0, ky1, hgy, hry, hcy⟩ := hy
  have hly := limbs_one y hy64 hy0
  rw [hly] at hry hcy ky1
  obtain ⟨ad, rfl, hadl, hyc⟩ := hry.word (k := 0) (by simp)
  obtain ⟨kq0, kq1, zq0, zq1⟩ := hq.c2
  obtain ⟨kr0, kr1, zr0, zr1⟩ := hr.c2
  have HD := Lib.hid fun (V : World) h1 h2 => divNil_any X y (.pointer none) A ad (limbs X).length cx cy V rfl hX hX' hcx (by simpa using hcy) hy0 hy64 h1 h2
  have HX := Lib.hid hrx
  have HY := Lib.hid hyc
  have HK := Lib.hid (And.intro kx0 (And.intro kx1 (And.intro ky0 ky1)))
  have HB := Lib.hid (And.intro hbx (And.intro hby (And.intro hq hr)))
  have HG := Lib.hid (And.intro hgx (And.intro hgy (And.intro hq.lt hr.lt)))
  have HL := Lib.hid (And.intro (limbs_len_pos (X / y)) (limbs_len_pos (X % y)))
  clear hrx hyc hbx hby hq hr hgx hgy hly hX hX' hcx hcy hry hadl
  simp only [List.length_singleton] at *
  generalize hn : (limbs X).length = n at *
  have HN := Lib.hid hn
  clear hn
  have n1 : ¬ gx = gq := fun h => d2 h.symm
  have n2 : ¬ gy = gq := fun h => d3 h.symm
  have n3 : ¬ gx = gr := fun h => d4 h.symm
  have n4 : ¬ gy = gr := fun h => d5 h.symm
  have n5 : ¬ gr = gq := fun h => d1 h.symm
  go_enter Tryz.func171, Tryz.ntmps171
  go_wp2_with fail
  -- REGION (by genqr.py)
  refine wp_region_held_drew (S := fun w' => w'.cell? ⟨gx, ox + 1, none⟩ = some (.slice A n cx) ∧ w'.cell? ⟨gy, oy + 1, none⟩ = some (.slice (some ad) 1 cy)) (by kernel_rfl) (by exact ⟨kx1, ky1⟩) (fun hHeld => ?_)
  refine wpAnyH_take (i := 0) (v := ?_) rfl (by kernel_rfl) (by kernel_rfl) (by kernel_rfl) (fun _ _ _ h => h) (Or.inl ⟨by kernel_rfl, ?_⟩) (by assumption) ?_
  rotate_left
  · (intro w hSw; (try dsimp only at hSw); go_simp; try with_reducible rfl)
  try simp only [Act.put, List.setIfInBounds_toArray]
  refine wpAnyH_take (i := 1) (v := ?_) rfl (by kernel_rfl) (by kernel_rfl) (by kernel_rfl) (fun _ _ _ h => h) (Or.inl ⟨by kernel_rfl, ?_⟩) (by assumption) ?_
  rotate_left
  · (intro w hSw; (try dsimp only at hSw); go_simp; try with_reducible rfl)
  try simp only [Act.put]
  refine wpAnyH_take (i := 2) (v := ?_) rfl (by kernel_rfl) (by kernel_rfl) (by kernel_rfl) (fun _ _ _ h => h) (Or.inl ⟨by kernel_rfl, ?_⟩) (by assumption) ?_
  rotate_left
  · (intro w hSw; (try dsimp only at hSw); go_simp; try with_reducible rfl)
  try simp only [Act.put]
  refine wpAnyH_take (i := 3) (v := ?_) rfl (by kernel_rfl) (by kernel_rfl) (by kernel_rfl) (fun _ _ _ h => h) (Or.inl ⟨by kernel_rfl, ?_⟩) (by assumption) ?_
  rotate_left
  · (intro w hSw; (try dsimp only at hSw); go_simp; try with_reducible rfl)
  try simp only [Act.put]
  refine wpAnyH_take (i := 4) (v := ?_) rfl (by kernel_rfl) (by kernel_rfl) (by kernel_rfl) (fun _ _ _ h => h) (Or.inl ⟨by kernel_rfl, ?_⟩) (by assumption) ?_
  rotate_left
  · (intro w hSw; (try dsimp only at hSw); go_simp; try with_reducible rfl)
  try simp only [Act.put]
  refine wpAnyH_take (i := 6) (v := ?_) rfl (by kernel_rfl) (by kernel_rfl) (by kernel_rfl) (fun _ _ _ h => h) (Or.inl ⟨by kernel_rfl, ?_⟩) (by assumption) ?_
  rotate_left
  · (intro w hSw; (try dsimp only at hSw); go_simp; try with_reducible rfl)
  try simp only [Act.put]
  refine wpAnyH_take (i := 7) (v := ?_) rfl (by kernel_rfl) (by kernel_rfl) (by kernel_rfl) (fun _ _ _ h => h) (Or.inl ⟨by kernel_rfl, ?_⟩) (by assumption) ?_
  rotate_left
  · (intro w hSw; (try dsimp only at hSw); go_simp; try with_reducible rfl)
  try simp only [Act.put]
  refine wpAnyH_take (i := 8) (v := ?_) rfl (by kernel_rfl) (by kernel_rfl) (by kernel_rfl) (fun _ _ _ h => h) (Or.inl ⟨by kernel_rfl, ?_⟩) (by assumption) ?_
  rotate_left
  · (intro w hSw; (try dsimp only at hSw); go_simp; try with_reducible rfl)
  try simp only [Act.put]
  refine wpAnyH_take (i := 10) (v := ?_) rfl (by kernel_rfl) (by kernel_rfl) (by kernel_rfl) (fun _ _ _ h => h) (Or.inl ⟨by kernel_rfl, ?_⟩) (by assumption) ?_
  rotate_left
  · (intro w hSw; (try dsimp only at hSw); go_simp; try with_reducible rfl)
  try simp only [Act.put]
  refine wpAnyH_take (i := 11) (v := ?_) rfl (by kernel_rfl) (by kernel_rfl) (by kernel_rfl) (fun _ _ _ h => h) (Or.inl ⟨by kernel_rfl, ?_⟩) (by assumption) ?_
  rotate_left
  · (intro w hSw; (try dsimp only at hSw); go_simp; try with_reducible rfl)
  try simp only [Act.put]
  refine wpAnyH_take (i := 12) (v := ?_) rfl (by kernel_rfl) (by kernel_rfl) (by kernel_rfl) (fun _ _ _ h => h) (Or.inl ⟨by kernel_rfl, ?_⟩) (by assumption) ?_
  rotate_left
  · (intro w hSw; (try dsimp only at hSw); go_simp; try with_reducible rfl)
  try simp only [Act.put]
  refine wpAnyH_take (i := 13) (v := ?_) rfl (by kernel_rfl) (by kernel_rfl) (by kernel_rfl) (fun _ _ _ h => h) (Or.inl ⟨by kernel_rfl, ?_⟩) (by assumption) ?_
  rotate_left
  · (intro w hSw; (try dsimp only at hSw); go_simp; try with_reducible rfl)
  try simp only [Act.put]
  refine wpAnyH_take (i := 14) (v := ?_) rfl (by kernel_rfl) (by kernel_rfl) (by kernel_rfl) (fun _ _ _ h => h) (Or.inl ⟨by kernel_rfl, ?_⟩) (by assumption) ?_
  rotate_left
  · (intro w hSw; (try dsimp only at hSw); go_simp; try with_reducible rfl)
  try simp only [Act.put]
  refine wpAnyH_take (i := 15) (v := ?_) rfl (by kernel_rfl) (by kernel_rfl) (by kernel_rfl) (fun _ _ _ h => h) (Or.inl ⟨by kernel_rfl, ?_⟩) (by assumption) ?_
  rotate_left
  · (intro w hSw; (try dsimp only at hSw); go_simp; try with_reducible rfl)
  try simp only [Act.put]
  refine wpAnyH_take (i := 16) (v := ?_) rfl (by kernel_rfl) (by kernel_rfl) (by kernel_rfl) (fun _ _ _ h => h) (Or.inl ⟨by kernel_rfl, ?_⟩) (by assumption) ?_
  rotate_left
  · (intro w hSw; (try dsimp only at hSw); go_simp; try with_reducible rfl)
  try simp only [Act.put]
  refine wpAnyH_take (i := 17) (v := ?_) rfl (by kernel_rfl) (by kernel_rfl) (by kernel_rfl) (fun _ _ _ h => h) (Or.inl ⟨by kernel_rfl, ?_⟩) (by assumption) ?_
  rotate_left
  · (intro w hSw; (try dsimp only at hSw); go_simp; try with_reducible rfl)
  try simp only [Act.put]
  refine wpAnyH_ready (rs := [5, 9]) (by kernel_rfl) (by simp) ?_
  refine AllReadyH.cons (o := _) rfl (fun K hK => ?_) (AllReadyH.cons (o := _) rfl (fun K hK => ?_) AllReadyH.nil)
  · go_simp
    refine hK.out _ _ ?_ (fun hHeld => ?_)
    · (try dsimp only); first | assumption | (exact ⟨kx1, ky1⟩) | (with_reducible exact ⟨kx1, ky1⟩) | (with_reducible exact ⟨cell_past n1 kx1, cell_past n2 ky1⟩) | (with_reducible exact ⟨cell_past n3 (cell_past n1 kx1), cell_past n4 (cell_past n2 ky1)⟩)
    clear hK K
    try simp only [Act.put, List.setIfInBounds_toArray, List.set_cons_zero, List.set_cons_succ]
    refine wpAnyH_ready (rs := [9]) (by kernel_rfl) (by simp) ?_
    refine AllReadyH.cons (o := _) rfl (fun K hK => ?_) AllReadyH.nil
    go_simp
    refine hK.out _ _ ?_ (fun hHeld => ?_)
    · (try dsimp only); first | assumption | (exact ⟨kx1, ky1⟩) | (with_reducible exact ⟨kx1, ky1⟩) | (with_reducible exact ⟨cell_past n1 kx1, cell_past n2 ky1⟩) | (with_reducible exact ⟨cell_past n3 (cell_past n1 kx1), cell_past n4 (cell_past n2 ky1)⟩)
    clear hK K
    try simp only [Act.put, List.setIfInBounds_toArray, List.set_cons_zero, List.set_cons_succ]
    refine wpAnyH_ready (rs := [18]) (by kernel_rfl) (by simp) ?_
    refine AllReadyH.cons (o := _) rfl (fun K hK => ?_) AllReadyH.nil
    go_simp
    go_at_call 138
    refine (HD.out _ (by exact HX.out) (by exact HY.out)).mono ?_
    rintro e w3 ⟨A1, c1, A2, c2, rfl, o1, o2, hB⟩
    have bq_ := HB.out.2.2.1.drew.below hB HG.out.2.2.1
    have br_ := HB.out.2.2.2.drew.below hB HG.out.2.2.2
    obtain ⟨kq0, kq1, zq0, zq1⟩ := bq_.c2
    obtain ⟨kr0, kr1, zr0, zr1⟩ := br_.c2
    have kx0 := (hB.cell (p := ⟨gx, ox, none⟩) HG.out.1).trans HK.out.1
    have kx1 := (hB.cell (p := ⟨gx, ox + 1, none⟩) HG.out.1).trans HK.out.2.1
    have ky0 := (hB.cell (p := ⟨gy, oy, none⟩) HG.out.2.1).trans HK.out.2.2.1
    have ky1 := (hB.cell (p := ⟨gy, oy + 1, none⟩) HG.out.2.1).trans HK.out.2.2.2
    have HO := Lib.hid (And.intro o1 (And.intro o2 (And.intro hB (And.intro bq_ br_))))
    clear o1 o2 hB bq_ br_
    try go_wp2_with fail
    refine hK.out _ _ ?_ (fun hHeld => ?_)
    · (try dsimp only); first | assumption | (exact ⟨kx1, ky1⟩) | (with_reducible exact ⟨kx1, ky1⟩) | (with_reducible exact ⟨cell_past n1 kx1, cell_past n2 ky1⟩) | (with_reducible exact ⟨cell_past n3 (cell_past n1 kx1), cell_past n4 (cell_past n2 ky1)⟩)
    clear hK K
    try simp only [Act.put, List.setIfInBounds_toArray, List.set_cons_zero, List.set_cons_succ]
    refine wpAnyH_take (i := 19) (v := ?_) rfl (by kernel_rfl) (by kernel_rfl) (by kernel_rfl) (fun _ _ _ h => h) (Or.inl ⟨by kernel_rfl, ?_⟩) (by assumption) ?_
    rotate_left
    · (intro w hSw; (try dsimp only at hSw); go_simp; try with_reducible rfl)
    try simp only [Act.put, List.setIfInBounds_toArray]
    refine wpAnyH_take (i := 20) (v := ?_) rfl (by kernel_rfl) (by kernel_rfl) (by kernel_rfl) (fun _ _ _ h => h) (Or.inl ⟨by kernel_rfl, ?_⟩) (by assumption) ?_
    rotate_left
    · (intro w hSw; (try dsimp only at hSw); go_simp; try with_reducible rfl)
    try simp only [Act.put]
    refine wpAnyH_take (i := 21) (v := ?_) rfl (by kernel_rfl) (by kernel_rfl) (by kernel_rfl) (fun _ _ _ h => h) (Or.inl ⟨by kernel_rfl, ?_⟩) (by assumption) ?_
    rotate_left
    · (intro w hSw; (try dsimp only at hSw); go_simp; try with_reducible rfl)
    try simp only [Act.put]
    refine wpAnyH_take (i := 22) (v := ?_) rfl (by kernel_rfl) (by kernel_rfl) (by kernel_rfl) (fun _ _ _ h => h) (Or.inl ⟨by kernel_rfl, ?_⟩) (by assumption) ?_
    rotate_left
    · (intro w hSw; (try dsimp only at hSw); go_simp; try with_reducible rfl)
    try simp only [Act.put]
    refine wpAnyH_take (i := 23) (v := ?_) rfl (by kernel_rfl) (by kernel_rfl) (by kernel_rfl) (fun _ _ _ h => h) (Or.inl ⟨by kernel_rfl, ?_⟩) (by assumption) ?_
    rotate_left
    · (intro w hSw; (try dsimp only at hSw); go_simp; try with_reducible rfl)
    try simp only [Act.put]
    refine wpAnyH_ready (rs := [24]) (by kernel_rfl) (by simp) ?_
    refine AllReadyH.cons (o := _) rfl (fun K hK => ?_) AllReadyH.nil
    go_simp
    refine hK.out _ _ ?_ (fun hHeld => ?_)
    · (try dsimp only); first | assumption | (exact ⟨kx1, ky1⟩) | (with_reducible exact ⟨kx1, ky1⟩) | (with_reducible exact ⟨cell_past n1 kx1, cell_past n2 ky1⟩) | (with_reducible exact ⟨cell_past n3 (cell_past n1 kx1), cell_past n4 (cell_past n2 ky1)⟩)
    clear hK K
    try simp only [Act.put, List.setIfInBounds_toArray, List.set_cons_zero, List.set_cons_succ]
    refine wpAnyH_take (i := 25) (v := ?_) rfl (by kernel_rfl) (by kernel_rfl) (by kernel_rfl) (fun _ _ _ h => h) (Or.inl ⟨by kernel_rfl, ?_⟩) (by assumption) ?_
    rotate_left
    · (intro w hSw; (try dsimp only at hSw); go_simp; try with_reducible rfl)
    try simp only [Act.put, List.setIfInBounds_toArray]
    refine wpAnyH_take (i := 26) (v := ?_) rfl (by kernel_rfl) (by kernel_rfl) (by kernel_rfl) (fun _ _ _ h => h) (Or.inl ⟨by kernel_rfl, ?_⟩) (by assumption) ?_
    rotate_left
    · (intro w hSw; (try dsimp only at hSw); go_simp; try with_reducible rfl)
    try simp only [Act.put]
    refine wpAnyH_ready (rs := [27]) (by kernel_rfl) (by simp) ?_
    refine AllReadyH.cons (o := _) rfl (fun K hK => ?_) AllReadyH.nil
    go_simp
    refine hK.out _ _ ?_ (fun hHeld => ?_)
    · (try dsimp only); first | assumption | (exact ⟨kx1, ky1⟩) | (with_reducible exact ⟨kx1, ky1⟩) | (with_reducible exact ⟨cell_past n1 kx1, cell_past n2 ky1⟩) | (with_reducible exact ⟨cell_past n3 (cell_past n1 kx1), cell_past n4 (cell_past n2 ky1)⟩)
    clear hK K
    try simp only [Act.put, List.setIfInBounds_toArray, List.set_cons_zero, List.set_cons_succ]
    refine wpAnyH_done (by kernel_rfl) ?_ _
    go_wp2_with fail
    refine gen_two (M := fun W => Code.wp _ _ _ _ W) HO.out.2.2.2.1 HO.out.2.2.2.2 d1 fun W b1 b2 hk hs ho ht hu => ?_
    have b1 : Blk W gq 132 #[.bool bq, .slice A1 (limbs (X / y)).length c1] := b1
    have b2 : Blk W gr 132 #[.bool br, .slice A2 (limbs (X % y)).length c2] := b2
    have x0 : W.cell? ⟨gx, ox, none⟩ = some (.bool nx) := (World.cell?_of_block (hk gx n1 n3)).trans kx0
    have y0 : W.cell? ⟨gy, oy, none⟩ = some (.bool ny) := (World.cell?_of_block (hk gy n2 n4)).trans ky0
    obtain ⟨i0, i1, i2, i3⟩ := b1.c2
    obtain ⟨j0, j1, j2, j3⟩ := b2.c2
    have HW := Lib.hid (And.intro b1 (And.intro b2 (And.intro hk (And.intro hs (And.intro ho (And.intro ht hu))))))
    clear kq0 kq1 zq0 zq1 kr0 kr1 zr0 zr1 kx0 kx1 ky0 ky1 b1 b2 hk hs ho ht hu
    generalize hl1 : (limbs (X / y)).length = l1 at *
    generalize hl2 : (limbs (X % y)).length = l2 at *
    have HL2 := Lib.hid (And.intro hl1 hl2)
    clear hl1 hl2
    have n6 : ¬ gq = gr := d1
    have hp1 : 0 < l1 := by rw [HL.out.1]; exact Nat.div_pos hyX hy0
    have q1 : decide ((0 : Int) < (l1 : Int)) = true := decide_eq_true (by omega)
    by_cases hp2 : 0 < l2
    · have q2 : decide ((0 : Int) < (l2 : Int)) = true := decide_eq_true (by omega)
      go_region_held3 (fun w' => w'.cell? ⟨gq, 1, none⟩ = some (.slice A1 l1 c1) ∧ w'.cell? ⟨gr, 1, none⟩ = some (.slice A2 l2 c2) ∧ w'.cell? ⟨gx, ox, none⟩ = some (.bool nx) ∧ w'.cell? ⟨gy, oy, none⟩ = some (.bool ny)) (first | (with_reducible exact ⟨i1, j1, x0, y0⟩) | (exact ⟨cell_off i1, cell_past n5 j1, cell_past n1 x0, cell_past n2 y0⟩) | (exact ⟨cell_past n6 (cell_off i1), cell_off (cell_past n5 j1), cell_past n3 (cell_past n1 x0), cell_past n4 (cell_past n2 y0)⟩) | go_keep) (fail)
      go_wp2_with fail
      go_ret2
      obtain ⟨b1, b2, hk, hs, ho, ht, hu⟩ := HW.out
      obtain ⟨o1, o2, hB, _, _⟩ := HO.out
      obtain ⟨e1, e2⟩ := HL2.out
      subst e1 e2
      have hd1 : decide (0 < X / y) = true := decide_eq_true (Nat.div_pos hyX hy0)
      have hd2 : decide (0 < X % y) = true := decide_eq_true (by rw [← HL.out.2]; exact hp2)
      obtain ⟨f1, f2, f3, f4⟩ := qr_fin o1 o2 hk hs b1 b2 HG.out.2.2.1 HG.out.2.2.2 d1 (nx != ny) nx
      rw [hd1, hd2, Bool.true_and, Bool.true_and]
      exact ⟨rfl, f1, f2, Nat.le_trans hB.size (Nat.le_of_eq f4.symm), ho.trans hB.os, ht.trans hB.tape, hu.trans hB.output, fun k hk1 hk2 hk3 => (f3 k hk2 hk3).trans (hB.block k hk1)⟩
    · have hp2 : l2 = 0 := by omega
      have q2 : decide ((0 : Int) < (l2 : Int)) = false := by subst hp2; rfl
      refine wp_region_held_drew (S := fun w' => w'.cell? ⟨gq, 1, none⟩ = some (.slice A1 l1 c1) ∧ w'.cell? ⟨gr, 1, none⟩ = some (.slice A2 l2 c2) ∧ w'.cell? ⟨gx, ox, none⟩ = some (.bool nx) ∧ w'.cell? ⟨gy, oy, none⟩ = some (.bool ny)) (by kernel_rfl) (by exact ⟨i1, j1, x0, y0⟩) (fun hHeld => ?_)
      refine wpAnyH_take (i := 0) (v := ?_) rfl (by kernel_rfl) (by kernel_rfl) (by kernel_rfl) (fun _ _ _ h => h) (Or.inl ⟨by kernel_rfl, ?_⟩) (by assumption) ?_
      rotate_left
      · (intro w hSw; (try dsimp only at hSw); go_simp; try with_reducible rfl)
      try simp only [Act.put, List.setIfInBounds_toArray]
      refine wpAnyH_take (i := 1) (v := ?_) rfl (by kernel_rfl) (by kernel_rfl) (by kernel_rfl) (fun _ _ _ h => h) (Or.inl ⟨by kernel_rfl, ?_⟩) (by assumption) ?_
      rotate_left
      · (intro w hSw; (try dsimp only at hSw); go_simp; try with_reducible rfl)
      try simp only [Act.put]
      refine wpAnyH_take (i := 2) (v := ?_) rfl (by kernel_rfl) (by kernel_rfl) (by kernel_rfl) (fun _ _ _ h => h) (Or.inl ⟨by kernel_rfl, ?_⟩) (by assumption) ?_
      rotate_left
      · (intro w hSw; (try dsimp only at hSw); go_simp; try with_reducible rfl)
      try simp only [Act.put]
      refine wpAnyH_take (i := 3) (v := ?_) rfl (by kernel_rfl) (by kernel_rfl) (by kernel_rfl) (fun _ _ _ h => h) (Or.inl ⟨by kernel_rfl, ?_⟩) (by assumption) ?_
      rotate_left
      · (intro w hSw; (try dsimp only at hSw); go_simp; try with_reducible rfl)
      try simp only [Act.put]
      refine wpAnyH_take (i := 4) (v := ?_) rfl (by kernel_rfl) (by kernel_rfl) (by kernel_rfl) (fun _ _ _ h => h) (Or.inl ⟨by kernel_rfl, ?_⟩) (by assumption) ?_
      rotate_left
      · (intro w hSw; (try dsimp only at hSw); go_simp; try with_reducible rfl)
      try simp only [Act.put]
      refine wpAnyH_take (i := 5) (v := ?_) rfl (by kernel_rfl) (by kernel_rfl) (by kernel_rfl) (fun _ _ _ h => h) (Or.inl ⟨by kernel_rfl, ?_⟩) (by assumption) ?_
      rotate_left
      · (intro w hSw; (try dsimp only at hSw); go_simp; try with_reducible rfl)
      try simp only [Act.put]
      refine wpAnyH_take (i := 6) (v := ?_) rfl (by kernel_rfl) (by kernel_rfl) (by kernel_rfl) (fun _ _ _ h => h) (Or.inl ⟨by kernel_rfl, ?_⟩) (by assumption) ?_
      rotate_left
      · (intro w hSw; (try dsimp only at hSw); go_simp; try with_reducible rfl)
      try simp only [Act.put]
      refine wpAnyH_take (i := 7) (v := ?_) rfl (by kernel_rfl) (by kernel_rfl) (by kernel_rfl) (fun _ _ _ h => h) (Or.inl ⟨by kernel_rfl, ?_⟩) (by assumption) ?_
      rotate_left
      · (intro w hSw; (try dsimp only at hSw); go_simp; try with_reducible rfl)
      try simp only [Act.put]
      refine wpAnyH_take (i := 8) (v := ?_) rfl (by kernel_rfl) (by kernel_rfl) (by kernel_rfl) (fun _ _ _ h => h) (Or.inl ⟨by kernel_rfl, ?_⟩) (by assumption) ?_
      rotate_left
      · (intro w hSw; (try dsimp only at hSw); go_simp; try with_reducible rfl)
      try simp only [Act.put]
      refine wpAnyH_take (i := 9) (v := ?_) rfl (by kernel_rfl) (by kernel_rfl) (by kernel_rfl) (fun _ _ _ h => h) (Or.inl ⟨by kernel_rfl, ?_⟩) (by assumption) ?_
      rotate_left
      · (intro w hSw; (try dsimp only at hSw); go_simp; try with_reducible rfl)
      try simp only [Act.put]
      refine wpAnyH_take (i := 10) (v := ?_) rfl (by kernel_rfl) (by kernel_rfl) (by kernel_rfl) (fun _ _ _ h => h) (Or.inl ⟨by kernel_rfl, ?_⟩) (by assumption) ?_
      rotate_left
      · (intro w hSw; (try dsimp only at hSw); go_simp; try with_reducible rfl)
      try simp only [Act.put]
      refine wpAnyH_take (i := 11) (v := ?_) rfl (by kernel_rfl) (by kernel_rfl) (by kernel_rfl) (fun _ _ _ h => h) (Or.inl ⟨by kernel_rfl, ?_⟩) (by assumption) ?_
      rotate_left
      · (intro w hSw; (try dsimp only at hSw); go_simp; try with_reducible rfl)
      try simp only [Act.put]
      refine wpAnyH_take (i := 12) (v := ?_) rfl (by kernel_rfl) (by kernel_rfl) (by kernel_rfl) (fun _ _ _ h => h) (Or.inl ⟨by kernel_rfl, ?_⟩) (by assumption) ?_
      rotate_left
      · (intro w hSw; (try dsimp only at hSw); go_simp; try with_reducible rfl)
      try simp only [Act.put]
      refine wpAnyH_take (i := 13) (v := ?_) rfl (by kernel_rfl) (by kernel_rfl) (by kernel_rfl) (fun _ _ _ h => h) (Or.inl ⟨by kernel_rfl, ?_⟩) (by assumption) ?_
      rotate_left
      · (intro w hSw; (try dsimp only at hSw); go_simp; try with_reducible rfl)
      try simp only [Act.put]
      refine wpAnyH_take (i := 14) (v := ?_) rfl (by kernel_rfl) (by kernel_rfl) (by kernel_rfl) (fun _ _ _ h => h) (Or.inl ⟨by kernel_rfl, ?_⟩) (by assumption) ?_
      rotate_left
      · (intro w hSw; (try dsimp only at hSw); go_simp; try with_reducible rfl)
      try simp only [Act.put]
      refine wpAnyH_take (i := 15) (v := ?_) rfl (by kernel_rfl) (by kernel_rfl) (by kernel_rfl) (fun _ _ _ h => h) (Or.inl ⟨by kernel_rfl, ?_⟩) (by assumption) ?_
      rotate_left
      · (intro w hSw; (try dsimp only at hSw); go_simp; try with_reducible rfl)
      try simp only [Act.put]
      refine wpAnyH_take (i := 16) (v := ?_) rfl (by kernel_rfl) (by kernel_rfl) (by kernel_rfl) (fun _ _ _ h => h) (Or.inl ⟨by kernel_rfl, ?_⟩) (by assumption) ?_
      rotate_left
      · (intro w hSw; (try dsimp only at hSw); go_simp; try with_reducible rfl)
      try simp only [Act.put]
      refine wpAnyH_take (i := 17) (v := ?_) rfl (by kernel_rfl) (by kernel_rfl) (by kernel_rfl) (fun _ _ _ h => h) (Or.inl ⟨by kernel_rfl, ?_⟩) (by assumption) ?_
      rotate_left
      · (intro w hSw; (try dsimp only at hSw); go_simp; try with_reducible rfl)
      try simp only [Act.put]
      refine wpAnyH_take (i := 18) (v := ?_) rfl (by kernel_rfl) (by kernel_rfl) (by kernel_rfl) (fun _ _ _ h => h) (Or.inl ⟨by kernel_rfl, ?_⟩) (by assumption) ?_
      rotate_left
      · (intro w hSw; (try dsimp only at hSw); go_simp; try with_reducible rfl)
      try simp only [Act.put]
      refine wpAnyH_take (i := 19) (v := ?_) rfl (by kernel_rfl) (by kernel_rfl) (by kernel_rfl) (fun _ _ _ h => h) (Or.inl ⟨by kernel_rfl, ?_⟩) (by assumption) ?_
      rotate_left
      · (intro w hSw; (try dsimp only at hSw); go_simp; try with_reducible rfl)
      try simp only [Act.put]
      refine wpAnyH_take (i := 20) (v := ?_) rfl (by kernel_rfl) (by kernel_rfl) (by kernel_rfl) (fun _ _ _ h => h) (Or.inl ⟨by kernel_rfl, ?_⟩) (by assumption) ?_
      rotate_left
      · (intro w hSw; (try dsimp only at hSw); go_simp; try with_reducible rfl)
      try simp only [Act.put]
      refine wpAnyH_take (i := 21) (v := ?_) rfl (by kernel_rfl) (by kernel_rfl) (by kernel_rfl) (fun _ _ _ h => h) (Or.inl ⟨by kernel_rfl, ?_⟩) (by assumption) ?_
      rotate_left
      · (intro w hSw; (try dsimp only at hSw); go_simp; try with_reducible rfl)
      try simp only [Act.put]
      refine wpAnyH_take (i := 22) (v := ?_) rfl (by kernel_rfl) (by kernel_rfl) (by kernel_rfl) (fun _ _ _ h => h) (Or.inl ⟨by kernel_rfl, ?_⟩) (by assumption) ?_
      rotate_left
      · (intro w hSw; (try dsimp only at hSw); go_simp; try with_reducible rfl)
      try simp only [Act.put]
      refine wpAnyH_take (i := 23) (v := ?_) rfl (by kernel_rfl) (by kernel_rfl) (by kernel_rfl) (fun _ _ _ h => h) (Or.inl ⟨by kernel_rfl, ?_⟩) (by assumption) ?_
      rotate_left
      · (intro w hSw; (try dsimp only at hSw); go_simp; try with_reducible rfl)
      try simp only [Act.put]
      refine wpAnyH_take (i := 24) (v := ?_) rfl (by kernel_rfl) (by kernel_rfl) (by kernel_rfl) (fun _ _ _ h => h) (Or.inl ⟨by kernel_rfl, ?_⟩) (by assumption) ?_
      rotate_left
      · (intro w hSw; (try dsimp only at hSw); go_simp; try with_reducible rfl)
      try simp only [Act.put]
      refine wpAnyH_take (i := 25) (v := ?_) rfl (by kernel_rfl) (by kernel_rfl) (by kernel_rfl) (fun _ _ _ h => h) (Or.inl ⟨by kernel_rfl, ?_⟩) (by assumption) ?_
      rotate_left
      · (intro w hSw; (try dsimp only at hSw); go_simp; try with_reducible rfl)
      try simp only [Act.put]
      refine wpAnyH_take (i := 26) (v := undef) rfl (by kernel_rfl) (by kernel_rfl) (by kernel_rfl) (fun _ _ _ h => h) (Or.inr ⟨by kernel_rfl, rfl⟩) (by assumption) ?_
      try simp only [Act.put]
      refine wpAnyH_take (i := 27) (v := undef) rfl (by kernel_rfl) (by kernel_rfl) (by kernel_rfl) (fun _ _ _ h => h) (Or.inr ⟨by kernel_rfl, rfl⟩) (by assumption) ?_
      try simp only [Act.put]
      refine wpAnyH_take (i := 28) (v := undef) rfl (by kernel_rfl) (by kernel_rfl) (by kernel_rfl) (fun _ _ _ h => h) (Or.inr ⟨by kernel_rfl, rfl⟩) (by assumption) ?_
      try simp only [Act.put]
      refine wpAnyH_take (i := 29) (v := undef) rfl (by kernel_rfl) (by kernel_rfl) (by kernel_rfl) (fun _ _ _ h => h) (Or.inr ⟨by kernel_rfl, rfl⟩) (by assumption) ?_
      try simp only [Act.put]
      refine wpAnyH_take (i := 30) (v := ?_) rfl (by kernel_rfl) (by kernel_rfl) (by kernel_rfl) (fun _ _ _ h => h) (Or.inl ⟨by kernel_rfl, ?_⟩) (by assumption) ?_
      rotate_left
      · (intro w hSw; (try dsimp only at hSw); go_simp; try with_reducible rfl)
      try simp only [Act.put]
      refine wpAnyH_take (i := 31) (v := ?_) rfl (by kernel_rfl) (by kernel_rfl) (by kernel_rfl) (fun _ _ _ h => h) (Or.inl ⟨by kernel_rfl, ?_⟩) (by assumption) ?_
      rotate_left
      · (intro w hSw; (try dsimp only at hSw); go_simp; try with_reducible rfl)
      try simp only [Act.put]
      refine wpAnyH_take (i := 32) (v := ?_) rfl (by kernel_rfl) (by kernel_rfl) (by kernel_rfl) (fun _ _ _ h => h) (Or.inl ⟨by kernel_rfl, ?_⟩) (by assumption) ?_
      rotate_left
      · (intro w hSw; (try dsimp only at hSw); go_simp; try with_reducible rfl)
      try simp only [Act.put]
      refine wpAnyH_ready (rs := [33]) (by kernel_rfl) (by simp) ?_
      refine AllReadyH.cons (o := _) rfl (fun K hK => ?_) AllReadyH.nil
      go_simp
      refine hK.out _ _ ?_ (fun hHeld => ?_)
      · (try dsimp only); first | assumption | (exact ⟨i1, j1, x0, y0⟩) | (exact ⟨cell_off i1, cell_past n5 j1, cell_past n1 x0, cell_past n2 y0⟩) | (exact ⟨cell_past n6 (cell_off i1), cell_off (cell_past n5 j1), cell_past n3 (cell_past n1 x0), cell_past n4 (cell_past n2 y0)⟩)
      clear hK K
      try simp only [Act.put, List.setIfInBounds_toArray, List.set_cons_zero, List.set_cons_succ]
      refine wpAnyH_take (i := 34) (v := ?_) rfl (by kernel_rfl) (by kernel_rfl) (by kernel_rfl) (fun _ _ _ h => h) (Or.inl ⟨by kernel_rfl, ?_⟩) (by assumption) ?_
      rotate_left
      · (intro w hSw; (try dsimp only at hSw); go_simp; try with_reducible rfl)
      try simp only [Act.put, List.setIfInBounds_toArray]
      refine wpAnyH_take (i := 35) (v := ?_) rfl (by kernel_rfl) (by kernel_rfl) (by kernel_rfl) (fun _ _ _ h => h) (Or.inl ⟨by kernel_rfl, ?_⟩) (by assumption) ?_
      rotate_left
      · (intro w hSw; (try dsimp only at hSw); go_simp; try with_reducible rfl)
      try simp only [Act.put]
      refine wpAnyH_ready (rs := [36]) (by kernel_rfl) (by simp) ?_
      refine AllReadyH.cons (o := _) rfl (fun K hK => ?_) AllReadyH.nil
      go_simp
      refine hK.out _ _ ?_ (fun hHeld => ?_)
      · (try dsimp only); first | assumption | (exact ⟨i1, j1, x0, y0⟩) | (exact ⟨cell_off i1, cell_past n5 j1, cell_past n1 x0, cell_past n2 y0⟩) | (exact ⟨cell_past n6 (cell_off i1), cell_off (cell_past n5 j1), cell_past n3 (cell_past n1 x0), cell_past n4 (cell_past n2 y0)⟩)
      clear hK K
      try simp only [Act.put, List.setIfInBounds_toArray, List.set_cons_zero, List.set_cons_succ]
      refine wpAnyH_done (by kernel_rfl) ?_ _
      go_wp2_with fail
      go_ret2
      obtain ⟨b1, b2, hk, hs, ho, ht, hu⟩ := HW.out
      obtain ⟨o1, o2, hB, _, _⟩ := HO.out
      obtain ⟨e1, e2⟩ := HL2.out
      subst e1 e2
      have hd1 : decide (0 < X / y) = true := decide_eq_true (Nat.div_pos hyX hy0)
      have hd2 : decide (0 < X % y) = false := decide_eq_false (by rw [← HL.out.2]; omega)
      obtain ⟨f1, f2, f3, f4⟩ := qr_fin o1 o2 hk hs b1 b2 HG.out.2.2.1 HG.out.2.2.2 d1 (nx != ny) false
      rw [hd1, hd2, Bool.true_and, Bool.false_and]
      exact ⟨rfl, f1, f2, Nat.le_trans hB.size (Nat.le_of_eq f4.symm), ho.trans hB.os, ht.trans hB.tape, hu.trans hB.output, fun k hk1 hk2 hk3 => (f3 k hk2 hk3).trans (hB.block k hk1)⟩
  · go_simp
    refine hK.out _ _ ?_ (fun hHeld => ?_)
    · (try dsimp only); first | assumption | (exact ⟨kx1, ky1⟩) | (with_reducible exact ⟨kx1, ky1⟩) | (with_reducible exact ⟨cell_past n1 kx1, cell_past n2 ky1⟩) | (with_reducible exact ⟨cell_past n3 (cell_past n1 kx1), cell_past n4 (cell_past n2 ky1)⟩)
    clear hK K
    try simp only [Act.put, List.setIfInBounds_toArray, List.set_cons_zero, List.set_cons_succ]
    refine wpAnyH_ready (rs := [5]) (by kernel_rfl) (by simp) ?_
    refine AllReadyH.cons (o := _) rfl (fun K hK => ?_) AllReadyH.nil
    go_simp
    refine hK.out _ _ ?_ (fun hHeld => ?_)
    · (try dsimp only); first | assumption | (exact ⟨kx1, ky1⟩) | (with_reducible exact ⟨kx1, ky1⟩) | (with_reducible exact ⟨cell_past n1 kx1, cell_past n2 ky1⟩) | (with_reducible exact ⟨cell_past n3 (cell_past n1 kx1), cell_past n4 (cell_past n2 ky1)⟩)
    clear hK K
    try simp only [Act.put, List.setIfInBounds_toArray, List.set_cons_zero, List.set_cons_succ]
    refine wpAnyH_ready (rs := [18]) (by kernel_rfl) (by simp) ?_
    refine AllReadyH.cons (o := _) rfl (fun K hK => ?_) AllReadyH.nil
    go_simp
    go_at_call 138
    refine (HD.out _ (by exact HX.out) (by exact HY.out)).mono ?_
    rintro e w3 ⟨A1, c1, A2, c2, rfl, o1, o2, hB⟩
    have bq_ := HB.out.2.2.1.drew.below hB HG.out.2.2.1
    have br_ := HB.out.2.2.2.drew.below hB HG.out.2.2.2
    obtain ⟨kq0, kq1, zq0, zq1⟩ := bq_.c2
    obtain ⟨kr0, kr1, zr0, zr1⟩ := br_.c2
    have kx0 := (hB.cell (p := ⟨gx, ox, none⟩) HG.out.1).trans HK.out.1
    have kx1 := (hB.cell (p := ⟨gx, ox + 1, none⟩) HG.out.1).trans HK.out.2.1
    have ky0 := (hB.cell (p := ⟨gy, oy, none⟩) HG.out.2.1).trans HK.out.2.2.1
    have ky1 := (hB.cell (p := ⟨gy, oy + 1, none⟩) HG.out.2.1).trans HK.out.2.2.2
    have HO := Lib.hid (And.intro o1 (And.intro o2 (And.intro hB (And.intro bq_ br_))))
    clear o1 o2 hB bq_ br_
    try go_wp2_with fail
    refine hK.out _ _ ?_ (fun hHeld => ?_)
    · (try dsimp only); first | assumption | (exact ⟨kx1, ky1⟩) | (with_reducible exact ⟨kx1, ky1⟩) | (with_reducible exact ⟨cell_past n1 kx1, cell_past n2 ky1⟩) | (with_reducible exact ⟨cell_past n3 (cell_past n1 kx1), cell_past n4 (cell_past n2 ky1)⟩)
    clear hK K
    try simp only [Act.put, List.setIfInBounds_toArray, List.set_cons_zero, List.set_cons_succ]
    refine wpAnyH_take (i := 19) (v := ?_) rfl (by kernel_rfl) (by kernel_rfl) (by kernel_rfl) (fun _ _ _ h => h) (Or.inl ⟨by kernel_rfl, ?_⟩) (by assumption) ?_
    rotate_left
    · (intro w hSw; (try dsimp only at hSw); go_simp; try with_reducible rfl)
    try simp only [Act.put, List.setIfInBounds_toArray]
    refine wpAnyH_take (i := 20) (v := ?_) rfl (by kernel_rfl) (by kernel_rfl) (by kernel_rfl) (fun _ _ _ h => h) (Or.inl ⟨by kernel_rfl, ?_⟩) (by assumption) ?_
    rotate_left
    · (intro w hSw; (try dsimp only at hSw); go_simp; try with_reducible rfl)
    try simp only [Act.put]
    refine wpAnyH_take (i := 21) (v := ?_) rfl (by kernel_rfl) (by kernel_rfl) (by kernel_rfl) (fun _ _ _ h => h) (Or.inl ⟨by kernel_rfl, ?_⟩) (by assumption) ?_
    rotate_left
    · (intro w hSw; (try dsimp only at hSw); go_simp; try with_reducible rfl)
    try simp only [Act.put]
    refine wpAnyH_take (i := 22) (v := ?_) rfl (by kernel_rfl) (by kernel_rfl) (by kernel_rfl) (fun _ _ _ h => h) (Or.inl ⟨by kernel_rfl, ?_⟩) (by assumption) ?_
    rotate_left
    · (intro w hSw; (try dsimp only at hSw); go_simp; try with_reducible rfl)
    try simp only [Act.put]
    refine wpAnyH_take (i := 23) (v := ?_) rfl (by kernel_rfl) (by kernel_rfl) (by kernel_rfl) (fun _ _ _ h => h) (Or.inl ⟨by kernel_rfl, ?_⟩) (by assumption) ?_
    rotate_left
    · (intro w hSw; (try dsimp only at hSw); go_simp; try with_reducible rfl)
    try simp only [Act.put]
    refine wpAnyH_ready (rs := [24]) (by kernel_rfl) (by simp) ?_
    refine AllReadyH.cons (o := _) rfl (fun K hK => ?_) AllReadyH.nil
    go_simp
    refine hK.out _ _ ?_ (fun hHeld => ?_)
    · (try dsimp only); first | assumption | (exact ⟨kx1, ky1⟩) | (with_reducible exact ⟨kx1, ky1⟩) | (with_reducible exact ⟨cell_past n1 kx1, cell_past n2 ky1⟩) | (with_reducible exact ⟨cell_past n3 (cell_past n1 kx1), cell_past n4 (cell_past n2 ky1)⟩)
    clear hK K
    try simp only [Act.put, List.setIfInBounds_toArray, List.set_cons_zero, List.set_cons_succ]
    refine wpAnyH_take (i := 25) (v := ?_) rfl (by kernel_rfl) (by kernel_rfl) (by kernel_rfl) (fun _ _ _ h => h) (Or.inl ⟨by kernel_rfl, ?_⟩) (by assumption) ?_
    rotate_left
    · (intro w hSw; (try dsimp only at hSw); go_simp; try with_reducible rfl)
    try simp only [Act.put, List.setIfInBounds_toArray]
    refine wpAnyH_take (i := 26) (v := ?_) rfl (by kernel_rfl) (by kernel_rfl) (by kernel_rfl) (fun _ _ _ h => h) (Or.inl ⟨by kernel_rfl, ?_⟩) (by assumption) ?_
    rotate_left
    · (intro w hSw; (try dsimp only at hSw); go_simp; try with_reducible rfl)
    try simp only [Act.put]
    refine wpAnyH_ready (rs := [27]) (by kernel_rfl) (by simp) ?_
    refine AllReadyH.cons (o := _) rfl (fun K hK => ?_) AllReadyH.nil
    go_simp
    refine hK.out _ _ ?_ (fun hHeld => ?_)
    · (try dsimp only); first | assumption | (exact ⟨kx1, ky1⟩) | (with_reducible exact ⟨kx1, ky1⟩) | (with_reducible exact ⟨cell_past n1 kx1, cell_past n2 ky1⟩) | (with_reducible exact ⟨cell_past n3 (cell_past n1 kx1), cell_past n4 (cell_past n2 ky1)⟩)
    clear hK K
    try simp only [Act.put, List.setIfInBounds_toArray, List.set_cons_zero, List.set_cons_succ]
    refine wpAnyH_done (by kernel_rfl) ?_ _
    go_wp2_with fail
    refine gen_two (M := fun W => Code.wp _ _ _ _ W) HO.out.2.2.2.1 HO.out.2.2.2.2 d1 fun W b1 b2 hk hs ho ht hu => ?_
    have b1 : Blk W gq 132 #[.bool bq, .slice A1 (limbs (X / y)).length c1] := b1
    have b2 : Blk W gr 132 #[.bool br, .slice A2 (limbs (X % y)).length c2] := b2
    have x0 : W.cell? ⟨gx, ox, none⟩ = some (.bool nx) := (World.cell?_of_block (hk gx n1 n3)).trans kx0
    have y0 : W.cell? ⟨gy, oy, none⟩ = some (.bool ny) := (World.cell?_of_block (hk gy n2 n4)).trans ky0
    obtain ⟨i0, i1, i2, i3⟩ := b1.c2
    obtain ⟨j0, j1, j2, j3⟩ := b2.c2
    have HW := Lib.hid (And.intro b1 (And.intro b2 (And.intro hk (And.intro hs (And.intro ho (And.intro ht hu))))))
    clear kq0 kq1 zq0 zq1 kr0 kr1 zr0 zr1 kx0 kx1 ky0 ky1 b1 b2 hk hs ho ht hu
    generalize hl1 : (limbs (X / y)).length = l1 at *
    generalize hl2 : (limbs (X % y)).length = l2 at *
    have HL2 := Lib.hid (And.intro hl1 hl2)
    clear hl1 hl2
    have n6 : ¬ gq = gr := d1
    have hp1 : 0 < l1 := by rw [HL.out.1]; exact Nat.div_pos hyX hy0
    have q1 : decide ((0 : Int) < (l1 : Int)) = true := decide_eq_true (by omega)
    by_cases hp2 : 0 < l2
    · have q2 : decide ((0 : Int) < (l2 : Int)) = true := decide_eq_true (by omega)
      go_region_held3 (fun w' => w'.cell? ⟨gq, 1, none⟩ = some (.slice A1 l1 c1) ∧ w'.cell? ⟨gr, 1, none⟩ = some (.slice A2 l2 c2) ∧ w'.cell? ⟨gx, ox, none⟩ = some (.bool nx) ∧ w'.cell? ⟨gy, oy, none⟩ = some (.bool ny)) (first | (with_reducible exact ⟨i1, j1, x0, y0⟩) | (exact ⟨cell_off i1, cell_past n5 j1, cell_past n1 x0, cell_past n2 y0⟩) | (exact ⟨cell_past n6 (cell_off i1), cell_off (cell_past n5 j1), cell_past n3 (cell_past n1 x0), cell_past n4 (cell_past n2 y0)⟩) | go_keep) (fail)
      go_wp2_with fail
      go_ret2
      obtain ⟨b1, b2, hk, hs, ho, ht, hu⟩ := HW.out
      obtain ⟨o1, o2, hB, _, _⟩ := HO.out
      obtain ⟨e1, e2⟩ := HL2.out
      subst e1 e2
      have hd1 : decide (0 < X / y) = true := decide_eq_true (Nat.div_pos hyX hy0)
      have hd2 : decide (0 < X % y) = true := decide_eq_true (by rw [← HL.out.2]; exact hp2)
      obtain ⟨f1, f2, f3, f4⟩ := qr_fin o1 o2 hk hs b1 b2 HG.out.2.2.1 HG.out.2.2.2 d1 (nx != ny) nx
      rw [hd1, hd2, Bool.true_and, Bool.true_and]
      exact ⟨rfl, f1, f2, Nat.le_trans hB.size (Nat.le_of_eq f4.symm), ho.trans hB.os, ht.trans hB.tape, hu.trans hB.output, fun k hk1 hk2 hk3 => (f3 k hk2 hk3).trans (hB.block k hk1)⟩
    · have hp2 : l2 = 0 := by omega
      have q2 : decide ((0 : Int) < (l2 : Int)) = false := by subst hp2; rfl
      refine wp_region_held_drew (S := fun w' => w'.cell? ⟨gq, 1, none⟩ = some (.slice A1 l1 c1) ∧ w'.cell? ⟨gr, 1, none⟩ = some (.slice A2 l2 c2) ∧ w'.cell? ⟨gx, ox, none⟩ = some (.bool nx) ∧ w'.cell? ⟨gy, oy, none⟩ = some (.bool ny)) (by kernel_rfl) (by exact ⟨i1, j1, x0, y0⟩) (fun hHeld => ?_)
      refine wpAnyH_take (i := 0) (v := ?_) rfl (by kernel_rfl) (by kernel_rfl) (by kernel_rfl) (fun _ _ _ h => h) (Or.inl ⟨by kernel_rfl, ?_⟩) (by assumption) ?_
      rotate_left
      · (intro w hSw; (try dsimp only at hSw); go_simp; try with_reducible rfl)
      try simp only [Act.put, List.setIfInBounds_toArray]
      refine wpAnyH_take (i := 1) (v := ?_) rfl (by kernel_rfl) (by kernel_rfl) (by kernel_rfl) (fun _ _ _ h => h) (Or.inl ⟨by kernel_rfl, ?_⟩) (by assumption) ?_
      rotate_left
      · (intro w hSw; (try dsimp only at hSw); go_simp; try with_reducible rfl)
      try simp only [Act.put]
      refine wpAnyH_take (i := 2) (v := ?_) rfl (by kernel_rfl) (by kernel_rfl) (by kernel_rfl) (fun _ _ _ h => h) (Or.inl ⟨by kernel_rfl, ?_⟩) (by assumption) ?_
      rotate_left
      · (intro w hSw; (try dsimp only at hSw); go_simp; try with_reducible rfl)
      try simp only [Act.put]
      refine wpAnyH_take (i := 3) (v := ?_) rfl (by kernel_rfl) (by kernel_rfl) (by kernel_rfl) (fun _ _ _ h => h) (Or.inl ⟨by kernel_rfl, ?_⟩) (by assumption) ?_
      rotate_left
      · (intro w hSw; (try dsimp only at hSw); go_simp; try with_reducible rfl)
      try simp only [Act.put]
      refine wpAnyH_take (i := 4) (v := ?_) rfl (by kernel_rfl) (by kernel_rfl) (by kernel_rfl) (fun _ _ _ h => h) (Or.inl ⟨by kernel_rfl, ?_⟩) (by assumption) ?_
      rotate_left
      · (intro w hSw; (try dsimp only at hSw); go_simp; try with_reducible rfl)
      try simp only [Act.put]
      refine wpAnyH_take (i := 5) (v := ?_) rfl (by kernel_rfl) (by kernel_rfl) (by kernel_rfl) (fun _ _ _ h => h) (Or.inl ⟨by kernel_rfl, ?_⟩) (by assumption) ?_
      rotate_left
      · (intro w hSw; (try dsimp only at hSw); go_simp; try with_reducible rfl)
      try simp only [Act.put]
      refine wpAnyH_take (i := 6) (v := ?_) rfl (by kernel_rfl) (by kernel_rfl) (by kernel_rfl) (fun _ _ _ h => h) (Or.inl ⟨by kernel_rfl, ?_⟩) (by assumption) ?_
      rotate_left
      · (intro w hSw; (try dsimp only at hSw); go_simp; try with_reducible rfl)
      try simp only [Act.put]
      refine wpAnyH_take (i := 7) (v := ?_) rfl (by kernel_rfl) (by kernel_rfl) (by kernel_rfl) (fun _ _ _ h => h) (Or.inl ⟨by kernel_rfl, ?_⟩) (by assumption) ?_
      rotate_left
      · (intro w hSw; (try dsimp only at hSw); go_simp; try with_reducible rfl)
      try simp only [Act.put]
      refine wpAnyH_take (i := 8) (v := ?_) rfl (by kernel_rfl) (by kernel_rfl) (by kernel_rfl) (fun _ _ _ h => h) (Or.inl ⟨by kernel_rfl, ?_⟩) (by assumption) ?_
      rotate_left
      · (intro w hSw; (try dsimp only at hSw); go_simp; try with_reducible rfl)
      try simp only [Act.put]
      refine wpAnyH_take (i := 9) (v := ?_) rfl (by kernel_rfl) (by kernel_rfl) (by kernel_rfl) (fun _ _ _ h => h) (Or.inl ⟨by kernel_rfl, ?_⟩) (by assumption) ?_
      rotate_left
      · (intro w hSw; (try dsimp only at hSw); go_simp; try with_reducible rfl)
      try simp only [Act.put]
      refine wpAnyH_take (i := 10) (v := ?_) rfl (by kernel_rfl) (by kernel_rfl) (by kernel_rfl) (fun _ _ _ h => h) (Or.inl ⟨by kernel_rfl, ?_⟩) (by assumption) ?_
      rotate_left
      · (intro w hSw; (try dsimp only at hSw); go_simp; try with_reducible rfl)
      try simp only [Act.put]
      refine wpAnyH_take (i := 11) (v := ?_) rfl (by kernel_rfl) (by kernel_rfl) (by kernel_rfl) (fun _ _ _ h => h) (Or.inl ⟨by kernel_rfl, ?_⟩) (by assumption) ?_
      rotate_left
      · (intro w hSw; (try dsimp only at hSw); go_simp; try with_reducible rfl)
      try simp only [Act.put]
      refine wpAnyH_take (i := 12) (v := ?_) rfl (by kernel_rfl) (by kernel_rfl) (by kernel_rfl) (fun _ _ _ h => h) (Or.inl ⟨by kernel_rfl, ?_⟩) (by assumption) ?_
      rotate_left
      · (intro w hSw; (try dsimp only at hSw); go_simp; try with_reducible rfl)
      try simp only [Act.put]
      refine wpAnyH_take (i := 13) (v := ?_) rfl (by kernel_rfl) (by kernel_rfl) (by kernel_rfl) (fun _ _ _ h => h) (Or.inl ⟨by kernel_rfl, ?_⟩) (by assumption) ?_
      rotate_left
      · (intro w hSw; (try dsimp only at hSw); go_simp; try with_reducible rfl)
      try simp only [Act.put]
      refine wpAnyH_take (i := 14) (v := ?_) rfl (by kernel_rfl) (by kernel_rfl) (by kernel_rfl) (fun _ _ _ h => h) (Or.inl ⟨by kernel_rfl, ?_⟩) (by assumption) ?_
      rotate_left
      · (intro w hSw; (try dsimp only at hSw); go_simp; try with_reducible rfl)
      try simp only [Act.put]
      refine wpAnyH_take (i := 15) (v := ?_) rfl (by kernel_rfl) (by kernel_rfl) (by kernel_rfl) (fun _ _ _ h => h) (Or.inl ⟨by kernel_rfl, ?_⟩) (by assumption) ?_
      rotate_left
      · (intro w hSw; (try dsimp only at hSw); go_simp; try with_reducible rfl)
      try simp only [Act.put]
      refine wpAnyH_take (i := 16) (v := ?_) rfl (by kernel_rfl) (by kernel_rfl) (by kernel_rfl) (fun _ _ _ h => h) (Or.inl ⟨by kernel_rfl, ?_⟩) (by assumption) ?_
      rotate_left
      · (intro w hSw; (try dsimp only at hSw); go_simp; try with_reducible rfl)
      try simp only [Act.put]
      refine wpAnyH_take (i := 17) (v := ?_) rfl (by kernel_rfl) (by kernel_rfl) (by kernel_rfl) (fun _ _ _ h => h) (Or.inl ⟨by kernel_rfl, ?_⟩) (by assumption) ?_
      rotate_left
      · (intro w hSw; (try dsimp only at hSw); go_simp; try with_reducible rfl)
      try simp only [Act.put]
      refine wpAnyH_take (i := 18) (v := ?_) rfl (by kernel_rfl) (by kernel_rfl) (by kernel_rfl) (fun _ _ _ h => h) (Or.inl ⟨by kernel_rfl, ?_⟩) (by assumption) ?_
      rotate_left
      · (intro w hSw; (try dsimp only at hSw); go_simp; try with_reducible rfl)
      try simp only [Act.put]
      refine wpAnyH_take (i := 19) (v := ?_) rfl (by kernel_rfl) (by kernel_rfl) (by kernel_rfl) (fun _ _ _ h => h) (Or.inl ⟨by kernel_rfl, ?_⟩) (by assumption) ?_
      rotate_left
      · (intro w hSw; (try dsimp only at hSw); go_simp; try with_reducible rfl)
      try simp only [Act.put]
      refine wpAnyH_take (i := 20) (v := ?_) rfl (by kernel_rfl) (by kernel_rfl) (by kernel_rfl) (fun _ _ _ h => h) (Or.inl ⟨by kernel_rfl, ?_⟩) (by assumption) ?_
      rotate_left
      · (intro w hSw; (try dsimp only at hSw); go_simp; try with_reducible rfl)
      try simp only [Act.put]
      refine wpAnyH_take (i := 21) (v := ?_) rfl (by kernel_rfl) (by kernel_rfl) (by kernel_rfl) (fun _ _ _ h => h) (Or.inl ⟨by kernel_rfl, ?_⟩) (by assumption) ?_
      rotate_left
      · (intro w hSw; (try dsimp only at hSw); go_simp; try with_reducible rfl)
      try simp only [Act.put]
      refine wpAnyH_take (i := 22) (v := ?_) rfl (by kernel_rfl) (by kernel_rfl) (by kernel_rfl) (fun _ _ _ h => h) (Or.inl ⟨by kernel_rfl, ?_⟩) (by assumption) ?_
      rotate_left
      · (intro w hSw; (try dsimp only at hSw); go_simp; try with_reducible rfl)
      try simp only [Act.put]
      refine wpAnyH_take (i := 23) (v := ?_) rfl (by kernel_rfl) (by kernel_rfl) (by kernel_rfl) (fun _ _ _ h => h) (Or.inl ⟨by kernel_rfl, ?_⟩) (by assumption) ?_
      rotate_left
      · (intro w hSw; (try dsimp only at hSw); go_simp; try with_reducible rfl)
      try simp only [Act.put]
      refine wpAnyH_take (i := 24) (v := ?_) rfl (by kernel_rfl) (by kernel_rfl) (by kernel_rfl) (fun _ _ _ h => h) (Or.inl ⟨by kernel_rfl, ?_⟩) (by assumption) ?_
      rotate_left
      · (intro w hSw; (try dsimp only at hSw); go_simp; try with_reducible rfl)
      try simp only [Act.put]
      refine wpAnyH_take (i := 25) (v := ?_) rfl (by kernel_rfl) (by kernel_rfl) (by kernel_rfl) (fun _ _ _ h => h) (Or.inl ⟨by kernel_rfl, ?_⟩) (by assumption) ?_
      rotate_left
      · (intro w hSw; (try dsimp only at hSw); go_simp; try with_reducible rfl)
      try simp only [Act.put]
      refine wpAnyH_take (i := 26) (v := undef) rfl (by kernel_rfl) (by kernel_rfl) (by kernel_rfl) (fun _ _ _ h => h) (Or.inr ⟨by kernel_rfl, rfl⟩) (by assumption) ?_
      try simp only [Act.put]
      refine wpAnyH_take (i := 27) (v := undef) rfl (by kernel_rfl) (by kernel_rfl) (by kernel_rfl) (fun _ _ _ h => h) (Or.inr ⟨by kernel_rfl, rfl⟩) (by assumption) ?_
      try simp only [Act.put]
      refine wpAnyH_take (i := 28) (v := undef) rfl (by kernel_rfl) (by kernel_rfl) (by kernel_rfl) (fun _ _ _ h => h) (Or.inr ⟨by kernel_rfl, rfl⟩) (by assumption) ?_
      try simp only [Act.put]
      refine wpAnyH_take (i := 29) (v := undef) rfl (by kernel_rfl) (by kernel_rfl) (by kernel_rfl) (fun _ _ _ h => h) (Or.inr ⟨by kernel_rfl, rfl⟩) (by assumption) ?_
      try simp only [Act.put]
      refine wpAnyH_take (i := 30) (v := ?_) rfl (by kernel_rfl) (by kernel_rfl) (by kernel_rfl) (fun _ _ _ h => h) (Or.inl ⟨by kernel_rfl, ?_⟩) (by assumption) ?_
      rotate_left
      · (intro w hSw; (try dsimp only at hSw); go_simp; try with_reducible rfl)
      try simp only [Act.put]
      refine wpAnyH_take (i := 31) (v := ?_) rfl (by kernel_rfl) (by kernel_rfl) (by kernel_rfl) (fun _ _ _ h => h) (Or.inl ⟨by kernel_rfl, ?_⟩) (by assumption) ?_
      rotate_left
      · (intro w hSw; (try dsimp only at hSw); go_simp; try with_reducible rfl)
      try simp only [Act.put]
      refine wpAnyH_take (i := 32) (v := ?_) rfl (by kernel_rfl) (by kernel_rfl) (by kernel_rfl) (fun _ _ _ h => h) (Or.inl ⟨by kernel_rfl, ?_⟩) (by assumption) ?_
      rotate_left
      · (intro w hSw; (try dsimp only at hSw); go_simp; try with_reducible rfl)
      try simp only [Act.put]
      refine wpAnyH_ready (rs := [33]) (by kernel_rfl) (by simp) ?_
      refine AllReadyH.cons (o := _) rfl (fun K hK => ?_) AllReadyH.nil
      go_simp
      refine hK.out _ _ ?_ (fun hHeld => ?_)
      · (try dsimp only); first | assumption | (exact ⟨i1, j1, x0, y0⟩) | (exact ⟨cell_off i1, cell_past n5 j1, cell_past n1 x0, cell_past n2 y0⟩) | (exact ⟨cell_past n6 (cell_off i1), cell_off (cell_past n5 j1), cell_past n3 (cell_past n1 x0), cell_past n4 (cell_past n2 y0)⟩)
      clear hK K
      try simp only [Act.put, List.setIfInBounds_toArray, List.set_cons_zero, List.set_cons_succ]
      refine wpAnyH_take (i := 34) (v := ?_) rfl (by kernel_rfl) (by kernel_rfl) (by kernel_rfl) (fun _ _ _ h => h) (Or.inl ⟨by kernel_rfl, ?_⟩) (by assumption) ?_
      rotate_left
      · (intro w hSw; (try dsimp only at hSw); go_simp; try with_reducible rfl)
      try simp only [Act.put, List.setIfInBounds_toArray]
      refine wpAnyH_take (i := 35) (v := ?_) rfl (by kernel_rfl) (by kernel_rfl) (by kernel_rfl) (fun _ _ _ h => h) (Or.inl ⟨by kernel_rfl, ?_⟩) (by assumption) ?_
      rotate_left
      · (intro w hSw; (try dsimp only at hSw); go_simp; try with_reducible rfl)
      try simp only [Act.put]
      refine wpAnyH_ready (rs := [36]) (by kernel_rfl) (by simp) ?_
      refine AllReadyH.cons (o := _) rfl (fun K hK => ?_) AllReadyH.nil
      go_simp
      refine hK.out _ _ ?_ (fun hHeld => ?_)
      · (try dsimp only); first | assumption | (exact ⟨i1, j1, x0, y0⟩) | (exact ⟨cell_off i1, cell_past n5 j1, cell_past n1 x0, cell_past n2 y0⟩) | (exact ⟨cell_past n6 (cell_off i1), cell_off (cell_past n5 j1), cell_past n3 (cell_past n1 x0), cell_past n4 (cell_past n2 y0)⟩)
      clear hK K
      try simp only [Act.put, List.setIfInBounds_toArray, List.set_cons_zero, List.set_cons_succ]
      refine wpAnyH_done (by kernel_rfl) ?_ _
      go_wp2_with fail
      go_ret2
      obtain ⟨b1, b2, hk, hs, ho, ht, hu⟩ := HW.out
      obtain ⟨o1, o2, hB, _, _⟩ := HO.out
      obtain ⟨e1, e2⟩ := HL2.out
      subst e1 e2
      have hd1 : decide (0 < X / y) = true := decide_eq_true (Nat.div_pos hyX hy0)
      have hd2 : decide (0 < X % y) = false := decide_eq_false (by rw [← HL.out.2]; omega)
      obtain ⟨f1, f2, f3, f4⟩ := qr_fin o1 o2 hk hs b1 b2 HG.out.2.2.1 HG.out.2.2.2 d1 (nx != ny) false
      rw [hd1, hd2, Bool.true_and, Bool.false_and]
      exact ⟨rfl, f1, f2, Nat.le_trans hB.size (Nat.le_of_eq f4.symm), ho.trans hB.os, ht.trans hB.tape, hu.trans hB.output, fun k hk1 hk2 hk3 => (f3 k hk2 hk3).trans (hB.block k hk1)⟩
  -- END
end Go.Proofs.YtkmeckimmfbkiaaGreatDoor
