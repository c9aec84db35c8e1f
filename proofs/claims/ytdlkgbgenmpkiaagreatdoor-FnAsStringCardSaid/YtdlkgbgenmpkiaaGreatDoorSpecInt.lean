/- The reference's integers: cut, Of; the laws' told, whole. -/
import Derived.Test.YtdlkgbgenmpkiaaGreatDoorBytes
import Derived.Deep.RegionHeld3
import Derived.Deep.AppendLies
namespace Go.Proofs.YtdlkgbgenmpkiaaGreatDoor
open Go Go.RowKit
set_option maxRecDepth 10000 in
set_option maxHeartbeats 400000 in
theorem cut_any (l : List UInt8) (A : Option Addr) (c : Nat) (w : World) (hl : l.length ≤ 2147483647) (hc0 : l.length ≤ c) (hr : Reads w w.heap.size 1 A l.length (bv l)) :
    Calls Tryz.prog 10 #[.slice A l.length c] w (Owns 5 1 w (cutB l).length (bv (cutB l))) := by
  go_enter Tryz.func10, Tryz.ntmps10
  go_wp2
  go_loop [3] (fun i => ∃ k : Nat, k ≤ l.length ∧ (∀ j (hj : j < l.length), j < k → l[j] = 0) ∧ i = .int .i64 k) (fun i => l.length - (intOf i).toNat)
  case atStart => exact ⟨0, Nat.zero_le _, fun j _ h => absurd h (by omega), rfl⟩
  case round =>
    obtain ⟨k, hk, h0, rfl⟩ := hrel
    have H0 := Lib.hid h0
    clear h0
    by_cases hlt : k < l.length
    · obtain ⟨ad, rfl, _, hcell⟩ := hr.byte hlt
      by_cases hb : l[k] = 0
      · have hz : ((l[k].toNat : Int) == 0) = true := by rw [hb]; rfl
        clear hr
        go_wp2
        go_round
        case rel => exact ⟨k + 1, by omega, fun j hj hjk => by
          rcases Nat.lt_or_ge j k with h | h
          · exact H0.out j hj h
          · obtain rfl : j = k := by omega
            exact hb, by go_num⟩
        case measure => simp [intOf]; omega
      · have hz : ((l[k].toNat : Int) == 0) = false := by
          rw [beq_eq_false_iff_ne]
          intro h
          exact hb (UInt8.toNat_inj.1 (by simpa using h))
        have hcut := Lib.hid (cutB_of l k hk (fun j hj => H0.out j (by omega) hj) (fun _ => hb))
        have hR := (hr.cut hk hc0).alloc (Nat.le_refl _) (.cells #[] 5)
        rw [if_neg (by omega), Nat.mul_one, bv_drop] at hR
        have hdec : decide (c = k) = false := by simp; omega
        have hO := World.ownsRow_lit (base := w.heap.size) (e := 5) (size := 1) w #[] 0 (Nat.le_refl _) (by decide) rfl
        go_wp2_with (at_builtin; refine app_bytes rfl _ _ rfl w.heap.size _ 0 [] rfl hO w.heap.size _ _ _ (l.drop k) rfl hR (by omega) (by simp) ?_)
        · intro v' w' h1 h2 h3
          go_wp2
          go_ret
          exact ownsB_mk hcut.out h1 (((Below.refl _ _).alloc (Nat.le_refl _) _).grown h2 (by simp) (by simp [Value.ownBlock]))
    · have hcut := Lib.hid (cutB_of l k hk (fun j hj => H0.out j (by omega) hj) (fun h => absurd h hlt))
      obtain rfl : k = l.length := by omega
      have hO := World.ownsRow_lit (base := w.heap.size) (e := 5) (size := 1) w #[] 0 (Nat.le_refl _) (by decide) rfl
      have hR : ∀ B, Reads (w.alloc (.cells #[] 5)) w.heap.size 1 B 0 (bv []) := fun B => ⟨rfl, fun h => absurd h (by omega)⟩
      go_wp2_with (at_builtin; refine app_bytes rfl _ _ rfl w.heap.size _ 0 [] rfl hO w.heap.size _ _ _ [] rfl (hR _) (by omega) (by simp) ?_)
      all_goals
        intro v' w' h1 h2 h3
        go_wp2
        go_ret
        refine ownsB_mk (l := []) (by rw [hcut.out]; simp) h1 (((Below.refl _ _).alloc (Nat.le_refl _) _).grown h2 (by simp) (by simp [Value.ownBlock]))

/-- A struct of a sign and a new row of bytes is handed back. -/
def OwnsInt (w : World) (neg : Bool) (l : List UInt8) (e : Ending) (w' : World) : Prop :=
  ∃ A c, e = .returned (.agg #[.bool neg, .slice A l.length c]) ∧ w'.ownsRow w.heap.size 5 1 (.slice A l.length c) l.length (bv l) ∧ l.length ≤ c ∧ Below w.heap.size w w'
set_option maxRecDepth 10000 in
set_option maxHeartbeats 400000 in
theorem of_any (neg : Bool) (l : List UInt8) (A : Option Addr) (n c : Nat) (w : World) (hn : l.length = n) (hl : n ≤ 2147483647) (hc0 : n ≤ c) (hr : Reads w w.heap.size 1 A n (bv l)) :
    Calls Tryz.prog 6 #[.bool neg, .slice A n c] w (OwnsInt w (neg && decide (0 < (cutB l).length)) (cutB l)) := by
  subst hn
  go_enter Tryz.func6, Tryz.ntmps6
  have hR := (hr.alloc (Nat.le_refl _) (.cells #[.bool false, .slice none 0 0] 24)).more (Nat.le_succ _)
  have hN := Blk.new w 24 #[.bool false, .slice none 0 0]
  go_wp2_with fail
  refine (cut_any l A c _ hl hc0 (by simpa using hR)).mono ?_
  rintro e w1 ⟨A1, c1, rfl, hown, hc1, hb⟩
  have hN1 := hN.below hb (by simp)
  have k0 := hN1.cell 0
  have k1 := hN1.cell 1
  have f0 := hN1.frozen 0
  have f1 := hN1.frozen 1
  simp at k0 k1
  have hown1 : w1.ownsRow (w.heap.size + 1) 5 1 (.slice A1 (cutB l).length c1) (cutB l).length (bv (cutB l)) := by simpa using hown
  have hb1 : Below w.heap.size w w1 := ((Below.refl _ _).alloc (Nat.le_refl _) _).trans (hb.mono (by simp))
  clear hR hr hN hown hb hN1 hc0
  have H1 := Lib.hid hown1
  clear hown1
  generalize cutB l = r at *
  go_wp2
  all_goals
    refine bodyPost_ret (v := .agg #[.bool (neg && decide (0 < r.length)), .slice A1 r.length c1]) (by simp [results, Tryz.results6, go_sem, *]) rfl ?_
    refine ⟨A1, c1, by simp [*], ?_, hc1, (hb1.setCell (Nat.le_refl _) _).setCell (Nat.le_refl _) _⟩
    exact own_mono (ownsRow_setCell_below (ownsRow_setCell_below H1.out (by simp) _) (by simp) _) (Nat.le_succ _)
theorem size28 : (Tryz.prog.info? 28).map (·.size) = some 6 := by kernel_rfl
set_option maxRecDepth 10000 in
set_option maxHeartbeats 400000 in
/-- The laws' 'told': the value of an integer, its bytes anew. -/
theorem told_any (neg : Bool) (l : List UInt8) (A : Option Addr) (c : Nat) (w : World) (hl : l.length ≤ 2147483647) (_hc0 : l.length ≤ c) (hr : Reads w w.heap.size 1 A l.length (bv l)) :
    Calls Tryz.prog 7 #[.agg #[.bool neg, .slice A l.length c]] w fun e w' => ∃ A1 c1, e = .returned (.agg #[.int .i64 2, .bool neg, .slice A1 l.length c1, .int .u64 0, .string ⟨#[]⟩, .slice none 0 0]) ∧
      w'.ownsRow w.heap.size 5 1 (.slice A1 l.length c1) l.length (bv l) ∧ l.length ≤ c1 ∧ Below w.heap.size w w' := by
  go_enter Tryz.func7, Tryz.ntmps7
  go_wp2_with fail
  refine gen2 (M := fun W => Code.wp _ _ _ _ W) fun W hB b0 b1 hz => ?_
  have hO := (World.ownsRow_lit (base := W.heap.size) (e := 5) (size := 1) W #[] 0 (Nat.le_refl _) (by decide) rfl).drew
  have hR := (((hr.below hB).more (by omega)).alloc (Nat.le_refl _) (.cells #[] 5)).drew
  have k0 := b0.cellE 0 (by simp)
  have k1 := b0.cellE 1 (by simp)
  have H := Lib.hid (And.intro hz (And.intro b0 b1))
  clear hz b0 b1 hr
  go_region_held3 (fun w' => w'.cell? ⟨w.heap.size, 0, none⟩ = some (.bool neg) ∧ w'.cell? ⟨w.heap.size, 1, none⟩ = some (.slice A l.length c)) (first | go_keep | exact ⟨q0, q1⟩)
    ((refine step_app_bytes (by rfl) _ _ (by rfl) W.heap.size _ 0 [] (by rfl) hO _ A l.length c l (by rfl) hR (by omega) (by simp) ?_; intro v' w1 hown1 hgrow hat; obtain ⟨A1, c1, rfl, hc1, _, _⟩ := own_slice hown1
      have q0 : w1.cell? ⟨w.heap.size, 0, none⟩ = some (.bool neg) := by rw [hgrow.cell_far _ (by have := H.out.1; simp; omega) (by have := H.out.1; simp [Value.ownBlock]; omega)]; simp [*]
      have q1 : w1.cell? ⟨w.heap.size, 1, none⟩ = some (.slice A l.length c) := by rw [hgrow.cell_far _ (by have := H.out.1; simp; omega) (by have := H.out.1; simp [Value.ownBlock]; omega)]; simp [*]
      have b1' : Blk w1 (w.heap.size + 1) 28 #[.int .i64 0, .bool false, .slice none 0 0, .int .u64 0, .string ⟨#[]⟩, .slice none 0 0] := ((H.out.2.2.alloc (.cells #[] 5)).drew).grown hgrow (by have := H.out.1; simp [Value.ownBlock]; omega)
      obtain ⟨e0, e1, e2, e3, e4, e5, z0, z1, z2, z3, z4, z5⟩ := b1'.c6))
  simp only [Nat.zero_add, List.nil_append] at hown1 hc1
  have hz := H.out.1
  have hB1 : Below w.heap.size w w1 := ((hB.alloc (by omega) (.cells #[] 5)).drew).grown hgrow (by simp; omega) (by simp [Value.ownBlock]; omega)
  have hs1 : w.heap.size + 1 < w1.heap.size := b1'.lt
  clear hO hR hgrow hat q0 q1 k0 k1 hB e0 e1 e2 e3 e4 e5 z0 z1 z2 z3 z4 z5
  refine gen_set6 (M := fun W => Exit.then _ _ _ _ W) b1' fun W2 b2 hg2 hz2 => ?_
  go_wp2
  refine ret_row rfl _ b2 rfl Tryz.underlying28 rfl size28 rfl ⟨A1, c1, rfl, ?_, hc1, below_grown hB1 hg2 (by omega) (by omega)⟩
  refine own_mono (hown1.kept hg2 ?_) (Nat.le_of_lt (by omega))
  exact .inr (fun e => own_blk_ne hown1 b1' (by decide) e)
theorem size24 : (Tryz.prog.info? 24).map (·.size) = some 2 := by kernel_rfl
set_option maxRecDepth 10000 in
set_option maxHeartbeats 400000 in
/-- The laws' 'whole': an integer of a sign and of at most so many bytes, as the reference and as the program has it. -/
theorem lawWhole_any (neg : Bool) (l : List UInt8) (A : Option Addr) (c most : Nat) (w : World) (hl : l.length ≤ 2147483647) (hm : most ≤ 1000) (hc0 : l.length ≤ c) (hr : Reads w w.heap.size 1 A l.length (bv l)) :
    Calls Tryz.prog 4 #[.bool neg, .slice A l.length c, .int .i64 most] w fun e w' => ∃ (n : Bool) (A0 A1 : Option Addr) (n0 c0 c1 : Nat),
      e = .returned (.tuple #[.agg #[.bool n, .slice A0 n0 c0], .agg #[.int .i64 2, .bool n, .slice A1 (cutB (l.take most)).length c1, .int .u64 0, .string ⟨#[]⟩, .slice none 0 0]]) ∧
      Reads w' w'.heap.size 1 A1 (cutB (l.take most)).length (bv (cutB (l.take most))) ∧ (cutB (l.take most)).length ≤ c1 ∧ Below w.heap.size w w' := by
  have hlen : (cutB (l.take most)).length ≤ 2147483647 := by
    have h1 : (cutB (l.take most)).length ≤ (l.take most).length := List.Sublist.length_le (List.dropWhile_sublist _)
    rw [List.length_take] at h1
    omega
  have ht : ∀ k, k ≤ l.length → Reads w w.heap.size 1 A k (bv (l.take k)) := fun k hk => by simpa [bv_take] using hr.take hk
  have hfull : ¬ most < l.length → l.take most = l := fun h => List.take_of_length_le (by omega)
  have HF := Lib.hid hfull
  have HT := Lib.hid ht
  clear hfull ht hr
  go_enter Tryz.func4, Tryz.ntmps4
  go_wp2_with fail
  all_goals
    refine gen2 (M := fun W => Calls _ _ _ W _) fun W hB b6 b7 hz => ?_
    first
    | (with_reducible refine (of_any neg (l.take most) A most c W (by rw [List.length_take]; omega) (by omega) (by omega) (((HT.out most (by omega)).below hB).more (by omega))).mono ?_)
    | (with_reducible refine (of_any neg (l.take most) A l.length c W (by rw [List.length_take]; omega) (by omega) (by omega) (((by rw [HF.out (by omega)]; simpa using HT.out l.length (Nat.le_refl _) : Reads w w.heap.size 1 A l.length (bv (l.take most))).below hB).more (by omega))).mono ?_)
    rintro e w1 ⟨A1, c1, rfl, hown, hc1, hb⟩
    generalize hr0 : cutB (l.take most) = r at *
    have HR0 := Lib.hid hr0
    clear hr0
    have b6 := b6.below hb (by omega)
    have b7 := b7.below hb (by omega)
    have hB1 := hB.trans (hb.mono (by omega))
    have s1 : w.heap.size + 1 < w1.heap.size := b7.lt
    have hR1 := Reads.of_own hown
    clear hB hb hown
    go_wp2_with fail
    refine gen1 (M := fun W => Code.wp _ _ _ _ W) fun W2 hB2 b8 hz2 => ?_
    have b6 := b6.below hB2 (by omega)
    have b7 := b7.below hB2 (by omega)
    have hR2 := (hR1.below hB2).more (B' := W2.heap.size) (by omega)
    have hB3 := hB1.trans (hB2.mono (by omega))
    obtain ⟨k0, k1, z0, z1⟩ := b8.c2
    have H := Lib.hid (And.intro hz2 (And.intro hz (And.intro b6 (And.intro b7 (And.intro hB3 hR2)))))
    clear hB1 hB2 hR1 hz2 hz hR2 b6 b7 b8 hB3 z0 z1
    go_region_held3 (fun w' => w'.cell? ⟨w1.heap.size, 0, none⟩ = some (.bool (neg && decide (0 < r.length))) ∧ w'.cell? ⟨w1.heap.size, 1, none⟩ = some (.slice A1 r.length c1)) (first | (with_reducible exact ⟨q0, q1⟩) | (with_reducible exact ⟨cell_past n0 (cell_past n0 q0), cell_past n0 (cell_past n0 q1)⟩) | (with_reducible exact ⟨cell_past n1 (cell_past n1 (cell_past n1 (cell_past n1 (cell_past n1 (cell_past n1 (cell_past n0 (cell_past n0 q0))))))), cell_past n1 (cell_past n1 (cell_past n1 (cell_past n1 (cell_past n1 (cell_past n1 (cell_past n0 (cell_past n0 q1)))))))⟩) | (with_reducible exact ⟨k0, k1⟩) | go_keep)
      ((go_at_call 7; refine (told_any _ r A1 c1 _ hlen hc1 (by exact H.out.2.2.2.2.2)).mono ?_; rintro e w3 ⟨A3, c3, rfl, hown3, hc3, hb3⟩
        have hz2 := H.out.1
        have q0 : w3.cell? ⟨w1.heap.size, 0, none⟩ = some (.bool (neg && decide (0 < r.length))) := by rw [hb3.cell (by simp; omega)]; simp [*]
        have q1 : w3.cell? ⟨w1.heap.size, 1, none⟩ = some (.slice A1 r.length c1) := by rw [hb3.cell (by simp; omega)]; simp [*]
        have n0 : w1.heap.size ≠ w.heap.size := by omega
        have n1 : w1.heap.size ≠ w.heap.size + 1 := by omega
        have b6 := H.out.2.2.1.drew.below hb3 (by simp; omega)
        have b7 := H.out.2.2.2.1.drew.below hb3 (by simp; omega)
        obtain ⟨d0, d1, t0, t1⟩ := b6.c2
        obtain ⟨e0, e1, e2, e3, e4, e5, z0, z1, z2, z3, z4, z5⟩ := b7.c6))
    have hz2 := H.out.1
    have hB4 : Below w.heap.size w w3 := H.out.2.2.2.2.1.drew.trans (Below.mono hb3 (by simp; omega))
    have s3 : w1.heap.size < w3.heap.size := by have := hb3.size; simp at this; omega
    have hown3 : w3.ownsRow (w.heap.size + 2) 5 1 (.slice A3 r.length c3) r.length (bv r) := own_mono hown3 (by simp; omega)
    clear d0 d1 t0 t1 e0 e1 e2 e3 e4 e5 z0 z1 z2 z3 z4 z5 H k0 k1 q0 q1 hb3
    refine gen_set2 (M := fun V => Exit.then _ _ _ _ (World.setCell (World.setCell (World.setCell (World.setCell (World.setCell (World.setCell V _ _) _ _) _ _) _ _) _ _) _ _)) b6 fun W5 b6 hg5 hz5 => ?_
    have b7 := b7.grown hg5 (by simp)
    refine gen_set6 (M := fun W => Exit.then _ _ _ _ W) b7 fun W6 b7 hg6 hz6 => ?_
    have b6 := b6.grown hg6 (by simp)
    have hown6 := (hown3.kept hg5 (.inr (fun e => by have := (hown3.lt _ e).1; omega))).kept hg6 (.inr (fun e => by have := (hown3.lt _ e).1; omega))
    have hB6 := below_grown (below_grown hB4 hg5 (Nat.le_refl _) (by omega)) hg6 (by omega) (by omega)
    go_wp2
    have hr0 := HR0.out
    clear HR0
    subst hr0
    exact ret_row2 rfl _ _ b6 b7 rfl rfl Tryz.underlying24 rfl size24 Tryz.underlying28 rfl size28 rfl ⟨_, A1, A3, _, c1, c3, rfl, Reads.of_own hown6, hc3, hB6⟩
end Go.Proofs.YtdlkgbgenmpkiaaGreatDoor
