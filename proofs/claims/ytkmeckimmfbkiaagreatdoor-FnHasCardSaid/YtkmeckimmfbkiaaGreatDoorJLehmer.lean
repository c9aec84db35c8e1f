/- The greatest common divisor where one number is a word. Conditions: none. -/
import Derived.Test.YtkmeckimmfbkiaaGreatDoorJNum
import Derived.Test.YtkmeckimmfbkiaaGreatDoorQuoRem
namespace Go.Proofs.YtkmeckimmfbkiaaGreatDoor
open Go Go.RowKit
theorem results_tmp5 {fn : Func} {a b c d e : Tmp} (h : fn.results = #[.tmp a, .tmp b, .tmp c, .tmp d, .tmp e]) (tmps : Array Value) (P : Program) (w : World) :
    (results fn tmps).run P w = .ok (.tuple #[tmps.getD a undef, tmps.getD b undef, tmps.getD c undef, tmps.getD d undef, tmps.getD e undef]) w := by
  simp [results, h]
set_option maxRecDepth 10000 in
set_option maxHeartbeats 400000 in
theorem euclid_any (gA gB gq gr X Y : Nat) (nA nB bq br : Bool) (w : World) (hA : IntAt w w.heap.size gA nA X) (hB : IntAt w w.heap.size gB nB Y) (hq : Blk w gq 132 #[.bool bq, .slice none 0 0]) (hr : Blk w gr 132 #[.bool br, .slice none 0 0])
    (hX : 1 < (limbs X).length ∨ Y = 1) (hX' : (limbs X).length ≤ 2147483000) (hy0 : 0 < Y) (hyX : Y ≤ X) (hy64 : Y < 18446744073709551616) (d1 : gq ≠ gr) (d2 : gq ≠ gA) (d3 : gq ≠ gB) (d4 : gr ≠ gA) (d5 : gr ≠ gB) :
    Calls Tryz.prog 155 #[.pointer (some ⟨gA, 0, none⟩), .pointer (some ⟨gB, 0, none⟩), .pointer none, .pointer none, .pointer (some ⟨gq, 0, none⟩), .pointer (some ⟨gr, 0, none⟩), .bool false] w fun e w' =>
      e = .returned (.tuple #[.pointer (some ⟨gB, 0, none⟩), .pointer (some ⟨gr, 0, none⟩), .pointer (some ⟨gA, 0, none⟩), .pointer none, .pointer none]) ∧ IntAt w' w'.heap.size gr (decide (0 < X % Y) && nA) (X % Y) ∧
        w.heap.size ≤ w'.heap.size ∧ w'.os = w.os ∧ w'.tape = w.tape ∧ w'.output = w.output ∧ (∀ k, k < w.heap.size → k ≠ gq → k ≠ gr → w'.heap[k]? = w.heap[k]?) := by
  obtain ⟨cA, bA⟩ : ∃ c, Blk w gA 132 c := by obtain ⟨_, _, h, _⟩ := hA; exact ⟨_, h⟩
  obtain ⟨cB, bB⟩ : ∃ c, Blk w gB 132 c := by obtain ⟨_, _, h, _⟩ := hB; exact ⟨_, h⟩
  have HC := Lib.hid (quoRem_any gq gA 0 gB 0 gr X Y nA nB bq br w _ _ cA cB hA.num hB.num bA bB hq hr hX hX' hy0 hyX hy64 d1 d2 d3 d4 d5)
  clear hA hB hq hr hX hX' bA bB
  go_enter Tryz.func155, Tryz.ntmps155
  go_wp2_with fail
  refine HC.out.mono ?_
  rintro e w1 ⟨rfl, h1, h2, h3⟩
  have H := Lib.hid (And.intro h2 h3)
  clear h1 h2 h3 HC
  go_wp2
  refine bodyPost_ret (results_tmp5 rfl _ _ _) rfl ?_
  exact ⟨rfl, H.out.1, H.out.2⟩
end Go.Proofs.YtkmeckimmfbkiaaGreatDoor
namespace Go.Proofs.YtkmeckimmfbkiaaGreatDoor
open Go Go.RowKit
theorem reads_one {w : World} {B x : Nat} {A : Option Addr} (h : Reads w B 1 A 1 (wv (limbs x))) (h0 : 0 < x) (hx : x < 18446744073709551616) : ∃ ad, A = some ad ∧ ad.block < B ∧ w.cell? ad = some (.int .u64 x) := by
  rw [limbs_one x hx h0] at h
  obtain ⟨ad, e, hl, hc⟩ := h.2 (by decide)
  exact ⟨ad, e, hl, hc 0 _ rfl⟩
set_option maxRecDepth 10000 in
set_option maxHeartbeats 1000000 in
theorem gcd_any (gz g oa ob X Y : Nat) (na nb : Bool) (w : World) (U : TypeId) (cu : Array Value) (hz : Blk w gz 132 #[.bool false, .slice none 0 0]) (hx : NumAt w w.heap.size g oa na X) (hy : NumAt w w.heap.size g ob nb Y) (hb : Blk w g U cu) (hne : gz ≠ g) (hX0 : 0 < X) (hY0 : 0 < Y) (hXl : (limbs X).length ≤ 1000) (hYl : (limbs Y).length ≤ 1000) (h64 : X < 18446744073709551616 ∨ Y < 18446744073709551616) :
    Calls Tryz.prog 137 #[.pointer (some ⟨gz, 0, none⟩), .pointer none, .pointer none, .pointer (some ⟨g, oa, none⟩), .pointer (some ⟨g, ob, none⟩)] w (SetInt w gz false (Nat.gcd X Y)) := by
  have HH := Lib.hid (And.intro hz (And.intro hx (And.intro hy (And.intro hb hne))))
  have hgz := hz.lt
  have hgl := hb.lt
  clear hz hx hy hb hne
  go_enter Tryz.func137, Tryz.ntmps137
  go_wp2_with fail
  refine gen1 (M := fun W => Calls _ _ _ W _) fun W hB b hs => ?_
  obtain ⟨hz, hx, hy, hb, hne⟩ := HH.out
  refine (numAbsF_any w.heap.size g oa X na W U cu ((hx.below hB).more (by omega)) (by omega) (by omega) b (hb.below hB hgl)).mono ?_
  rintro e w1 ⟨rfl, A1, c1, bA, rA, lcA, fA, hg1⟩
  have hB1 := hB.grown hg1 (by omega) (fun k e => by cases e; exact Nat.le_refl _)
  have hs1 := hg1.size
  obtain ⟨gA, hgA⟩ : ∃ gA, gA = w.heap.size := ⟨_, rfl⟩
  rw [← hgA] at bA b ⊢
  have fA1 : ∀ ad, A1 = some ad → w.heap.size < ad.block ∧ w1.frozen? ad = false := fun ad e => by have h := fA ad e; exact ⟨by have := h.1; omega, h.2⟩
  have H1 := Lib.hid (And.intro hB1 (And.intro (And.intro bA (And.intro rA (And.intro lcA fA1))) (And.intro hgA (show gA < w1.heap.size by omega))))
  clear hz hx hy hb hne hB b hs bA rA lcA fA fA1 hg1 hB1 hgA hs1
  go_wp2_with fail
  refine gen1 (M := fun W => Calls _ _ _ W _) fun W2 hB2 b2 hs2 => ?_
  obtain ⟨hz, hx, hy, hb, hne⟩ := HH.out
  obtain ⟨hB1, ⟨bA, rA, lcA, fA⟩, hgA, hA1⟩ := H1.out
  have hwl := hB1.size
  have hB3 := hB1.trans (hB2.mono hwl)
  refine (numAbsF_any w1.heap.size g ob Y nb W2 U cu ((hy.below hB3).more (by omega)) (by omega) (by omega) b2 (hb.below hB3 hgl)).mono ?_
  rintro e w2 ⟨rfl, A2, c2, bB, rB, lcB, fB, hg2⟩
  have hB4 := hB3.grown hg2 (by omega) (fun k e => by cases e; omega)
  have hB5 := hB2.grown hg2 (by omega) (fun k e => by cases e; omega)
  have hs5 := hg2.size
  obtain ⟨gB, hgB⟩ : ∃ gB, gB = w1.heap.size := ⟨_, rfl⟩
  rw [← hgB] at bB b2 ⊢
  have bA2 := bA.below hB5 hA1
  have rA2 := (rA.below hB5).more hB5.size
  have fA2 : ∀ ad, A1 = some ad → gA < ad.block ∧ ad.block ≠ gB ∧ w2.frozen? ad = false := fun ad e => by
    obtain ⟨h1, h2⟩ := fA ad e
    have h3 : ad.block < w1.heap.size := by
      subst e
      obtain ⟨ad', e', h, _⟩ := rA.2 (by rw [limbs_len_pos]; exact hX0)
      cases e'
      exact h
    exact ⟨by omega, by omega, (hB5.frozen h3).trans h2⟩
  have fB2 : ∀ ad, A2 = some ad → gA < ad.block ∧ ad.block ≠ gB ∧ w2.frozen? ad = false := fun ad e => by
    obtain ⟨h1, h2⟩ := fB ad e
    exact ⟨by omega, by omega, h2⟩
  have hAB : gA < gB := by omega
  have hB2l : gB < w2.heap.size := by omega
  have hAw : w.heap.size ≤ gA := by omega
  have H2 := Lib.hid (And.intro hB4 (And.intro (And.intro bA2 (And.intro rA2 (And.intro lcA fA2))) (And.intro bB (And.intro rB (And.intro lcB fB2)))))
  clear hz hx hy hb hne hB1 bA rA lcA fA hgA hA1 hB2 b2 hs2 hwl hB3 bB rB lcB fB hg2 hB4 hB5 hs5 hgB bA2 rA2 fA2 fB2 H1
  go_wp2_with fail
  refine gen2 (M := fun W => Code.wp _ _ _ _ W) fun V hB3 bq br hs3 => ?_
  obtain ⟨gq, hgq⟩ : ∃ gq, gq = w2.heap.size := ⟨_, rfl⟩
  rw [← hgq] at bq br ⊢
  obtain ⟨hB4, ⟨bA, rA, lcA, fA⟩, bB, rB, lcB, fB⟩ := H2.out
  have bA := bA.below hB3 (by omega)
  have bB := bB.below hB3 hB2l
  obtain ⟨p0, p1, p2, p3⟩ := bA.c2
  obtain ⟨r0, r1, r2, r3⟩ := bB.c2
  have lA : ∀ ad, A1 = some ad → ad.block < gq := fun ad e => by
    subst e
    obtain ⟨ad', e', h, _⟩ := rA.2 (by rw [limbs_len_pos]; exact hX0)
    cases e'
    omega
  have lB : ∀ ad, A2 = some ad → ad.block < gq := fun ad e => by
    subst e
    obtain ⟨ad', e', h, _⟩ := rB.2 (by rw [limbs_len_pos]; exact hY0)
    cases e'
    omega
  have fA : ∀ ad, A1 = some ad → (gA < ad.block ∧ ad.block ≠ gB ∧ ad.block < gq) ∧ V.frozen? ad = false := fun ad e => by
    obtain ⟨h1, h2, h3⟩ := fA ad e
    have h4 := lA ad e
    exact ⟨⟨h1, h2, h4⟩, (hB3.frozen (by omega)).trans h3⟩
  have fB : ∀ ad, A2 = some ad → (gA < ad.block ∧ ad.block ≠ gB ∧ ad.block < gq) ∧ V.frozen? ad = false := fun ad e => by
    obtain ⟨h1, h2, h3⟩ := fB ad e
    have h4 := lB ad e
    exact ⟨⟨h1, h2, h4⟩, (hB3.frozen (by omega)).trans h3⟩
  have rA := rA.below hB3
  have rB := rB.below hB3
  rw [← hgq] at rA rB
  have F := Lib.hid fun (n : Nat) => natCmp_any X Y A1 A2 _ _ c1 c2 (V.drewN n) rfl rfl (by omega) lcA lcB ((rA.more (by show gq ≤ V.heap.size; omega)).drewN n) ((rB.more (by show gq ≤ V.heap.size; omega)).drewN n)
  have H3 := Lib.hid (And.intro (hB4.trans (hB3.mono hB4.size)) (And.intro hs3 (And.intro (And.intro bA (And.intro rA (And.intro lcA fA))) (And.intro (And.intro bB (And.intro rB (And.intro lcB fB))) (And.intro bq br)))))
  have hq2 : gB < gq := by omega
  have hqV : gq + 1 < V.heap.size := by omega
  clear H2 hB3 bq br hs3 hgq hB4 bA rA lcA fA bB rB lcB fB lA lB
  generalize hnX : (limbs X).length = nX at *
  generalize hnY : (limbs Y).length = nY at *
  have HN := Lib.hid (And.intro hnX hnY)
  clear hnX hnY
  go_quiet ((go_at_call 120; with_reducible exact Calls.quiet_of (F.out _)))
  have x0 : V.cell? ⟨g, oa, none⟩ = some (.bool na) := by
    obtain ⟨_, _, h, _⟩ := HH.out.2.1
    exact (H3.out.1.cell (p := ⟨g, oa, none⟩) hgl).trans h
  rcases Nat.lt_or_ge X Y with hlt | hlt
  -- WAYS (by genlehmer.py)
  · -- lt
    have hcmp : cmpN X Y < 0 := by rw [cmpN, if_pos hlt]; decide
    have hQ64 : X < 18446744073709551616 := by omega
    have hPQ : X ≤ Y := by omega
    have HG := Lib.hid (show Nat.gcd X Y = Nat.gcd Y X from Nat.gcd_comm X Y)
    obtain rfl : nX = 1 := by rw [← HN.out.1, limbs_one X hQ64 hX0]; rfl
    have hnP0 : 0 < nY := by rw [← HN.out.2, limbs_len_pos]; exact hY0
    obtain ⟨aq, hqe, lq, wq⟩ := reads_one H3.out.2.2.1.2.1 hX0 hQ64
    subst hqe
    have fq := H3.out.2.2.1.2.2.2 aq rfl
    obtain ⟨⟨fq1, fq2, fq3⟩, fq4⟩ := fq
    rcases Nat.lt_or_ge 1 nY with h1 | h1
    · have hi1 : (1 : Int) < (nY : Int) := by omega
      go_wp2_with fail
      refine wp_loop_rounds 1 ?_
      rw [rounds_succ]
      go_wp2_with fail
      have iP : IntAt (V.drewN nq) (V.drewN nq).heap.size gB false Y := ⟨_, _, by rw [HN.out.2]; exact (H3.out.2.2.2.1.1).drewN nq, by show gB < V.heap.size; omega, by rw [HN.out.2]; exact ((H3.out.2.2.2.1.2.1).more (by show gq ≤ V.heap.size; omega)).drewN nq, by rw [HN.out.2]; exact H3.out.2.2.2.1.2.2.1⟩
      have iQ : IntAt (V.drewN nq) (V.drewN nq).heap.size gA false X := ⟨some aq, c1, by rw [limbs_one X hQ64 hX0]; exact (H3.out.2.2.1.1).drewN nq, by show gA < V.heap.size; omega, by rw [limbs_one X hQ64 hX0]; exact reads_word wq (by show aq.block < V.heap.size; omega), by rw [limbs_one X hQ64 hX0]; exact H3.out.2.2.1.2.2.1⟩
      refine (euclid_any gB gA gq (gq + 1) Y X false false false false (V.drewN nq) iP iQ (H3.out.2.2.2.2.1.drewN nq) (H3.out.2.2.2.2.2.drewN nq) (.inl (by rw [HN.out.2]; exact h1)) (by rw [HN.out.2]; omega) hX0 hPQ hQ64 (by omega) (by omega) (by omega) (by omega) (by omega)).mono ?_
      clear iP iQ
      rintro e w5 ⟨rfl, iR, hs5, ho5, ht5, hu5, hk5⟩
      have hs5 : V.heap.size ≤ w5.heap.size := hs5
      have hk5 : ∀ k, k < V.heap.size → k ≠ gq → k ≠ gq + 1 → w5.heap[k]? = V.heap[k]? := hk5
      have HB5 := Lib.hid (H3.out.1.trans (show Below w.heap.size V w5 from ⟨ho5, ht5, hu5, hs5, fun i hi => hk5 i (by have := H3.out.1.size; omega) (by omega) (by omega)⟩))
      have t0 := (World.cell?_of_block (a := ⟨gA, 0, none⟩) (hk5 gA (by omega) (by omega) (by omega))).trans p0
      have t1 := (World.cell?_of_block (a := ⟨gA, 1, none⟩) (hk5 gA (by omega) (by omega) (by omega))).trans p1
      have tx := (World.cell?_of_block (a := ⟨g, oa, none⟩) (hk5 g (by have := H3.out.1.size; omega) (by omega) (by omega))).trans x0
      have tw := (World.cell?_of_block (a := aq) (hk5 aq.block (by omega) (by omega) (by omega))).trans wq
      have tf := (World.frozen?_of_block (a := aq) (hk5 aq.block (by omega) (by omega) (by omega))).trans fq4
      have HQ5 := Lib.hid (show Blk w5 gA 132 #[.bool false, .slice (some aq) 1 c1] from (hk5 gA (by omega) (by omega) (by omega)).trans H3.out.2.2.1.1)
      obtain ⟨A3, c3, bR, lR, rR, lcR⟩ := iR
      obtain ⟨l3, hl3⟩ : ∃ l3, l3 = (limbs (Y % X)).length := ⟨_, rfl⟩
      rw [← hl3] at bR rR lcR
      rw [Bool.and_false] at bR
      have HR := Lib.hid (And.intro bR (And.intro rR lcR))
      have HL3 := Lib.hid hl3
      clear ho5 ht5 hu5 hk5 rR lcR hl3
      obtain ⟨j0, j1, j2, j3⟩ := bR.c2
      clear bR
      rcases Nat.eq_zero_or_pos (Y % X) with h0 | h0
      · have hl3 : ¬ 0 < l3 := by rw [HL3.out, limbs_len_pos]; omega
        go_wp2_with fail
        have HZ := Lib.hid (show Nat.gcd Y X = X by rw [Fl.gcd_step, h0, Nat.gcd_zero_right])
        obtain ⟨hz, hx, hy, hb, hne⟩ := HH.out
        have hgzl := hz.lt
        have hBV := HB5.out
        have hla : limbs X = [X] := limbs_one X hQ64 hX0
        have hN : NumAt w5 w5.heap.size gA 0 false X := ⟨some aq, c1, t0, by rw [hla]; exact t1, by omega, by rw [hla]; exact reads_word tw (by omega), by rw [hla]; exact H3.out.2.2.1.2.2.1⟩
        have hbz := hz.below hBV hgzl
        refine (numSet_any gz 0 gA 0 X false false _ _ _ _ _ hN (by rw [hla]; simp) (by omega) hbz HQ5.out rfl rfl).mono ?_
        rintro e w6 ⟨rfl, hS⟩
        obtain ⟨_, s1, s2⟩ := hS.int hbz
        have HS := Lib.hid (And.intro s1 (grown_trans (grown_of_below hBV (some gz)) s2))
        clear hz hx hy hb hne hBV hla hN hbz hS s1 s2
        go_wp2
        go_ret
        rw [HG.out, HZ.out]
        exact ⟨rfl, HS.out.1, HS.out.2⟩
      · have hlR := limbs_one (Y % X) (by have := Nat.mod_lt Y hX0; omega) h0
        obtain rfl : l3 = 1 := by rw [HL3.out, hlR]; rfl
        have rR := HR.out.2.1
        obtain ⟨ar, hre, lr, wr_⟩ := reads_one rR h0 (by have := Nat.mod_lt Y hX0; omega)
        subst hre
        obtain ⟨j0, j1, j2, j3⟩ := HR.out.1.c2
        have HG5 := Lib.hid (HG.out.trans (Fl.gcd_step Y X))
        have hR64 : Y % X < 18446744073709551616 := by have := Nat.mod_lt Y hX0; omega
        generalize hRR : Y % X = R at *
        clear hRR
        go_wp2_with fail
        go_quiet (fail)
        go_wp2_with fail
        go_loopw [23, 24] (fun va vb wr => ∃ a b q : Nat, va = .int .u64 a ∧ vb = .int .u64 b ∧ a < 18446744073709551616 ∧ b < 18446744073709551616 ∧ 0 < a ∧ Nat.gcd a b = Nat.gcd X R ∧ wr = w5.drewN q) (fun _ vb _ => (intOf vb).toNat)
        case atStart => exact ⟨X, R, _, rfl, rfl, hQ64, hR64, hX0, rfl, rfl⟩
        case round =>
          obtain ⟨a, b, q, rfl, rfl, ha, hb64, ha0, hg, rfl⟩ := hrel
          rcases Nat.eq_zero_or_pos b with hb0 | hb0
          · subst hb0
            rw [Nat.gcd_zero_right] at hg
            have hgap : g ≠ aq.block := by omega
            have xa := cell_past (w := w5.drewN q) (p := ⟨g, oa, none⟩) (q := aq) (u := .int .u64 (a : Nat)) hgap tx
            have HZ := Lib.hid hg
            clear hg
            go_wp2_with fail
            obtain ⟨hz, hx, hy, hb, hne⟩ := HH.out
            have hgzl := hz.lt
            have hBV := ((HB5.out).drewN_ q).setCell (p := aq) (by omega) (.int .u64 (a : Nat))
            have hla : limbs a = [a] := limbs_one a ha ha0
            have hN : NumAt ((w5.drewN q).setCell aq (.int .u64 (a : Nat))) ((w5.drewN q).setCell aq (.int .u64 (a : Nat))).heap.size gA 0 false a :=
              ⟨some aq, c1, cell_past (w := w5.drewN q) (p := ⟨gA, 0, none⟩) (by show gA ≠ _; omega) t0, by rw [hla]; exact cell_past (w := w5.drewN q) (p := ⟨gA, 1, none⟩) (by show gA ≠ _; omega) t1, by simp; omega, by
                rw [hla]
                exact reads_word (World.cell?_setCell_same (w5.drewN q) aq (.int .u64 (a : Nat)) tw) (by simp; omega), by rw [hla]; exact H3.out.2.2.1.2.2.1⟩
            have hbz := ((hz.below (HB5.out) hgzl).drewN q).far (p := aq) (by show gz ≠ _; omega) (.int .u64 (a : Nat))
            have hbp := ((HQ5.out).drewN q).far (p := aq) (by show gA ≠ _; omega) (.int .u64 (a : Nat))
            refine (numSet_any gz 0 gA 0 a false false _ _ _ _ _ hN (by rw [hla]; simp) (by omega) hbz hbp rfl rfl).mono ?_
            rintro e w6 ⟨rfl, hS⟩
            obtain ⟨_, s1, s2⟩ := hS.int hbz
            have HS := Lib.hid (And.intro s1 (grown_trans (grown_of_below hBV (some gz)) s2))
            clear hz hx hy hb hne hBV hla hN hbz hbp hS s1 s2
            go_wp2
            go_ret
            rw [HG5.out, ← HZ.out]
            exact ⟨rfl, HS.out.1, HS.out.2⟩
          · have hb1 : ((b : Int) == 0) = false := by rw [beq_eq_false_iff_ne]; omega
            have hb2 : ((b : Int) != 0) = true := by simp; omega
            go_wp2_with fail
            go_quiet (fail)
            go_wp2
            exact ⟨⟨b, a % b, q + nq, rfl, by go_num, hb64, Nat.lt_trans (Nat.mod_lt _ hb0) hb64, hb0, by rw [← hg, Fl.gcd_step a b], by rw [World.drewN_drewN]⟩, by
              have h1 := Nat.mod_lt a hb0
              have h2 : (a : Int) % (b : Int) = ((a % b : Nat) : Int) := by omega
              simp only [intOf, h2]
              omega⟩
    · obtain rfl : nY = 1 := by omega
      have hP64 : Y < 18446744073709551616 := by
        have h := natV_lt (limbs Y) (limbs_lt Y)
        rw [natV_limbs, HN.out.2] at h
        simpa using h
      obtain ⟨ap, hpe, lp, wp⟩ := reads_one H3.out.2.2.2.1.2.1 hY0 hP64
      subst hpe
      have fp := H3.out.2.2.2.1.2.2.2 ap rfl
      obtain ⟨⟨fp1, fp2, fp3⟩, fp4⟩ := fp
      go_wp2_with fail
      refine wp_loop_rounds 1 ?_
      rw [rounds_succ]
      go_wp2_with fail
      go_quiet (fail)
      go_wp2_with fail
      go_loopw [23, 24] (fun va vb wr => ∃ a b q : Nat, va = .int .u64 a ∧ vb = .int .u64 b ∧ a < 18446744073709551616 ∧ b < 18446744073709551616 ∧ 0 < a ∧ Nat.gcd a b = Nat.gcd Y X ∧ wr = V.drewN q) (fun _ vb _ => (intOf vb).toNat)
      case atStart => exact ⟨Y, X, _, rfl, rfl, hP64, hQ64, hY0, rfl, by rw [World.drewN_drewN]⟩
      case round =>
        obtain ⟨a, b, q, rfl, rfl, ha, hb64, ha0, hg, rfl⟩ := hrel
        rcases Nat.eq_zero_or_pos b with hb0 | hb0
        · subst hb0
          rw [Nat.gcd_zero_right] at hg
          have hgap : g ≠ ap.block := by omega
          have xa := cell_past (w := V.drewN q) (p := ⟨g, oa, none⟩) (q := ap) (u := .int .u64 (a : Nat)) hgap x0
          have HZ := Lib.hid hg
          clear hg
          go_wp2_with fail
          obtain ⟨hz, hx, hy, hb, hne⟩ := HH.out
          have hgzl := hz.lt
          have hBV := ((H3.out.1).drewN_ q).setCell (p := ap) (by omega) (.int .u64 (a : Nat))
          have hla : limbs a = [a] := limbs_one a ha ha0
          have hN : NumAt ((V.drewN q).setCell ap (.int .u64 (a : Nat))) ((V.drewN q).setCell ap (.int .u64 (a : Nat))).heap.size gB 0 false a :=
            ⟨some ap, c2, cell_past (w := V.drewN q) (p := ⟨gB, 0, none⟩) (by show gB ≠ _; omega) r0, by rw [hla]; exact cell_past (w := V.drewN q) (p := ⟨gB, 1, none⟩) (by show gB ≠ _; omega) r1, by simp; omega, by
              rw [hla]
              exact reads_word (World.cell?_setCell_same (V.drewN q) ap (.int .u64 (a : Nat)) wp) (by simp; omega), by rw [hla]; exact H3.out.2.2.2.1.2.2.1⟩
          have hbz := ((hz.below (H3.out.1) hgzl).drewN q).far (p := ap) (by show gz ≠ _; omega) (.int .u64 (a : Nat))
          have hbp := ((H3.out.2.2.2.1.1).drewN q).far (p := ap) (by show gB ≠ _; omega) (.int .u64 (a : Nat))
          refine (numSet_any gz 0 gB 0 a false false _ _ _ _ _ hN (by rw [hla]; simp) (by omega) hbz hbp rfl rfl).mono ?_
          rintro e w6 ⟨rfl, hS⟩
          obtain ⟨_, s1, s2⟩ := hS.int hbz
          have HS := Lib.hid (And.intro s1 (grown_trans (grown_of_below hBV (some gz)) s2))
          clear hz hx hy hb hne hBV hla hN hbz hbp hS s1 s2
          go_wp2
          go_ret
          rw [HG.out, ← HZ.out]
          exact ⟨rfl, HS.out.1, HS.out.2⟩
        · have hb1 : ((b : Int) == 0) = false := by rw [beq_eq_false_iff_ne]; omega
          have hb2 : ((b : Int) != 0) = true := by simp; omega
          go_wp2_with fail
          go_quiet (fail)
          go_wp2
          exact ⟨⟨b, a % b, q + nq, rfl, by go_num, hb64, Nat.lt_trans (Nat.mod_lt _ hb0) hb64, hb0, by rw [← hg, Fl.gcd_step a b], by rw [World.drewN_drewN]⟩, by
            have h1 := Nat.mod_lt a hb0
            have h2 : (a : Int) % (b : Int) = ((a % b : Nat) : Int) := by omega
            simp only [intOf, h2]
            omega⟩
  · -- ge
    have hcmp : ¬ cmpN X Y < 0 := by rw [cmpN, if_neg (by omega)]; split <;> decide
    have hQ64 : Y < 18446744073709551616 := by omega
    have hPQ : Y ≤ X := by omega
    obtain rfl : nY = 1 := by rw [← HN.out.2, limbs_one Y hQ64 hY0]; rfl
    have hnP0 : 0 < nX := by rw [← HN.out.1, limbs_len_pos]; exact hX0
    obtain ⟨aq, hqe, lq, wq⟩ := reads_one H3.out.2.2.2.1.2.1 hY0 hQ64
    subst hqe
    have fq := H3.out.2.2.2.1.2.2.2 aq rfl
    obtain ⟨⟨fq1, fq2, fq3⟩, fq4⟩ := fq
    rcases Nat.lt_or_ge 1 nX with h1 | h1
    · have hi1 : (1 : Int) < (nX : Int) := by omega
      go_wp2_with fail
      refine wp_loop_rounds 1 ?_
      rw [rounds_succ]
      go_wp2_with fail
      have iP : IntAt (V.drewN nq) (V.drewN nq).heap.size gA false X := ⟨_, _, by rw [HN.out.1]; exact (H3.out.2.2.1.1).drewN nq, by show gA < V.heap.size; omega, by rw [HN.out.1]; exact ((H3.out.2.2.1.2.1).more (by show gq ≤ V.heap.size; omega)).drewN nq, by rw [HN.out.1]; exact H3.out.2.2.1.2.2.1⟩
      have iQ : IntAt (V.drewN nq) (V.drewN nq).heap.size gB false Y := ⟨some aq, c2, by rw [limbs_one Y hQ64 hY0]; exact (H3.out.2.2.2.1.1).drewN nq, by show gB < V.heap.size; omega, by rw [limbs_one Y hQ64 hY0]; exact reads_word wq (by show aq.block < V.heap.size; omega), by rw [limbs_one Y hQ64 hY0]; exact H3.out.2.2.2.1.2.2.1⟩
      refine (euclid_any gA gB gq (gq + 1) X Y false false false false (V.drewN nq) iP iQ (H3.out.2.2.2.2.1.drewN nq) (H3.out.2.2.2.2.2.drewN nq) (.inl (by rw [HN.out.1]; exact h1)) (by rw [HN.out.1]; omega) hY0 hPQ hQ64 (by omega) (by omega) (by omega) (by omega) (by omega)).mono ?_
      clear iP iQ
      rintro e w5 ⟨rfl, iR, hs5, ho5, ht5, hu5, hk5⟩
      have hs5 : V.heap.size ≤ w5.heap.size := hs5
      have hk5 : ∀ k, k < V.heap.size → k ≠ gq → k ≠ gq + 1 → w5.heap[k]? = V.heap[k]? := hk5
      have HB5 := Lib.hid (H3.out.1.trans (show Below w.heap.size V w5 from ⟨ho5, ht5, hu5, hs5, fun i hi => hk5 i (by have := H3.out.1.size; omega) (by omega) (by omega)⟩))
      have t0 := (World.cell?_of_block (a := ⟨gB, 0, none⟩) (hk5 gB (by omega) (by omega) (by omega))).trans r0
      have t1 := (World.cell?_of_block (a := ⟨gB, 1, none⟩) (hk5 gB (by omega) (by omega) (by omega))).trans r1
      have tx := (World.cell?_of_block (a := ⟨g, oa, none⟩) (hk5 g (by have := H3.out.1.size; omega) (by omega) (by omega))).trans x0
      have tw := (World.cell?_of_block (a := aq) (hk5 aq.block (by omega) (by omega) (by omega))).trans wq
      have tf := (World.frozen?_of_block (a := aq) (hk5 aq.block (by omega) (by omega) (by omega))).trans fq4
      have HQ5 := Lib.hid (show Blk w5 gB 132 #[.bool false, .slice (some aq) 1 c2] from (hk5 gB (by omega) (by omega) (by omega)).trans H3.out.2.2.2.1.1)
      obtain ⟨A3, c3, bR, lR, rR, lcR⟩ := iR
      obtain ⟨l3, hl3⟩ : ∃ l3, l3 = (limbs (X % Y)).length := ⟨_, rfl⟩
      rw [← hl3] at bR rR lcR
      rw [Bool.and_false] at bR
      have HR := Lib.hid (And.intro bR (And.intro rR lcR))
      have HL3 := Lib.hid hl3
      clear ho5 ht5 hu5 hk5 rR lcR hl3
      obtain ⟨j0, j1, j2, j3⟩ := bR.c2
      clear bR
      rcases Nat.eq_zero_or_pos (X % Y) with h0 | h0
      · have hl3 : ¬ 0 < l3 := by rw [HL3.out, limbs_len_pos]; omega
        go_wp2_with fail
        have HZ := Lib.hid (show Nat.gcd X Y = Y by rw [Fl.gcd_step, h0, Nat.gcd_zero_right])
        obtain ⟨hz, hx, hy, hb, hne⟩ := HH.out
        have hgzl := hz.lt
        have hBV := HB5.out
        have hla : limbs Y = [Y] := limbs_one Y hQ64 hY0
        have hN : NumAt w5 w5.heap.size gB 0 false Y := ⟨some aq, c2, t0, by rw [hla]; exact t1, by omega, by rw [hla]; exact reads_word tw (by omega), by rw [hla]; exact H3.out.2.2.2.1.2.2.1⟩
        have hbz := hz.below hBV hgzl
        refine (numSet_any gz 0 gB 0 Y false false _ _ _ _ _ hN (by rw [hla]; simp) (by omega) hbz HQ5.out rfl rfl).mono ?_
        rintro e w6 ⟨rfl, hS⟩
        obtain ⟨_, s1, s2⟩ := hS.int hbz
        have HS := Lib.hid (And.intro s1 (grown_trans (grown_of_below hBV (some gz)) s2))
        clear hz hx hy hb hne hBV hla hN hbz hS s1 s2
        go_wp2
        go_ret
        rw [HZ.out]
        exact ⟨rfl, HS.out.1, HS.out.2⟩
      · have hlR := limbs_one (X % Y) (by have := Nat.mod_lt X hY0; omega) h0
        obtain rfl : l3 = 1 := by rw [HL3.out, hlR]; rfl
        have rR := HR.out.2.1
        obtain ⟨ar, hre, lr, wr_⟩ := reads_one rR h0 (by have := Nat.mod_lt X hY0; omega)
        subst hre
        obtain ⟨j0, j1, j2, j3⟩ := HR.out.1.c2
        have HG5 := Lib.hid ((Fl.gcd_step X Y))
        have hR64 : X % Y < 18446744073709551616 := by have := Nat.mod_lt X hY0; omega
        generalize hRR : X % Y = R at *
        clear hRR
        go_wp2_with fail
        go_quiet (fail)
        go_wp2_with fail
        go_loopw [23, 24] (fun va vb wr => ∃ a b q : Nat, va = .int .u64 a ∧ vb = .int .u64 b ∧ a < 18446744073709551616 ∧ b < 18446744073709551616 ∧ 0 < a ∧ Nat.gcd a b = Nat.gcd Y R ∧ wr = w5.drewN q) (fun _ vb _ => (intOf vb).toNat)
        case atStart => exact ⟨Y, R, _, rfl, rfl, hQ64, hR64, hY0, rfl, rfl⟩
        case round =>
          obtain ⟨a, b, q, rfl, rfl, ha, hb64, ha0, hg, rfl⟩ := hrel
          rcases Nat.eq_zero_or_pos b with hb0 | hb0
          · subst hb0
            rw [Nat.gcd_zero_right] at hg
            have hgap : g ≠ aq.block := by omega
            have xa := cell_past (w := w5.drewN q) (p := ⟨g, oa, none⟩) (q := aq) (u := .int .u64 (a : Nat)) hgap tx
            have HZ := Lib.hid hg
            clear hg
            go_wp2_with fail
            obtain ⟨hz, hx, hy, hb, hne⟩ := HH.out
            have hgzl := hz.lt
            have hBV := ((HB5.out).drewN_ q).setCell (p := aq) (by omega) (.int .u64 (a : Nat))
            have hla : limbs a = [a] := limbs_one a ha ha0
            have hN : NumAt ((w5.drewN q).setCell aq (.int .u64 (a : Nat))) ((w5.drewN q).setCell aq (.int .u64 (a : Nat))).heap.size gB 0 false a :=
              ⟨some aq, c2, cell_past (w := w5.drewN q) (p := ⟨gB, 0, none⟩) (by show gB ≠ _; omega) t0, by rw [hla]; exact cell_past (w := w5.drewN q) (p := ⟨gB, 1, none⟩) (by show gB ≠ _; omega) t1, by simp; omega, by
                rw [hla]
                exact reads_word (World.cell?_setCell_same (w5.drewN q) aq (.int .u64 (a : Nat)) tw) (by simp; omega), by rw [hla]; exact H3.out.2.2.2.1.2.2.1⟩
            have hbz := ((hz.below (HB5.out) hgzl).drewN q).far (p := aq) (by show gz ≠ _; omega) (.int .u64 (a : Nat))
            have hbp := ((HQ5.out).drewN q).far (p := aq) (by show gB ≠ _; omega) (.int .u64 (a : Nat))
            refine (numSet_any gz 0 gB 0 a false false _ _ _ _ _ hN (by rw [hla]; simp) (by omega) hbz hbp rfl rfl).mono ?_
            rintro e w6 ⟨rfl, hS⟩
            obtain ⟨_, s1, s2⟩ := hS.int hbz
            have HS := Lib.hid (And.intro s1 (grown_trans (grown_of_below hBV (some gz)) s2))
            clear hz hx hy hb hne hBV hla hN hbz hbp hS s1 s2
            go_wp2
            go_ret
            rw [HG5.out, ← HZ.out]
            exact ⟨rfl, HS.out.1, HS.out.2⟩
          · have hb1 : ((b : Int) == 0) = false := by rw [beq_eq_false_iff_ne]; omega
            have hb2 : ((b : Int) != 0) = true := by simp; omega
            go_wp2_with fail
            go_quiet (fail)
            go_wp2
            exact ⟨⟨b, a % b, q + nq, rfl, by go_num, hb64, Nat.lt_trans (Nat.mod_lt _ hb0) hb64, hb0, by rw [← hg, Fl.gcd_step a b], by rw [World.drewN_drewN]⟩, by
              have h1 := Nat.mod_lt a hb0
              have h2 : (a : Int) % (b : Int) = ((a % b : Nat) : Int) := by omega
              simp only [intOf, h2]
              omega⟩
    · obtain rfl : nX = 1 := by omega
      have hP64 : X < 18446744073709551616 := by
        have h := natV_lt (limbs X) (limbs_lt X)
        rw [natV_limbs, HN.out.1] at h
        simpa using h
      obtain ⟨ap, hpe, lp, wp⟩ := reads_one H3.out.2.2.1.2.1 hX0 hP64
      subst hpe
      have fp := H3.out.2.2.1.2.2.2 ap rfl
      obtain ⟨⟨fp1, fp2, fp3⟩, fp4⟩ := fp
      go_wp2_with fail
      refine wp_loop_rounds 1 ?_
      rw [rounds_succ]
      go_wp2_with fail
      go_quiet (fail)
      go_wp2_with fail
      go_loopw [23, 24] (fun va vb wr => ∃ a b q : Nat, va = .int .u64 a ∧ vb = .int .u64 b ∧ a < 18446744073709551616 ∧ b < 18446744073709551616 ∧ 0 < a ∧ Nat.gcd a b = Nat.gcd X Y ∧ wr = V.drewN q) (fun _ vb _ => (intOf vb).toNat)
      case atStart => exact ⟨X, Y, _, rfl, rfl, hP64, hQ64, hX0, rfl, by rw [World.drewN_drewN]⟩
      case round =>
        obtain ⟨a, b, q, rfl, rfl, ha, hb64, ha0, hg, rfl⟩ := hrel
        rcases Nat.eq_zero_or_pos b with hb0 | hb0
        · subst hb0
          rw [Nat.gcd_zero_right] at hg
          have hgap : g ≠ ap.block := by omega
          have xa := cell_past (w := V.drewN q) (p := ⟨g, oa, none⟩) (q := ap) (u := .int .u64 (a : Nat)) hgap x0
          have HZ := Lib.hid hg
          clear hg
          go_wp2_with fail
          obtain ⟨hz, hx, hy, hb, hne⟩ := HH.out
          have hgzl := hz.lt
          have hBV := ((H3.out.1).drewN_ q).setCell (p := ap) (by omega) (.int .u64 (a : Nat))
          have hla : limbs a = [a] := limbs_one a ha ha0
          have hN : NumAt ((V.drewN q).setCell ap (.int .u64 (a : Nat))) ((V.drewN q).setCell ap (.int .u64 (a : Nat))).heap.size gA 0 false a :=
            ⟨some ap, c1, cell_past (w := V.drewN q) (p := ⟨gA, 0, none⟩) (by show gA ≠ _; omega) p0, by rw [hla]; exact cell_past (w := V.drewN q) (p := ⟨gA, 1, none⟩) (by show gA ≠ _; omega) p1, by simp; omega, by
              rw [hla]
              exact reads_word (World.cell?_setCell_same (V.drewN q) ap (.int .u64 (a : Nat)) wp) (by simp; omega), by rw [hla]; exact H3.out.2.2.1.2.2.1⟩
          have hbz := ((hz.below (H3.out.1) hgzl).drewN q).far (p := ap) (by show gz ≠ _; omega) (.int .u64 (a : Nat))
          have hbp := ((H3.out.2.2.1.1).drewN q).far (p := ap) (by show gA ≠ _; omega) (.int .u64 (a : Nat))
          refine (numSet_any gz 0 gA 0 a false false _ _ _ _ _ hN (by rw [hla]; simp) (by omega) hbz hbp rfl rfl).mono ?_
          rintro e w6 ⟨rfl, hS⟩
          obtain ⟨_, s1, s2⟩ := hS.int hbz
          have HS := Lib.hid (And.intro s1 (grown_trans (grown_of_below hBV (some gz)) s2))
          clear hz hx hy hb hne hBV hla hN hbz hbp hS s1 s2
          go_wp2
          go_ret
          rw [← HZ.out]
          exact ⟨rfl, HS.out.1, HS.out.2⟩
        · have hb1 : ((b : Int) == 0) = false := by rw [beq_eq_false_iff_ne]; omega
          have hb2 : ((b : Int) != 0) = true := by simp; omega
          go_wp2_with fail
          go_quiet (fail)
          go_wp2
          exact ⟨⟨b, a % b, q + nq, rfl, by go_num, hb64, Nat.lt_trans (Nat.mod_lt _ hb0) hb64, hb0, by rw [← hg, Fl.gcd_step a b], by rw [World.drewN_drewN]⟩, by
            have h1 := Nat.mod_lt a hb0
            have h2 : (a : Int) % (b : Int) = ((a % b : Nat) : Int) := by omega
            simp only [intOf, h2]
            omega⟩
  -- END
end Go.Proofs.YtkmeckimmfbkiaaGreatDoor
