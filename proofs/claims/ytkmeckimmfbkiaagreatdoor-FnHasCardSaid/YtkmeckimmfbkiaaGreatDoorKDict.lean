/- Dicts and sets of at most eight keys, told with all their entries; values with all their parts. Conditions: none. -/
import Derived.Test.YtkmeckimmfbkiaaGreatDoorJIns
import Derived.Test.YtkmeckimmfbkiaaGreatDoorKHash
namespace Go.Proofs.YtkmeckimmfbkiaaGreatDoor
open Go Go.RowKit
/-- The hash as a table keeps it. -/
def hN (h : Nat) : Nat := if h = 0 then 1 else h
theorem hN_pos {h : Nat} (hz : 0 < h) : hN h = h := if_neg (by omega)
theorem hN_le (h : Nat) : 1 ≤ hN h := by unfold hN; split <;> omega
theorem hN_lt {h : Nat} (hh : h < 4294967296) : hN h < 4294967296 := by unfold hN; split <;> omega
set_option maxRecDepth 10000 in
set_option maxHeartbeats 2000000 in
theorem insertV_more (h : Nat) (hh : h < 4294967296) (g T : Nat) (es : List (Nat × Value × Value)) (k v : Value) (w : World) (hb : Blk w g T (tabC g es)) (h0 : 0 < es.length) (hn : es.length ≤ 7) (hm : ∀ W, Below w.heap.size w W → HashMV (h : Int) W k) (hv : ∃ t u, v = .iface t u)
    (he : ∀ (j : Nat) (e : Nat × Value × Value), es[j]? = some e → 1 ≤ e.1 ∧ e.1 < 4294967296 ∧ ∀ W, Below w.heap.size w W → Calls Tryz.prog 80 #[k, e.2.1] W (Eqd W false)) :
    Calls Tryz.prog 67 #[.pointer (some ⟨g, 0, none⟩), k, v] w fun e w' => e = .returned .nilIface ∧ Blk w' g T (tabC g (es ++ [(hN h, k, v)])) ∧ w.grownBy w' (some g) := by
  obtain ⟨n, hne⟩ : ∃ n, n = es.length := ⟨_, rfl⟩
  obtain ⟨tv, uv, rfl⟩ := hv
  have hd : headC g es = .slice (some ⟨g, 1, none⟩) 1 1 := by unfold headC; rw [if_neg (by omega)]
  have c0 : w.cell? ⟨g, 0, none⟩ = some (.slice (some ⟨g, 1, none⟩) 1 1) := (hb.cell 0).trans (by rw [← hd]; rfl)
  have c43 : w.cell? ⟨g, 43, none⟩ = some (.int .u32 0) := (hb.cell 43).trans (tab_tail g es 2 (by decide))
  have c46 : w.cell? ⟨g, 46, none⟩ = some (.bool false) := (hb.cell 46).trans (tab_tail g es 5 (by decide))
  obtain ⟨f, r, ⟨t, u, rfl, m1, q1⟩, C⟩ := hm w (Below.refl _ _)
  have HB := Lib.hid hb
  have HC := Lib.hid C
  have HE := Lib.hid he
  have hq : ∀ w, (binOp .eql 103 (.slice (some ⟨g, 1, none⟩) 1 1) (.slice none 0 0)).run Tryz.prog w = .ok (.bool false) w := fun w => by kernel_rfl
  clear hm he hb C hd
  go_enter Tryz.func67, Tryz.ntmps67
  go_wp2_with fail
  go_step3
  go_wp2_with fail
  refine (checkMutable_any g _ w c46 c43).mono ?_
  rintro e w1 ⟨rfl, rfl⟩
  go_wp2_with fail
  refine HC.out.mono ?_
  rintro e w2 ⟨rfl, hB⟩
  have hlt := HB.out.lt
  have b2 := HB.out.below hB hlt
  have c0 : w2.cell? ⟨g, 0, none⟩ = some (.slice (some ⟨g, 1, none⟩) 1 1) := (hB.cell (p := ⟨g, 0, none⟩) hlt).trans c0
  have HB2 := Lib.hid (And.intro hB b2)
  clear hB b2 c43 c46 HB HC
  rcases Nat.eq_zero_or_pos h with hz | hz
  · subst hz
    have hb0 : bits .and .u32 (1 : Int) 0 = 0 := by kernel_rfl
    go_wp2_with fail
    go_step3
    go_wp2_with fail
    go_quiet (fail)
    go_wp2_with fail
    refine wp_loop_rounds 1 ?_
    rw [rounds_succ]
    go_wp2_with fail
    go_loopw [53, 10] (fun vi vp wr => ∃ i : Nat, vi = .int .i64 i ∧ vp = insP g n i ∧ i ≤ 8 ∧ Below w1.heap.size w1 wr ∧ Blk wr g T (tabC g es)) (fun vi _ _ => 8 - (intOf vi).toNat)
    case atStart => exact ⟨0, rfl, rfl, by omega, HB2.out.1.drewN_ _, HB2.out.2.drewN _⟩
    case round =>
      obtain ⟨i, rfl, rfl, hi, hB, hb⟩ := hrel
      rcases Nat.lt_or_ge i 8 with hlt8 | hge
      · have hki : (i : Int) < 8 := by omega
        have k1 := (hb.cell (1 + i * 5)).trans (tab_hash g es i hlt8)
        have k2 := (hb.cell (1 + i * 5 + 1)).trans (tab_key g es i hlt8)
        have w1 : IntKind.i64.wrap ((i : Int) + 1) = (i : Int) + 1 := by rw [IntKind.wrap_i64]; omega
        have HB3 := Lib.hid (And.intro hB hb)
        clear hB hb
        rcases hes : es[7 - i]? with _ | en
        · have eP : Hid (insP g n (i + 1) = .pointer (some ⟨g, 1 + i * 5, none⟩)) := by
            have := List.getElem?_eq_none_iff.1 hes
            refine Lib.hid ?_
            unfold insP
            rw [if_neg (by omega), Nat.min_eq_left (by omega), Nat.add_sub_cancel]
          unfold hashAt at k1
          rw [hes] at k1
          simp only at k1
          clear hes k2
          generalize insP g n i = P
          go_wp2
          exact ⟨⟨i + 1, rfl, eP.out.symm, by omega, HB3.out⟩, by simp only [intOf]; omega⟩
        · have eP : Hid (insP g n (i + 1) = insP g n i) := by
            obtain ⟨hj, _⟩ := List.getElem?_eq_some_iff.1 hes
            refine Lib.hid ?_
            unfold insP
            rw [if_neg (by omega), if_neg (by omega), Nat.min_eq_right (by omega), Nat.min_eq_right (by omega)]
          obtain ⟨e1, e2, e3⟩ := HE.out _ _ hes
          unfold hashAt at k1
          unfold keyAt at k2
          rw [hes] at k1 k2
          simp only at k1 k2
          have HEq := Lib.hid (e3 wr HB3.out.1)
          clear hes e3
          have hz : ((en.1 : Int) == 0) = false := by rw [beq_eq_false_iff_ne]; omega
          generalize insP g n i = P at *
          by_cases hh1 : en.1 = 1
          · have hq1 : ((en.1 : Int) != 1) = false := by rw [bne_eq_false_iff_eq]; omega
            rw [hh1] at k1
            clear hh1 hz hq1 e1 e2
            go_wp2_with fail
            refine HEq.out.mono ?_
            rintro e w3 ⟨rfl, hB3⟩
            have HB4 := Lib.hid (And.intro (HB3.out.1.trans (hB3.mono HB3.out.1.size)) (HB3.out.2.below hB3 HB3.out.2.lt))
            clear hB3 HB3 HEq k1 k2
            go_wp2
            exact ⟨⟨i + 1, rfl, eP.out.symm, by omega, HB4.out⟩, by simp only [intOf]; omega⟩
          · have hq1 : ((en.1 : Int) != 1) = true := by rw [bne_iff_ne]; omega
            clear hh1 e1 e2 HEq k2
            go_wp2
            exact ⟨⟨i + 1, rfl, eP.out.symm, by omega, HB3.out⟩, by simp only [intOf]; omega⟩
      · have hki : ¬ (i : Int) < 8 := by omega
        have hi8 : i = 8 := by omega
        subst hi8
        have eP : insP g n 8 = .pointer (some ⟨g, slotO n, none⟩) := by
          unfold insP slotO
          rw [if_neg (by omega), Nat.min_eq_right (by omega), Nat.mul_comm]
        rw [eP]
        obtain ⟨o, ho⟩ : ∃ o, o = slotO n := ⟨_, rfl⟩
        obtain ⟨q, hqq⟩ : ∃ q, q = slotO (n - 1) + 3 := ⟨_, rfl⟩
        have ho1 : o ≤ 31 ∧ 1 ≤ o ∧ q = o + 8 := by unfold slotO at ho hqq; omega
        have c41 : wr.cell? ⟨g, 41, none⟩ = some (.pointer none) := (hb.cell 41).trans (tab_tail g es 0 (by decide))
        have c42 : wr.cell? ⟨g, 42, none⟩ = some (.int .u32 n) := (hb.cell 42).trans ((tab_tail g es 1 (by decide)).trans (by rw [hne]; rfl))
        have c45 : wr.cell? ⟨g, 45, none⟩ = some (.pointer (some ⟨g, q, none⟩)) := (hb.cell 45).trans ((tab_tail g es 4 (by decide)).trans (by simp only [tailC, List.getElem?_cons_succ, List.getElem?_cons_zero]; rw [if_neg (by omega), ← hne, hqq]))
        have d0 : wr.cell? ⟨g, o, none⟩ = some (.int .u32 0) := (hb.cell o).trans (by rw [ho, hne, show slotO es.length = slotO es.length + 0 from rfl, tab_five g es es.length 0 (by omega) (by decide), slot_empty]; rfl)
        have d1 : wr.cell? ⟨g, o + 1, none⟩ = some .nilIface := (hb.cell (o + 1)).trans (by rw [ho, hne, show slotO es.length + 1 = slotO es.length + 1 from rfl, tab_five g es es.length 1 (by omega) (by decide), slot_empty]; rfl)
        have d2 : wr.cell? ⟨g, o + 2, none⟩ = some .nilIface := (hb.cell (o + 2)).trans (by rw [ho, hne, show slotO es.length + 2 = slotO es.length + 2 from rfl, tab_five g es es.length 2 (by omega) (by decide), slot_empty]; rfl)
        have d4 : wr.cell? ⟨g, o + 4, none⟩ = some (.pointer none) := (hb.cell (o + 4)).trans (by rw [ho, hne, show slotO es.length + 4 = slotO es.length + 4 from rfl, tab_five g es es.length 4 (by omega) (by decide), slot_empty]; rfl)
        have d8 : wr.cell? ⟨g, q, none⟩ = some (.pointer none) := (hb.cell q).trans (by rw [hqq, hne, tab_five g es (es.length - 1) 3 (by omega) (by decide), slot_last g es h0])
        have f0 := hb.frozen o
        have f1 := hb.frozen (o + 1)
        have f2 := hb.frozen (o + 2)
        have f4 := hb.frozen (o + 4)
        have f8 := hb.frozen q
        have f42 := hb.frozen 42
        have f45 := hb.frozen 45
        have c0' : wr.cell? ⟨g, 0, none⟩ = some (.slice (some ⟨g, 1, none⟩) 1 1) := (hB.cell (p := ⟨g, 0, none⟩) hlt).trans (by assumption)
        rw [← ho]
        have HO := Lib.hid (And.intro ho (And.intro hqq ho1))
        have HB3 := Lib.hid (And.intro hB hb)
        have HN := Lib.hid (And.intro hne (And.intro h0 hn))
        have HOv := Lib.hid fun W => overloaded_any n (by omega) W
        have hwn : IntKind.i64.wrap (n : Int) = (n : Int) := by rw [IntKind.wrap_i64]; omega
        obtain ⟨ho1, ho2, ho3⟩ := ho1
        have n0 : ¬ 45 = o := by omega
        have r0 : ¬ o = 45 := by omega
        have n1 : ¬ 45 = o + 1 := by omega
        have r1 : ¬ o + 1 = 45 := by omega
        have n2 : ¬ 45 = o + 2 := by omega
        have r2 : ¬ o + 2 = 45 := by omega
        have n3 : ¬ 45 = o + 4 := by omega
        have r3 : ¬ o + 4 = 45 := by omega
        have n4 : ¬ 45 = q := by omega
        have r4 : ¬ q = 45 := by omega
        have n5 : ¬ 42 = o := by omega
        have r5 : ¬ o = 42 := by omega
        have n6 : ¬ 42 = o + 1 := by omega
        have r6 : ¬ o + 1 = 42 := by omega
        have n7 : ¬ 42 = o + 2 := by omega
        have r7 : ¬ o + 2 = 42 := by omega
        have n8 : ¬ 42 = o + 4 := by omega
        have r8 : ¬ o + 4 = 42 := by omega
        have n9 : ¬ 42 = q := by omega
        have r9 : ¬ q = 42 := by omega
        have n10 : ¬ q = o := by omega
        have r10 : ¬ o = q := by omega
        have n11 : ¬ q = o + 1 := by omega
        have r11 : ¬ o + 1 = q := by omega
        have n12 : ¬ q = o + 2 := by omega
        have r12 : ¬ o + 2 = q := by omega
        have n13 : ¬ q = o + 4 := by omega
        have r13 : ¬ o + 4 = q := by omega
        clear hB hb ho hqq ho1 ho2 ho3 eP HE HB2 c0 hne h0 hn
        go_wp2_with fail
        go_quiet ((go_at_call 81; with_reducible exact Calls.quiet_of_same (HOv.out _)))
        go_wp2_with fail
        have hw8 : ((n : Int) + 1) % 4294967296 = (n : Int) + 1 := by have h1 := HN.out.1; have h2 := HN.out.2.2; omega
        rw [hw8]
        rw [Exit.noGoto_ret]
        go_ret
        rw [show hN 0 = 1 from rfl]
        refine ⟨rfl, ?_, ?_⟩
        · have e := tab_step g es 1 (.iface t u) (.iface tv uv) HN.out.2.1 HN.out.2.2
          rw [← HN.out.1, ← HO.out.1, ← HO.out.2.1] at e
          rw [← e]
          exact (((((((HB3.out.2.drewN nq).set_ o _).set_ (o + 1) _).set_ (o + 2) _).set_ (o + 4) _).set_ q _).set_ 45 _).set_ 42 _
        · have hg : w1.grownBy (wr.drewN nq) (some g) := ⟨HB3.out.1.os, HB3.out.1.tape, HB3.out.1.output, HB3.out.1.size, fun k hk _ => HB3.out.1.block k hk⟩
          exact grown_set (grown_set (grown_set (grown_set (grown_set (grown_set (grown_set hg _) _) _) _) _) _) _
  · have hz1 : ((h : Int) == 0) = false := by rw [beq_eq_false_iff_ne]; omega
    have hz2 : ((0 : Int) != (h : Int)) = true := by rw [bne_iff_ne]; omega
    have hb0 : bits .and .u32 (h : Int) 0 = 0 := and0 h hh
    have HH := Lib.hid (And.intro hz hh)
    clear hz
    go_wp2_with fail
    go_step3
    go_wp2_with fail
    go_quiet (fail)
    go_wp2_with fail
    refine wp_loop_rounds 1 ?_
    rw [rounds_succ]
    go_wp2_with fail
    go_loopw [53, 10] (fun vi vp wr => ∃ i : Nat, vi = .int .i64 i ∧ vp = insP g n i ∧ i ≤ 8 ∧ Below w1.heap.size w1 wr ∧ Blk wr g T (tabC g es)) (fun vi _ _ => 8 - (intOf vi).toNat)
    case atStart => exact ⟨0, rfl, rfl, by omega, HB2.out.1.drewN_ _, HB2.out.2.drewN _⟩
    case round =>
      obtain ⟨i, rfl, rfl, hi, hB, hb⟩ := hrel
      rcases Nat.lt_or_ge i 8 with hlt8 | hge
      · have hki : (i : Int) < 8 := by omega
        have k1 := (hb.cell (1 + i * 5)).trans (tab_hash g es i hlt8)
        have k2 := (hb.cell (1 + i * 5 + 1)).trans (tab_key g es i hlt8)
        have w1 : IntKind.i64.wrap ((i : Int) + 1) = (i : Int) + 1 := by rw [IntKind.wrap_i64]; omega
        have HB3 := Lib.hid (And.intro hB hb)
        clear hB hb
        rcases hes : es[7 - i]? with _ | en
        · have eP : Hid (insP g n (i + 1) = .pointer (some ⟨g, 1 + i * 5, none⟩)) := by
            have := List.getElem?_eq_none_iff.1 hes
            refine Lib.hid ?_
            unfold insP
            rw [if_neg (by omega), Nat.min_eq_left (by omega), Nat.add_sub_cancel]
          unfold hashAt at k1
          rw [hes] at k1
          simp only at k1
          clear hes k2
          generalize insP g n i = P
          go_wp2
          exact ⟨⟨i + 1, rfl, eP.out.symm, by omega, HB3.out⟩, by simp only [intOf]; omega⟩
        · have eP : Hid (insP g n (i + 1) = insP g n i) := by
            obtain ⟨hj, _⟩ := List.getElem?_eq_some_iff.1 hes
            refine Lib.hid ?_
            unfold insP
            rw [if_neg (by omega), if_neg (by omega), Nat.min_eq_right (by omega), Nat.min_eq_right (by omega)]
          obtain ⟨e1, e2, e3⟩ := HE.out _ _ hes
          unfold hashAt at k1
          unfold keyAt at k2
          rw [hes] at k1 k2
          simp only at k1 k2
          have HEq := Lib.hid (e3 wr HB3.out.1)
          clear hes e3
          have hzE : ((en.1 : Int) == 0) = false := by rw [beq_eq_false_iff_ne]; omega
          generalize insP g n i = P at *
          by_cases hh1 : en.1 = h
          · have hq1 : ((en.1 : Int) != (h : Int)) = false := by rw [bne_eq_false_iff_eq]; omega
            rw [hh1] at k1
            clear hh1 hzE hq1 e1 e2
            go_wp2_with fail
            refine HEq.out.mono ?_
            rintro e w3 ⟨rfl, hB3⟩
            have HB4 := Lib.hid (And.intro (HB3.out.1.trans (hB3.mono HB3.out.1.size)) (HB3.out.2.below hB3 HB3.out.2.lt))
            clear hB3 HB3 HEq k1 k2
            go_wp2
            exact ⟨⟨i + 1, rfl, eP.out.symm, by omega, HB4.out⟩, by simp only [intOf]; omega⟩
          · have hq1 : ((en.1 : Int) != (h : Int)) = true := by rw [bne_iff_ne]; omega
            clear hh1 e1 e2 HEq k2
            go_wp2
            exact ⟨⟨i + 1, rfl, eP.out.symm, by omega, HB3.out⟩, by simp only [intOf]; omega⟩
      · have hki : ¬ (i : Int) < 8 := by omega
        have hi8 : i = 8 := by omega
        subst hi8
        have eP : insP g n 8 = .pointer (some ⟨g, slotO n, none⟩) := by
          unfold insP slotO
          rw [if_neg (by omega), Nat.min_eq_right (by omega), Nat.mul_comm]
        rw [eP]
        obtain ⟨o, ho⟩ : ∃ o, o = slotO n := ⟨_, rfl⟩
        obtain ⟨q, hqq⟩ : ∃ q, q = slotO (n - 1) + 3 := ⟨_, rfl⟩
        have ho1 : o ≤ 31 ∧ 1 ≤ o ∧ q = o + 8 := by unfold slotO at ho hqq; omega
        have c41 : wr.cell? ⟨g, 41, none⟩ = some (.pointer none) := (hb.cell 41).trans (tab_tail g es 0 (by decide))
        have c42 : wr.cell? ⟨g, 42, none⟩ = some (.int .u32 n) := (hb.cell 42).trans ((tab_tail g es 1 (by decide)).trans (by rw [hne]; rfl))
        have c45 : wr.cell? ⟨g, 45, none⟩ = some (.pointer (some ⟨g, q, none⟩)) := (hb.cell 45).trans ((tab_tail g es 4 (by decide)).trans (by simp only [tailC, List.getElem?_cons_succ, List.getElem?_cons_zero]; rw [if_neg (by omega), ← hne, hqq]))
        have d0 : wr.cell? ⟨g, o, none⟩ = some (.int .u32 0) := (hb.cell o).trans (by rw [ho, hne, show slotO es.length = slotO es.length + 0 from rfl, tab_five g es es.length 0 (by omega) (by decide), slot_empty]; rfl)
        have d1 : wr.cell? ⟨g, o + 1, none⟩ = some .nilIface := (hb.cell (o + 1)).trans (by rw [ho, hne, show slotO es.length + 1 = slotO es.length + 1 from rfl, tab_five g es es.length 1 (by omega) (by decide), slot_empty]; rfl)
        have d2 : wr.cell? ⟨g, o + 2, none⟩ = some .nilIface := (hb.cell (o + 2)).trans (by rw [ho, hne, show slotO es.length + 2 = slotO es.length + 2 from rfl, tab_five g es es.length 2 (by omega) (by decide), slot_empty]; rfl)
        have d4 : wr.cell? ⟨g, o + 4, none⟩ = some (.pointer none) := (hb.cell (o + 4)).trans (by rw [ho, hne, show slotO es.length + 4 = slotO es.length + 4 from rfl, tab_five g es es.length 4 (by omega) (by decide), slot_empty]; rfl)
        have d8 : wr.cell? ⟨g, q, none⟩ = some (.pointer none) := (hb.cell q).trans (by rw [hqq, hne, tab_five g es (es.length - 1) 3 (by omega) (by decide), slot_last g es h0])
        have f0 := hb.frozen o
        have f1 := hb.frozen (o + 1)
        have f2 := hb.frozen (o + 2)
        have f4 := hb.frozen (o + 4)
        have f8 := hb.frozen q
        have f42 := hb.frozen 42
        have f45 := hb.frozen 45
        have c0' : wr.cell? ⟨g, 0, none⟩ = some (.slice (some ⟨g, 1, none⟩) 1 1) := (hB.cell (p := ⟨g, 0, none⟩) hlt).trans (by assumption)
        rw [← ho]
        have HO := Lib.hid (And.intro ho (And.intro hqq ho1))
        have HB3 := Lib.hid (And.intro hB hb)
        have HN := Lib.hid (And.intro hne (And.intro h0 hn))
        have HOv := Lib.hid fun W => overloaded_any n (by omega) W
        have hwn : IntKind.i64.wrap (n : Int) = (n : Int) := by rw [IntKind.wrap_i64]; omega
        obtain ⟨ho1, ho2, ho3⟩ := ho1
        have n0 : ¬ 45 = o := by omega
        have r0 : ¬ o = 45 := by omega
        have n1 : ¬ 45 = o + 1 := by omega
        have r1 : ¬ o + 1 = 45 := by omega
        have n2 : ¬ 45 = o + 2 := by omega
        have r2 : ¬ o + 2 = 45 := by omega
        have n3 : ¬ 45 = o + 4 := by omega
        have r3 : ¬ o + 4 = 45 := by omega
        have n4 : ¬ 45 = q := by omega
        have r4 : ¬ q = 45 := by omega
        have n5 : ¬ 42 = o := by omega
        have r5 : ¬ o = 42 := by omega
        have n6 : ¬ 42 = o + 1 := by omega
        have r6 : ¬ o + 1 = 42 := by omega
        have n7 : ¬ 42 = o + 2 := by omega
        have r7 : ¬ o + 2 = 42 := by omega
        have n8 : ¬ 42 = o + 4 := by omega
        have r8 : ¬ o + 4 = 42 := by omega
        have n9 : ¬ 42 = q := by omega
        have r9 : ¬ q = 42 := by omega
        have n10 : ¬ q = o := by omega
        have r10 : ¬ o = q := by omega
        have n11 : ¬ q = o + 1 := by omega
        have r11 : ¬ o + 1 = q := by omega
        have n12 : ¬ q = o + 2 := by omega
        have r12 : ¬ o + 2 = q := by omega
        have n13 : ¬ q = o + 4 := by omega
        have r13 : ¬ o + 4 = q := by omega
        clear hB hb ho hqq ho1 ho2 ho3 eP HE HB2 c0 hne h0 hn
        go_wp2_with fail
        go_quiet ((go_at_call 81; with_reducible exact Calls.quiet_of_same (HOv.out _)))
        go_wp2_with fail
        have hw8 : ((n : Int) + 1) % 4294967296 = (n : Int) + 1 := by have h1 := HN.out.1; have h2 := HN.out.2.2; omega
        rw [hw8]
        rw [Exit.noGoto_ret]
        go_ret
        rw [hN_pos HH.out.1]
        refine ⟨rfl, ?_, ?_⟩
        · have e := tab_step g es h (.iface t u) (.iface tv uv) HN.out.2.1 HN.out.2.2
          rw [← HN.out.1, ← HO.out.1, ← HO.out.2.1] at e
          rw [← e]
          exact (((((((HB3.out.2.drewN nq).set_ o _).set_ (o + 1) _).set_ (o + 2) _).set_ (o + 4) _).set_ q _).set_ 45 _).set_ 42 _
        · have hg : w1.grownBy (wr.drewN nq) (some g) := ⟨HB3.out.1.os, HB3.out.1.tape, HB3.out.1.output, HB3.out.1.size, fun k hk _ => HB3.out.1.block k hk⟩
          exact grown_set (grown_set (grown_set (grown_set (grown_set (grown_set (grown_set hg _) _) _) _) _) _) _
set_option maxRecDepth 10000 in
set_option maxHeartbeats 2000000 in
theorem insertV_first (h : Nat) (hh : h < 4294967296) (g T B : Nat) (k v : Value) (w : World) (hb : Blk w g T (tabC g [])) (hBg : B ≤ g) (hm : ∀ W, Below B w W → HashMV (h : Int) W k) (hv : ∃ t u, v = .iface t u) :
    Calls Tryz.prog 67 #[.pointer (some ⟨g, 0, none⟩), k, v] w fun e w' => e = .returned .nilIface ∧ Blk w' g T (tabC g [(hN h, k, v)]) ∧ w.grownBy w' (some g) := by
  obtain ⟨tv, uv, rfl⟩ := hv
  have c0 : w.cell? ⟨g, 0, none⟩ = some (.slice none 0 0) := (hb.cell 0).trans rfl
  have c43 : w.cell? ⟨g, 43, none⟩ = some (.int .u32 0) := (hb.cell 43).trans rfl
  have c46 : w.cell? ⟨g, 46, none⟩ = some (.bool false) := (hb.cell 46).trans rfl
  have hgl := hb.lt
  have HB := Lib.hid hb
  have HM := Lib.hid hm
  have hk : ∃ t u, k = .iface t u := by obtain ⟨f, r, ⟨t, u, rfl, _⟩, _⟩ := hm w (Below.refl _ _); exact ⟨t, u, rfl⟩
  obtain ⟨t, u, rfl⟩ := hk
  have hq : ∀ w, (binOp .eql 103 (.slice none 0 0) (.slice none 0 0)).run Tryz.prog w = .ok (.bool true) w := fun w => by kernel_rfl
  clear hm hb
  go_enter Tryz.func67, Tryz.ntmps67
  go_wp2_with fail
  go_step3
  go_wp2_with fail
  refine (checkMutable_any g _ w c46 c43).mono ?_
  rintro e w1 ⟨rfl, rfl⟩
  go_wp2_with fail
  refine (init_any g T w1 HB.out).mono ?_
  rintro e w2 ⟨rfl, hbI, hgI⟩
  have hBI : Below B w1 w2 := (Below.refl _ _).grown hgI (by omega) (fun k e => by cases e; exact hBg)
  obtain ⟨f, r, ⟨t', u', he, m1, q1⟩, C⟩ := HM.out w2 hBI
  cases he
  have HC := Lib.hid C
  have hlt2 := hbI.lt
  have HBI := Lib.hid (And.intro hbI hgI)
  clear C hbI hgI hBI HM HB c0 c43 c46
  go_wp2_with fail
  refine HC.out.mono ?_
  rintro e w3 ⟨rfl, hB3⟩
  have b3 := HBI.out.1.below hB3 hlt2
  have c0 : w3.cell? ⟨g, 0, none⟩ = some (.slice (some ⟨g, 1, none⟩) 1 1) := (b3.cell 0).trans rfl
  have hg3 : w1.grownBy w3 (some g) := HBI.out.2.trans ⟨hB3.os, hB3.tape, hB3.output, hB3.size, fun k hk _ => hB3.block k hk⟩
  have HB2 := Lib.hid (And.intro hg3 b3)
  clear hB3 b3 hg3 HBI HC
  rcases Nat.eq_zero_or_pos h with hz | hz
  · subst hz
    have hz2 : ((0 : Int) != (1 : Int)) = true := by decide
    have hb0 : bits .and .u32 (1 : Int) 0 = 0 := by kernel_rfl
    go_wp2_with fail
    go_step3
    go_wp2_with fail
    go_quiet (fail)
    go_wp2_with fail
    refine wp_loop_rounds 1 ?_
    rw [rounds_succ]
    go_wp2_with fail
    go_loopw [53, 10] (fun vi vp wr => ∃ i : Nat, vi = .int .i64 i ∧ vp = insE g i ∧ i ≤ 8 ∧ w1.grownBy wr (some g) ∧ Blk wr g T (tabI g)) (fun vi _ _ => 8 - (intOf vi).toNat)
    case atStart => exact ⟨0, rfl, rfl, by omega, HB2.out.1.trans ⟨rfl, rfl, rfl, Nat.le_refl _, fun _ _ _ => rfl⟩, HB2.out.2.drewN _⟩
    case round =>
      obtain ⟨i, rfl, rfl, hi, hG, hb⟩ := hrel
      have HB3 := Lib.hid (And.intro hG hb)
      rcases Nat.lt_or_ge i 8 with hlt8 | hge
      · have hki : (i : Int) < 8 := by omega
        have k1 : wr.cell? ⟨g, 1 + i * 5, none⟩ = some (.int .u32 0) := (hb.cell (1 + i * 5)).trans (tabI_hash g i hlt8)
        have wi : IntKind.i64.wrap ((i : Int) + 1) = (i : Int) + 1 := by rw [IntKind.wrap_i64]; omega
        have eP : Hid (insE g (i + 1) = .pointer (some ⟨g, 1 + i * 5, none⟩)) := by
          refine Lib.hid ?_
          unfold insE
          rw [if_neg (by omega), Nat.add_sub_cancel]
        generalize insE g i = P
        clear hG hb
        go_wp2
        exact ⟨⟨i + 1, rfl, eP.out.symm, by omega, HB3.out⟩, by simp only [intOf]; omega⟩
      · have hki : ¬ (i : Int) < 8 := by omega
        have hi8 : i = 8 := by omega
        subst hi8
        have eP : insE g 8 = .pointer (some ⟨g, 36, none⟩) := rfl
        rw [eP]
        clear eP
        have c00 : wr.cell? ⟨g, 0, none⟩ = some (.slice (some ⟨g, 1, none⟩) 1 1) := (hb.cell 0).trans rfl
        have c41 : wr.cell? ⟨g, 41, none⟩ = some (.pointer none) := (hb.cell 41).trans rfl
        have c42 : wr.cell? ⟨g, 42, none⟩ = some (.int .u32 0) := (hb.cell 42).trans rfl
        have c45 : wr.cell? ⟨g, 45, none⟩ = some (.pointer (some ⟨g, 44, none⟩)) := (hb.cell 45).trans rfl
        have c44 : wr.cell? ⟨g, 44, none⟩ = some (.pointer none) := (hb.cell 44).trans rfl
        have d0 : wr.cell? ⟨g, 36, none⟩ = some (.int .u32 0) := (hb.cell 36).trans rfl
        have d1 : wr.cell? ⟨g, 37, none⟩ = some .nilIface := (hb.cell 37).trans rfl
        have d2 : wr.cell? ⟨g, 38, none⟩ = some .nilIface := (hb.cell 38).trans rfl
        have d4 : wr.cell? ⟨g, 40, none⟩ = some (.pointer none) := (hb.cell 40).trans rfl
        have f0 := hb.frozen 36
        have f1 := hb.frozen 37
        have f2 := hb.frozen 38
        have f4 := hb.frozen 40
        have f44 := hb.frozen 44
        have f42 := hb.frozen 42
        have f45 := hb.frozen 45
        have HOv : Hid (∀ W, Calls Tryz.prog 81 #[.int .i64 0, .int .i64 1] W fun e w' => e = .returned (.bool false) ∧ w' = W) := Lib.hid fun W => overloaded_any 0 (by omega) W
        have hw0 : IntKind.i64.wrap 0 = 0 := by decide
        clear hb hG
        go_wp2_with fail
        go_quiet ((go_at_call 81; with_reducible exact Calls.quiet_of_same (HOv.out _)))
        go_wp2_with fail
        rw [Exit.noGoto_ret]
        go_ret
        rw [show hN 0 = 1 from rfl]
        refine ⟨rfl, ?_, ?_⟩
        · rw [← tab_first g 1 (.iface t u) (.iface tv uv)]
          exact (((((((HB3.out.2.drewN _).set_ 36 _).set_ 37 _).set_ 38 _).set_ 40 _).set_ 44 _).set_ 45 _).set_ 42 _
        · have hg := HB3.out.1
          exact grown_set (grown_set (grown_set (grown_set (grown_set (grown_set (grown_set (by exact ⟨hg.os, hg.tape, hg.output, hg.size, hg.block⟩) _) _) _) _) _) _) _
  · have hz1 : ((h : Int) == 0) = false := by rw [beq_eq_false_iff_ne]; omega
    have hz2 : ((0 : Int) != (h : Int)) = true := by rw [bne_iff_ne]; omega
    have hb0 : bits .and .u32 (h : Int) 0 = 0 := and0 h hh
    have HH := Lib.hid (And.intro hz hh)
    clear hz
    go_wp2_with fail
    go_step3
    go_wp2_with fail
    go_quiet (fail)
    go_wp2_with fail
    refine wp_loop_rounds 1 ?_
    rw [rounds_succ]
    go_wp2_with fail
    go_loopw [53, 10] (fun vi vp wr => ∃ i : Nat, vi = .int .i64 i ∧ vp = insE g i ∧ i ≤ 8 ∧ w1.grownBy wr (some g) ∧ Blk wr g T (tabI g)) (fun vi _ _ => 8 - (intOf vi).toNat)
    case atStart => exact ⟨0, rfl, rfl, by omega, HB2.out.1.trans ⟨rfl, rfl, rfl, Nat.le_refl _, fun _ _ _ => rfl⟩, HB2.out.2.drewN _⟩
    case round =>
      obtain ⟨i, rfl, rfl, hi, hG, hb⟩ := hrel
      have HB3 := Lib.hid (And.intro hG hb)
      rcases Nat.lt_or_ge i 8 with hlt8 | hge
      · have hki : (i : Int) < 8 := by omega
        have k1 : wr.cell? ⟨g, 1 + i * 5, none⟩ = some (.int .u32 0) := (hb.cell (1 + i * 5)).trans (tabI_hash g i hlt8)
        have wi : IntKind.i64.wrap ((i : Int) + 1) = (i : Int) + 1 := by rw [IntKind.wrap_i64]; omega
        have eP : Hid (insE g (i + 1) = .pointer (some ⟨g, 1 + i * 5, none⟩)) := by
          refine Lib.hid ?_
          unfold insE
          rw [if_neg (by omega), Nat.add_sub_cancel]
        generalize insE g i = P
        clear hG hb
        go_wp2
        exact ⟨⟨i + 1, rfl, eP.out.symm, by omega, HB3.out⟩, by simp only [intOf]; omega⟩
      · have hki : ¬ (i : Int) < 8 := by omega
        have hi8 : i = 8 := by omega
        subst hi8
        have eP : insE g 8 = .pointer (some ⟨g, 36, none⟩) := rfl
        rw [eP]
        clear eP
        have c00 : wr.cell? ⟨g, 0, none⟩ = some (.slice (some ⟨g, 1, none⟩) 1 1) := (hb.cell 0).trans rfl
        have c41 : wr.cell? ⟨g, 41, none⟩ = some (.pointer none) := (hb.cell 41).trans rfl
        have c42 : wr.cell? ⟨g, 42, none⟩ = some (.int .u32 0) := (hb.cell 42).trans rfl
        have c45 : wr.cell? ⟨g, 45, none⟩ = some (.pointer (some ⟨g, 44, none⟩)) := (hb.cell 45).trans rfl
        have c44 : wr.cell? ⟨g, 44, none⟩ = some (.pointer none) := (hb.cell 44).trans rfl
        have d0 : wr.cell? ⟨g, 36, none⟩ = some (.int .u32 0) := (hb.cell 36).trans rfl
        have d1 : wr.cell? ⟨g, 37, none⟩ = some .nilIface := (hb.cell 37).trans rfl
        have d2 : wr.cell? ⟨g, 38, none⟩ = some .nilIface := (hb.cell 38).trans rfl
        have d4 : wr.cell? ⟨g, 40, none⟩ = some (.pointer none) := (hb.cell 40).trans rfl
        have f0 := hb.frozen 36
        have f1 := hb.frozen 37
        have f2 := hb.frozen 38
        have f4 := hb.frozen 40
        have f44 := hb.frozen 44
        have f42 := hb.frozen 42
        have f45 := hb.frozen 45
        have HOv : Hid (∀ W, Calls Tryz.prog 81 #[.int .i64 0, .int .i64 1] W fun e w' => e = .returned (.bool false) ∧ w' = W) := Lib.hid fun W => overloaded_any 0 (by omega) W
        have hw0 : IntKind.i64.wrap 0 = 0 := by decide
        clear hb hG
        go_wp2_with fail
        go_quiet ((go_at_call 81; with_reducible exact Calls.quiet_of_same (HOv.out _)))
        go_wp2_with fail
        rw [Exit.noGoto_ret]
        go_ret
        rw [hN_pos HH.out.1]
        refine ⟨rfl, ?_, ?_⟩
        · rw [← tab_first g h (.iface t u) (.iface tv uv)]
          exact (((((((HB3.out.2.drewN _).set_ 36 _).set_ 37 _).set_ 38 _).set_ 40 _).set_ 44 _).set_ 45 _).set_ 42 _
        · have hg := HB3.out.1
          exact grown_set (grown_set (grown_set (grown_set (grown_set (grown_set (grown_set (by exact ⟨hg.os, hg.tape, hg.output, hg.size, hg.block⟩) _) _) _) _) _) _) _
/-- One key more. -/
theorem insertV_new (h : Nat) (hh : h < 4294967296) (g T B : Nat) (es : List (Nat × Value × Value)) (k v : Value) (w : World) (hb : Blk w g T (tabC g es)) (hBg : B ≤ g) (hn : es.length ≤ 7) (hm : ∀ W, Below B w W → HashMV (h : Int) W k) (hv : ∃ t u, v = .iface t u)
    (he : ∀ (j : Nat) (e : Nat × Value × Value), es[j]? = some e → 1 ≤ e.1 ∧ e.1 < 4294967296 ∧ ∀ W, Below w.heap.size w W → Calls Tryz.prog 80 #[k, e.2.1] W (Eqd W false)) :
    Calls Tryz.prog 67 #[.pointer (some ⟨g, 0, none⟩), k, v] w fun e w' => e = .returned .nilIface ∧ Blk w' g T (tabC g (es ++ [(hN h, k, v)])) ∧ w.grownBy w' (some g) := by
  cases es with
  | nil => exact insertV_first h hh g T B k v w hb hBg hm hv
  | cons a es => exact insertV_more h hh g T (a :: es) k v w hb (by simp) hn (fun W hW => hm W (hW.mono (by have := hb.lt; omega))) hv he
end Go.Proofs.YtkmeckimmfbkiaaGreatDoor
namespace Go.Proofs.YtkmeckimmfbkiaaGreatDoor
open Go Go.RowKit
/-- The entries of a dict made of keys and values by turns. -/
def EsD (hs : Nat → Nat) (xs : List Value) (es : List (Nat × Value × Value)) : Prop := ∀ (j : Nat) (e : Nat × Value × Value), es[j]? = some e → e.1 = hN (hs j) ∧ xs[2 * j]? = some e.2.1 ∧ xs[2 * j + 1]? = some e.2.2
/-- The entries of a set. -/
def EsS (hs : Nat → Nat) (xs : List Value) (es : List (Nat × Value × Value)) : Prop := ∀ (j : Nat) (e : Nat × Value × Value), es[j]? = some e → e.1 = hN (hs j) ∧ xs[1 * j]? = some e.2.1 ∧ e.2.2 = .iface 88 (.int .u8 0)
theorem EsD.snoc {hs : Nat → Nat} {xs : List Value} {es : List (Nat × Value × Value)} {k v : Value} (H : EsD hs xs es) (hk : xs[2 * es.length]? = some k) (hv : xs[2 * es.length + 1]? = some v) : EsD hs xs (es ++ [(hN (hs es.length), k, v)]) := by
  intro j e he
  rcases Nat.lt_trichotomy j es.length with hj | hj | hj
  · rw [List.getElem?_append_left hj] at he
    exact H j e he
  · subst hj
    simp at he
    subst he
    exact ⟨rfl, hk, hv⟩
  · rw [List.getElem?_eq_none (by simp; omega)] at he
    cases he
theorem EsS.snoc {hs : Nat → Nat} {xs : List Value} {es : List (Nat × Value × Value)} {k : Value} (H : EsS hs xs es) (hk : xs[1 * es.length]? = some k) : EsS hs xs (es ++ [(hN (hs es.length), k, .iface 88 (.int .u8 0))]) := by
  intro j e he
  rcases Nat.lt_trichotomy j es.length with hj | hj | hj
  · rw [List.getElem?_append_left hj] at he
    exact H j e he
  · subst hj
    simp at he
    subst he
    exact ⟨rfl, hk, rfl⟩
  · rw [List.getElem?_eq_none (by simp; omega)] at he
    cases he
set_option maxRecDepth 10000 in
set_option maxHeartbeats 1000000 in
theorem dictV_any (hs : Nat → Nat) (hlt : ∀ j, hs j < 4294967296) (A : Option Addr) (n c : Nat) (xs : List Value) (w : World) (hn : n ≤ 16) (he : n % 2 = 0) (hr : Reads w w.heap.size 1 A n xs)
    (hk : ∀ (j : Nat) (u v : Value), xs[2 * j]? = some u → xs[2 * j + 1]? = some v → (∃ t x, v = .iface t x) ∧ ∀ W, Below w.heap.size w W → HashMV (hs j : Int) W u)
    (hd : ∀ (i j : Nat) (u v : Value), i < j → xs[2 * i]? = some u → xs[2 * j]? = some v → ∀ W, Below w.heap.size w W → Calls Tryz.prog 80 #[v, u] W (Eqd W false)) :
    Calls Tryz.prog 38 #[.slice A n c] w fun e w' => e = .returned (.tuple #[.pointer (some ⟨w.heap.size, 0, none⟩), .bool true]) ∧ ∃ es, 2 * es.length = n ∧ EsD hs xs es ∧ Blk w' w.heap.size 118 (tabC w.heap.size es) ∧ Below w.heap.size w w' := by
  have HX := Lib.hid (And.intro hr (And.intro hk hd))
  have HLT := Lib.hid hlt
  clear hr hk hd hlt
  go_enter Tryz.func38, Tryz.ntmps38
  go_wp2_with fail
  go_loopw [5] (fun vi wr => ∃ (i : Nat) (es : List (Nat × Value × Value)), vi = .int .i64 i ∧ i ≤ n ∧ 2 * es.length = i ∧ EsD hs xs es ∧ Blk wr w.heap.size 118 (tabC w.heap.size es) ∧ Below w.heap.size w wr) (fun vi _ => n - (intOf vi).toNat)
  case atStart => exact ⟨0, [], rfl, by omega, rfl, fun j e h => by simp at h, Blk.new _ _ _, (Below.refl _ _).alloc (Nat.le_refl _) _⟩
  case round =>
    obtain ⟨i, es, rfl, hj, hl, hes, hb, hB⟩ := hrel
    have w1 : IntKind.i64.wrap ((i : Int) + 1) = (i : Int) + 1 := by rw [IntKind.wrap_i64]; omega
    rcases Nat.lt_or_ge i n with h | h
    · have b1 : (i : Int) + 1 < (n : Int) := by omega
      have b0 : (i : Int) < (n : Int) := by omega
      have w2 : IntKind.i64.wrap ((i : Int) + 2) = (i : Int) + 2 := by rw [IntKind.wrap_i64]; omega
      obtain ⟨ad, u, rfl, had, hu, c0⟩ := HX.out.1.at_ (k := i) h
      obtain ⟨ad', v, e, _, hv, c1⟩ := HX.out.1.at_ (k := i + 1) (by omega)
      cases e
      rw [show ad.add (i + 1) = ⟨ad.block, ad.off + (i + 1), none⟩ by simp [Addr.add]] at c1
      have c0' := Lib.hid c0
      have c1' := Lib.hid c1
      have g0 : (0 : Int) ≤ (i : Int) + 1 := by omega
      replace c0 := (hB.cell (by rw [block_of_add]; exact had)).trans c0
      replace c1 := (hB.cell (by exact had)).trans c1
      have hui : xs[2 * es.length]? = some u := by rw [hl]; exact hu
      have hvv : xs[2 * es.length + 1]? = some v := by rw [hl]; exact hv
      obtain ⟨hvi, hm⟩ := HX.out.2.1 es.length u v hui hvv
      have HI := Lib.hid (setKey_any w.heap.size u v _ wr.drew (insertV_new (hs es.length) (HLT.out _) w.heap.size 118 w.heap.size es u v wr.drew hb.drew (Nat.le_refl _) (by omega) (fun W hW => hm W (hB.trans ⟨hW.os, hW.tape, hW.output, hW.size, hW.block⟩)) hvi fun j e he => by
        obtain ⟨h1, h3, _⟩ := hes j e he
        have hjl : j < es.length := by
          rcases Nat.lt_or_ge j es.length with h | h
          · exact h
          · rw [List.getElem?_eq_none h] at he; cases he
        exact ⟨by rw [h1]; exact hN_le _, by rw [h1]; exact hN_lt (HLT.out j), fun W hW => HX.out.2.2 j es.length e.2.1 u hjl h3 hui W (hB.trans (Below.mono ⟨hW.os, hW.tape, hW.output, hW.size, hW.block⟩ hB.size))⟩))
      have HB := Lib.hid (And.intro hB (And.intro hes (And.intro hui (And.intro hl hvv))))
      clear hB hes hui hb hu hv hvi hm hl hvv
      go_wp2_with fail
      go_region_held3 (fun w' => w'.cell? (ad.add i) = some u ∧ w'.cell? ⟨ad.block, ad.off + (i + 1), none⟩ = some v) (exact ⟨c0, c1⟩)
        ((go_at_call 53; refine HI.out.mono ?_
          rintro e w5 ⟨rfl, hb5, hg5⟩
          have hB5 : Below w.heap.size w w5 := below_grown HB.out.1.drew hg5 (Nat.le_refl _) HB.out.1.size
          have c0 := (hB5.cell (p := ad.add i) (by rw [block_of_add]; exact had)).trans c0'.out
          have c1 := (hB5.cell (p := ⟨ad.block, ad.off + (i + 1), none⟩) (by exact had)).trans c1'.out
          have H5 := Lib.hid (And.intro hb5 hB5)
          clear hb5 hg5 hB5))
      go_wp2
      go_roundw
      case rel =>
        obtain ⟨hb5, hB5⟩ := H5.out
        obtain ⟨_, hes, hui, hl, hvv⟩ := HB.out
        exact ⟨i + 2, es ++ [(hN (hs es.length), u, v)], by go_num, by omega, by simp; omega, hes.snoc hui hvv, hb5, hB5⟩
      case measure => simp [intOf]; omega
    · have hin : i = n := by omega
      subst hin
      have b1 : ¬ (i : Int) + 1 < (i : Int) := by omega
      have k42 : wr.cell? ⟨w.heap.size, 42, none⟩ = some (.int .u32 (es.length : Int)) := (hb.cell 42).trans (tab_len _ es)
      have HL := Lib.hid (dictLen_any w.heap.size es.length (by omega) wr k42)
      have hd : IntKind.i64.wrap (2 * (es.length : Int)) = (i : Int) := by rw [IntKind.wrap_i64]; omega
      have HB := Lib.hid (And.intro hl (And.intro hes (And.intro hb hB)))
      clear hB hes hb hl HX
      go_wp2_with fail
      refine HL.out.mono ?_
      rintro e w5 ⟨rfl, rfl⟩
      go_wp2
      go_ret2
      exact ⟨by simp, es, HB.out⟩
set_option maxRecDepth 10000 in
set_option maxHeartbeats 1000000 in
theorem setV_any (hs : Nat → Nat) (hlt : ∀ j, hs j < 4294967296) (A : Option Addr) (n c : Nat) (xs : List Value) (w : World) (hn : n ≤ 8) (hr : Reads w w.heap.size 1 A n xs)
    (hk : ∀ (j : Nat) (u : Value), xs[1 * j]? = some u → ∀ W, Below w.heap.size w W → HashMV (hs j : Int) W u)
    (hd : ∀ (i j : Nat) (u v : Value), i < j → xs[1 * i]? = some u → xs[1 * j]? = some v → ∀ W, Below w.heap.size w W → Calls Tryz.prog 80 #[v, u] W (Eqd W false)) :
    Calls Tryz.prog 39 #[.slice A n c] w fun e w' => e = .returned (.tuple #[.pointer (some ⟨w.heap.size, 0, none⟩), .bool true]) ∧ ∃ es, es.length = n ∧ EsS hs xs es ∧ Blk w' w.heap.size 120 (tabC w.heap.size es) ∧ Below w.heap.size w w' := by
  have HX := Lib.hid (And.intro hr (And.intro hk hd))
  have HLT := Lib.hid hlt
  clear hr hk hd hlt
  go_enter Tryz.func39, Tryz.ntmps39
  go_wp2_with fail
  go_loopw [10] (fun vi wr => ∃ (i : Nat) (es : List (Nat × Value × Value)), vi = .int .i64 i ∧ i ≤ n ∧ es.length = i ∧ EsS hs xs es ∧ Blk wr w.heap.size 120 (tabC w.heap.size es) ∧ Below w.heap.size w wr) (fun vi _ => n - (intOf vi).toNat)
  case atStart => exact ⟨0, [], rfl, by omega, rfl, fun j e h => by simp at h, Blk.new _ _ _, (Below.refl _ _).alloc (Nat.le_refl _) _⟩
  case round =>
    obtain ⟨i, es, rfl, hj, hl, hes, hb, hB⟩ := hrel
    rcases Nat.lt_or_ge i n with h | h
    · have b0 : (i : Int) < (n : Int) := by omega
      have w1 : IntKind.i64.wrap ((i : Int) + 1) = (i : Int) + 1 := by rw [IntKind.wrap_i64]; omega
      obtain ⟨ad, u, rfl, had, hu, c0⟩ := HX.out.1.at_ (k := i) h
      have c0' := Lib.hid c0
      replace c0 := (hB.cell (by rw [block_of_add]; exact had)).trans c0
      have hui : xs[1 * es.length]? = some u := by rw [hl, Nat.one_mul]; exact hu
      have hm := HX.out.2.1 es.length u hui
      have HI := Lib.hid (setInsert_any w.heap.size u _ wr (insertV_new (hs es.length) (HLT.out _) w.heap.size 120 w.heap.size es u (.iface 88 (.int .u8 0)) wr hb (Nat.le_refl _) (by omega) (fun W hW => hm W (hB.trans hW)) ⟨_, _, rfl⟩ fun j e he => by
        obtain ⟨h1, h3, _⟩ := hes j e he
        have hjl : j < es.length := by
          rcases Nat.lt_or_ge j es.length with h | h
          · exact h
          · rw [List.getElem?_eq_none h] at he; cases he
        exact ⟨by rw [h1]; exact hN_le _, by rw [h1]; exact hN_lt (HLT.out j), fun W hW => HX.out.2.2 j es.length e.2.1 u hjl h3 hui W (hB.trans (hW.mono hB.size))⟩))
      have HB := Lib.hid (And.intro hB (And.intro hes (And.intro hui hl)))
      clear hB hes hui hb hu hm hl
      go_wp2_with fail
      refine HI.out.mono ?_
      rintro e w5 ⟨rfl, hb5, hg5⟩
      have H5 := Lib.hid (And.intro hb5 hg5)
      clear hb5 hg5
      go_wp2
      go_roundw
      case rel =>
        obtain ⟨hb5, hg5⟩ := H5.out
        obtain ⟨hB, hes, hui, hl⟩ := HB.out
        exact ⟨i + 1, es ++ [(hN (hs es.length), u, _)], by go_num, by omega, by simp; omega, hes.snoc hui, hb5, below_grown hB hg5 (Nat.le_refl _) hB.size⟩
      case measure => simp [intOf]; omega
    · have hin : i = n := by omega
      subst hin
      have b1 : ¬ (i : Int) < (i : Int) := by omega
      have k42 : wr.cell? ⟨w.heap.size, 42, none⟩ = some (.int .u32 (i : Int)) := by rw [← hl]; exact (hb.cell 42).trans (tab_len _ es)
      have HL := Lib.hid (setLen_any w.heap.size i (by omega) wr k42)
      have HB := Lib.hid (And.intro hl (And.intro hes (And.intro hb hB)))
      clear hB hes hb hl HX
      go_wp2_with fail
      refine HL.out.mono ?_
      rintro e w5 ⟨rfl, rfl⟩
      go_wp2
      go_ret2
      exact ⟨by simp, es, HB.out⟩
end Go.Proofs.YtkmeckimmfbkiaaGreatDoor
namespace Go.Proofs.YtkmeckimmfbkiaaGreatDoor
open Go Go.RowKit
/-- The hashes of each step-th. -/
def hsOf (step : Nat) (l : List S) (j : Nat) : Nat := match l[step * j]? with | some k => hK k | none => 0
theorem hsOf_lt (step : Nat) (l : List S) (j : Nat) : hsOf step l j < 4294967296 := by
  unfold hsOf
  split
  · exact hK_lt _
  · decide
theorem hsOf_some {step : Nat} {l : List S} {j : Nat} {k : S} (h : l[step * j]? = some k) : hsOf step l j = hK k := by unfold hsOf; rw [h]
mutual
/-- A value of the language that stands for s, with all its parts; they lie below block B. -/
def DAt (w : World) (B : Nat) : S → Value → Prop
  | .list l, u => ∃ g A c xs, u = .iface 71 (.pointer (some ⟨g, 0, none⟩)) ∧ g < B ∧ w.cell? ⟨g, 0, none⟩ = some (.slice A l.length c) ∧ l.length ≤ 16 ∧ l.length ≤ c ∧ Reads w B 1 A l.length xs ∧ DElems w B l xs
  | .tuple l, u => ∃ A c xs, u = .iface 73 (.slice A l.length c) ∧ l.length ≤ 16 ∧ l.length ≤ c ∧ Reads w B 1 A l.length xs ∧ DElems w B l xs
  | .dict l, u => ∃ g es xs, u = .iface 74 (.pointer (some ⟨g, 0, none⟩)) ∧ g < B ∧ l.length ≤ 16 ∧ Blk w g 118 (tabC g es) ∧ 2 * es.length = l.length ∧ EsD (hsOf 2 l) xs es ∧ DElems w B l xs
  | .set l, u => ∃ g es xs, u = .iface 77 (.pointer (some ⟨g, 0, none⟩)) ∧ g < B ∧ l.length ≤ 8 ∧ Blk w g 120 (tabC g es) ∧ es.length = l.length ∧ EsS (hsOf 1 l) xs es ∧ DElems w B l xs
  | s, u => SAt w B s u
/-- Values, one cell each, with all their parts. -/
def DElems (w : World) (B : Nat) : List S → List Value → Prop
  | [], xs => xs = []
  | s :: l, xs => ∃ u ys, xs = u :: ys ∧ DAt w B s u ∧ DElems w B l ys
end
mutual
theorem DAt.keep {w w' : World} {B B' : Nat} (hb : Below B w w') (hB : B ≤ B') : ∀ (s : S) (u : Value), DAt w B s u → DAt w' B' s u
  | .none, v, h => by simp only [DAt] at h ⊢; exact SAt.keep hb hB _ _ h
  | .bool _, v, h => by simp only [DAt] at h ⊢; exact SAt.keep hb hB _ _ h
  | .int _, v, h => by simp only [DAt] at h ⊢; exact SAt.keep hb hB _ _ h
  | .float _, v, h => by simp only [DAt] at h ⊢; exact SAt.keep hb hB _ _ h
  | .str _, v, h => by simp only [DAt] at h ⊢; exact SAt.keep hb hB _ _ h
  | .bytes _, v, h => by simp only [DAt] at h ⊢; exact SAt.keep hb hB _ _ h
  | .list l, v, h => by
    simp only [DAt] at h ⊢
    obtain ⟨g, A, c, xs, h1, h2, h3, h4, h5, h6, h7⟩ := h
    exact ⟨g, A, c, xs, h1, by omega, (hb.cell h2).trans h3, h4, h5, (h6.below hb).more hB, DElems.keep hb hB l xs h7⟩
  | .tuple l, v, h => by
    simp only [DAt] at h ⊢
    obtain ⟨A, c, xs, h1, h2, h3, h4, h5⟩ := h
    exact ⟨A, c, xs, h1, h2, h3, (h4.below hb).more hB, DElems.keep hb hB l xs h5⟩
  | .dict l, v, h => by
    simp only [DAt] at h ⊢
    obtain ⟨g, es, xs, h1, h2, h3, h4, h5, h6, h7⟩ := h
    exact ⟨g, es, xs, h1, by omega, h3, h4.below hb h2, h5, h6, DElems.keep hb hB l xs h7⟩
  | .set l, v, h => by
    simp only [DAt] at h ⊢
    obtain ⟨g, es, xs, h1, h2, h3, h4, h5, h6, h7⟩ := h
    exact ⟨g, es, xs, h1, by omega, h3, h4.below hb h2, h5, h6, DElems.keep hb hB l xs h7⟩
theorem DElems.keep {w w' : World} {B B' : Nat} (hb : Below B w w') (hB : B ≤ B') : ∀ (l : List S) (xs : List Value), DElems w B l xs → DElems w' B' l xs
  | [], xs, h => h
  | s :: l, xs, h => by
    simp only [DElems] at h ⊢
    obtain ⟨u, ys, h1, h2, h3⟩ := h
    exact ⟨u, ys, h1, DAt.keep hb hB s u h2, DElems.keep hb hB l ys h3⟩
end
theorem DAt.below {w w' : World} {B : Nat} {s : S} {u : Value} (h : DAt w B s u) (hb : Below B w w') : DAt w' B s u := DAt.keep hb (Nat.le_refl _) s u h
theorem DAt.more {w : World} {B B' : Nat} {s : S} {u : Value} (h : DAt w B s u) (hB : B ≤ B') : DAt w B' s u := DAt.keep (Below.refl _ _) hB s u h
theorem DElems.below {w w' : World} {B : Nat} {l : List S} {xs : List Value} (h : DElems w B l xs) (hb : Below B w w') : DElems w' B l xs := DElems.keep hb (Nat.le_refl _) l xs h
theorem DElems.more {w : World} {B B' : Nat} {l : List S} {xs : List Value} (h : DElems w B l xs) (hB : B ≤ B') : DElems w B' l xs := DElems.keep (Below.refl _ _) hB l xs h
mutual
/-- What is told in full is told in brief. -/
theorem DAt.brief {w : World} {B : Nat} : ∀ (s : S) (u : Value), DAt w B s u → SAt w B s u
  | .none, v, h => by simp only [DAt] at h; exact h
  | .bool _, v, h => by simp only [DAt] at h; exact h
  | .int _, v, h => by simp only [DAt] at h; exact h
  | .float _, v, h => by simp only [DAt] at h; exact h
  | .str _, v, h => by simp only [DAt] at h; exact h
  | .bytes _, v, h => by simp only [DAt] at h; exact h
  | .list l, v, h => by
    simp only [DAt] at h
    simp only [SAt]
    obtain ⟨g, A, c, xs, h1, h2, h3, _⟩ := h
    exact ⟨g, A, c, h1, h2, h3⟩
  | .tuple l, v, h => by
    simp only [DAt] at h
    simp only [SAt]
    obtain ⟨A, c, xs, h1, h2, h3, h4, h5⟩ := h
    exact ⟨A, c, xs, h1, h2, h3, h4, DElems.brief l xs h5⟩
  | .dict l, v, h => by
    simp only [DAt] at h
    simp only [SAt]
    obtain ⟨g, es, xs, h1, h2, h3, h4, h5, _⟩ := h
    exact ⟨g, h1, h2, (h4.cell 42).trans (by rw [show l.length / 2 = es.length by omega]; exact tab_len g es), h3⟩
  | .set l, v, h => by
    simp only [DAt] at h
    simp only [SAt]
    obtain ⟨g, es, xs, h1, h2, h3, h4, h5, _⟩ := h
    exact ⟨g, h1, h2, (h4.cell 42).trans (by rw [← h5]; exact tab_len g es), by omega⟩
theorem DElems.brief {w : World} {B : Nat} : ∀ (l : List S) (xs : List Value), DElems w B l xs → ElemsV w B l xs
  | [], xs, h => h
  | s :: l, xs, h => by
    simp only [DElems] at h
    simp only [ElemsV]
    obtain ⟨u, ys, h1, h2, h3⟩ := h
    exact ⟨u, ys, h1, DAt.brief s u h2, DElems.brief l ys h3⟩
end
theorem DElems.get {w : World} {B : Nat} : ∀ (l : List S) (xs : List Value) (k : Nat) (s : S), DElems w B l xs → l[k]? = some s → ∃ u, xs[k]? = some u ∧ DAt w B s u
  | a :: l, xs, 0, s, h, hs => by
    simp only [DElems] at h
    obtain ⟨u, ys, rfl, h2, _⟩ := h
    simp at hs
    subst hs
    exact ⟨u, rfl, h2⟩
  | a :: l, xs, k + 1, s, h, hs => by
    simp only [DElems] at h
    obtain ⟨u, ys, rfl, _, h3⟩ := h
    obtain ⟨v, h1, h2⟩ := DElems.get l ys k s h3 (by simpa using hs)
    exact ⟨v, by simpa using h1, h2⟩
  | [], xs, k, s, _, hs => by simp at hs
end Go.Proofs.YtkmeckimmfbkiaaGreatDoor
