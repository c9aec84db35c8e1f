/- Inserting into a small table; dicts and sets of at most eight keys. Conditions: as JTab. -/
import Derived.Test.YtkmeckimmfbkiaaGreatDoorJTab
import Derived.WalkMore
import Derived.Test.YtkmeckimmfbkiaaGreatDoorJVMem
namespace Go.Proofs.YtkmeckimmfbkiaaGreatDoor
open Go Go.RowKit
set_option maxRecDepth 10000 in
theorem checkMutable_any (g : Nat) (s : ByteArray) (w : World) (h1 : w.cell? ⟨g, 46, none⟩ = some (.bool false)) (h2 : w.cell? ⟨g, 43, none⟩ = some (.int .u32 0)) :
    Calls Tryz.prog 78 #[.pointer (some ⟨g, 0, none⟩), .string s] w fun e w' => e = .returned .nilIface ∧ w' = w := by
  go_enter Tryz.func78, Tryz.ntmps78
  go_wp2
  go_ret
  exact ⟨rfl, rfl⟩
set_option maxRecDepth 10000 in
theorem overloaded_any (n : Nat) (hn : n ≤ 7) (w : World) : Calls Tryz.prog 81 #[.int .i64 n, .int .i64 1] w fun e w' => e = .returned (.bool false) ∧ w' = w := by
  have h1 : ¬ (8 : Int) ≤ (n : Int) := by omega
  go_enter Tryz.func81, Tryz.ntmps81
  go_wp2
  go_ret
  exact ⟨rfl, rfl⟩
set_option maxRecDepth 10000 in
set_option maxHeartbeats 400000 in
theorem init_any (g T : Nat) (w : World) (hb : Blk w g T (tabC g [])) : Calls Tryz.prog 79 #[.pointer (some ⟨g, 0, none⟩), .int .i64 1] w fun e w' => e = .returned (.tuple #[]) ∧ Blk w' g T (tabI g) ∧ w.grownBy w' (some g) := by
  have HB := Lib.hid hb
  have z0 := hb.frozen 0
  have z45 := hb.frozen 45
  have k0 : w.cell? ⟨g, 0, none⟩ = some (.slice none 0 0) := (hb.cell 0).trans rfl
  have k45 : w.cell? ⟨g, 45, none⟩ = some (.pointer none) := (hb.cell 45).trans rfl
  clear hb
  go_enter Tryz.func79, Tryz.ntmps79
  go_wp2_with fail
  refine wp_loop_rounds 1 ?_
  rw [rounds_succ]
  go_wp2_with fail
  refine (overloaded_any 1 (by decide) w).mono ?_
  rintro e w1 ⟨rfl, rfl⟩
  go_wp2_with fail
  refine bodyPost_end (results_none rfl _ _ _) rfl ?_
  exact ⟨rfl, (HB.out.set_ 0 _).set_ 45 _, grown_set (grown_set (World.grownBy.refl _ _) _) _⟩
/-- What the n keys of a table are asked. -/
def hashAt (es : List (Nat × Value × Value)) (j : Nat) : Nat := match es[j]? with | some e => e.1 | none => 0
def keyAt (es : List (Nat × Value × Value)) (j : Nat) : Value := match es[j]? with | some e => e.2.1 | none => .nilIface
theorem slot_shape (g : Nat) (es : List (Nat × Value × Value)) (j : Nat) : ∃ c d e, slotC g es j = [.int .u32 (hashAt es j), keyAt es j, c, d, e] := by
  unfold slotC hashAt keyAt
  cases es[j]? with
  | none => exact ⟨_, _, _, rfl⟩
  | some e => exact ⟨_, _, _, rfl⟩
theorem tab_shape (g : Nat) (es : List (Nat × Value × Value)) (i : Nat) (hi : i < 8) : (tabC g es)[1 + i * 5]? = some (.int .u32 (hashAt es (7 - i))) ∧ (tabC g es)[1 + i * 5 + 1]? = some (keyAt es (7 - i)) := by
  obtain ⟨_, _, _, e7⟩ := slot_shape g es 7
  obtain ⟨_, _, _, e6⟩ := slot_shape g es 6
  obtain ⟨_, _, _, e5⟩ := slot_shape g es 5
  obtain ⟨_, _, _, e4⟩ := slot_shape g es 4
  obtain ⟨_, _, _, e3⟩ := slot_shape g es 3
  obtain ⟨_, _, _, e2⟩ := slot_shape g es 2
  obtain ⟨_, _, _, e1⟩ := slot_shape g es 1
  obtain ⟨_, _, _, e0⟩ := slot_shape g es 0
  unfold tabC
  rw [e7, e6, e5, e4, e3, e2, e1, e0]
  match i, hi with
  | 0, _ => exact ⟨rfl, rfl⟩
  | 1, _ => exact ⟨rfl, rfl⟩
  | 2, _ => exact ⟨rfl, rfl⟩
  | 3, _ => exact ⟨rfl, rfl⟩
  | 4, _ => exact ⟨rfl, rfl⟩
  | 5, _ => exact ⟨rfl, rfl⟩
  | 6, _ => exact ⟨rfl, rfl⟩
  | 7, _ => exact ⟨rfl, rfl⟩
theorem tab_hash (g : Nat) (es : List (Nat × Value × Value)) (i : Nat) (hi : i < 8) : (tabC g es)[1 + i * 5]? = some (.int .u32 (hashAt es (7 - i))) := (tab_shape g es i hi).1
theorem tab_key (g : Nat) (es : List (Nat × Value × Value)) (i : Nat) (hi : i < 8) : (tabC g es)[1 + i * 5 + 1]? = some (keyAt es (7 - i)) := (tab_shape g es i hi).2
theorem tab_tail (g : Nat) (es : List (Nat × Value × Value)) (j : Nat) (hj : j < 6) : (tabC g es)[41 + j]? = (tailC g es)[j]? := by
  obtain ⟨_, _, _, e7⟩ := slot_shape g es 7
  obtain ⟨_, _, _, e6⟩ := slot_shape g es 6
  obtain ⟨_, _, _, e5⟩ := slot_shape g es 5
  obtain ⟨_, _, _, e4⟩ := slot_shape g es 4
  obtain ⟨_, _, _, e3⟩ := slot_shape g es 3
  obtain ⟨_, _, _, e2⟩ := slot_shape g es 2
  obtain ⟨_, _, _, e1⟩ := slot_shape g es 1
  obtain ⟨_, _, _, e0⟩ := slot_shape g es 0
  unfold tabC
  rw [e7, e6, e5, e4, e3, e2, e1, e0]
  match j, hj with
  | 0, _ => rfl
  | 1, _ => rfl
  | 2, _ => rfl
  | 3, _ => rfl
  | 4, _ => rfl
  | 5, _ => rfl
theorem tab_five (g : Nat) (es : List (Nat × Value × Value)) (j k : Nat) (hj : j < 8) (hk : k < 5) : (tabC g es)[slotO j + k]? = (slotC g es j)[k]? := by
  obtain ⟨_, _, _, e7⟩ := slot_shape g es 7
  obtain ⟨_, _, _, e6⟩ := slot_shape g es 6
  obtain ⟨_, _, _, e5⟩ := slot_shape g es 5
  obtain ⟨_, _, _, e4⟩ := slot_shape g es 4
  obtain ⟨_, _, _, e3⟩ := slot_shape g es 3
  obtain ⟨_, _, _, e2⟩ := slot_shape g es 2
  obtain ⟨_, _, _, e1⟩ := slot_shape g es 1
  obtain ⟨_, _, _, e0⟩ := slot_shape g es 0
  unfold tabC
  match j, hj with
  | 0, _ =>
    rw [e7, e6, e5, e4, e3, e2, e1, e0]
    match k, hk with
    | 0, _ => rfl
    | 1, _ => rfl
    | 2, _ => rfl
    | 3, _ => rfl
    | 4, _ => rfl
  | 1, _ =>
    rw [e7, e6, e5, e4, e3, e2, e1, e0]
    match k, hk with
    | 0, _ => rfl
    | 1, _ => rfl
    | 2, _ => rfl
    | 3, _ => rfl
    | 4, _ => rfl
  | 2, _ =>
    rw [e7, e6, e5, e4, e3, e2, e1, e0]
    match k, hk with
    | 0, _ => rfl
    | 1, _ => rfl
    | 2, _ => rfl
    | 3, _ => rfl
    | 4, _ => rfl
  | 3, _ =>
    rw [e7, e6, e5, e4, e3, e2, e1, e0]
    match k, hk with
    | 0, _ => rfl
    | 1, _ => rfl
    | 2, _ => rfl
    | 3, _ => rfl
    | 4, _ => rfl
  | 4, _ =>
    rw [e7, e6, e5, e4, e3, e2, e1, e0]
    match k, hk with
    | 0, _ => rfl
    | 1, _ => rfl
    | 2, _ => rfl
    | 3, _ => rfl
    | 4, _ => rfl
  | 5, _ =>
    rw [e7, e6, e5, e4, e3, e2, e1, e0]
    match k, hk with
    | 0, _ => rfl
    | 1, _ => rfl
    | 2, _ => rfl
    | 3, _ => rfl
    | 4, _ => rfl
  | 6, _ =>
    rw [e7, e6, e5, e4, e3, e2, e1, e0]
    match k, hk with
    | 0, _ => rfl
    | 1, _ => rfl
    | 2, _ => rfl
    | 3, _ => rfl
    | 4, _ => rfl
  | 7, _ =>
    rw [e7, e6, e5, e4, e3, e2, e1, e0]
    match k, hk with
    | 0, _ => rfl
    | 1, _ => rfl
    | 2, _ => rfl
    | 3, _ => rfl
    | 4, _ => rfl
theorem slot_empty (g : Nat) (es : List (Nat × Value × Value)) : slotC g es es.length = emptyC := by
  unfold slotC
  rw [List.getElem?_eq_none (Nat.le_refl _)]
theorem slot_last (g : Nat) (es : List (Nat × Value × Value)) (h0 : 0 < es.length) : (slotC g es (es.length - 1))[3]? = some (.pointer none) := by
  unfold slotC
  rw [List.getElem?_eq_getElem (show es.length - 1 < es.length by omega)]
  simp only [entryC, List.getElem?_cons_succ, List.getElem?_cons_zero]
  rw [if_neg (by omega)]
theorem and0 (h : Nat) (_hh : h < 4294967296) : bits .and .u32 (h : Int) 0 = 0 := by
  have e : bits .and .u32 (h : Int) 0 = IntKind.u32.wrap ((BitVec.ofInt 32 (h : Int) &&& BitVec.ofInt 32 0).toNat : Int) := rfl
  rw [e, show BitVec.ofInt 32 0 = 0#32 from rfl, BitVec.and_zero]
  rfl
/-- What 'insert' holds after i slots of the bucket. -/
def insP (g n i : Nat) : Value := if i = 0 then .pointer none else .pointer (some ⟨g, 1 + min (i - 1) (7 - n) * 5, none⟩)
set_option maxRecDepth 10000 in
set_option maxHeartbeats 2000000 in
theorem insert_more (g T : Nat) (es : List (Nat × Value × Value)) (k v : Value) (w : World) (hb : Blk w g T (tabC g es)) (h0 : 0 < es.length) (hn : es.length ≤ 7) (hm : ∀ W, Below w.heap.size w W → HashM W k) (hv : ∃ t u, v = .iface t u)
    (he : ∀ (j : Nat) (e : Nat × Value × Value), es[j]? = some e → 1 ≤ e.1 ∧ e.1 < 4294967296 ∧ ∀ W, Below w.heap.size w W → Calls Tryz.prog 80 #[k, e.2.1] W (Eqd W false)) :
    Calls Tryz.prog 67 #[.pointer (some ⟨g, 0, none⟩), k, v] w fun e w' => e = .returned .nilIface ∧ ∃ h : Nat, 1 ≤ h ∧ h < 4294967296 ∧ Blk w' g T (tabC g (es ++ [(h, k, v)])) ∧ w.grownBy w' (some g) := by
  obtain ⟨n, hne⟩ : ∃ n, n = es.length := ⟨_, rfl⟩
  obtain ⟨tv, uv, rfl⟩ := hv
  have hd : headC g es = .slice (some ⟨g, 1, none⟩) 1 1 := by unfold headC; rw [if_neg (by omega)]
  have c0 : w.cell? ⟨g, 0, none⟩ = some (.slice (some ⟨g, 1, none⟩) 1 1) := (hb.cell 0).trans (by rw [← hd]; rfl)
  have c43 : w.cell? ⟨g, 43, none⟩ = some (.int .u32 0) := (hb.cell 43).trans (tab_tail g es 2 (by decide))
  have c46 : w.cell? ⟨g, 46, none⟩ = some (.bool false) := (hb.cell 46).trans (tab_tail g es 5 (by decide))
  obtain ⟨f, r, ⟨t, u, rfl, m1, q1⟩, C⟩ := hm w (Below.refl _ _)
  have HB := Lib.hid hb
  have HC := Lib.hid C
  have HE := Lib.hid he
  have hq : ∀ w, (binOp .eql 103 (.slice (some ⟨g, 1, none⟩) 1 1) (.slice none 0 0)).run Tryz.prog w = .ok (.bool false) w := fun w => by kernel_rfl
  clear hm he hb C hd
  go_enter Tryz.func67, Tryz.ntmps67
  go_wp2_with fail
  go_step3
  go_wp2_with fail
  refine (checkMutable_any g _ w c46 c43).mono ?_
  rintro e w1 ⟨rfl, rfl⟩
  go_wp2_with fail
  refine HC.out.mono ?_
  rintro e w2 ⟨⟨h, hh, rfl⟩, hB⟩
  have hlt := HB.out.lt
  have b2 := HB.out.below hB hlt
  have c0 : w2.cell? ⟨g, 0, none⟩ = some (.slice (some ⟨g, 1, none⟩) 1 1) := (hB.cell (p := ⟨g, 0, none⟩) hlt).trans c0
  have HB2 := Lib.hid (And.intro hB b2)
  clear hB b2 c43 c46 HB HC
  rcases Nat.eq_zero_or_pos h with hz | hz
  · subst hz
    have hb0 : bits .and .u32 (1 : Int) 0 = 0 := by kernel_rfl
    go_wp2_with fail
    go_step3
    go_wp2_with fail
    go_quiet (fail)
    go_wp2_with fail
    refine wp_loop_rounds 1 ?_
    rw [rounds_succ]
    go_wp2_with fail
    go_loopw [53, 10] (fun vi vp wr => ∃ i : Nat, vi = .int .i64 i ∧ vp = insP g n i ∧ i ≤ 8 ∧ Below w1.heap.size w1 wr ∧ Blk wr g T (tabC g es)) (fun vi _ _ => 8 - (intOf vi).toNat)
    case atStart => exact ⟨0, rfl, rfl, by omega, HB2.out.1.drewN_ _, HB2.out.2.drewN _⟩
    case round =>
      obtain ⟨i, rfl, rfl, hi, hB, hb⟩ := hrel
      rcases Nat.lt_or_ge i 8 with hlt8 | hge
      · have hki : (i : Int) < 8 := by omega
        have k1 := (hb.cell (1 + i * 5)).trans (tab_hash g es i hlt8)
        have k2 := (hb.cell (1 + i * 5 + 1)).trans (tab_key g es i hlt8)
        have w1 : IntKind.i64.wrap ((i : Int) + 1) = (i : Int) + 1 := by rw [IntKind.wrap_i64]; omega
        have HB3 := Lib.hid (And.intro hB hb)
        clear hB hb
        rcases hes : es[7 - i]? with _ | en
        · have eP : Hid (insP g n (i + 1) = .pointer (some ⟨g, 1 + i * 5, none⟩)) := by
            have := List.getElem?_eq_none_iff.1 hes
            refine Lib.hid ?_
            unfold insP
            rw [if_neg (by omega), Nat.min_eq_left (by omega), Nat.add_sub_cancel]
          unfold hashAt at k1
          rw [hes] at k1
          simp only at k1
          clear hes k2
          generalize insP g n i = P
          go_wp2
          exact ⟨⟨i + 1, rfl, eP.out.symm, by omega, HB3.out⟩, by simp only [intOf]; omega⟩
        · have eP : Hid (insP g n (i + 1) = insP g n i) := by
            obtain ⟨hj, _⟩ := List.getElem?_eq_some_iff.1 hes
            refine Lib.hid ?_
            unfold insP
            rw [if_neg (by omega), if_neg (by omega), Nat.min_eq_right (by omega), Nat.min_eq_right (by omega)]
          obtain ⟨e1, e2, e3⟩ := HE.out _ _ hes
          unfold hashAt at k1
          unfold keyAt at k2
          rw [hes] at k1 k2
          simp only at k1 k2
          have HEq := Lib.hid (e3 wr HB3.out.1)
          clear hes e3
          have hz : ((en.1 : Int) == 0) = false := by rw [beq_eq_false_iff_ne]; omega
          generalize insP g n i = P at *
          by_cases hh1 : en.1 = 1
          · have hq1 : ((en.1 : Int) != 1) = false := by rw [bne_eq_false_iff_eq]; omega
            rw [hh1] at k1
            clear hh1 hz hq1 e1 e2
            go_wp2_with fail
            refine HEq.out.mono ?_
            rintro e w3 ⟨rfl, hB3⟩
            have HB4 := Lib.hid (And.intro (HB3.out.1.trans (hB3.mono HB3.out.1.size)) (HB3.out.2.below hB3 HB3.out.2.lt))
            clear hB3 HB3 HEq k1 k2
            go_wp2
            exact ⟨⟨i + 1, rfl, eP.out.symm, by omega, HB4.out⟩, by simp only [intOf]; omega⟩
          · have hq1 : ((en.1 : Int) != 1) = true := by rw [bne_iff_ne]; omega
            clear hh1 e1 e2 HEq k2
            go_wp2
            exact ⟨⟨i + 1, rfl, eP.out.symm, by omega, HB3.out⟩, by simp only [intOf]; omega⟩
      · have hki : ¬ (i : Int) < 8 := by omega
        have hi8 : i = 8 := by omega
        subst hi8
        have eP : insP g n 8 = .pointer (some ⟨g, slotO n, none⟩) := by
          unfold insP slotO
          rw [if_neg (by omega), Nat.min_eq_right (by omega), Nat.mul_comm]
        rw [eP]
        obtain ⟨o, ho⟩ : ∃ o, o = slotO n := ⟨_, rfl⟩
        obtain ⟨q, hqq⟩ : ∃ q, q = slotO (n - 1) + 3 := ⟨_, rfl⟩
        have ho1 : o ≤ 31 ∧ 1 ≤ o ∧ q = o + 8 := by unfold slotO at ho hqq; omega
        have c41 : wr.cell? ⟨g, 41, none⟩ = some (.pointer none) := (hb.cell 41).trans (tab_tail g es 0 (by decide))
        have c42 : wr.cell? ⟨g, 42, none⟩ = some (.int .u32 n) := (hb.cell 42).trans ((tab_tail g es 1 (by decide)).trans (by rw [hne]; rfl))
        have c45 : wr.cell? ⟨g, 45, none⟩ = some (.pointer (some ⟨g, q, none⟩)) := (hb.cell 45).trans ((tab_tail g es 4 (by decide)).trans (by simp only [tailC, List.getElem?_cons_succ, List.getElem?_cons_zero]; rw [if_neg (by omega), ← hne, hqq]))
        have d0 : wr.cell? ⟨g, o, none⟩ = some (.int .u32 0) := (hb.cell o).trans (by rw [ho, hne, show slotO es.length = slotO es.length + 0 from rfl, tab_five g es es.length 0 (by omega) (by decide), slot_empty]; rfl)
        have d1 : wr.cell? ⟨g, o + 1, none⟩ = some .nilIface := (hb.cell (o + 1)).trans (by rw [ho, hne, show slotO es.length + 1 = slotO es.length + 1 from rfl, tab_five g es es.length 1 (by omega) (by decide), slot_empty]; rfl)
        have d2 : wr.cell? ⟨g, o + 2, none⟩ = some .nilIface := (hb.cell (o + 2)).trans (by rw [ho, hne, show slotO es.length + 2 = slotO es.length + 2 from rfl, tab_five g es es.length 2 (by omega) (by decide), slot_empty]; rfl)
        have d4 : wr.cell? ⟨g, o + 4, none⟩ = some (.pointer none) := (hb.cell (o + 4)).trans (by rw [ho, hne, show slotO es.length + 4 = slotO es.length + 4 from rfl, tab_five g es es.length 4 (by omega) (by decide), slot_empty]; rfl)
        have d8 : wr.cell? ⟨g, q, none⟩ = some (.pointer none) := (hb.cell q).trans (by rw [hqq, hne, tab_five g es (es.length - 1) 3 (by omega) (by decide), slot_last g es h0])
        have f0 := hb.frozen o
        have f1 := hb.frozen (o + 1)
        have f2 := hb.frozen (o + 2)
        have f4 := hb.frozen (o + 4)
        have f8 := hb.frozen q
        have f42 := hb.frozen 42
        have f45 := hb.frozen 45
        have c0' : wr.cell? ⟨g, 0, none⟩ = some (.slice (some ⟨g, 1, none⟩) 1 1) := (hB.cell (p := ⟨g, 0, none⟩) hlt).trans (by assumption)
        rw [← ho]
        have HO := Lib.hid (And.intro ho (And.intro hqq ho1))
        have HB3 := Lib.hid (And.intro hB hb)
        have HN := Lib.hid (And.intro hne (And.intro h0 hn))
        have HOv := Lib.hid fun W => overloaded_any n (by omega) W
        have hwn : IntKind.i64.wrap (n : Int) = (n : Int) := by rw [IntKind.wrap_i64]; omega
        obtain ⟨ho1, ho2, ho3⟩ := ho1
        have n0 : ¬ 45 = o := by omega
        have r0 : ¬ o = 45 := by omega
        have n1 : ¬ 45 = o + 1 := by omega
        have r1 : ¬ o + 1 = 45 := by omega
        have n2 : ¬ 45 = o + 2 := by omega
        have r2 : ¬ o + 2 = 45 := by omega
        have n3 : ¬ 45 = o + 4 := by omega
        have r3 : ¬ o + 4 = 45 := by omega
        have n4 : ¬ 45 = q := by omega
        have r4 : ¬ q = 45 := by omega
        have n5 : ¬ 42 = o := by omega
        have r5 : ¬ o = 42 := by omega
        have n6 : ¬ 42 = o + 1 := by omega
        have r6 : ¬ o + 1 = 42 := by omega
        have n7 : ¬ 42 = o + 2 := by omega
        have r7 : ¬ o + 2 = 42 := by omega
        have n8 : ¬ 42 = o + 4 := by omega
        have r8 : ¬ o + 4 = 42 := by omega
        have n9 : ¬ 42 = q := by omega
        have r9 : ¬ q = 42 := by omega
        have n10 : ¬ q = o := by omega
        have r10 : ¬ o = q := by omega
        have n11 : ¬ q = o + 1 := by omega
        have r11 : ¬ o + 1 = q := by omega
        have n12 : ¬ q = o + 2 := by omega
        have r12 : ¬ o + 2 = q := by omega
        have n13 : ¬ q = o + 4 := by omega
        have r13 : ¬ o + 4 = q := by omega
        clear hB hb ho hqq ho1 ho2 ho3 eP HE HB2 c0 hne h0 hn
        go_wp2_with fail
        go_quiet ((go_at_call 81; with_reducible exact Calls.quiet_of_same (HOv.out _)))
        go_wp2_with fail
        have hw8 : ((n : Int) + 1) % 4294967296 = (n : Int) + 1 := by have h1 := HN.out.1; have h2 := HN.out.2.2; omega
        rw [hw8]
        rw [Exit.noGoto_ret]
        go_ret
        refine ⟨rfl, 1, by decide, by decide, ?_, ?_⟩
        · have e := tab_step g es 1 (.iface t u) (.iface tv uv) HN.out.2.1 HN.out.2.2
          rw [← HN.out.1, ← HO.out.1, ← HO.out.2.1] at e
          rw [← e]
          exact (((((((HB3.out.2.drewN nq).set_ o _).set_ (o + 1) _).set_ (o + 2) _).set_ (o + 4) _).set_ q _).set_ 45 _).set_ 42 _
        · have hg : w1.grownBy (wr.drewN nq) (some g) := ⟨HB3.out.1.os, HB3.out.1.tape, HB3.out.1.output, HB3.out.1.size, fun k hk _ => HB3.out.1.block k hk⟩
          exact grown_set (grown_set (grown_set (grown_set (grown_set (grown_set (grown_set hg _) _) _) _) _) _) _
  · have hz1 : ((h : Int) == 0) = false := by rw [beq_eq_false_iff_ne]; omega
    have hz2 : ((0 : Int) != (h : Int)) = true := by rw [bne_iff_ne]; omega
    have hb0 : bits .and .u32 (h : Int) 0 = 0 := and0 h hh
    have HH := Lib.hid (And.intro hz hh)
    clear hz
    go_wp2_with fail
    go_step3
    go_wp2_with fail
    go_quiet (fail)
    go_wp2_with fail
    refine wp_loop_rounds 1 ?_
    rw [rounds_succ]
    go_wp2_with fail
    go_loopw [53, 10] (fun vi vp wr => ∃ i : Nat, vi = .int .i64 i ∧ vp = insP g n i ∧ i ≤ 8 ∧ Below w1.heap.size w1 wr ∧ Blk wr g T (tabC g es)) (fun vi _ _ => 8 - (intOf vi).toNat)
    case atStart => exact ⟨0, rfl, rfl, by omega, HB2.out.1.drewN_ _, HB2.out.2.drewN _⟩
    case round =>
      obtain ⟨i, rfl, rfl, hi, hB, hb⟩ := hrel
      rcases Nat.lt_or_ge i 8 with hlt8 | hge
      · have hki : (i : Int) < 8 := by omega
        have k1 := (hb.cell (1 + i * 5)).trans (tab_hash g es i hlt8)
        have k2 := (hb.cell (1 + i * 5 + 1)).trans (tab_key g es i hlt8)
        have w1 : IntKind.i64.wrap ((i : Int) + 1) = (i : Int) + 1 := by rw [IntKind.wrap_i64]; omega
        have HB3 := Lib.hid (And.intro hB hb)
        clear hB hb
        rcases hes : es[7 - i]? with _ | en
        · have eP : Hid (insP g n (i + 1) = .pointer (some ⟨g, 1 + i * 5, none⟩)) := by
            have := List.getElem?_eq_none_iff.1 hes
            refine Lib.hid ?_
            unfold insP
            rw [if_neg (by omega), Nat.min_eq_left (by omega), Nat.add_sub_cancel]
          unfold hashAt at k1
          rw [hes] at k1
          simp only at k1
          clear hes k2
          generalize insP g n i = P
          go_wp2
          exact ⟨⟨i + 1, rfl, eP.out.symm, by omega, HB3.out⟩, by simp only [intOf]; omega⟩
        · have eP : Hid (insP g n (i + 1) = insP g n i) := by
            obtain ⟨hj, _⟩ := List.getElem?_eq_some_iff.1 hes
            refine Lib.hid ?_
            unfold insP
            rw [if_neg (by omega), if_neg (by omega), Nat.min_eq_right (by omega), Nat.min_eq_right (by omega)]
          obtain ⟨e1, e2, e3⟩ := HE.out _ _ hes
          unfold hashAt at k1
          unfold keyAt at k2
          rw [hes] at k1 k2
          simp only at k1 k2
          have HEq := Lib.hid (e3 wr HB3.out.1)
          clear hes e3
          have hzE : ((en.1 : Int) == 0) = false := by rw [beq_eq_false_iff_ne]; omega
          generalize insP g n i = P at *
          by_cases hh1 : en.1 = h
          · have hq1 : ((en.1 : Int) != (h : Int)) = false := by rw [bne_eq_false_iff_eq]; omega
            rw [hh1] at k1
            clear hh1 hzE hq1 e1 e2
            go_wp2_with fail
            refine HEq.out.mono ?_
            rintro e w3 ⟨rfl, hB3⟩
            have HB4 := Lib.hid (And.intro (HB3.out.1.trans (hB3.mono HB3.out.1.size)) (HB3.out.2.below hB3 HB3.out.2.lt))
            clear hB3 HB3 HEq k1 k2
            go_wp2
            exact ⟨⟨i + 1, rfl, eP.out.symm, by omega, HB4.out⟩, by simp only [intOf]; omega⟩
          · have hq1 : ((en.1 : Int) != (h : Int)) = true := by rw [bne_iff_ne]; omega
            clear hh1 e1 e2 HEq k2
            go_wp2
            exact ⟨⟨i + 1, rfl, eP.out.symm, by omega, HB3.out⟩, by simp only [intOf]; omega⟩
      · have hki : ¬ (i : Int) < 8 := by omega
        have hi8 : i = 8 := by omega
        subst hi8
        have eP : insP g n 8 = .pointer (some ⟨g, slotO n, none⟩) := by
          unfold insP slotO
          rw [if_neg (by omega), Nat.min_eq_right (by omega), Nat.mul_comm]
        rw [eP]
        obtain ⟨o, ho⟩ : ∃ o, o = slotO n := ⟨_, rfl⟩
        obtain ⟨q, hqq⟩ : ∃ q, q = slotO (n - 1) + 3 := ⟨_, rfl⟩
        have ho1 : o ≤ 31 ∧ 1 ≤ o ∧ q = o + 8 := by unfold slotO at ho hqq; omega
        have c41 : wr.cell? ⟨g, 41, none⟩ = some (.pointer none) := (hb.cell 41).trans (tab_tail g es 0 (by decide))
        have c42 : wr.cell? ⟨g, 42, none⟩ = some (.int .u32 n) := (hb.cell 42).trans ((tab_tail g es 1 (by decide)).trans (by rw [hne]; rfl))
        have c45 : wr.cell? ⟨g, 45, none⟩ = some (.pointer (some ⟨g, q, none⟩)) := (hb.cell 45).trans ((tab_tail g es 4 (by decide)).trans (by simp only [tailC, List.getElem?_cons_succ, List.getElem?_cons_zero]; rw [if_neg (by omega), ← hne, hqq]))
        have d0 : wr.cell? ⟨g, o, none⟩ = some (.int .u32 0) := (hb.cell o).trans (by rw [ho, hne, show slotO es.length = slotO es.length + 0 from rfl, tab_five g es es.length 0 (by omega) (by decide), slot_empty]; rfl)
        have d1 : wr.cell? ⟨g, o + 1, none⟩ = some .nilIface := (hb.cell (o + 1)).trans (by rw [ho, hne, show slotO es.length + 1 = slotO es.length + 1 from rfl, tab_five g es es.length 1 (by omega) (by decide), slot_empty]; rfl)
        have d2 : wr.cell? ⟨g, o + 2, none⟩ = some .nilIface := (hb.cell (o + 2)).trans (by rw [ho, hne, show slotO es.length + 2 = slotO es.length + 2 from rfl, tab_five g es es.length 2 (by omega) (by decide), slot_empty]; rfl)
        have d4 : wr.cell? ⟨g, o + 4, none⟩ = some (.pointer none) := (hb.cell (o + 4)).trans (by rw [ho, hne, show slotO es.length + 4 = slotO es.length + 4 from rfl, tab_five g es es.length 4 (by omega) (by decide), slot_empty]; rfl)
        have d8 : wr.cell? ⟨g, q, none⟩ = some (.pointer none) := (hb.cell q).trans (by rw [hqq, hne, tab_five g es (es.length - 1) 3 (by omega) (by decide), slot_last g es h0])
        have f0 := hb.frozen o
        have f1 := hb.frozen (o + 1)
        have f2 := hb.frozen (o + 2)
        have f4 := hb.frozen (o + 4)
        have f8 := hb.frozen q
        have f42 := hb.frozen 42
        have f45 := hb.frozen 45
        have c0' : wr.cell? ⟨g, 0, none⟩ = some (.slice (some ⟨g, 1, none⟩) 1 1) := (hB.cell (p := ⟨g, 0, none⟩) hlt).trans (by assumption)
        rw [← ho]
        have HO := Lib.hid (And.intro ho (And.intro hqq ho1))
        have HB3 := Lib.hid (And.intro hB hb)
        have HN := Lib.hid (And.intro hne (And.intro h0 hn))
        have HOv := Lib.hid fun W => overloaded_any n (by omega) W
        have hwn : IntKind.i64.wrap (n : Int) = (n : Int) := by rw [IntKind.wrap_i64]; omega
        obtain ⟨ho1, ho2, ho3⟩ := ho1
        have n0 : ¬ 45 = o := by omega
        have r0 : ¬ o = 45 := by omega
        have n1 : ¬ 45 = o + 1 := by omega
        have r1 : ¬ o + 1 = 45 := by omega
        have n2 : ¬ 45 = o + 2 := by omega
        have r2 : ¬ o + 2 = 45 := by omega
        have n3 : ¬ 45 = o + 4 := by omega
        have r3 : ¬ o + 4 = 45 := by omega
        have n4 : ¬ 45 = q := by omega
        have r4 : ¬ q = 45 := by omega
        have n5 : ¬ 42 = o := by omega
        have r5 : ¬ o = 42 := by omega
        have n6 : ¬ 42 = o + 1 := by omega
        have r6 : ¬ o + 1 = 42 := by omega
        have n7 : ¬ 42 = o + 2 := by omega
        have r7 : ¬ o + 2 = 42 := by omega
        have n8 : ¬ 42 = o + 4 := by omega
        have r8 : ¬ o + 4 = 42 := by omega
        have n9 : ¬ 42 = q := by omega
        have r9 : ¬ q = 42 := by omega
        have n10 : ¬ q = o := by omega
        have r10 : ¬ o = q := by omega
        have n11 : ¬ q = o + 1 := by omega
        have r11 : ¬ o + 1 = q := by omega
        have n12 : ¬ q = o + 2 := by omega
        have r12 : ¬ o + 2 = q := by omega
        have n13 : ¬ q = o + 4 := by omega
        have r13 : ¬ o + 4 = q := by omega
        clear hB hb ho hqq ho1 ho2 ho3 eP HE HB2 c0 hne h0 hn
        go_wp2_with fail
        go_quiet ((go_at_call 81; with_reducible exact Calls.quiet_of_same (HOv.out _)))
        go_wp2_with fail
        have hw8 : ((n : Int) + 1) % 4294967296 = (n : Int) + 1 := by have h1 := HN.out.1; have h2 := HN.out.2.2; omega
        rw [hw8]
        rw [Exit.noGoto_ret]
        go_ret
        refine ⟨rfl, h, HH.out.1, HH.out.2, ?_, ?_⟩
        · have e := tab_step g es h (.iface t u) (.iface tv uv) HN.out.2.1 HN.out.2.2
          rw [← HN.out.1, ← HO.out.1, ← HO.out.2.1] at e
          rw [← e]
          exact (((((((HB3.out.2.drewN nq).set_ o _).set_ (o + 1) _).set_ (o + 2) _).set_ (o + 4) _).set_ q _).set_ 45 _).set_ 42 _
        · have hg : w1.grownBy (wr.drewN nq) (some g) := ⟨HB3.out.1.os, HB3.out.1.tape, HB3.out.1.output, HB3.out.1.size, fun k hk _ => HB3.out.1.block k hk⟩
          exact grown_set (grown_set (grown_set (grown_set (grown_set (grown_set (grown_set hg _) _) _) _) _) _) _
end Go.Proofs.YtkmeckimmfbkiaaGreatDoor
namespace Go.Proofs.YtkmeckimmfbkiaaGreatDoor
open Go Go.RowKit
theorem tabI_hash (g i : Nat) (hi : i < 8) : (tabI g)[1 + i * 5]? = some (.int .u32 0) := by
  match i, hi with
  | 0, _ => rfl
  | 1, _ => rfl
  | 2, _ => rfl
  | 3, _ => rfl
  | 4, _ => rfl
  | 5, _ => rfl
  | 6, _ => rfl
  | 7, _ => rfl
/-- What 'insert' holds after i slots of an empty bucket. -/
def insE (g i : Nat) : Value := if i = 0 then .pointer none else .pointer (some ⟨g, 1 + (i - 1) * 5, none⟩)
set_option maxRecDepth 10000 in
set_option maxHeartbeats 2000000 in
theorem insert_first (g T B : Nat) (k v : Value) (w : World) (hb : Blk w g T (tabC g [])) (hBg : B ≤ g) (hm : ∀ W, Below B w W → HashM W k) (hv : ∃ t u, v = .iface t u) :
    Calls Tryz.prog 67 #[.pointer (some ⟨g, 0, none⟩), k, v] w fun e w' => e = .returned .nilIface ∧ ∃ h : Nat, 1 ≤ h ∧ h < 4294967296 ∧ Blk w' g T (tabC g [(h, k, v)]) ∧ w.grownBy w' (some g) := by
  obtain ⟨tv, uv, rfl⟩ := hv
  have c0 : w.cell? ⟨g, 0, none⟩ = some (.slice none 0 0) := (hb.cell 0).trans rfl
  have c43 : w.cell? ⟨g, 43, none⟩ = some (.int .u32 0) := (hb.cell 43).trans rfl
  have c46 : w.cell? ⟨g, 46, none⟩ = some (.bool false) := (hb.cell 46).trans rfl
  have hgl := hb.lt
  have HB := Lib.hid hb
  have HM := Lib.hid hm
  have hk : ∃ t u, k = .iface t u := by obtain ⟨f, r, ⟨t, u, rfl, _⟩, _⟩ := hm w (Below.refl _ _); exact ⟨t, u, rfl⟩
  obtain ⟨t, u, rfl⟩ := hk
  have hq : ∀ w, (binOp .eql 103 (.slice none 0 0) (.slice none 0 0)).run Tryz.prog w = .ok (.bool true) w := fun w => by kernel_rfl
  clear hm hb
  go_enter Tryz.func67, Tryz.ntmps67
  go_wp2_with fail
  go_step3
  go_wp2_with fail
  refine (checkMutable_any g _ w c46 c43).mono ?_
  rintro e w1 ⟨rfl, rfl⟩
  go_wp2_with fail
  refine (init_any g T w1 HB.out).mono ?_
  rintro e w2 ⟨rfl, hbI, hgI⟩
  have hBI : Below B w1 w2 := (Below.refl _ _).grown hgI (by omega) (fun k e => by cases e; exact hBg)
  obtain ⟨f, r, ⟨t', u', he, m1, q1⟩, C⟩ := HM.out w2 hBI
  cases he
  have HC := Lib.hid C
  have hlt2 := hbI.lt
  have HBI := Lib.hid (And.intro hbI hgI)
  clear C hbI hgI hBI HM HB c0 c43 c46
  go_wp2_with fail
  refine HC.out.mono ?_
  rintro e w3 ⟨⟨h, hh, rfl⟩, hB3⟩
  have b3 := HBI.out.1.below hB3 hlt2
  have c0 : w3.cell? ⟨g, 0, none⟩ = some (.slice (some ⟨g, 1, none⟩) 1 1) := (b3.cell 0).trans rfl
  have hg3 : w1.grownBy w3 (some g) := HBI.out.2.trans ⟨hB3.os, hB3.tape, hB3.output, hB3.size, fun k hk _ => hB3.block k hk⟩
  have HB2 := Lib.hid (And.intro hg3 b3)
  clear hB3 b3 hg3 HBI HC
  rcases Nat.eq_zero_or_pos h with hz | hz
  · subst hz
    have hz2 : ((0 : Int) != (1 : Int)) = true := by decide
    have hb0 : bits .and .u32 (1 : Int) 0 = 0 := by kernel_rfl
    go_wp2_with fail
    go_step3
    go_wp2_with fail
    go_quiet (fail)
    go_wp2_with fail
    refine wp_loop_rounds 1 ?_
    rw [rounds_succ]
    go_wp2_with fail
    go_loopw [53, 10] (fun vi vp wr => ∃ i : Nat, vi = .int .i64 i ∧ vp = insE g i ∧ i ≤ 8 ∧ w1.grownBy wr (some g) ∧ Blk wr g T (tabI g)) (fun vi _ _ => 8 - (intOf vi).toNat)
    case atStart => exact ⟨0, rfl, rfl, by omega, HB2.out.1.trans ⟨rfl, rfl, rfl, Nat.le_refl _, fun _ _ _ => rfl⟩, HB2.out.2.drewN _⟩
    case round =>
      obtain ⟨i, rfl, rfl, hi, hG, hb⟩ := hrel
      have HB3 := Lib.hid (And.intro hG hb)
      rcases Nat.lt_or_ge i 8 with hlt8 | hge
      · have hki : (i : Int) < 8 := by omega
        have k1 : wr.cell? ⟨g, 1 + i * 5, none⟩ = some (.int .u32 0) := (hb.cell (1 + i * 5)).trans (tabI_hash g i hlt8)
        have wi : IntKind.i64.wrap ((i : Int) + 1) = (i : Int) + 1 := by rw [IntKind.wrap_i64]; omega
        have eP : Hid (insE g (i + 1) = .pointer (some ⟨g, 1 + i * 5, none⟩)) := by
          refine Lib.hid ?_
          unfold insE
          rw [if_neg (by omega), Nat.add_sub_cancel]
        generalize insE g i = P
        clear hG hb
        go_wp2
        exact ⟨⟨i + 1, rfl, eP.out.symm, by omega, HB3.out⟩, by simp only [intOf]; omega⟩
      · have hki : ¬ (i : Int) < 8 := by omega
        have hi8 : i = 8 := by omega
        subst hi8
        have eP : insE g 8 = .pointer (some ⟨g, 36, none⟩) := rfl
        rw [eP]
        clear eP
        have c00 : wr.cell? ⟨g, 0, none⟩ = some (.slice (some ⟨g, 1, none⟩) 1 1) := (hb.cell 0).trans rfl
        have c41 : wr.cell? ⟨g, 41, none⟩ = some (.pointer none) := (hb.cell 41).trans rfl
        have c42 : wr.cell? ⟨g, 42, none⟩ = some (.int .u32 0) := (hb.cell 42).trans rfl
        have c45 : wr.cell? ⟨g, 45, none⟩ = some (.pointer (some ⟨g, 44, none⟩)) := (hb.cell 45).trans rfl
        have c44 : wr.cell? ⟨g, 44, none⟩ = some (.pointer none) := (hb.cell 44).trans rfl
        have d0 : wr.cell? ⟨g, 36, none⟩ = some (.int .u32 0) := (hb.cell 36).trans rfl
        have d1 : wr.cell? ⟨g, 37, none⟩ = some .nilIface := (hb.cell 37).trans rfl
        have d2 : wr.cell? ⟨g, 38, none⟩ = some .nilIface := (hb.cell 38).trans rfl
        have d4 : wr.cell? ⟨g, 40, none⟩ = some (.pointer none) := (hb.cell 40).trans rfl
        have f0 := hb.frozen 36
        have f1 := hb.frozen 37
        have f2 := hb.frozen 38
        have f4 := hb.frozen 40
        have f44 := hb.frozen 44
        have f42 := hb.frozen 42
        have f45 := hb.frozen 45
        have HOv : Hid (∀ W, Calls Tryz.prog 81 #[.int .i64 0, .int .i64 1] W fun e w' => e = .returned (.bool false) ∧ w' = W) := Lib.hid fun W => overloaded_any 0 (by omega) W
        have hw0 : IntKind.i64.wrap 0 = 0 := by decide
        clear hb hG
        go_wp2_with fail
        go_quiet ((go_at_call 81; with_reducible exact Calls.quiet_of_same (HOv.out _)))
        go_wp2_with fail
        rw [Exit.noGoto_ret]
        go_ret
        refine ⟨rfl, 1, by decide, by decide, ?_, ?_⟩
        · rw [← tab_first g 1 (.iface t u) (.iface tv uv)]
          exact (((((((HB3.out.2.drewN _).set_ 36 _).set_ 37 _).set_ 38 _).set_ 40 _).set_ 44 _).set_ 45 _).set_ 42 _
        · have hg := HB3.out.1
          exact grown_set (grown_set (grown_set (grown_set (grown_set (grown_set (grown_set (by exact ⟨hg.os, hg.tape, hg.output, hg.size, hg.block⟩) _) _) _) _) _) _) _
  · have hz1 : ((h : Int) == 0) = false := by rw [beq_eq_false_iff_ne]; omega
    have hz2 : ((0 : Int) != (h : Int)) = true := by rw [bne_iff_ne]; omega
    have hb0 : bits .and .u32 (h : Int) 0 = 0 := and0 h hh
    have HH := Lib.hid (And.intro hz hh)
    clear hz
    go_wp2_with fail
    go_step3
    go_wp2_with fail
    go_quiet (fail)
    go_wp2_with fail
    refine wp_loop_rounds 1 ?_
    rw [rounds_succ]
    go_wp2_with fail
    go_loopw [53, 10] (fun vi vp wr => ∃ i : Nat, vi = .int .i64 i ∧ vp = insE g i ∧ i ≤ 8 ∧ w1.grownBy wr (some g) ∧ Blk wr g T (tabI g)) (fun vi _ _ => 8 - (intOf vi).toNat)
    case atStart => exact ⟨0, rfl, rfl, by omega, HB2.out.1.trans ⟨rfl, rfl, rfl, Nat.le_refl _, fun _ _ _ => rfl⟩, HB2.out.2.drewN _⟩
    case round =>
      obtain ⟨i, rfl, rfl, hi, hG, hb⟩ := hrel
      have HB3 := Lib.hid (And.intro hG hb)
      rcases Nat.lt_or_ge i 8 with hlt8 | hge
      · have hki : (i : Int) < 8 := by omega
        have k1 : wr.cell? ⟨g, 1 + i * 5, none⟩ = some (.int .u32 0) := (hb.cell (1 + i * 5)).trans (tabI_hash g i hlt8)
        have wi : IntKind.i64.wrap ((i : Int) + 1) = (i : Int) + 1 := by rw [IntKind.wrap_i64]; omega
        have eP : Hid (insE g (i + 1) = .pointer (some ⟨g, 1 + i * 5, none⟩)) := by
          refine Lib.hid ?_
          unfold insE
          rw [if_neg (by omega), Nat.add_sub_cancel]
        generalize insE g i = P
        clear hG hb
        go_wp2
        exact ⟨⟨i + 1, rfl, eP.out.symm, by omega, HB3.out⟩, by simp only [intOf]; omega⟩
      · have hki : ¬ (i : Int) < 8 := by omega
        have hi8 : i = 8 := by omega
        subst hi8
        have eP : insE g 8 = .pointer (some ⟨g, 36, none⟩) := rfl
        rw [eP]
        clear eP
        have c00 : wr.cell? ⟨g, 0, none⟩ = some (.slice (some ⟨g, 1, none⟩) 1 1) := (hb.cell 0).trans rfl
        have c41 : wr.cell? ⟨g, 41, none⟩ = some (.pointer none) := (hb.cell 41).trans rfl
        have c42 : wr.cell? ⟨g, 42, none⟩ = some (.int .u32 0) := (hb.cell 42).trans rfl
        have c45 : wr.cell? ⟨g, 45, none⟩ = some (.pointer (some ⟨g, 44, none⟩)) := (hb.cell 45).trans rfl
        have c44 : wr.cell? ⟨g, 44, none⟩ = some (.pointer none) := (hb.cell 44).trans rfl
        have d0 : wr.cell? ⟨g, 36, none⟩ = some (.int .u32 0) := (hb.cell 36).trans rfl
        have d1 : wr.cell? ⟨g, 37, none⟩ = some .nilIface := (hb.cell 37).trans rfl
        have d2 : wr.cell? ⟨g, 38, none⟩ = some .nilIface := (hb.cell 38).trans rfl
        have d4 : wr.cell? ⟨g, 40, none⟩ = some (.pointer none) := (hb.cell 40).trans rfl
        have f0 := hb.frozen 36
        have f1 := hb.frozen 37
        have f2 := hb.frozen 38
        have f4 := hb.frozen 40
        have f44 := hb.frozen 44
        have f42 := hb.frozen 42
        have f45 := hb.frozen 45
        have HOv : Hid (∀ W, Calls Tryz.prog 81 #[.int .i64 0, .int .i64 1] W fun e w' => e = .returned (.bool false) ∧ w' = W) := Lib.hid fun W => overloaded_any 0 (by omega) W
        have hw0 : IntKind.i64.wrap 0 = 0 := by decide
        clear hb hG
        go_wp2_with fail
        go_quiet ((go_at_call 81; with_reducible exact Calls.quiet_of_same (HOv.out _)))
        go_wp2_with fail
        rw [Exit.noGoto_ret]
        go_ret
        refine ⟨rfl, h, HH.out.1, HH.out.2, ?_, ?_⟩
        · rw [← tab_first g h (.iface t u) (.iface tv uv)]
          exact (((((((HB3.out.2.drewN _).set_ 36 _).set_ 37 _).set_ 38 _).set_ 40 _).set_ 44 _).set_ 45 _).set_ 42 _
        · have hg := HB3.out.1
          exact grown_set (grown_set (grown_set (grown_set (grown_set (grown_set (grown_set (by exact ⟨hg.os, hg.tape, hg.output, hg.size, hg.block⟩) _) _) _) _) _) _) _
end Go.Proofs.YtkmeckimmfbkiaaGreatDoor
namespace Go.Proofs.YtkmeckimmfbkiaaGreatDoor
open Go Go.RowKit
/-- One key more. -/
theorem insert_new (g T B : Nat) (es : List (Nat × Value × Value)) (k v : Value) (w : World) (hb : Blk w g T (tabC g es)) (hBg : B ≤ g) (hn : es.length ≤ 7) (hm : ∀ W, Below B w W → HashM W k) (hv : ∃ t u, v = .iface t u)
    (he : ∀ (j : Nat) (e : Nat × Value × Value), es[j]? = some e → 1 ≤ e.1 ∧ e.1 < 4294967296 ∧ ∀ W, Below w.heap.size w W → Calls Tryz.prog 80 #[k, e.2.1] W (Eqd W false)) :
    Calls Tryz.prog 67 #[.pointer (some ⟨g, 0, none⟩), k, v] w fun e w' => e = .returned .nilIface ∧ ∃ h : Nat, 1 ≤ h ∧ h < 4294967296 ∧ Blk w' g T (tabC g (es ++ [(h, k, v)])) ∧ w.grownBy w' (some g) := by
  cases es with
  | nil => exact insert_first g T B k v w hb hBg hm hv
  | cons a es => exact insert_more g T (a :: es) k v w hb (by simp) hn (fun W hW => hm W (hW.mono (by have := hb.lt; omega))) hv he
set_option maxRecDepth 10000 in
theorem setKey_any (g : Nat) (k v : Value) (Q : World → Prop) (w : World)
    (h : Calls Tryz.prog 67 #[.pointer (some ⟨g, 0, none⟩), k, v] w fun e w' => e = .returned .nilIface ∧ Q w') :
    Calls Tryz.prog 53 #[.pointer (some ⟨g, 0, none⟩), k, v] w fun e w' => e = .returned .nilIface ∧ Q w' := by
  have H := Lib.hid h
  clear h
  go_enter Tryz.func53, Tryz.ntmps53
  go_wp2_with fail
  refine H.out.mono ?_
  rintro e w1 ⟨rfl, hq⟩
  have HQ := Lib.hid hq
  clear hq H
  go_wp2
  go_ret
  exact ⟨rfl, HQ.out⟩
set_option maxRecDepth 10000 in
theorem setInsert_any (g : Nat) (k : Value) (Q : World → Prop) (w : World)
    (h : Calls Tryz.prog 67 #[.pointer (some ⟨g, 0, none⟩), k, .iface 88 (.int .u8 0)] w fun e w' => e = .returned .nilIface ∧ Q w') :
    Calls Tryz.prog 55 #[.pointer (some ⟨g, 0, none⟩), k] w fun e w' => e = .returned .nilIface ∧ Q w' := by
  have H := Lib.hid h
  clear h
  go_enter Tryz.func55, Tryz.ntmps55
  go_wp2_with fail
  refine H.out.mono ?_
  rintro e w1 ⟨rfl, hq⟩
  have HQ := Lib.hid hq
  clear hq H
  go_wp2
  go_ret
  exact ⟨rfl, HQ.out⟩
set_option maxRecDepth 10000 in
theorem dictLen_any (g k : Nat) (hk : k < 4294967296) (w : World) (h : w.cell? ⟨g, 42, none⟩ = some (.int .u32 (k : Int))) : Calls Tryz.prog 54 #[.pointer (some ⟨g, 0, none⟩)] w fun e w' => e = .returned (.int .i64 (k : Int)) ∧ w' = w := by
  go_enter Tryz.func54, Tryz.ntmps54
  go_wp2
  go_ret
  exact ⟨rfl, rfl⟩
set_option maxRecDepth 10000 in
theorem setLen_any (g k : Nat) (hk : k < 4294967296) (w : World) (h : w.cell? ⟨g, 42, none⟩ = some (.int .u32 (k : Int))) : Calls Tryz.prog 56 #[.pointer (some ⟨g, 0, none⟩)] w fun e w' => e = .returned (.int .i64 (k : Int)) ∧ w' = w := by
  go_enter Tryz.func56, Tryz.ntmps56
  go_wp2
  go_ret
  exact ⟨rfl, rfl⟩
/-- The entries of a table: each step-th of a row is a key. -/
def EsOf (step : Nat) (xs : List Value) (es : List (Nat × Value × Value)) : Prop := ∀ (j : Nat) (e : Nat × Value × Value), es[j]? = some e → 1 ≤ e.1 ∧ e.1 < 4294967296 ∧ xs[step * j]? = some e.2.1
theorem EsOf.snoc {step : Nat} {xs : List Value} {es : List (Nat × Value × Value)} {h : Nat} {k v : Value} (H : EsOf step xs es) (h1 : 1 ≤ h) (h2 : h < 4294967296) (hk : xs[step * es.length]? = some k) : EsOf step xs (es ++ [(h, k, v)]) := by
  intro j e he
  rcases Nat.lt_trichotomy j es.length with hj | hj | hj
  · rw [List.getElem?_append_left hj] at he
    exact H j e he
  · subst hj
    simp at he
    subst he
    exact ⟨h1, h2, hk⟩
  · rw [List.getElem?_eq_none (by simp; omega)] at he
    cases he
theorem tab_len (g : Nat) (es : List (Nat × Value × Value)) : (tabC g es)[42]? = some (.int .u32 (es.length : Int)) := tab_tail g es 1 (by decide)
set_option maxRecDepth 10000 in
set_option maxHeartbeats 1000000 in
theorem dict_any (A : Option Addr) (n c : Nat) (xs : List Value) (w : World) (hn : n ≤ 16) (he : n % 2 = 0) (hr : Reads w w.heap.size 1 A n xs)
    (hk : ∀ (j : Nat) (u v : Value), xs[2 * j]? = some u → xs[2 * j + 1]? = some v → (∃ t x, v = .iface t x) ∧ ∀ W, Below w.heap.size w W → HashM W u)
    (hd : ∀ (i j : Nat) (u v : Value), i < j → xs[2 * i]? = some u → xs[2 * j]? = some v → ∀ W, Below w.heap.size w W → Calls Tryz.prog 80 #[v, u] W (Eqd W false)) :
    Calls Tryz.prog 38 #[.slice A n c] w fun e w' => e = .returned (.tuple #[.pointer (some ⟨w.heap.size, 0, none⟩), .bool true]) ∧ ∃ es, 2 * es.length = n ∧ EsOf 2 xs es ∧ Blk w' w.heap.size 118 (tabC w.heap.size es) ∧ Below w.heap.size w w' := by
  have HX := Lib.hid (And.intro hr (And.intro hk hd))
  clear hr hk hd
  go_enter Tryz.func38, Tryz.ntmps38
  go_wp2_with fail
  go_loopw [5] (fun vi wr => ∃ (i : Nat) (es : List (Nat × Value × Value)), vi = .int .i64 i ∧ i ≤ n ∧ 2 * es.length = i ∧ EsOf 2 xs es ∧ Blk wr w.heap.size 118 (tabC w.heap.size es) ∧ Below w.heap.size w wr) (fun vi _ => n - (intOf vi).toNat)
  case atStart => exact ⟨0, [], rfl, by omega, rfl, fun j e h => by simp at h, Blk.new _ _ _, (Below.refl _ _).alloc (Nat.le_refl _) _⟩
  case round =>
    obtain ⟨i, es, rfl, hj, hl, hes, hb, hB⟩ := hrel
    have w1 : IntKind.i64.wrap ((i : Int) + 1) = (i : Int) + 1 := by rw [IntKind.wrap_i64]; omega
    rcases Nat.lt_or_ge i n with h | h
    · have b1 : (i : Int) + 1 < (n : Int) := by omega
      have b0 : (i : Int) < (n : Int) := by omega
      have w2 : IntKind.i64.wrap ((i : Int) + 2) = (i : Int) + 2 := by rw [IntKind.wrap_i64]; omega
      obtain ⟨ad, u, rfl, had, hu, c0⟩ := HX.out.1.at_ (k := i) h
      obtain ⟨ad', v, e, _, hv, c1⟩ := HX.out.1.at_ (k := i + 1) (by omega)
      cases e
      rw [show ad.add (i + 1) = ⟨ad.block, ad.off + (i + 1), none⟩ by simp [Addr.add]] at c1
      have c0' := Lib.hid c0
      have c1' := Lib.hid c1
      have g0 : (0 : Int) ≤ (i : Int) + 1 := by omega
      replace c0 := (hB.cell (by rw [block_of_add]; exact had)).trans c0
      replace c1 := (hB.cell (by exact had)).trans c1
      have hui : xs[2 * es.length]? = some u := by rw [hl]; exact hu
      obtain ⟨hvi, hm⟩ := HX.out.2.1 es.length u v hui (by rw [hl]; exact hv)
      have HI := Lib.hid (setKey_any w.heap.size u v _ wr.drew (insert_new w.heap.size 118 w.heap.size es u v wr.drew hb.drew (Nat.le_refl _) (by omega) (fun W hW => hm W (hB.trans ⟨hW.os, hW.tape, hW.output, hW.size, hW.block⟩)) hvi fun j e he => by
        obtain ⟨h1, h2, h3⟩ := hes j e he
        have hjl : j < es.length := by
          rcases Nat.lt_or_ge j es.length with h | h
          · exact h
          · rw [List.getElem?_eq_none h] at he; cases he
        exact ⟨h1, h2, fun W hW => HX.out.2.2 j es.length e.2.1 u hjl h3 hui W (hB.trans (Below.mono ⟨hW.os, hW.tape, hW.output, hW.size, hW.block⟩ hB.size))⟩))
      have HB := Lib.hid (And.intro hB (And.intro hes (And.intro hui hl)))
      clear hB hes hui hb hu hv hvi hm hl
      go_wp2_with fail
      go_region_held3 (fun w' => w'.cell? (ad.add i) = some u ∧ w'.cell? ⟨ad.block, ad.off + (i + 1), none⟩ = some v) (exact ⟨c0, c1⟩)
        ((go_at_call 53; refine HI.out.mono ?_
          rintro e w5 ⟨rfl, hh, h1, h2, hb5, hg5⟩
          have hB5 : Below w.heap.size w w5 := below_grown HB.out.1.drew hg5 (Nat.le_refl _) HB.out.1.size
          have c0 := (hB5.cell (p := ad.add i) (by rw [block_of_add]; exact had)).trans c0'.out
          have c1 := (hB5.cell (p := ⟨ad.block, ad.off + (i + 1), none⟩) (by exact had)).trans c1'.out
          have H5 := Lib.hid (And.intro h1 (And.intro h2 (And.intro hb5 hB5)))
          clear h1 h2 hb5 hg5 hB5))
      go_wp2
      go_roundw
      case rel =>
        obtain ⟨h1, h2, hb5, hB5⟩ := H5.out
        obtain ⟨_, hes, hui, hl⟩ := HB.out
        exact ⟨i + 2, es ++ [(hh, u, v)], by go_num, by omega, by simp; omega, hes.snoc h1 h2 hui, hb5, hB5⟩
      case measure => simp [intOf]; omega
    · have hin : i = n := by omega
      subst hin
      have b1 : ¬ (i : Int) + 1 < (i : Int) := by omega
      have k42 : wr.cell? ⟨w.heap.size, 42, none⟩ = some (.int .u32 (es.length : Int)) := (hb.cell 42).trans (tab_len _ es)
      have HL := Lib.hid (dictLen_any w.heap.size es.length (by omega) wr k42)
      have hd : IntKind.i64.wrap (2 * (es.length : Int)) = (i : Int) := by rw [IntKind.wrap_i64]; omega
      have HB := Lib.hid (And.intro hl (And.intro hes (And.intro hb hB)))
      clear hB hes hb hl HX
      go_wp2_with fail
      refine HL.out.mono ?_
      rintro e w5 ⟨rfl, rfl⟩
      go_wp2
      go_ret2
      exact ⟨by simp, es, HB.out⟩
set_option maxRecDepth 10000 in
set_option maxHeartbeats 1000000 in
theorem set_any (A : Option Addr) (n c : Nat) (xs : List Value) (w : World) (hn : n ≤ 8) (hr : Reads w w.heap.size 1 A n xs)
    (hk : ∀ (j : Nat) (u : Value), xs[1 * j]? = some u → ∀ W, Below w.heap.size w W → HashM W u)
    (hd : ∀ (i j : Nat) (u v : Value), i < j → xs[1 * i]? = some u → xs[1 * j]? = some v → ∀ W, Below w.heap.size w W → Calls Tryz.prog 80 #[v, u] W (Eqd W false)) :
    Calls Tryz.prog 39 #[.slice A n c] w fun e w' => e = .returned (.tuple #[.pointer (some ⟨w.heap.size, 0, none⟩), .bool true]) ∧ ∃ es, es.length = n ∧ EsOf 1 xs es ∧ Blk w' w.heap.size 120 (tabC w.heap.size es) ∧ Below w.heap.size w w' := by
  have HX := Lib.hid (And.intro hr (And.intro hk hd))
  clear hr hk hd
  go_enter Tryz.func39, Tryz.ntmps39
  go_wp2_with fail
  go_loopw [10] (fun vi wr => ∃ (i : Nat) (es : List (Nat × Value × Value)), vi = .int .i64 i ∧ i ≤ n ∧ es.length = i ∧ EsOf 1 xs es ∧ Blk wr w.heap.size 120 (tabC w.heap.size es) ∧ Below w.heap.size w wr) (fun vi _ => n - (intOf vi).toNat)
  case atStart => exact ⟨0, [], rfl, by omega, rfl, fun j e h => by simp at h, Blk.new _ _ _, (Below.refl _ _).alloc (Nat.le_refl _) _⟩
  case round =>
    obtain ⟨i, es, rfl, hj, hl, hes, hb, hB⟩ := hrel
    rcases Nat.lt_or_ge i n with h | h
    · have b0 : (i : Int) < (n : Int) := by omega
      have w1 : IntKind.i64.wrap ((i : Int) + 1) = (i : Int) + 1 := by rw [IntKind.wrap_i64]; omega
      obtain ⟨ad, u, rfl, had, hu, c0⟩ := HX.out.1.at_ (k := i) h
      have c0' := Lib.hid c0
      replace c0 := (hB.cell (by rw [block_of_add]; exact had)).trans c0
      have hui : xs[1 * es.length]? = some u := by rw [hl, Nat.one_mul]; exact hu
      have hm := HX.out.2.1 es.length u hui
      have HI := Lib.hid (setInsert_any w.heap.size u _ wr (insert_new w.heap.size 120 w.heap.size es u (.iface 88 (.int .u8 0)) wr hb (Nat.le_refl _) (by omega) (fun W hW => hm W (hB.trans hW)) ⟨_, _, rfl⟩ fun j e he => by
        obtain ⟨h1, h2, h3⟩ := hes j e he
        have hjl : j < es.length := by
          rcases Nat.lt_or_ge j es.length with h | h
          · exact h
          · rw [List.getElem?_eq_none h] at he; cases he
        exact ⟨h1, h2, fun W hW => HX.out.2.2 j es.length e.2.1 u hjl h3 hui W (hB.trans (hW.mono hB.size))⟩))
      have HB := Lib.hid (And.intro hB (And.intro hes (And.intro hui hl)))
      clear hB hes hui hb hu hm hl
      go_wp2_with fail
      refine HI.out.mono ?_
      rintro e w5 ⟨rfl, hh, h1, h2, hb5, hg5⟩
      have H5 := Lib.hid (And.intro h1 (And.intro h2 (And.intro hb5 hg5)))
      clear h1 h2 hb5 hg5
      go_wp2
      go_roundw
      case rel =>
        obtain ⟨h1, h2, hb5, hg5⟩ := H5.out
        obtain ⟨hB, hes, hui, hl⟩ := HB.out
        exact ⟨i + 1, es ++ [(hh, u, _)], by go_num, by omega, by simp; omega, hes.snoc h1 h2 hui, hb5, below_grown hB hg5 (Nat.le_refl _) hB.size⟩
      case measure => simp [intOf]; omega
    · have hin : i = n := by omega
      subst hin
      have b1 : ¬ (i : Int) < (i : Int) := by omega
      have k42 : wr.cell? ⟨w.heap.size, 42, none⟩ = some (.int .u32 (i : Int)) := by rw [← hl]; exact (hb.cell 42).trans (tab_len _ es)
      have HL := Lib.hid (setLen_any w.heap.size i (by omega) wr k42)
      have HB := Lib.hid (And.intro hl (And.intro hes (And.intro hb hB)))
      clear hB hes hb hl HX
      go_wp2_with fail
      refine HL.out.mono ?_
      rintro e w5 ⟨rfl, rfl⟩
      go_wp2
      go_ret2
      exact ⟨by simp, es, HB.out⟩
end Go.Proofs.YtkmeckimmfbkiaaGreatDoor
namespace Go.Proofs.YtkmeckimmfbkiaaGreatDoor
open Go Go.RowKit
/-- A block of values. -/
def VB (w : World) (k : Nat) : Prop := ∃ cs, Blk w k 43 cs ∧ ∀ c, c ∈ cs → c = .nilIface ∨ ∃ t v, c = .iface t v
/-- p holds of w' and of whatever differs from it in new blocks, and in blocks of values that were there in w. -/
def Far (w w' : World) (p : World → Prop) : Prop := ∀ (X : Nat → Prop), (∀ k, X k → VB w k) → ∀ w2 : World, (∀ k, k < w'.heap.size → ¬ X k → w2.heap[k]? = w'.heap[k]?) → w'.heap.size ≤ w2.heap.size → p w2
theorem Far.self {w w' : World} {p : World → Prop} (h : Far w w' p) : p w' := h (fun _ => False) (fun _ h => h.elim) w' (fun _ _ _ => rfl) (Nat.le_refl _)
theorem Far.imp {w w' : World} {p q : World → Prop} (h : Far w w' p) (hpq : ∀ w2, p w2 → q w2) : Far w w' q := fun X hX w2 h1 h2 => hpq _ (h X hX w2 h1 h2)
theorem Far.const {w w' : World} {p : Prop} (h : p) : Far w w' (fun _ => p) := fun _ _ _ _ _ => h
theorem VB.lt {w : World} {k : Nat} (h : VB w k) : k < w.heap.size := by obtain ⟨cs, h, _⟩ := h; exact h.lt
theorem VB.below {w w' : World} {k : Nat} (h : VB w k) (hb : Below w.heap.size w w') : VB w' k := by obtain ⟨cs, h, h2⟩ := h; exact ⟨cs, h.below hb h.lt, h2⟩
theorem Far.first {w w1 w' : World} {p : World → Prop} (h : Far w1 w' p) (hb : Below w.heap.size w w1) : Far w w' p := fun X hX w2 h1 h2 => h X (fun k hk => (hX k hk).below hb) w2 h1 h2
theorem cell_mem {w : World} {g : Nat} {t : TypeId} {cs : Array Value} {ad : Addr} {v : Value} (hb : Blk w g t cs) (hg : ad.block = g) (hc : w.cell? ad = some v) : v ∈ cs := by
  unfold Blk at hb
  unfold World.cell? at hc
  rw [hg, hb] at hc
  simp only at hc
  split at hc
  · cases hc
  · exact Array.mem_of_getElem? hc
/-- An integer lies away from values. -/
theorem SInt.far {w w' : World} {x small : Int} {bp : Option Addr} (h : SInt w' w'.heap.size x small bp) (hb : Below w.heap.size w w') : Far w w' (fun w2 => SInt w2 w'.heap.size x small bp) := by
  intro X hX w2 h1 h2
  rcases h with h | ⟨g, e1, e2, ⟨A, c, i1, i2, i3, i4⟩, h5⟩
  · exact .inl h
  · have hgX : ¬ X g := fun hx => by
      obtain ⟨cs, hv, _⟩ := (hX g hx).below hb
      exact Blk.ne_ i1 hv (by decide) rfl
    refine .inr ⟨g, e1, e2, ⟨A, c, (h1 g i2 hgX).trans i1, i2, ⟨i3.1, fun hn => ?_⟩, i4⟩, h5⟩
    obtain ⟨ad, e, hlt, hc⟩ := i3.2 hn
    have hadX : ¬ X ad.block := fun hx => by
      obtain ⟨cs, hv, hall⟩ := (hX _ hx).below hb
      have hl : 0 < (wv (limbs x.natAbs)).length := by rw [wv_len]; exact hn
      have h0 : (wv (limbs x.natAbs))[0]? = some (.int .u64 ((limbs x.natAbs)[0] : Int)) := by simp [wv, hn]
      have hm := cell_mem hv (by rw [block_of_add]) (hc 0 _ h0)
      rcases hall _ hm with h | ⟨t, v, h⟩ <;> cases h
    exact ⟨ad, e, hlt, fun j u hu => (World.cell?_of_block (by rw [block_of_add]; exact h1 _ hlt hadX)).trans (hc j u hu)⟩
/-- A value of the language is handed back, and that it could be made. -/
def RetS (w : World) (s : S) (e : Ending) (w' : World) : Prop := ∃ u, e = .returned (.tuple #[u, .bool true]) ∧ Below w.heap.size w w' ∧ Far w w' (fun w2 => SAt w2 w'.heap.size s u)
def kindI : S → Int
  | .none => 0
  | .bool _ => 1
  | .int _ => 2
  | .float _ => 3
  | .str _ => 4
  | .bytes _ => 5
  | .list _ => 6
  | .tuple _ => 7
  | .dict _ => 8
  | .set _ => 9
set_option maxRecDepth 10000 in
set_option maxHeartbeats 1000000 in
theorem scalar_any (s : S) (hk : kindI s < 6) (v : Value) (w : World) (hv : VAt w w.heap.size s v) :
    Calls Tryz.prog 35 #[.int .i64 (kindI s), v] w (RetS w s) := by
  cases s with
  | none =>
    simp only [VAt] at hv
    subst hv
    unfold valV nilS noT kindI
    go_enter Tryz.func35, Tryz.ntmps35
    go_wp2_with fail
    go_ret2
    exact ⟨_, rfl, (Below.refl _ _).alloc (Nat.le_refl _) _, Far.const (by simp only; rfl)⟩
  | bool b =>
    simp only [VAt] at hv
    subst hv
    unfold valV nilS noT kindI
    go_enter Tryz.func35, Tryz.ntmps35
    cases b with
    | true =>
      go_wp2_with fail
      go_quiet (fail)
      go_wp2_with fail
      go_ret2
      exact ⟨_, rfl, ((Below.refl _ _).alloc (Nat.le_refl _) _).drewN_ _, Far.const (by simp only; rfl)⟩
    | false =>
      go_wp2_with fail
      go_quiet (fail)
      go_wp2_with fail
      go_ret2
      exact ⟨_, rfl, ((Below.refl _ _).alloc (Nat.le_refl _) _).drewN_ _, Far.const (by simp only; rfl)⟩
  | int x =>
    simp only [VAt] at hv
    obtain ⟨A, c, l, rfl, h1, h2, h3, h4, h5⟩ := hv
    unfold valV nilS kindI
    refine (scalar_int (decide (x < 0)) l A l.length c 0 noT none 0 0 w rfl (by omega) h4 h5).mono ?_
    rintro e w' ⟨small, bp, rfl, hS, hB⟩
    rw [h1, sgn_abs] at hS
    exact ⟨_, rfl, hB, (hS.far hB).imp fun w2 h => by simp only [SAt]; exact ⟨small, bp, rfl, h⟩⟩
  | float f =>
    simp only [VAt] at hv
    obtain ⟨rfl, hf⟩ := hv
    unfold valV nilS noT kindI
    go_enter Tryz.func35, Tryz.ntmps35
    go_wp2_with fail
    refine gen1 (M := fun W => Calls _ _ _ W _) fun W hB b1 hz => ?_
    refine (floatOf_any f W).mono ?_
    rintro e w1 ⟨rfl, rfl⟩
    clear b1
    go_wp2_with fail
    go_ret2
    exact ⟨_, rfl, hB, Far.const (by simp only; exact ⟨rfl, hf⟩)⟩
  | str t =>
    simp only [VAt] at hv
    obtain ⟨rfl, ht⟩ := hv
    unfold valV nilS kindI
    refine (scalar_string false none 0 0 0 t none 0 0 w).mono ?_
    rintro e w' ⟨rfl, hB⟩
    exact ⟨_, rfl, hB, Far.const (by simp only; first | exact ⟨rfl, ht⟩ | exact ⟨trivial, ht⟩)⟩
  | bytes t =>
    simp only [VAt] at hv
    obtain ⟨rfl, ht⟩ := hv
    unfold valV nilS kindI
    go_enter Tryz.func35, Tryz.ntmps35
    go_wp2_with fail
    go_ret2
    exact ⟨_, rfl, (Below.refl _ _).alloc (Nat.le_refl _) _, Far.const (by simp only; first | exact ⟨rfl, ht⟩ | exact ⟨trivial, ht⟩)⟩
  | list l => simp [kindI] at hk
  | tuple l => simp [kindI] at hk
  | dict l => simp [kindI] at hk
  | set l => simp [kindI] at hk
set_option maxRecDepth 10000 in
set_option maxHeartbeats 1000000 in
theorem value_scalar (s : S) (k : Int) (neg : Bool) (A : Option Addr) (n c : Nat) (b : Int) (t : ByteArray) (K : Option Addr) (m d : Nat) (w : World) (hk : k < 6)
    (h : ∀ W, Below w.heap.size w W → Calls Tryz.prog 35 #[.int .i64 k, .agg #[.int .i64 k, .bool neg, .slice A n c, .int .u64 b, .string t, .slice K m d]] W (RetS W s)) :
    Calls Tryz.prog 19 #[.agg #[.int .i64 k, .bool neg, .slice A n c, .int .u64 b, .string t, .slice K m d]] w (RetS w s) := by
  have H := Lib.hid h
  clear h
  go_enter Tryz.func19, Tryz.ntmps19
  go_wp2_with fail
  refine gen1 (M := fun W => Calls _ _ _ W _) fun W hB b1 hz => ?_
  refine (H.out W hB).mono ?_
  rintro e w1 ⟨u, rfl, hB1, hf⟩
  clear b1
  have HF := Lib.hid (And.intro (hB.trans (hB1.mono hB.size)) (hf.first hB))
  clear hB hB1 hf H hz
  go_wp2
  go_ret2
  exact ⟨_, rfl, HF.out.1, HF.out.2⟩
end Go.Proofs.YtkmeckimmfbkiaaGreatDoor
