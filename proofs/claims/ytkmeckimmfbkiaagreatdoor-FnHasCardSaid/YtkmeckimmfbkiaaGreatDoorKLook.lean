/- Looking a key up in a small table; sets and dicts compared. Conditions: none. -/
import Derived.Test.YtkmeckimmfbkiaaGreatDoorKDict
namespace Go.Proofs.YtkmeckimmfbkiaaGreatDoor
open Go Go.RowKit
/-- What a lookup tells: the value of an entry that is equal, or that there is none. -/
def LookR (w : World) (es : List (Nat × Value × Value)) (R : Nat → Bool) (e : Ending) (w' : World) : Prop :=
  ((∃ j en, es[j]? = some en ∧ R j = true ∧ e = .returned (.tuple #[en.2.2, .bool true, .nilIface])) ∨ ((∀ j, j < es.length → R j = false) ∧ e = .returned (.tuple #[.iface 88 (.int .u8 0), .bool false, .nilIface]))) ∧ Below w.heap.size w w'
set_option maxRecDepth 10000 in
set_option maxHeartbeats 2000000 in
theorem lookup_any (h : Nat) (hh : h < 4294967296) (g T : Nat) (es : List (Nat × Value × Value)) (k : Value) (R : Nat → Bool) (w : World) (hb : Blk w g T (tabC g es)) (h0 : 0 < es.length) (hn : es.length ≤ 8) (hm : HashMV (h : Int) w k)
    (he : ∀ (j : Nat) (e : Nat × Value × Value), es[j]? = some e → 1 ≤ e.1 ∧ e.1 < 4294967296 ∧ (hN h = e.1 → ∀ W, Below w.heap.size w W → Calls Tryz.prog 80 #[k, e.2.1] W (Eqd W (R j))) ∧ (hN h ≠ e.1 → R j = false)) :
    Calls Tryz.prog 239 #[.pointer (some ⟨g, 0, none⟩), k] w (LookR w es R) := by
  have hd : headC g es = .slice (some ⟨g, 1, none⟩) 1 1 := by unfold headC; rw [if_neg (by omega)]
  have c0 : w.cell? ⟨g, 0, none⟩ = some (.slice (some ⟨g, 1, none⟩) 1 1) := (hb.cell 0).trans (by rw [← hd]; rfl)
  obtain ⟨f, r, ⟨t, u, rfl, m1, q1⟩, C⟩ := hm
  have HB := Lib.hid hb
  have HC := Lib.hid C
  have HE := Lib.hid he
  have hq : ∀ w, (binOp .eql 103 (.slice (some ⟨g, 1, none⟩) 1 1) (.slice none 0 0)).run Tryz.prog w = .ok (.bool false) w := fun w => by kernel_rfl
  clear he hb C hd
  go_enter Tryz.func239, Tryz.ntmps239
  go_wp2_with fail
  refine HC.out.mono ?_
  rintro e w2 ⟨rfl, hB⟩
  have hlt := HB.out.lt
  have b2 := HB.out.below hB hlt
  have c0 : w2.cell? ⟨g, 0, none⟩ = some (.slice (some ⟨g, 1, none⟩) 1 1) := (hB.cell (p := ⟨g, 0, none⟩) hlt).trans c0
  have HB2 := Lib.hid (And.intro hB b2)
  clear hB b2 HB HC
  rcases Nat.eq_zero_or_pos h with hz | hz
  · subst hz
    have hb0 : bits .and .u32 (1 : Int) 0 = 0 := by kernel_rfl
    go_wp2_with fail
    go_quiet (fail)
    go_wp2_with fail
    refine wp_loop_rounds 2 ?_
    rw [rounds_succ]
    go_wp2_with fail
    go_loopw [49] (fun vi wr => ∃ i : Nat, vi = .int .i64 i ∧ i ≤ 8 ∧ (∀ j, 7 < j + i → j < es.length → R j = false) ∧ Below w.heap.size w wr ∧ Blk wr g T (tabC g es)) (fun vi _ => 8 - (intOf vi).toNat)
    case atStart => exact ⟨0, rfl, by omega, fun j h1 h2 => by omega, HB2.out.1.drewN_ _, HB2.out.2.drewN _⟩
    case round =>
      obtain ⟨i, rfl, hi, hall, hB, hb⟩ := hrel
      rcases Nat.lt_or_ge i 8 with hlt8 | hge
      · have hki : (i : Int) < 8 := by omega
        have k1 := (hb.cell (1 + i * 5)).trans (tab_hash g es i hlt8)
        have k2 := (hb.cell (1 + i * 5 + 1)).trans (tab_key g es i hlt8)
        have w1 : IntKind.i64.wrap ((i : Int) + 1) = (i : Int) + 1 := by rw [IntKind.wrap_i64]; omega
        have HB3 := Lib.hid (And.intro hall (And.intro hB hb))
        clear hB hall
        rcases hes : es[7 - i]? with _ | en
        · have hno : Hid (es.length ≤ 7 - i) := Lib.hid (List.getElem?_eq_none_iff.1 hes)
          unfold hashAt at k1
          rw [hes] at k1
          simp only at k1
          clear hes k2 hb
          go_wp2
          exact ⟨⟨i + 1, rfl, by omega, fun j h1 h2 => HB3.out.1 j (by have := hno.out; omega) h2, HB3.out.2⟩, by simp only [intOf]; omega⟩
        · have hj : Hid (es[7 - i]? = some en) := Lib.hid hes
          obtain ⟨e1, e2, e3, e4⟩ := HE.out _ _ hes
          have k3 := (hb.cell (1 + i * 5 + 2)).trans (show (tabC g es)[1 + i * 5 + 2]? = some en.2.2 from by
            have := tab_five g es (7 - i) 2 (by omega) (by decide)
            rw [show slotO (7 - i) + 2 = 1 + i * 5 + 2 by unfold slotO; omega] at this
            rw [this]; unfold slotC; rw [hes]; rfl)
          unfold hashAt at k1
          unfold keyAt at k2
          rw [hes] at k1 k2
          simp only at k1 k2
          have K3 := Lib.hid k3
          have E4 := Lib.hid e4
          clear hes hb k3 e4
          by_cases hh1 : en.1 = 1
          · have HEq := Lib.hid (e3 (by rw [hh1]; rfl) wr HB3.out.2.1)
            rw [hh1] at k1
            clear hh1 e1 e2 e3
            go_wp2_with fail
            refine HEq.out.mono ?_
            rintro e w3 ⟨rfl, hB3⟩
            have HB4 := Lib.hid (And.intro (HB3.out.2.1.trans (hB3.mono HB3.out.2.1.size)) (HB3.out.2.2.below hB3 HB3.out.2.2.lt))
            have k3 := (hB3.cell (p := ⟨g, 1 + i * 5 + 2, none⟩) HB3.out.2.2.lt).trans K3.out
            clear hB3 HEq k1 k2
            rcases hR : R (7 - i) with _ | _
            · have HR := Lib.hid hR
              clear hR
              go_wp2
              exact ⟨⟨i + 1, rfl, by omega, fun j h1 h2 => by
                rcases Nat.lt_or_ge 7 (j + i) with q | q
                · exact HB3.out.1 j q h2
                · have e : j = 7 - i := by omega
                  rw [e]; exact HR.out, HB4.out⟩, by simp only [intOf]; omega⟩
            · have HR := Lib.hid hR
              clear hR
              go_wp2
              go_ret3
              exact ⟨.inl ⟨7 - i, en, hj.out, HR.out, rfl⟩, HB4.out.1⟩
          · have hq1 : ((en.1 : Int) == 1) = false := by rw [beq_eq_false_iff_ne]; omega
            have HR := Lib.hid (E4.out (by rw [show hN 0 = 1 from rfl]; omega))
            clear hh1 e1 e2 e3 k2
            go_wp2
            exact ⟨⟨i + 1, rfl, by omega, fun j h1 h2 => by
              rcases Nat.lt_or_ge 7 (j + i) with q | q
              · exact HB3.out.1 j q h2
              · have e : j = 7 - i := by omega
                rw [e]; exact HR.out, HB3.out.2⟩, by simp only [intOf]; omega⟩
      · have hki : ¬ (i : Int) < 8 := by omega
        have c41 : wr.cell? ⟨g, 41, none⟩ = some (.pointer none) := (hb.cell 41).trans (tab_tail g es 0 (by decide))
        have HB3 := Lib.hid (And.intro hall hB)
        clear hall hB hb
        go_wp2
        rw [rounds_succ]
        go_wp2
        go_ret3
        exact ⟨.inr ⟨fun j hj => HB3.out.1 j (by omega) hj, rfl⟩, HB3.out.2⟩
  · have hz1 : ((h : Int) == 0) = false := by rw [beq_eq_false_iff_ne]; omega
    have hb0 : bits .and .u32 (h : Int) 0 = 0 := and0 h hh
    have HZ := Lib.hid hz
    clear hz
    go_wp2_with fail
    go_quiet (fail)
    go_wp2_with fail
    refine wp_loop_rounds 2 ?_
    rw [rounds_succ]
    go_wp2_with fail
    go_loopw [49] (fun vi wr => ∃ i : Nat, vi = .int .i64 i ∧ i ≤ 8 ∧ (∀ j, 7 < j + i → j < es.length → R j = false) ∧ Below w.heap.size w wr ∧ Blk wr g T (tabC g es)) (fun vi _ => 8 - (intOf vi).toNat)
    case atStart => exact ⟨0, rfl, by omega, fun j h1 h2 => by omega, HB2.out.1.drewN_ _, HB2.out.2.drewN _⟩
    case round =>
      obtain ⟨i, rfl, hi, hall, hB, hb⟩ := hrel
      rcases Nat.lt_or_ge i 8 with hlt8 | hge
      · have hki : (i : Int) < 8 := by omega
        have k1 := (hb.cell (1 + i * 5)).trans (tab_hash g es i hlt8)
        have k2 := (hb.cell (1 + i * 5 + 1)).trans (tab_key g es i hlt8)
        have w1 : IntKind.i64.wrap ((i : Int) + 1) = (i : Int) + 1 := by rw [IntKind.wrap_i64]; omega
        have HB3 := Lib.hid (And.intro hall (And.intro hB hb))
        clear hB hall
        rcases hes : es[7 - i]? with _ | en
        · have hno : Hid (es.length ≤ 7 - i) := Lib.hid (List.getElem?_eq_none_iff.1 hes)
          unfold hashAt at k1
          rw [hes] at k1
          simp only at k1
          clear hes k2 hb
          go_wp2
          exact ⟨⟨i + 1, rfl, by omega, fun j h1 h2 => HB3.out.1 j (by have := hno.out; omega) h2, HB3.out.2⟩, by simp only [intOf]; omega⟩
        · have hj : Hid (es[7 - i]? = some en) := Lib.hid hes
          obtain ⟨e1, e2, e3, e4⟩ := HE.out _ _ hes
          have k3 := (hb.cell (1 + i * 5 + 2)).trans (show (tabC g es)[1 + i * 5 + 2]? = some en.2.2 from by
            have := tab_five g es (7 - i) 2 (by omega) (by decide)
            rw [show slotO (7 - i) + 2 = 1 + i * 5 + 2 by unfold slotO; omega] at this
            rw [this]; unfold slotC; rw [hes]; rfl)
          unfold hashAt at k1
          unfold keyAt at k2
          rw [hes] at k1 k2
          simp only at k1 k2
          have K3 := Lib.hid k3
          have E4 := Lib.hid e4
          clear hes hb k3 e4
          by_cases hh1 : en.1 = h
          · have HEq := Lib.hid (e3 (by rw [hh1]; exact hN_pos HZ.out) wr HB3.out.2.1)
            rw [hh1] at k1
            clear hh1 e1 e2 e3
            go_wp2_with fail
            refine HEq.out.mono ?_
            rintro e w3 ⟨rfl, hB3⟩
            have HB4 := Lib.hid (And.intro (HB3.out.2.1.trans (hB3.mono HB3.out.2.1.size)) (HB3.out.2.2.below hB3 HB3.out.2.2.lt))
            have k3 := (hB3.cell (p := ⟨g, 1 + i * 5 + 2, none⟩) HB3.out.2.2.lt).trans K3.out
            clear hB3 HEq k1 k2
            rcases hR : R (7 - i) with _ | _
            · have HR := Lib.hid hR
              clear hR
              go_wp2
              exact ⟨⟨i + 1, rfl, by omega, fun j h1 h2 => by
                rcases Nat.lt_or_ge 7 (j + i) with q | q
                · exact HB3.out.1 j q h2
                · have e : j = 7 - i := by omega
                  rw [e]; exact HR.out, HB4.out⟩, by simp only [intOf]; omega⟩
            · have HR := Lib.hid hR
              clear hR
              go_wp2
              go_ret3
              exact ⟨.inl ⟨7 - i, en, hj.out, HR.out, rfl⟩, HB4.out.1⟩
          · have hq1 : ((en.1 : Int) == (h : Int)) = false := by rw [beq_eq_false_iff_ne]; omega
            have HR := Lib.hid (E4.out (by rw [hN_pos HZ.out]; omega))
            clear hh1 e1 e2 e3 k2
            go_wp2
            exact ⟨⟨i + 1, rfl, by omega, fun j h1 h2 => by
              rcases Nat.lt_or_ge 7 (j + i) with q | q
              · exact HB3.out.1 j q h2
              · have e : j = 7 - i := by omega
                rw [e]; exact HR.out, HB3.out.2⟩, by simp only [intOf]; omega⟩
      · have hki : ¬ (i : Int) < 8 := by omega
        have c41 : wr.cell? ⟨g, 41, none⟩ = some (.pointer none) := (hb.cell 41).trans (tab_tail g es 0 (by decide))
        have HB3 := Lib.hid (And.intro hall hB)
        clear hall hB hb
        go_wp2
        rw [rounds_succ]
        go_wp2
        go_ret3
        exact ⟨.inr ⟨fun j hj => HB3.out.1 j (by omega) hj, rfl⟩, HB3.out.2⟩
end Go.Proofs.YtkmeckimmfbkiaaGreatDoor
namespace Go.Proofs.YtkmeckimmfbkiaaGreatDoor
open Go Go.RowKit
set_option maxRecDepth 10000 in
set_option maxHeartbeats 1000000 in
theorem lookup_none (h : Nat) (g T : Nat) (k : Value) (R : Nat → Bool) (w : World) (hb : Blk w g T (tabC g [])) (hm : HashMV (h : Int) w k) :
    Calls Tryz.prog 239 #[.pointer (some ⟨g, 0, none⟩), k] w (LookR w [] R) := by
  have c0 : w.cell? ⟨g, 0, none⟩ = some (.slice none 0 0) := (hb.cell 0).trans rfl
  obtain ⟨f, r, ⟨t, u, rfl, m1, q1⟩, C⟩ := hm
  have HB := Lib.hid hb
  have HC := Lib.hid C
  have hq : ∀ w, (binOp .eql 103 (.slice none 0 0) (.slice none 0 0)).run Tryz.prog w = .ok (.bool true) w := fun w => by kernel_rfl
  clear hb C
  go_enter Tryz.func239, Tryz.ntmps239
  go_wp2_with fail
  refine HC.out.mono ?_
  rintro e w2 ⟨rfl, hB⟩
  have hlt := HB.out.lt
  have c0 : w2.cell? ⟨g, 0, none⟩ = some (.slice none 0 0) := (hB.cell (p := ⟨g, 0, none⟩) hlt).trans c0
  have HB2 := Lib.hid hB
  clear hB HB HC
  by_cases hz : h = 0
  · subst hz
    go_wp2
    go_ret3
    exact ⟨.inr ⟨fun j hj => by simp at hj, rfl⟩, HB2.out⟩
  · have hz1 : ((h : Int) == 0) = false := by rw [beq_eq_false_iff_ne]; omega
    clear hz
    go_wp2
    go_ret3
    exact ⟨.inr ⟨fun j hj => by simp at hj, rfl⟩, HB2.out⟩
set_option maxRecDepth 10000 in
theorem dictGet_any (g : Nat) (k : Value) (es : List (Nat × Value × Value)) (R : Nat → Bool) (w : World) (hl : Calls Tryz.prog 239 #[.pointer (some ⟨g, 0, none⟩), k] w (LookR w es R)) :
    Calls Tryz.prog 238 #[.pointer (some ⟨g, 0, none⟩), k] w (LookR w es R) := by
  have HL := Lib.hid hl
  clear hl
  go_enter Tryz.func238, Tryz.ntmps238
  go_wp2_with fail
  refine HL.out.mono ?_
  rintro e w2 ⟨h, hB⟩
  have HB := Lib.hid hB
  clear hB HL
  rcases h with ⟨j, en, h1, h2, rfl⟩ | ⟨h1, rfl⟩
  · have HH := Lib.hid (And.intro h1 h2)
    clear h1 h2
    go_wp2
    go_ret3
    exact ⟨.inl ⟨j, en, HH.out.1, HH.out.2, rfl⟩, HB.out⟩
  · have HH := Lib.hid h1
    clear h1
    go_wp2
    go_ret3
    exact ⟨.inr ⟨HH.out, rfl⟩, HB.out⟩
/-- Is a key there? -/
def HasR (w : World) (es : List (Nat × Value × Value)) (R : Nat → Bool) (e : Ending) (w' : World) : Prop :=
  ((∃ j en, es[j]? = some en ∧ R j = true ∧ e = .returned (.tuple #[.bool true, .nilIface])) ∨ ((∀ j, j < es.length → R j = false) ∧ e = .returned (.tuple #[.bool false, .nilIface]))) ∧ Below w.heap.size w w'
set_option maxRecDepth 10000 in
theorem setHas_any (g : Nat) (k : Value) (es : List (Nat × Value × Value)) (R : Nat → Bool) (w : World) (hl : Calls Tryz.prog 239 #[.pointer (some ⟨g, 0, none⟩), k] w (LookR w es R)) :
    Calls Tryz.prog 242 #[.pointer (some ⟨g, 0, none⟩), k] w (HasR w es R) := by
  have HL := Lib.hid hl
  clear hl
  go_enter Tryz.func242, Tryz.ntmps242
  go_wp2_with fail
  refine HL.out.mono ?_
  rintro e w2 ⟨h, hB⟩
  have HB := Lib.hid hB
  clear hB HL
  rcases h with ⟨j, en, h1, h2, rfl⟩ | ⟨h1, rfl⟩
  · have HH := Lib.hid (And.intro h1 h2)
    clear h1 h2
    go_wp2
    go_ret2
    exact ⟨.inl ⟨j, en, HH.out.1, HH.out.2, rfl⟩, HB.out⟩
  · have HH := Lib.hid h1
    clear h1
    go_wp2
    go_ret2
    exact ⟨.inr ⟨HH.out, rfl⟩, HB.out⟩
end Go.Proofs.YtkmeckimmfbkiaaGreatDoor
namespace Go.Proofs.YtkmeckimmfbkiaaGreatDoor
open Go Go.RowKit
/-- Where a walk along the entries stands. -/
def entP (g n j : Nat) : Value := if j < n then .pointer (some ⟨g, slotO j, none⟩) else .pointer none
/-- How far a pointer's place lies in its block. -/
def ptrOff : Value → Nat
  | .pointer (some a) => a.off
  | _ => 0
theorem ent_down (g n j : Nat) (_hj : j < n) (hn : n ≤ 8) : ptrOff (entP g n (j + 1)) < ptrOff (.pointer (some ⟨g, slotO j, none⟩)) := by
  unfold entP
  split
  · simp only [ptrOff]; unfold slotO; omega
  · simp only [ptrOff]; unfold slotO; omega
theorem tab_head (g : Nat) (es : List (Nat × Value × Value)) : (tabC g es)[44]? = some (entP g es.length 0) := by
  rw [tab_tail g es 3 (by decide)]
  unfold tailC entP slotO
  simp only [List.getElem?_cons_succ, List.getElem?_cons_zero]
  by_cases h : es.length = 0
  · rw [if_pos h, if_neg (by omega)]
  · rw [if_neg h, if_pos (by omega)]
theorem tab_ent (g : Nat) (es : List (Nat × Value × Value)) (j : Nat) (e : Nat × Value × Value) (h : es[j]? = some e) (hn : es.length ≤ 8) :
    (tabC g es)[slotO j + 1]? = some e.2.1 ∧ (tabC g es)[slotO j + 2]? = some e.2.2 ∧ (tabC g es)[slotO j + 3]? = some (entP g es.length (j + 1)) := by
  obtain ⟨hj, _⟩ := List.getElem?_eq_some_iff.1 h
  refine ⟨?_, ?_, ?_⟩
  · rw [tab_five g es j 1 (by omega) (by decide)]; unfold slotC; rw [h]; rfl
  · rw [tab_five g es j 2 (by omega) (by decide)]; unfold slotC; rw [h]; rfl
  · rw [tab_five g es j 3 (by omega) (by decide)]; unfold slotC; rw [h]; rfl
set_option maxRecDepth 10000 in
set_option maxHeartbeats 1000000 in
theorem setsEqual_any (g g' T T' : Nat) (es es' : List (Nat × Value × Value)) (R : Nat → Nat → Bool) (V : Bool) (w : World) (hb : Blk w g T (tabC g es)) (hb' : Blk w g' T' (tabC g' es')) (hn : es.length ≤ 8) (hn' : es'.length = es.length)
    (hH : ∀ (j : Nat) (e : Nat × Value × Value), es[j]? = some e → ∀ W, Below w.heap.size w W → Calls Tryz.prog 242 #[.pointer (some ⟨g', 0, none⟩), e.2.1] W (HasR W es' (R j)))
    (hF : ∀ j, j < es.length → (∀ i, i < es'.length → R j i = false) → V = false) (hT : (∀ j, j < es.length → ∃ i e', es'[i]? = some e' ∧ R j i = true) → V = true) :
    Calls Tryz.prog 247 #[.pointer (some ⟨g, 0, none⟩), .pointer (some ⟨g', 0, none⟩)] w (Eqd w V) := by
  obtain ⟨n, hne⟩ : ∃ n, n = es.length := ⟨_, rfl⟩
  have c42 : w.cell? ⟨g, 42, none⟩ = some (.int .u32 (n : Int)) := by rw [hne]; exact (hb.cell 42).trans (tab_len g es)
  have c42' : w.cell? ⟨g', 42, none⟩ = some (.int .u32 (n : Int)) := by rw [hne, ← hn']; exact (hb'.cell 42).trans (tab_len g' es')
  have c44 : w.cell? ⟨g, 44, none⟩ = some (entP g n 0) := by rw [hne]; exact (hb.cell 44).trans (tab_head g es)
  have hn32 : n < 4294967296 := by omega
  have HB := Lib.hid (And.intro hb (And.intro hH (And.intro hF (And.intro hT (And.intro hne hn)))))
  have hnn : ((n : Int) != (n : Int)) = false := by simp
  clear hb hb' hH hF hT hne hn hn'
  go_enter Tryz.func247, Tryz.ntmps247
  go_wp2_with fail
  refine (setLen_any g n hn32 w c42).mono ?_
  rintro e w1 ⟨rfl, rfl⟩
  go_wp2_with fail
  refine (setLen_any g' n hn32 w1 c42').mono ?_
  rintro e w2 ⟨rfl, rfl⟩
  generalize hP : entP g n 0 = P at c44
  have HP := Lib.hid hP
  clear hP
  go_wp2_with fail
  go_loopw [6] (fun vp wr => ∃ j : Nat, vp = entP g n j ∧ j ≤ n ∧ (∀ k, k < j → ∃ i e', es'[i]? = some e' ∧ R k i = true) ∧ Below w2.heap.size w2 wr) (fun vp _ => ptrOff vp)
  case atStart => exact ⟨0, HP.out.symm, by omega, fun k hk => by omega, Below.refl _ _⟩
  case round =>
    obtain ⟨j, rfl, hj, hall, hB⟩ := hrel
    obtain ⟨hb, hH, hF, hT, hne, hn⟩ := HB.out
    rcases Nat.lt_or_ge j n with hlt | hge
    · have eP : entP g n j = .pointer (some ⟨g, slotO j, none⟩) := if_pos hlt
      rw [eP]
      obtain ⟨en, hen⟩ : ∃ en, es[j]? = some en := ⟨_, List.getElem?_eq_getElem (by omega)⟩
      obtain ⟨t1, _, t3⟩ := tab_ent g es j en hen hn
      rw [← hne] at t3
      have HD := Lib.hid (ent_down g n j hlt (by omega))
      have HF := Lib.hid (hF j (by omega))
      have HC := Lib.hid (hH j en hen wr hB)
      generalize slotO j = o at *
      generalize hq : entP g n (j + 1) = q at *
      have hbg := hb.lt
      have k1 := (hB.cell (p := ⟨g, o + 1, none⟩) hbg).trans ((hb.cell (o + 1)).trans t1)
      have K3 := Lib.hid ((hB.cell (p := ⟨g, o + 3, none⟩) hbg).trans ((hb.cell (o + 3)).trans t3))
      have HQ := Lib.hid (And.intro hq (And.intro hall hB))
      have hbr : g < wr.heap.size := by have := hB.size; omega
      clear hb hH hF hT hne hn hall hB hen t1 t3 eP hq
      go_wp2_with fail
      refine HC.out.mono ?_
      rintro e w3 ⟨h, hB3⟩
      have k3 := (hB3.cell (p := ⟨g, o + 3, none⟩) hbr).trans K3.out
      have HB3 := Lib.hid (HQ.out.2.2.trans (hB3.mono HQ.out.2.2.size))
      clear hB3 k1
      rcases h with ⟨i, e', h1, h2, rfl⟩ | ⟨h1, rfl⟩
      · have HH := Lib.hid (And.intro h1 h2)
        clear h1 h2
        go_wp2
        exact ⟨⟨j + 1, HQ.out.1.symm, by omega, fun k hk => by
          rcases Nat.lt_or_ge k j with z | z
          · exact HQ.out.2.1 k z
          · have e : k = j := by omega
            rw [e]; exact ⟨i, e', HH.out.1, HH.out.2⟩, HB3.out⟩, HD.out⟩
      · have HV := Lib.hid (HF.out h1)
        clear h1
        go_wp2
        go_ret2
        exact ⟨by rw [HV.out]; rfl, HB3.out⟩
    · have eP : entP g n j = .pointer none := if_neg (by omega)
      rw [eP]
      have HV := Lib.hid (hT fun k hk => hall k (by omega))
      have HQ := Lib.hid hB
      clear hb hH hF hT hne hn hall hB eP
      go_wp2
      go_ret2
      exact ⟨by rw [HV.out]; rfl, HQ.out⟩
end Go.Proofs.YtkmeckimmfbkiaaGreatDoor
namespace Go.Proofs.YtkmeckimmfbkiaaGreatDoor
open Go Go.RowKit
set_option maxRecDepth 10000 in
set_option maxHeartbeats 1000000 in
theorem dictsEqual_any (g g' T T' : Nat) (es es' : List (Nat × Value × Value)) (R E : Nat → Nat → Bool) (V : Bool) (d : Int) (hd : IntKind.i64.wrap (d - 1) = d - 1) (w : World) (hb : Blk w g T (tabC g es)) (hb' : Blk w g' T' (tabC g' es')) (hn : es.length ≤ 8) (hn' : es'.length = es.length)
    (hH : ∀ (j : Nat) (e : Nat × Value × Value), es[j]? = some e → ∀ W, Below w.heap.size w W → Calls Tryz.prog 238 #[.pointer (some ⟨g', 0, none⟩), e.2.1] W (LookR W es' (R j)))
    (hE : ∀ (j i : Nat) (e e' : Nat × Value × Value), es[j]? = some e → es'[i]? = some e' → R j i = true → ∀ W, Below w.heap.size w W → Calls Tryz.prog 91 #[e.2.2, e'.2.2, .int .i64 (d - 1)] W (Eqd W (E j i)))
    (hF : ∀ j, j < es.length → (∀ i, i < es'.length → R j i = false) → V = false) (hG : ∀ j i, j < es.length → R j i = true → E j i = false → V = false) (hT : (∀ j, j < es.length → ∃ i e', es'[i]? = some e' ∧ R j i = true ∧ E j i = true) → V = true) :
    Calls Tryz.prog 237 #[.pointer (some ⟨g, 0, none⟩), .pointer (some ⟨g', 0, none⟩), .int .i64 d] w (Eqd w V) := by
  obtain ⟨n, hne⟩ : ∃ n, n = es.length := ⟨_, rfl⟩
  have c42 : w.cell? ⟨g, 42, none⟩ = some (.int .u32 (n : Int)) := by rw [hne]; exact (hb.cell 42).trans (tab_len g es)
  have c42' : w.cell? ⟨g', 42, none⟩ = some (.int .u32 (n : Int)) := by rw [hne, ← hn']; exact (hb'.cell 42).trans (tab_len g' es')
  have c44 : w.cell? ⟨g, 44, none⟩ = some (entP g n 0) := by rw [hne]; exact (hb.cell 44).trans (tab_head g es)
  have hn32 : n < 4294967296 := by omega
  have HB := Lib.hid (And.intro hb (And.intro hH (And.intro hF (And.intro hT (And.intro hne (And.intro hn (And.intro hE hG)))))))
  have hnn : ((n : Int) != (n : Int)) = false := by simp
  clear hb hb' hH hF hT hne hn hn' hE hG
  go_enter Tryz.func237, Tryz.ntmps237
  go_wp2_with fail
  refine (dictLen_any g n hn32 w c42).mono ?_
  rintro e w1 ⟨rfl, rfl⟩
  go_wp2_with fail
  refine (dictLen_any g' n hn32 w1 c42').mono ?_
  rintro e w2 ⟨rfl, rfl⟩
  generalize hP : entP g n 0 = P at c44
  have HP := Lib.hid hP
  clear hP
  go_wp2_with fail
  go_loopw [8] (fun vp wr => ∃ j : Nat, vp = entP g n j ∧ j ≤ n ∧ (∀ k, k < j → ∃ i e', es'[i]? = some e' ∧ R k i = true ∧ E k i = true) ∧ Below w2.heap.size w2 wr) (fun vp _ => ptrOff vp)
  case atStart => exact ⟨0, HP.out.symm, by omega, fun k hk => by omega, Below.refl _ _⟩
  case round =>
    obtain ⟨j, rfl, hj, hall, hB⟩ := hrel
    obtain ⟨hb, hH, hF, hT, hne, hn, hE, hG⟩ := HB.out
    rcases Nat.lt_or_ge j n with hlt | hge
    · have eP : entP g n j = .pointer (some ⟨g, slotO j, none⟩) := if_pos hlt
      rw [eP]
      obtain ⟨en, hen⟩ : ∃ en, es[j]? = some en := ⟨_, List.getElem?_eq_getElem (by omega)⟩
      obtain ⟨t1, t2, t3⟩ := tab_ent g es j en hen hn
      rw [← hne] at t3
      have HD := Lib.hid (ent_down g n j hlt (by omega))
      have HF := Lib.hid (hF j (by omega))
      have HE := Lib.hid (hE j)
      have HG := Lib.hid (fun i => hG j i (by omega))
      have HEN := Lib.hid hen
      have HC := Lib.hid (hH j en hen)
      generalize slotO j = o at *
      generalize hq : entP g n (j + 1) = q at *
      have hbg := hb.lt
      have k1 := (hB.cell (p := ⟨g, o + 1, none⟩) hbg).trans ((hb.cell (o + 1)).trans t1)
      have k2 := (hB.cell (p := ⟨g, o + 2, none⟩) hbg).trans ((hb.cell (o + 2)).trans t2)
      have K3 := Lib.hid ((hB.cell (p := ⟨g, o + 3, none⟩) hbg).trans ((hb.cell (o + 3)).trans t3))
      have HQ := Lib.hid (And.intro hq (And.intro hall hB))
      have hbr : g < wr.heap.size := by have := hB.size; omega
      clear hb hH hF hT hne hn hall hB hen t1 t2 t3 eP hq hE hG
      go_wp2_with fail
      go_quiet (fail)
      go_wp2_with fail
      refine (HC.out _ (HQ.out.2.2.drewN_ _)).mono ?_
      rintro e w3 ⟨h, hB3⟩
      replace hB3 : Below wr.heap.size wr w3 := ⟨hB3.os, hB3.tape, hB3.output, hB3.size, hB3.block⟩
      have k3 := (hB3.cell (p := ⟨g, o + 3, none⟩) hbr).trans K3.out
      have HB3 := Lib.hid (HQ.out.2.2.trans (hB3.mono HQ.out.2.2.size))
      clear hB3 k1 k2
      rcases h with ⟨i, e', h1, h2, rfl⟩ | ⟨h1, rfl⟩
      · have HC2 := Lib.hid (HE.out i en e' HEN.out h1 h2 w3 HB3.out)
        have HH := Lib.hid (And.intro h1 h2)
        clear h1 h2
        go_wp2_with fail
        refine HC2.out.mono ?_
        rintro e w4 ⟨rfl, hB4⟩
        have hbr3 : g < w3.heap.size := by have := HB3.out.size; omega
        have k3 := (hB4.cell (p := ⟨g, o + 3, none⟩) hbr3).trans k3
        have HB4 := Lib.hid (HB3.out.trans (hB4.mono HB3.out.size))
        clear hB4
        rcases hEE : E j i with _ | _
        · have HV := Lib.hid (HG.out i HH.out.2 hEE)
          clear hEE
          go_wp2
          go_ret2
          exact ⟨by rw [HV.out]; rfl, HB4.out⟩
        · have HEE := Lib.hid hEE
          clear hEE
          go_wp2
          exact ⟨⟨j + 1, HQ.out.1.symm, by omega, fun k hk => by
            rcases Nat.lt_or_ge k j with z | z
            · exact HQ.out.2.1 k z
            · have e : k = j := by omega
              rw [e]; exact ⟨i, e', HH.out.1, HH.out.2, HEE.out⟩, HB4.out⟩, HD.out⟩
      · have HV := Lib.hid (HF.out h1)
        clear h1
        go_wp2
        go_ret2
        exact ⟨by rw [HV.out]; rfl, HB3.out⟩
    · have eP : entP g n j = .pointer none := if_neg (by omega)
      rw [eP]
      have HV := Lib.hid (hT fun k hk => hall k (by omega))
      have HQ := Lib.hid hB
      clear hb hH hF hT hne hn hall hB eP hE hG
      go_wp2
      go_ret2
      exact ⟨by rw [HV.out]; rfl, HQ.out⟩
end Go.Proofs.YtkmeckimmfbkiaaGreatDoor
