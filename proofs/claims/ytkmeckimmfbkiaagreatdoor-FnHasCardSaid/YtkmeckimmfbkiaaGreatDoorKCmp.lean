/- starlark.Equal on every value. Conditions: the package variables karatsubaThreshold and CompareLimit hold 40 and 10. -/
import Derived.Test.YtkmeckimmfbkiaaGreatDoorKLook
import Derived.Test.YtkmeckimmfbkiaaGreatDoorKVal
import Derived.Test.YtkmeckimmfbkiaaGreatDoorKEq
import Derived.Test.YtkmeckimmfbkiaaGreatDoorJSEq
import Derived.Test.YtkmeckimmfbkiaaGreatDoorKSEq
namespace Go.Proofs.YtkmeckimmfbkiaaGreatDoor
open Go Go.RowKit
/-- Does the j-th key here equal the i-th there? -/
def RD (step : Nat) (l r : List S) (j i : Nat) : Bool := match l[step * j]?, r[step * i]? with
  | some a, some b => eqS a b
  | _, _ => false
/-- And the values beside them? -/
def ED (l r : List S) (j i : Nat) : Bool := match l[2 * j + 1]?, r[2 * i + 1]? with
  | some a, some b => eqV a b
  | _, _ => false
theorem RD_true {step : Nat} {l r : List S} {j i : Nat} (h : RD step l r j i = true) : ∃ a b, l[step * j]? = some a ∧ r[step * i]? = some b ∧ eqS a b = true := by
  unfold RD at h
  split at h
  · rename_i a b h1 h2
    exact ⟨a, b, h1, h2, h⟩
  · cases h
theorem ED_true {l r : List S} {j i : Nat} (h : ED l r j i = true) : ∃ a b, l[2 * j + 1]? = some a ∧ r[2 * i + 1]? = some b ∧ eqV a b = true := by
  unfold ED at h
  split at h
  · rename_i a b h1 h2
    exact ⟨a, b, h1, h2, h⟩
  · cases h
theorem RD_is {step : Nat} {l r : List S} {j i : Nat} {a b : S} (h1 : l[step * j]? = some a) (h2 : r[step * i]? = some b) : RD step l r j i = eqS a b := by
  unfold RD
  rw [h1, h2]
theorem ED_is {l r : List S} {j i : Nat} {a b : S} (h1 : l[2 * j + 1]? = some a) (h2 : r[2 * i + 1]? = some b) : ED l r j i = eqV a b := by
  unfold ED
  rw [h1, h2]
theorem dict_no {l r : List S} {j n : Nat} (he : l.length % 2 = 0) (hj : 2 * j < l.length) (hr : r.length = 2 * n) (h : ∀ i, i < n → RD 2 l r j i = false) : subD l r = false := by
  rcases hs : subD l r with _ | _
  · rfl
  · exfalso
    obtain ⟨k, hk⟩ : ∃ k, l[2 * j]? = some k := ⟨_, List.getElem?_eq_getElem hj⟩
    obtain ⟨v, hv⟩ : ∃ v, l[2 * j + 1]? = some v := ⟨_, List.getElem?_eq_getElem (by omega)⟩
    obtain ⟨v', h1, _⟩ := (subD_iff l r).1 hs j k v hk hv
    obtain ⟨i, k', q1, _, q3⟩ := look_at h1
    have hi : 2 * i < r.length := (List.getElem?_eq_some_iff.1 q1).1
    have h2 := h i (by omega)
    rw [RD_is hk q1, q3] at h2
    cases h2
theorem dict_bad {l r : List S} {j i : Nat} (he : l.length % 2 = 0) (hr : r.length % 2 = 0) (dr : distK 2 r) (h : RD 2 l r j i = true) (h' : ED l r j i = false) : subD l r = false := by
  rcases hs : subD l r with _ | _
  · rfl
  · exfalso
    obtain ⟨k, k', hk, hk', e⟩ := RD_true h
    have hj : 2 * j < l.length := (List.getElem?_eq_some_iff.1 hk).1
    have hi : 2 * i < r.length := (List.getElem?_eq_some_iff.1 hk').1
    obtain ⟨v, hv⟩ : ∃ v, l[2 * j + 1]? = some v := ⟨_, List.getElem?_eq_getElem (by omega)⟩
    obtain ⟨v', hv'⟩ : ∃ v', r[2 * i + 1]? = some v' := ⟨_, List.getElem?_eq_getElem (by omega)⟩
    obtain ⟨q, h1, h2⟩ := (subD_iff l r).1 hs j k v hk hv
    rw [look_some dr hk' hv' e] at h1
    injection h1 with h1
    subst h1
    rw [ED_is hv hv', h2] at h'
    cases h'
theorem dict_all {l r : List S} {n : Nat} (hl : l.length = 2 * n) (dr : distK 2 r) (h : ∀ j, j < n → ∃ i, RD 2 l r j i = true ∧ ED l r j i = true) : subD l r = true := by
  refine (subD_iff l r).2 fun j k v hk hv => ?_
  have hj : 2 * j < l.length := (List.getElem?_eq_some_iff.1 hk).1
  obtain ⟨i, h1, h2⟩ := h j (by omega)
  obtain ⟨a, k', e1, hk', e⟩ := RD_true h1
  obtain ⟨b, v', e2, hv', e'⟩ := ED_true h2
  rw [hk] at e1
  rw [hv] at e2
  injection e1 with e1
  injection e2 with e2
  subst e1 e2
  exact ⟨v', look_some dr hk' hv' e, e'⟩
theorem set_no {l r : List S} {j : Nat} (hj : j < l.length) (h : ∀ i, i < r.length → RD 1 l r j i = false) : (l.all fun x => r.any fun y => eqS x y) = false := by
  rcases hs : (l.all fun x => r.any fun y => eqS x y) with _ | _
  · rfl
  · exfalso
    have hk := List.getElem?_eq_getElem hj
    have h1 := (List.all_eq_true.1 hs) l[j] (List.getElem_mem hj)
    obtain ⟨y, hy, e⟩ := List.any_eq_true.1 h1
    obtain ⟨i, hi, rfl⟩ := List.getElem_of_mem hy
    have h2 := h i hi
    rw [RD_is (by rw [Nat.one_mul]; exact hk) (by rw [Nat.one_mul]; exact List.getElem?_eq_getElem hi), e] at h2
    cases h2
theorem set_all {l r : List S} (h : ∀ j, j < l.length → ∃ i, RD 1 l r j i = true) : (l.all fun x => r.any fun y => eqS x y) = true := by
  refine List.all_eq_true.2 fun x hx => ?_
  obtain ⟨j, hj, rfl⟩ := List.getElem_of_mem hx
  obtain ⟨i, h1⟩ := h j hj
  obtain ⟨a, b, e1, e2, e⟩ := RD_true h1
  rw [Nat.one_mul, List.getElem?_eq_getElem hj] at e1
  rw [Nat.one_mul] at e2
  injection e1 with e1
  subst e1
  exact List.any_eq_true.2 ⟨b, List.mem_of_getElem? e2, e⟩
/-- A key looked up in a table whose entries are told. -/
theorem lookV_any (step g T : Nat) (es : List (Nat × Value × Value)) (a : S) (u : Value) (r : List S) (R : Nat → Bool) (w : World) (hb : Blk w g T (tabC g es)) (hn : es.length ≤ 8) (ha : keyS a = true) (la : lev a ≤ 10) (fa : fitS a) (hu : SAt w w.heap.size a u) (hkt : KT w) (hkl : KL w)
    (hE : ∀ (j : Nat) (e : Nat × Value × Value), es[j]? = some e → ∃ b, r[step * j]? = some b ∧ e.1 = hN (hK b) ∧ keyS b = true ∧ fitS b ∧ SAt w w.heap.size b e.2.1)
    (hR : ∀ (j : Nat) (b : S), r[step * j]? = some b → R j = eqS a b) :
    Calls Tryz.prog 239 #[.pointer (some ⟨g, 0, none⟩), u] w (LookR w es R) := by
  have hm : HashMV ((hK a : Nat) : Int) w u := by rw [hK_cast]; exact hashMV_any a u w hu ha
  rcases Nat.eq_zero_or_pos es.length with h0 | h0
  · have e : es = [] := List.length_eq_zero_iff.1 h0
    subst e
    exact lookup_none _ g T u R w hb hm
  · refine lookup_any (hK a) (hK_lt a) g T es u R w hb h0 hn hm fun j e he => ?_
    obtain ⟨b, h1, h2, kb, fb, hv⟩ := hE j e he
    refine ⟨by rw [h2]; exact hN_le _, by rw [h2]; exact hN_lt (hK_lt b), fun _ W hW => ?_, fun hne => ?_⟩
    · rw [hR j b h1]
      exact equal_any a b u e.2.1 W la fa fb ha kb (hkt.below hW) (hkl.below hW) ((hu.below hW).more hW.size) ((hv.below hW).more hW.size)
    · rw [hR j b h1]
      rcases hs : eqS a b with _ | _
      · rfl
      · exact absurd (by rw [h2, hK_eq hs]) hne
end Go.Proofs.YtkmeckimmfbkiaaGreatDoor
namespace Go.Proofs.YtkmeckimmfbkiaaGreatDoor
open Go Go.RowKit
set_option maxRecDepth 10000 in
theorem listCmp_any (g g' : Nat) (A D : Option Addr) (n m c1 c2 d : Nat) (T : Bool) (w : World) (k1 : w.cell? ⟨g, 0, none⟩ = some (.slice A n c1)) (k2 : w.cell? ⟨g', 0, none⟩ = some (.slice D m c2))
    (h : ∀ W, Below w.heap.size w W → Calls Tryz.prog 223 #[.int .i8 37, .slice A n c1, .slice D m c2, .int .i64 d] W (Eqd W T)) :
    Calls Tryz.prog 216 #[.pointer (some ⟨g, 0, none⟩), .int .i8 37, .iface 71 (.pointer (some ⟨g', 0, none⟩)), .int .i64 d] w (Eqd w T) := by
  have HT : ∀ w, (Instr.typeAssert (.iface 71 (.pointer (some ⟨g', 0, none⟩))) 43 71 false).run Tryz.prog w = .ok (.pointer (some ⟨g', 0, none⟩)) w := fun w => by kernel_rfl
  have H := Lib.hid h
  clear h
  go_enter Tryz.func216, Tryz.ntmps216
  have HK := Lib.hid (And.intro (World.block_lt_of_cell? w _ k1) (World.block_lt_of_cell? w _ k2))
  have K1 := Lib.hid k1
  have K2 := Lib.hid k2
  go_wp2_with fail
  go_region_held3 (fun w' => w'.cell? ⟨g, 0, none⟩ = some (.slice A n c1) ∧ w'.cell? ⟨g', 0, none⟩ = some (.slice D m c2)) (exact ⟨k1, k2⟩)
    ((go_at_call 223; refine (H.out w.drew (Below.refl _ _).drew).mono ?_
      rintro e w5 ⟨rfl, hB5⟩
      have hB5 : Below w.heap.size w w5 := ⟨hB5.os, hB5.tape, hB5.output, hB5.size, hB5.block⟩
      have k1 := (hB5.cell (p := ⟨g, 0, none⟩) HK.out.1).trans K1.out
      have k2 := (hB5.cell (p := ⟨g', 0, none⟩) HK.out.2).trans K2.out
      have HB5 := Lib.hid hB5
      clear hB5))
  go_wp2
  go_ret2
  exact ⟨rfl, HB5.out⟩
set_option maxRecDepth 10000 in
theorem dictCmp_any (g g' d : Nat) (T : Bool) (w : World)
    (h : ∀ W, Below w.heap.size w W → Calls Tryz.prog 237 #[.pointer (some ⟨g, 0, none⟩), .pointer (some ⟨g', 0, none⟩), .int .i64 d] W (Eqd W T)) :
    Calls Tryz.prog 231 #[.pointer (some ⟨g, 0, none⟩), .int .i8 37, .iface 74 (.pointer (some ⟨g', 0, none⟩)), .int .i64 d] w (Eqd w T) := by
  have HT : ∀ w, (Instr.typeAssert (.iface 74 (.pointer (some ⟨g', 0, none⟩))) 43 74 false).run Tryz.prog w = .ok (.pointer (some ⟨g', 0, none⟩)) w := fun w => by kernel_rfl
  have H := Lib.hid h
  clear h
  go_enter Tryz.func231, Tryz.ntmps231
  go_wp2_with fail
  refine (H.out w (Below.refl _ _)).mono ?_
  rintro e w1 ⟨rfl, hB⟩
  have HB := Lib.hid hB
  clear hB H
  go_wp2
  go_ret2
  exact ⟨rfl, HB.out⟩
set_option maxRecDepth 10000 in
theorem setCmp_any (g g' d : Nat) (T : Bool) (w : World)
    (h : ∀ W, Below w.heap.size w W → Calls Tryz.prog 247 #[.pointer (some ⟨g, 0, none⟩), .pointer (some ⟨g', 0, none⟩)] W (Eqd W T)) :
    Calls Tryz.prog 240 #[.pointer (some ⟨g, 0, none⟩), .int .i8 37, .iface 77 (.pointer (some ⟨g', 0, none⟩)), .int .i64 d] w (Eqd w T) := by
  have HT : ∀ w, (Instr.typeAssert (.iface 77 (.pointer (some ⟨g', 0, none⟩))) 43 77 false).run Tryz.prog w = .ok (.pointer (some ⟨g', 0, none⟩)) w := fun w => by kernel_rfl
  have H := Lib.hid h
  clear h
  go_enter Tryz.func240, Tryz.ntmps240
  go_wp2_with fail
  refine (H.out w (Below.refl _ _)).mono ?_
  rintro e w1 ⟨rfl, hB⟩
  have HB := Lib.hid hB
  clear hB H
  go_wp2
  go_ret2
  exact ⟨rfl, HB.out⟩
set_option maxRecDepth 10000 in
theorem dictsEqual_ne (g g' T T' : Nat) (es es' : List (Nat × Value × Value)) (d : Int) (w : World) (hb : Blk w g T (tabC g es)) (hb' : Blk w g' T' (tabC g' es')) (hn : es.length ≤ 8) (hn' : es'.length ≤ 8) (hne : es.length ≠ es'.length) :
    Calls Tryz.prog 237 #[.pointer (some ⟨g, 0, none⟩), .pointer (some ⟨g', 0, none⟩), .int .i64 d] w (Eqd w false) := by
  have c42 : w.cell? ⟨g, 42, none⟩ = some (.int .u32 (es.length : Int)) := (hb.cell 42).trans (tab_len g es)
  have c42' : w.cell? ⟨g', 42, none⟩ = some (.int .u32 (es'.length : Int)) := (hb'.cell 42).trans (tab_len g' es')
  have hnn : ((es.length : Int) != (es'.length : Int)) = true := by rw [bne_iff_ne]; omega
  have HN := Lib.hid (And.intro hn hn')
  clear hb hb' hn hn' hne
  generalize es.length = n at *
  generalize es'.length = m at *
  go_enter Tryz.func237, Tryz.ntmps237
  go_wp2_with fail
  refine (dictLen_any g n (by have := HN.out; omega) w c42).mono ?_
  rintro e w1 ⟨rfl, rfl⟩
  go_wp2_with fail
  refine (dictLen_any g' m (by have := HN.out; omega) w1 c42').mono ?_
  rintro e w2 ⟨rfl, rfl⟩
  go_wp2
  go_ret2
  exact ⟨rfl, Below.refl _ _⟩
set_option maxRecDepth 10000 in
theorem setsEqual_ne (g g' T T' : Nat) (es es' : List (Nat × Value × Value)) (w : World) (hb : Blk w g T (tabC g es)) (hb' : Blk w g' T' (tabC g' es')) (hn : es.length ≤ 8) (hn' : es'.length ≤ 8) (hne : es.length ≠ es'.length) :
    Calls Tryz.prog 247 #[.pointer (some ⟨g, 0, none⟩), .pointer (some ⟨g', 0, none⟩)] w (Eqd w false) := by
  have c42 : w.cell? ⟨g, 42, none⟩ = some (.int .u32 (es.length : Int)) := (hb.cell 42).trans (tab_len g es)
  have c42' : w.cell? ⟨g', 42, none⟩ = some (.int .u32 (es'.length : Int)) := (hb'.cell 42).trans (tab_len g' es')
  have hnn : ((es.length : Int) != (es'.length : Int)) = true := by rw [bne_iff_ne]; omega
  have HN := Lib.hid (And.intro hn hn')
  clear hb hb' hn hn' hne
  generalize es.length = n at *
  generalize es'.length = m at *
  go_enter Tryz.func247, Tryz.ntmps247
  go_wp2_with fail
  refine (setLen_any g n (by have := HN.out; omega) w c42).mono ?_
  rintro e w1 ⟨rfl, rfl⟩
  go_wp2_with fail
  refine (setLen_any g' m (by have := HN.out; omega) w1 c42').mono ?_
  rintro e w2 ⟨rfl, rfl⟩
  go_wp2
  go_ret2
  exact ⟨rfl, Below.refl _ _⟩
set_option maxRecDepth 10000 in
theorem type_list (v : Value) (w : World) : Calls Tryz.prog 222 #[v] w fun e w' => e = .returned (.string ⟨#[108, 105, 115, 116]⟩) ∧ Below w.heap.size w w' := by
  go_enter Tryz.func222, Tryz.ntmps222
  go_wp2
  go_ret
  exact ⟨rfl, Below.refl _ _⟩
set_option maxRecDepth 10000 in
theorem type_dict (v : Value) (w : World) : Calls Tryz.prog 236 #[v] w fun e w' => e = .returned (.string ⟨#[100, 105, 99, 116]⟩) ∧ Below w.heap.size w w' := by
  go_enter Tryz.func236, Tryz.ntmps236
  go_wp2
  go_ret
  exact ⟨rfl, Below.refl _ _⟩
set_option maxRecDepth 10000 in
theorem type_set (v : Value) (w : World) : Calls Tryz.prog 246 #[v] w fun e w' => e = .returned (.string ⟨#[115, 101, 116]⟩) ∧ Below w.heap.size w w' := by
  go_enter Tryz.func246, Tryz.ntmps246
  go_wp2
  go_ret
  exact ⟨rfl, Below.refl _ _⟩
theorem hasM_list (v : Value) : HasM (.iface 71 v) "Type" 222 v := ⟨_, _, rfl, fun w => by kernel_rfl, fun args w => by kernel_rfl⟩
theorem hasM_dict (v : Value) : HasM (.iface 74 v) "Type" 236 v := ⟨_, _, rfl, fun w => by kernel_rfl, fun args w => by kernel_rfl⟩
theorem hasM_set (v : Value) : HasM (.iface 77 v) "Type" 246 v := ⟨_, _, rfl, fun w => by kernel_rfl, fun args w => by kernel_rfl⟩
theorem cmpM_list (v : Value) : HasM (.iface 71 v) "CompareSameType" 216 v := ⟨_, _, rfl, fun w => by kernel_rfl, fun args w => by kernel_rfl⟩
theorem cmpM_dict (v : Value) : HasM (.iface 74 v) "CompareSameType" 231 v := ⟨_, _, rfl, fun w => by kernel_rfl, fun args w => by kernel_rfl⟩
theorem cmpM_set (v : Value) : HasM (.iface 77 v) "CompareSameType" 240 v := ⟨_, _, rfl, fun w => by kernel_rfl, fun args w => by kernel_rfl⟩
theorem isCmp_list (v : Value) (w : World) : (Instr.typeAssert (.iface 71 v) 43 179 true).run Tryz.prog w = .ok (.tuple #[.iface 71 v, .bool true]) w := run_typeAssert_hasB Tryz.underlying179 (by kernel_rfl) v _ w
theorem isCmp_dict (v : Value) (w : World) : (Instr.typeAssert (.iface 74 v) 43 179 true).run Tryz.prog w = .ok (.tuple #[.iface 74 v, .bool true]) w := run_typeAssert_hasB Tryz.underlying179 (by kernel_rfl) v _ w
theorem isCmp_set (v : Value) (w : World) : (Instr.typeAssert (.iface 77 v) 43 179 true).run Tryz.prog w = .ok (.tuple #[.iface 77 v, .bool true]) w := run_typeAssert_hasB Tryz.underlying179 (by kernel_rfl) v _ w
/-- The name of a value's type. -/
def nameN : S → ByteArray
  | .list _ => ⟨#[108, 105, 115, 116]⟩
  | .dict _ => ⟨#[100, 105, 99, 116]⟩
  | .set _ => ⟨#[115, 101, 116]⟩
  | s => tyName (kty s)
theorem nameN_eq (s t : S) : ((nameN s).toList == (nameN t).toList) = decide (kindN s = kindN t) := by cases s <;> cases t <;> kernel_rfl
theorem typeV_of {w : World} {B : Nat} (s : S) (u : Value) (h : SAt w B s u) : ∃ f r, HasM u "Type" f r ∧ ∀ W, Calls Tryz.prog f #[r] W fun e w' => e = .returned (.string (nameN s)) ∧ Below W.heap.size W w' := by
  cases s
  case list l => simp only [SAt] at h; obtain ⟨g, A, c, rfl, _⟩ := h; exact ⟨_, _, hasM_list _, fun W => type_list _ W⟩
  case dict l => simp only [SAt] at h; obtain ⟨g, rfl, _⟩ := h; exact ⟨_, _, hasM_dict _, fun W => type_dict _ W⟩
  case set l => simp only [SAt] at h; obtain ⟨g, rfl, _⟩ := h; exact ⟨_, _, hasM_set _, fun W => type_set _ W⟩
  case tuple l => simp only [SAt] at h; obtain ⟨A, c, xs, rfl, _⟩ := h; exact ⟨_, _, hasM_tuple _, fun W => type_tuple _ W⟩
  all_goals exact type_of _ u (h.ty (by simp [keyS]))
theorem sameV_any {w' : World} {B : Nat} (s t : S) (u v : Value) (hu : SAt w' B s u) (hv : SAt w' B t v) (w : World) : SameT w u v (decide (kindN s = kindN t)) := by
  obtain ⟨f1, r1, m1, c1⟩ := typeV_of s u hu
  obtain ⟨f2, r2, m2, c2⟩ := typeV_of t v hv
  have h := sameType_gen u v f1 f2 r1 r2 _ _ m1 m2 c1 c2 w
  rw [nameN_eq] at h
  exact h
set_option maxRecDepth 10000 in
theorem notIntV {w : World} {B : Nat} (s : S) (hs : kindN s ≠ 2) (u : Value) (h : SAt w B s u) : ∀ w, (Instr.typeAssert u 43 94 true).run Tryz.prog w = .ok (.tuple #[.agg #[.int .i64 0, .pointer none], .bool false]) w := by
  cases s
  case int => exact absurd rfl hs
  case list l => simp only [SAt] at h; obtain ⟨g, A, c, rfl, _⟩ := h; exact fun w => by kernel_rfl
  case dict l => simp only [SAt] at h; obtain ⟨g, rfl, _⟩ := h; exact fun w => by kernel_rfl
  case set l => simp only [SAt] at h; obtain ⟨g, rfl, _⟩ := h; exact fun w => by kernel_rfl
  case tuple l => simp only [SAt] at h; obtain ⟨A, c, xs, rfl, _⟩ := h; exact fun w => by kernel_rfl
  all_goals exact notInt _ (by simp [kty]) u (h.ty (by simp [keyS]))
set_option maxRecDepth 10000 in
theorem notFloatV {w : World} {B : Nat} (s : S) (hs : kindN s ≠ 3) (u : Value) (h : SAt w B s u) : ∀ w, (Instr.typeAssert u 43 96 true).run Tryz.prog w = .ok (.tuple #[.float .f64 0, .bool false]) w := by
  cases s
  case float => exact absurd rfl hs
  case list l => simp only [SAt] at h; obtain ⟨g, A, c, rfl, _⟩ := h; exact fun w => by kernel_rfl
  case dict l => simp only [SAt] at h; obtain ⟨g, rfl, _⟩ := h; exact fun w => by kernel_rfl
  case set l => simp only [SAt] at h; obtain ⟨g, rfl, _⟩ := h; exact fun w => by kernel_rfl
  case tuple l => simp only [SAt] at h; obtain ⟨A, c, xs, rfl, _⟩ := h; exact fun w => by kernel_rfl
  all_goals exact notFloat _ (by simp [kty]) u (h.ty (by simp [keyS]))
end Go.Proofs.YtkmeckimmfbkiaaGreatDoor
namespace Go.Proofs.YtkmeckimmfbkiaaGreatDoor
open Go Go.RowKit
/-- Equal at a depth, on every value of so many levels. -/
def EqAt (d : Nat) : Prop := ∀ (s t : S) (u v : Value) (w : World), lev s ≤ d → good s → good t → KT w → KL w → DAt w w.heap.size s u → DAt w w.heap.size t v → Calls Tryz.prog 91 #[u, v, .int .i64 d] w (Eqd w (eqV s t))
theorem sliceV_any (d : Nat) (hd : d + 1 ≤ 10) (ih : EqAt d) (l r : List S) (A D : Option Addr) (c1 c2 : Nat) (xs ys : List Value) (w : World) (hl : levL l ≤ d) (gl : goodL l) (gr : goodL r) (hkt : KT w) (hkl : KL w) (hl1 : l.length ≤ 16) (hl2 : r.length ≤ 16) (hr1 : Reads w w.heap.size 1 A l.length xs) (hr2 : Reads w w.heap.size 1 D r.length ys) (he1 : DElems w w.heap.size l xs) (he2 : DElems w w.heap.size r ys) :
    Calls Tryz.prog 223 #[.int .i8 37, .slice A l.length c1, .slice D r.length c2, .int .i64 ((d + 1 : Nat) : Int)] w (Eqd w (eqVL l r)) := by
  refine sliceCompare_any A D l.length r.length c1 c2 (d + 1) xs ys (fun k => match l[k]?, r[k]? with | some a, some b => eqV a b | _, _ => true) _ w hl1 hl2 hd hr1 hr2 ?_ ?_ ?_ ?_
  · exact fun hne => eqVL_of_ne l r hne
  · intro k hkl hR
    by_cases hlr : l.length = r.length
    · have ha := List.getElem?_eq_getElem hkl
      have hb := List.getElem?_eq_getElem (show k < r.length by omega)
      simp only [ha, hb] at hR
      exact eqVL_take l r k _ _ ha hb hR
    · exact eqVL_of_ne l r hlr
  · intro hlr hall
    refine eqVL_all l r hlr fun k a b ha hb => ?_
    have h := hall k (by have := List.getElem?_eq_some_iff.1 ha; obtain ⟨h, _⟩ := this; exact h)
    simp only [ha, hb] at h
    exact h
  · intro k u v hu hv W hB
    have hkl1 : k < l.length := by
      have h1 := (DElems.brief l xs he1).len
      obtain ⟨h, _⟩ := List.getElem?_eq_some_iff.1 hu
      omega
    have hkr1 : k < r.length := by
      have h1 := (DElems.brief r ys he2).len
      obtain ⟨h, _⟩ := List.getElem?_eq_some_iff.1 hv
      omega
    have ha := List.getElem?_eq_getElem hkl1
    have hb := List.getElem?_eq_getElem hkr1
    obtain ⟨u', hu', su⟩ := he1.get l xs k _ ha
    obtain ⟨v', hv', sv⟩ := he2.get r ys k _ hb
    have eu : u' = u := by rw [hu] at hu'; injection hu' with h; exact h.symm
    have ev : v' = v := by rw [hv] at hv'; injection hv' with h; exact h.symm
    subst eu ev
    have e1 : (((d + 1 : Nat) : Int) - 1) = (d : Int) := by omega
    rw [e1]
    simp only [ha, hb]
    have hlv := lev_get l k _ ha
    exact ih _ _ _ _ W (by omega) (goodL_get l k _ ha gl) (goodL_get r k _ hb gr) (hkt.below hB) (hkl.below hB) ((su.below hB).more hB.size) ((sv.below hB).more hB.size)
theorem dictsV_any (d : Nat) (hd : d + 1 ≤ 10) (ih : EqAt d) (l r : List S) (g g' T T' : Nat) (es es' : List (Nat × Value × Value)) (xs ys : List Value) (w : World) (hl : levL l ≤ d) (gs : good (.dict l)) (gt : good (.dict r)) (hkt : KT w) (hkl : KL w)
    (hb : Blk w g T (tabC g es)) (hb' : Blk w g' T' (tabC g' es')) (hn : 2 * es.length = l.length) (hn' : 2 * es'.length = r.length) (hes : EsD (hsOf 2 l) xs es) (hes' : EsD (hsOf 2 r) ys es') (he1 : DElems w w.heap.size l xs) (he2 : DElems w w.heap.size r ys) (hlen : l.length = r.length) :
    Calls Tryz.prog 237 #[.pointer (some ⟨g, 0, none⟩), .pointer (some ⟨g', 0, none⟩), .int .i64 ((d + 1 : Nat) : Int)] w (Eqd w (subD l r)) := by
  obtain ⟨q1, q2, kl, dl, gl⟩ := gs
  obtain ⟨z1, z2, kr, dr, gr⟩ := gt
  have e1 : (((d + 1 : Nat) : Int) - 1) = (d : Int) := by omega
  refine dictsEqual_any g g' T T' es es' (RD 2 l r) (ED l r) _ ((d + 1 : Nat) : Int) (by rw [IntKind.wrap_i64]; omega) w hb hb' (by omega) (by omega) ?_ ?_ ?_ ?_ ?_
  · intro j e he W hW
    have hj : j < es.length := (List.getElem?_eq_some_iff.1 he).1
    obtain ⟨_, h2, _⟩ := hes j e he
    obtain ⟨a, ha⟩ : ∃ a, l[2 * j]? = some a := ⟨_, List.getElem?_eq_getElem (by omega)⟩
    obtain ⟨u, hu, su⟩ := he1.get l xs _ a ha
    rw [h2] at hu
    injection hu with hu
    subst hu
    have hla := lev_get l _ a ha
    refine dictGet_any g' e.2.1 es' _ W (lookV_any 2 g' T' es' a e.2.1 r _ W (hb'.below hW hb'.lt) (by omega) (kl j a ha) (by omega) (good_fit a (goodL_get l _ a ha gl)) (((DAt.brief a _ su).below hW).more hW.size) (hkt.below hW) (hkl.below hW) ?_ fun i b hb => RD_is ha hb)
    intro i e' he'
    have hi : i < es'.length := (List.getElem?_eq_some_iff.1 he').1
    obtain ⟨b, hb⟩ : ∃ b, r[2 * i]? = some b := ⟨_, List.getElem?_eq_getElem (by omega)⟩
    obtain ⟨y1, y2, _⟩ := hes' i e' he'
    obtain ⟨v, hv, sv⟩ := he2.get r ys _ b hb
    rw [y2] at hv
    injection hv with hv
    subst hv
    exact ⟨b, hb, by rw [y1, hsOf_some hb], kr i b hb, good_fit b (goodL_get r _ b hb gr), ((DAt.brief b _ sv).below hW).more hW.size⟩
  · intro j i e e' he he' hR W hW
    have hj : j < es.length := (List.getElem?_eq_some_iff.1 he).1
    have hi : i < es'.length := (List.getElem?_eq_some_iff.1 he').1
    obtain ⟨_, _, h3⟩ := hes j e he
    obtain ⟨_, _, y3⟩ := hes' i e' he'
    obtain ⟨a, ha⟩ : ∃ a, l[2 * j + 1]? = some a := ⟨_, List.getElem?_eq_getElem (by omega)⟩
    obtain ⟨b, hb⟩ : ∃ b, r[2 * i + 1]? = some b := ⟨_, List.getElem?_eq_getElem (by omega)⟩
    obtain ⟨u, hu, su⟩ := he1.get l xs _ a ha
    rw [h3] at hu
    injection hu with hu
    subst hu
    obtain ⟨v, hv, sv⟩ := he2.get r ys _ b hb
    rw [y3] at hv
    injection hv with hv
    subst hv
    have hla := lev_get l _ a ha
    rw [ED_is ha hb, e1]
    exact ih a b _ _ W (by omega) (goodL_get l _ a ha gl) (goodL_get r _ b hb gr) (hkt.below hW) (hkl.below hW) ((su.below hW).more hW.size) ((sv.below hW).more hW.size)
  · intro j hj h
    exact dict_no q2 (by omega) hn'.symm h
  · intro j i hj h h'
    exact dict_bad q2 z2 dr h h'
  · intro h
    refine dict_all hn.symm dr fun j hj => ?_
    obtain ⟨i, e', _, h1, h2⟩ := h j hj
    exact ⟨i, h1, h2⟩
theorem setsV_any (l r : List S) (g g' T T' : Nat) (es es' : List (Nat × Value × Value)) (xs ys : List Value) (w : World) (hl : levL l ≤ 10) (gs : good (.set l)) (gt : good (.set r)) (hkt : KT w) (hkl : KL w)
    (hb : Blk w g T (tabC g es)) (hb' : Blk w g' T' (tabC g' es')) (hn : es.length = l.length) (hn' : es'.length = r.length) (hes : EsS (hsOf 1 l) xs es) (hes' : EsS (hsOf 1 r) ys es') (he1 : DElems w w.heap.size l xs) (he2 : DElems w w.heap.size r ys) (hlen : l.length = r.length) :
    Calls Tryz.prog 247 #[.pointer (some ⟨g, 0, none⟩), .pointer (some ⟨g', 0, none⟩)] w (Eqd w (l.all fun x => r.any fun y => eqS x y)) := by
  obtain ⟨q1, kl, dl, gl⟩ := gs
  obtain ⟨z1, kr, dr, gr⟩ := gt
  refine setsEqual_any g g' T T' es es' (RD 1 l r) _ w hb hb' (by omega) (by omega) ?_ ?_ ?_
  · intro j e he W hW
    have hj : j < es.length := (List.getElem?_eq_some_iff.1 he).1
    obtain ⟨_, h2, _⟩ := hes j e he
    obtain ⟨a, ha⟩ : ∃ a, l[1 * j]? = some a := ⟨_, List.getElem?_eq_getElem (by omega)⟩
    obtain ⟨u, hu, su⟩ := he1.get l xs _ a ha
    rw [h2] at hu
    injection hu with hu
    subst hu
    have hla := lev_get l _ a ha
    refine setHas_any g' e.2.1 es' _ W (lookV_any 1 g' T' es' a e.2.1 r _ W (hb'.below hW hb'.lt) (by omega) (kl j a ha) (by omega) (good_fit a (goodL_get l _ a ha gl)) (((DAt.brief a _ su).below hW).more hW.size) (hkt.below hW) (hkl.below hW) ?_ fun i b hb => RD_is ha hb)
    intro i e' he'
    have hi : i < es'.length := (List.getElem?_eq_some_iff.1 he').1
    obtain ⟨b, hb⟩ : ∃ b, r[1 * i]? = some b := ⟨_, List.getElem?_eq_getElem (by omega)⟩
    obtain ⟨y1, y2, _⟩ := hes' i e' he'
    obtain ⟨v, hv, sv⟩ := he2.get r ys _ b hb
    rw [y2] at hv
    injection hv with hv
    subst hv
    exact ⟨b, hb, by rw [y1, hsOf_some hb], kr i b hb, good_fit b (goodL_get r _ b hb gr), ((DAt.brief b _ sv).below hW).more hW.size⟩
  · intro j hj h
    exact set_no (by omega) fun i hi => h i (by omega)
  · intro h
    refine set_all fun j hj => ?_
    obtain ⟨i, e', _, h1⟩ := h j (by omega)
    exact ⟨i, h1⟩
theorem eqDV_step (d : Nat) (hd : d + 1 ≤ 10) (ih : EqAt d) (s t : S) (u v : Value) (w : World) (hl : lev s ≤ d + 1) (gs : good s) (gt : good t) (hkt : KT w) (hkl : KL w) (hu : DAt w w.heap.size s u) (hv : DAt w w.heap.size t v) :
    Calls Tryz.prog 97 #[.int .i8 37, u, v, .int .i64 ((d + 1 : Nat) : Int)] w (Eqd w (eqV s t)) := by
  by_cases hkey : keyS s = true ∧ keyS t = true
  · rw [eqV_key s t hkey.1 hkey.2]
    exact eqD_step d hd (eqD_any d (by omega)) s t u v w hl (good_fit s gs) (good_fit t gt) hkey.1 hkey.2 hkt (DAt.brief s u hu) (DAt.brief t v hv)
  by_cases hn : (isNum s && isNum t) = true
  · exfalso
    apply hkey
    rw [Bool.and_eq_true] at hn
    constructor
    · cases s <;> first | rfl | (simp [isNum] at hn; done)
    · cases t <;> first | rfl | (simp [isNum] at hn; done)
  replace hn : (isNum s && isNum t) = false := by simpa using hn
  have hs : SameT w u v (decide (kindN s = kindN t)) := sameV_any s t u v (DAt.brief s u hu) (DAt.brief t v hv) w
  by_cases hk : kindN s = kindN t
  · rw [decide_eq_true hk] at hs
    cases s with
    | list l =>
      cases t <;> first | (simp [kindN] at hk; done) | skip
      rename_i r
      simp only [lev] at hl
      simp only [DAt] at hu hv
      obtain ⟨g, A, c, xs, rfl, a1, a2, a3, a4, a5, a6⟩ := hu
      obtain ⟨g', A', c', ys, rfl, b1, b2, b3, b4, b5, b6⟩ := hv
      rw [show eqV (.list l) (.list r) = eqVL l r by simp only [eqV]]
      refine depth_comparable _ _ _ _ (d + 1) _ w (by omega) (cmpM_list _) (isCmp_list _) hs fun W hB => ?_
      refine listCmp_any g g' A A' l.length r.length c c' (d + 1) _ W ((hB.cell a1).trans a2) ((hB.cell b1).trans b2) fun W2 hB2 => ?_
      have hB3 := hB.trans (hB2.mono hB.size)
      exact sliceV_any d hd ih l r A A' c c' xs ys W2 (by omega) gs.2 gt.2 (hkt.below hB3) (hkl.below hB3) a3 b3 ((a5.below hB3).more hB3.size) ((b5.below hB3).more hB3.size) ((a6.below hB3).more hB3.size) ((b6.below hB3).more hB3.size)
    | tuple l =>
      cases t <;> first | (simp [kindN] at hk; done) | skip
      rename_i r
      simp only [lev] at hl
      simp only [DAt] at hu hv
      obtain ⟨A, c, xs, rfl, a3, a4, a5, a6⟩ := hu
      obtain ⟨A', c', ys, rfl, b3, b4, b5, b6⟩ := hv
      rw [show eqV (.tuple l) (.tuple r) = eqVL l r by simp only [eqV]]
      refine depth_comparable _ _ _ _ (d + 1) _ w (by omega) (cmpM_tuple _) (isCmp_tuple _) hs fun W hB3 => ?_
      exact tupleCmp_any A A' l.length r.length c c' (d + 1) _ W (sliceV_any d hd ih l r A A' c c' xs ys W (by omega) gs.2 gt.2 (hkt.below hB3) (hkl.below hB3) a3 b3 ((a5.below hB3).more hB3.size) ((b5.below hB3).more hB3.size) ((a6.below hB3).more hB3.size) ((b6.below hB3).more hB3.size))
    | dict l =>
      cases t <;> first | (simp [kindN] at hk; done) | skip
      rename_i r
      simp only [lev] at hl
      simp only [DAt] at hu hv
      obtain ⟨g, es, xs, rfl, a1, a2, a3, a4, a5, a6⟩ := hu
      obtain ⟨g', es', ys, rfl, b1, b2, b3, b4, b5, b6⟩ := hv
      refine depth_comparable _ _ _ _ (d + 1) _ w (by omega) (cmpM_dict _) (isCmp_dict _) hs fun W hB => ?_
      refine dictCmp_any g g' (d + 1) _ W fun W2 hB2 => ?_
      have hB3 := hB.trans (hB2.mono hB.size)
      by_cases hlen : l.length = r.length
      · rw [show eqV (.dict l) (.dict r) = subD l r by simp [eqV, hlen]]
        exact dictsV_any d hd ih l r g g' _ _ es es' xs ys W2 (by omega) gs gt (hkt.below hB3) (hkl.below hB3) (a3.below hB3 a1) (b3.below hB3 b1) a4 b4 a5 b5 ((a6.below hB3).more hB3.size) ((b6.below hB3).more hB3.size) hlen
      · rw [show eqV (.dict l) (.dict r) = false by simp [eqV, hlen]]
        exact dictsEqual_ne g g' _ _ es es' _ W2 (a3.below hB3 a1) (b3.below hB3 b1) (by omega) (by omega) (by omega)
    | set l =>
      cases t <;> first | (simp [kindN] at hk; done) | skip
      rename_i r
      simp only [lev] at hl
      simp only [DAt] at hu hv
      obtain ⟨g, es, xs, rfl, a1, a2, a3, a4, a5, a6⟩ := hu
      obtain ⟨g', es', ys, rfl, b1, b2, b3, b4, b5, b6⟩ := hv
      refine depth_comparable _ _ _ _ (d + 1) _ w (by omega) (cmpM_set _) (isCmp_set _) hs fun W hB => ?_
      refine setCmp_any g g' (d + 1) _ W fun W2 hB2 => ?_
      have hB3 := hB.trans (hB2.mono hB.size)
      by_cases hlen : l.length = r.length
      · rw [show eqV (.set l) (.set r) = l.all (fun x => r.any (fun y => eqS x y)) by simp [eqV, hlen]]
        exact setsV_any l r g g' _ _ es es' xs ys W2 (by omega) gs gt (hkt.below hB3) (hkl.below hB3) (a3.below hB3 a1) (b3.below hB3 b1) a4 b4 a5 b5 ((a6.below hB3).more hB3.size) ((b6.below hB3).more hB3.size) hlen
      · rw [show eqV (.set l) (.set r) = false by simp [eqV, hlen]]
        exact setsEqual_ne g g' _ _ es es' W2 (a3.below hB3 a1) (b3.below hB3 b1) (by omega) (by omega) (by omega)
    | none => exact absurd ⟨rfl, by cases t <;> first | rfl | (simp [kindN] at hk; done)⟩ hkey
    | bool a => exact absurd ⟨rfl, by cases t <;> first | rfl | (simp [kindN] at hk; done)⟩ hkey
    | int a => exact absurd ⟨rfl, by cases t <;> first | rfl | (simp [kindN] at hk; done)⟩ hkey
    | float a => exact absurd ⟨rfl, by cases t <;> first | rfl | (simp [kindN] at hk; done)⟩ hkey
    | str a => exact absurd ⟨rfl, by cases t <;> first | rfl | (simp [kindN] at hk; done)⟩ hkey
    | bytes a => exact absurd ⟨rfl, by cases t <;> first | rfl | (simp [kindN] at hk; done)⟩ hkey
  · rw [decide_eq_false hk] at hs
    rw [eqV_kinds s t hk hn]
    have bu := DAt.brief s u hu
    have bv := DAt.brief t v hv
    by_cases h2 : kindN s = 2
    · cases s <;> first | (simp [kindN] at h2; done) | skip
      simp only [SAt] at bu
      obtain ⟨a, p, rfl, _⟩ := bu
      exact depth_int_other a p v (d + 1) w (by omega) (notFloatV t (by intro h; cases t <;> first | (simp [kindN] at h; done) | (simp [isNum] at hn; done)) v bv) hs
    · by_cases h3 : kindN s = 3
      · cases s <;> first | (simp [kindN] at h3; done) | skip
        simp only [SAt] at bu
        obtain ⟨rfl, _⟩ := bu
        exact depth_float_other _ v (d + 1) w (by omega) (notIntV t (by intro h; cases t <;> first | (simp [kindN] at h; done) | (simp [isNum] at hn; done)) v bv) hs
      · exact depth_other u v _ _ (d + 1) w (by omega) (notIntV s h2 u bu) (notFloatV s h3 u bu) hs
theorem eqDV_any : ∀ (d : Nat), d ≤ 10 → EqAt d
  | 0, _ => fun s _ _ _ _ hl _ _ _ _ _ _ => by have := lev_pos s; omega
  | d + 1, hd => fun s t u v w hl gs gt hkt hkl hu hv => equalDepth_any u v (d + 1) _ w (eqDV_step d hd (eqDV_any d (by omega)) s t u v w hl gs gt hkt hkl hu hv)
set_option maxRecDepth 10000 in
theorem notStrV {w : World} {B : Nat} (s : S) (hs : kindN s ≠ 4) (u : Value) (h : SAt w B s u) : ∀ w, (Instr.typeAssert u 43 98 true).run Tryz.prog w = .ok (.tuple #[.string ⟨#[]⟩, .bool false]) w := by
  cases s
  case str => exact absurd rfl hs
  case list l => simp only [SAt] at h; obtain ⟨g, A, c, rfl, _⟩ := h; exact fun w => by kernel_rfl
  case dict l => simp only [SAt] at h; obtain ⟨g, rfl, _⟩ := h; exact fun w => by kernel_rfl
  case set l => simp only [SAt] at h; obtain ⟨g, rfl, _⟩ := h; exact fun w => by kernel_rfl
  case tuple l => simp only [SAt] at h; obtain ⟨A, c, xs, rfl, _⟩ := h; exact fun w => by kernel_rfl
  all_goals exact notStr _ (by simp [kty]) u (h.ty (by simp [keyS]))
/-- starlark.Equal answers as two values are equal. -/
theorem equalV_any (s t : S) (u v : Value) (w : World) (hl : lev s ≤ 10) (gs : good s) (gt : good t) (hkt : KT w) (hkl : KL w) (hu : DAt w w.heap.size s u) (hv : DAt w w.heap.size t v) :
    Calls Tryz.prog 80 #[u, v] w (Eqd w (eqV s t)) := by
  by_cases hs : kindN s = 4
  · cases s <;> first | (simp [kindN] at hs; done) | skip
    rename_i a
    have bu := DAt.brief _ u hu
    have bv := DAt.brief t v hv
    by_cases hkt2 : keyS t = true
    · rw [eqV_key _ t rfl hkt2]
      exact equal_any _ t u v w hl (good_fit _ gs) (good_fit t gt) rfl hkt2 hkt hkl bu bv
    · simp only [SAt] at bu
      obtain ⟨rfl, _⟩ := bu
      have e : eqV (.str a) t = false := by cases t <;> first | rfl | (exact absurd rfl hkt2) | simp [eqV, eqS]
      rw [e]
      obtain ⟨T, x, rfl, hT⟩ : ∃ T x, v = .iface T x ∧ T ≠ 98 := by
        cases t <;> first | (exact absurd rfl hkt2) | skip
        case list l => simp only [SAt] at bv; obtain ⟨g, A, c, rfl, _⟩ := bv; exact ⟨_, _, rfl, by decide⟩
        case dict l => simp only [SAt] at bv; obtain ⟨g, rfl, _⟩ := bv; exact ⟨_, _, rfl, by decide⟩
        case set l => simp only [SAt] at bv; obtain ⟨g, rfl, _⟩ := bv; exact ⟨_, _, rfl, by decide⟩
        case tuple l => simp only [SAt] at bv; obtain ⟨A, c, xs, rfl, _⟩ := bv; exact ⟨_, _, rfl, by decide⟩
      exact equal_str a _ _ w fun w => run_eql_iface_types _ _ _ _ Tryz.underlying43 (Ne.symm hT) w
  · exact equal_slow u v _ w hkl (notStrV s hs u (DAt.brief s u hu)) (eqDV_any 10 (by omega) s t u v w hl gs gt hkt hkl hu hv)
end Go.Proofs.YtkmeckimmfbkiaaGreatDoor
