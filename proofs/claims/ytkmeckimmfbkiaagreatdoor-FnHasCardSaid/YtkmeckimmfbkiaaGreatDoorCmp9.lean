/- Equality of values that can be keys. -/
import Derived.Test.YtkmeckimmfbkiaaGreatDoorJCmp7
import Derived.Test.YtkmeckimmfbkiaaGreatDoorJFin
namespace Go.Proofs.YtkmeckimmfbkiaaGreatDoor
open Go Go.RowKit
set_option maxRecDepth 10000 in
theorem tupleCmp_any (A D : Option Addr) (n m c1 c2 d : Nat) (T : Bool) (w : World) (h : Calls Tryz.prog 223 #[.int .i8 37, .slice A n c1, .slice D m c2, .int .i64 d] w (Eqd w T)) :
    Calls Tryz.prog 224 #[.slice A n c1, .int .i8 37, .iface 73 (.slice D m c2), .int .i64 d] w (Eqd w T) := by
  have HT : ∀ w, (Instr.typeAssert (.iface 73 (.slice D m c2)) 43 73 false).run Tryz.prog w = .ok (.slice D m c2) w := fun w => by kernel_rfl
  have H := Lib.hid h
  clear h
  go_enter Tryz.func224, Tryz.ntmps224
  go_wp2_with fail
  refine H.out.mono ?_
  rintro e w1 ⟨rfl, hB⟩
  have HB := Lib.hid hB
  clear hB H
  go_wp2
  go_ret2
  exact ⟨rfl, HB.out⟩
set_option maxRecDepth 10000 in
theorem equalDepth_any (u v : Value) (d : Nat) (T : Bool) (w : World) (h : Calls Tryz.prog 97 #[.int .i8 37, u, v, .int .i64 d] w (Eqd w T)) :
    Calls Tryz.prog 91 #[u, v, .int .i64 d] w (Eqd w T) := by
  have H := Lib.hid h
  clear h
  go_enter Tryz.func91, Tryz.ntmps91
  go_wp2_with fail
  refine H.out.mono ?_
  rintro e w1 ⟨rfl, hB⟩
  have HB := Lib.hid hB
  clear hB H
  go_wp2
  go_ret2
  exact ⟨rfl, HB.out⟩
set_option maxRecDepth 10000 in
theorem notInt (k : KTy) (hk : k ≠ .int) (u : Value) (h : TyOf k u) : ∀ w, (Instr.typeAssert u 43 94 true).run Tryz.prog w = .ok (.tuple #[.agg #[.int .i64 0, .pointer none], .bool false]) w := by
  cases k <;> simp only [TyOf] at h
  case int => exact absurd rfl hk
  all_goals
    obtain ⟨v, rfl⟩ := h
    exact fun w => by kernel_rfl
set_option maxRecDepth 10000 in
theorem notFloat (k : KTy) (hk : k ≠ .float) (u : Value) (h : TyOf k u) : ∀ w, (Instr.typeAssert u 43 96 true).run Tryz.prog w = .ok (.tuple #[.float .f64 0, .bool false]) w := by
  cases k <;> simp only [TyOf] at h
  case float => exact absurd rfl hk
  case int => obtain ⟨a, b, rfl⟩ := h; exact fun w => by kernel_rfl
  all_goals
    obtain ⟨v, rfl⟩ := h
    exact fun w => by kernel_rfl
theorem cmpM_bool (v : Value) : HasM (.iface 89 v) "CompareSameType" 263 v := ⟨_, _, rfl, fun w => by kernel_rfl, fun args w => by kernel_rfl⟩
theorem cmpM_str (v : Value) : HasM (.iface 98 v) "CompareSameType" 292 v := ⟨_, _, rfl, fun w => by kernel_rfl, fun args w => by kernel_rfl⟩
theorem cmpM_bytes (v : Value) : HasM (.iface 99 v) "CompareSameType" 306 v := ⟨_, _, rfl, fun w => by kernel_rfl, fun args w => by kernel_rfl⟩
theorem cmpM_tuple (v : Value) : HasM (.iface 73 v) "CompareSameType" 224 v := ⟨_, _, rfl, fun w => by kernel_rfl, fun args w => by kernel_rfl⟩
theorem cmpM_int (v : Value) : HasM (.iface 94 v) "Cmp" 271 v := ⟨_, _, rfl, fun w => by kernel_rfl, fun args w => by kernel_rfl⟩
theorem cmpM_float (v : Value) : HasM (.iface 96 v) "Cmp" 280 v := ⟨_, _, rfl, fun w => by kernel_rfl, fun args w => by kernel_rfl⟩
theorem intCmpM_any (x y a b d : Int) (p q : Option Addr) (w : World) (hx : SInt w w.heap.size x a p) (hy : SInt w w.heap.size y b q) (hsx : (limbs x.natAbs).length ≤ 5) :
    Calls Tryz.prog 271 #[.agg #[.int .i64 a, .pointer p], .iface 94 (.agg #[.int .i64 b, .pointer q]), .int .i64 d] w fun e w' => e = .returned (.tuple #[.int .i64 (cmpI x y), .nilIface]) ∧ Below w.heap.size w w' := by
  by_cases hpq : p = none ∧ q = none
  · obtain ⟨rfl, rfl⟩ := hpq
    rcases hx with ⟨_, rfl, h1, h2⟩ | ⟨g, h, _⟩
    · rcases hy with ⟨_, rfl, h3, h4⟩ | ⟨g, h, _⟩
      · exact intCmpM_small a b d w h1 h2 h3 h4
      · cases h
    · cases h
  · exact intCmpM_big x y a b d p q w hx hy hpq (by omega)
/-- Two that can be keys, of one kind or of two. -/
theorem eqD_step (d : Nat) (hd : d + 1 ≤ 10)
    (ih : ∀ (s t : S) (u v : Value) (w : World), lev s ≤ d → fitS s → fitS t → keyS s = true → keyS t = true → KT w → SAt w w.heap.size s u → SAt w w.heap.size t v → Calls Tryz.prog 91 #[u, v, .int .i64 d] w (Eqd w (eqS s t)))
    (s t : S) (u v : Value) (w : World) (hl : lev s ≤ d + 1) (fs : fitS s) (ft : fitS t) (ks : keyS s = true) (kt : keyS t = true) (hk : KT w) (hu : SAt w w.heap.size s u) (hv : SAt w w.heap.size t v) :
    Calls Tryz.prog 97 #[.int .i8 37, u, v, .int .i64 ((d + 1 : Nat) : Int)] w (Eqd w (eqS s t)) := by
  have tu := hu.ty ks
  have tv := hv.ty kt
  have hs : SameT w u v (decide (kty s = kty t)) := sameType_any (kty s) (kty t) u v tu tv w
  by_cases hkk : kty s = kty t
  · rw [decide_eq_true hkk] at hs
    cases s with
    | none =>
      cases t <;> first | (simp [kty] at hkk; done) | (simp [keyS] at kt; done) | skip
      simp only [SAt] at hu hv
      subst hu hv
      exact depth_none (d + 1) w (by omega) hs
    | bool a =>
      cases t <;> first | (simp [kty] at hkk; done) | (simp [keyS] at kt; done) | skip
      rename_i b
      simp only [SAt] at hu hv
      subst hu hv
      exact depth_comparable _ _ _ _ (d + 1) _ w (by omega) (cmpM_bool _) (isCmp_bool _) hs fun W hB => (boolCmp_any a b _ W).mono fun _ _ ⟨h1, h2⟩ => ⟨h1, h2 ▸ Below.refl _ _⟩
    | int x =>
      cases t <;> first | (simp [kty] at hkk; done) | (simp [keyS] at kt; done) | skip
      rename_i y
      simp only [SAt] at hu hv
      obtain ⟨a, p, rfl, hx⟩ := hu
      obtain ⟨b, q, rfl, hy⟩ := hv
      have h := depth_ordered _ _ _ _ (d + 1) (cmpI x y) w (by omega) (cmpM_int _) (notCmp_int _) (isOrd_int _) hs fun W hB => intCmpM_any x y a b _ p q W ((hx.below hB).more hB.size) ((hy.below hB).more hB.size) fs
      rw [show decide (cmpI x y = 0) = (x == y) by rw [Bool.eq_iff_iff]; simp [cmpI_zero]] at h
      exact h
    | float f =>
      cases t <;> first | (simp [kty] at hkk; done) | (simp [keyS] at kt; done) | skip
      rename_i g
      simp only [SAt] at hu hv
      obtain ⟨rfl, hf⟩ := hu
      obtain ⟨rfl, hg⟩ := hv
      have h := depth_ordered _ _ _ _ (d + 1) (Fl.cmpW (wf f) (wf g)) w (by omega) (cmpM_float _) (notCmp_float _) (isOrd_float _) hs fun W hB => (floatCmpM_any f g hf hg _ W).mono fun _ _ ⟨h1, h2⟩ => ⟨h1, h2 ▸ Below.refl _ _⟩
      rw [show decide (Fl.cmpW (wf f) (wf g) = 0) = decide (wf f = wf g) by rw [decide_eq_decide]; exact Fl.cmpW_zero _ _] at h
      exact h
    | str a =>
      cases t <;> first | (simp [kty] at hkk; done) | (simp [keyS] at kt; done) | skip
      rename_i b
      simp only [SAt] at hu hv
      obtain ⟨rfl, _⟩ := hu
      obtain ⟨rfl, _⟩ := hv
      exact depth_comparable _ _ _ _ (d + 1) _ w (by omega) (cmpM_str _) (isCmp_str _) hs fun W hB => (strCmp_any a b _ W).mono fun _ _ ⟨h1, h2⟩ => ⟨h1, h2 ▸ Below.refl _ _⟩
    | bytes a =>
      cases t <;> first | (simp [kty] at hkk; done) | (simp [keyS] at kt; done) | skip
      rename_i b
      simp only [SAt] at hu hv
      obtain ⟨rfl, _⟩ := hu
      obtain ⟨rfl, _⟩ := hv
      exact depth_comparable _ _ _ _ (d + 1) _ w (by omega) (cmpM_bytes _) (isCmp_bytes _) hs fun W hB => (bytesCmp_any a b _ W).mono fun _ _ ⟨h1, h2⟩ => ⟨h1, h2 ▸ Below.refl _ _⟩
    | tuple l =>
      cases t <;> first | (simp [kty] at hkk; done) | (simp [keyS] at kt; done) | skip
      rename_i r
      simp only [SAt] at hu hv
      obtain ⟨A, c1, xs, rfl, hl1, hc1, hr1, he1⟩ := hu
      obtain ⟨D, c2, ys, rfl, hl2, hc2, hr2, he2⟩ := hv
      simp only [keyS] at ks kt
      simp only [fitS] at fs ft
      simp only [lev] at hl
      refine depth_comparable _ _ _ _ (d + 1) _ w (by omega) (cmpM_tuple _) (isCmp_tuple _) hs fun W hB => ?_
      refine tupleCmp_any A D l.length r.length c1 c2 (d + 1) _ W ?_
      refine sliceCompare_any A D l.length r.length c1 c2 (d + 1) xs ys (fun k => match l[k]?, r[k]? with | some a, some b => eqS a b | _, _ => true) _ W hl1 hl2 hd ((hr1.below hB).more hB.size) ((hr2.below hB).more hB.size) ?_ ?_ ?_ ?_
      · intro hne
        simp only [eqS]
        exact eqL_of_ne l r hne
      · intro k hkl hR
        simp only [eqS]
        by_cases hlr : l.length = r.length
        · have ha := List.getElem?_eq_getElem hkl
          have hb := List.getElem?_eq_getElem (show k < r.length by omega)
          simp only [ha, hb] at hR
          exact eqL_take l r k hkl hlr _ _ ha hb hR
        · exact eqL_of_ne l r hlr
      · intro hlr hall
        simp only [eqS]
        refine eqL_all l r hlr fun k a b ha hb => ?_
        have h := hall k (by have := List.getElem?_eq_some_iff.1 ha; obtain ⟨h, _⟩ := this; exact h)
        simp only [ha, hb] at h
        exact h
      · intro k u v hu hv W2 hB2
        have hB3 := hB.trans (hB2.mono hB.size)
        have hkl : k < l.length := by
          have h1 := he1.len
          obtain ⟨h, _⟩ := List.getElem?_eq_some_iff.1 hu
          omega
        have hkr : k < r.length := by
          have h1 := he2.len
          obtain ⟨h, _⟩ := List.getElem?_eq_some_iff.1 hv
          omega
        have ha := List.getElem?_eq_getElem hkl
        have hb := List.getElem?_eq_getElem hkr
        obtain ⟨u', hu', su⟩ := he1.get l xs k _ ha
        obtain ⟨v', hv', sv⟩ := he2.get r ys k _ hb
        have eu : u' = u := by rw [hu] at hu'; injection hu' with h; exact h.symm
        have ev : v' = v := by rw [hv] at hv'; injection hv' with h; exact h.symm
        subst eu ev
        have e1 : (((d + 1 : Nat) : Int) - 1) = (d : Int) := by omega
        rw [e1]
        simp only [ha, hb]
        have hlv := lev_get l k _ ha
        exact ih _ _ _ _ W2 (by omega) (fitL_get l k _ ha fs) (fitL_get r k _ hb ft) (keyL_get l k _ ha ks) (keyL_get r k _ hb kt) (hk.below hB3) ((su.below hB3).more hB3.size) ((sv.below hB3).more hB3.size)
    | list l => simp [keyS] at ks
    | dict l => simp [keyS] at ks
    | set l => simp [keyS] at ks
  · rw [decide_eq_false hkk] at hs
    cases s with
    | int x =>
      simp only [SAt] at hu
      obtain ⟨a, p, rfl, hx⟩ := hu
      by_cases hf : kty t = .float
      · cases t <;> first | (simp [kty] at hf; done) | skip
        rename_i g
        simp only [SAt] at hv
        obtain ⟨rfl, hg⟩ := hv
        exact depth_int_float x a p g (d + 1) w (by omega) hg hx fs hk hs
      · have h := depth_int_other a p v (d + 1) w (by omega) (notFloat _ hf v tv) hs
        have e : eqS (.int x) t = false := by cases t <;> first | (simp [kty] at hkk hf; done) | simp [eqS]
        rw [e]
        exact h
    | float f =>
      simp only [SAt] at hu
      obtain ⟨rfl, hf0⟩ := hu
      by_cases hf : kty t = .int
      · cases t <;> first | (simp [kty] at hf; done) | skip
        rename_i x
        simp only [SAt] at hv
        obtain ⟨a, p, rfl, hx⟩ := hv
        exact depth_float_int x a p f (d + 1) w (by omega) hf0 hx ft hk hs
      · have h := depth_float_other f v (d + 1) w (by omega) (notInt _ hf v tv) hs
        have e : eqS (.float f) t = false := by cases t <;> first | (simp [kty] at hkk hf; done) | simp [eqS]
        rw [e]
        exact h
    | none =>
      have h := depth_other u v _ _ (d + 1) w (by omega) (notInt _ (by simp [kty]) u tu) (notFloat _ (by simp [kty]) u tu) hs
      have e : eqS .none t = false := by cases t <;> first | (simp [kty] at hkk; done) | simp [eqS]
      rw [e]
      exact h
    | bool a =>
      have h := depth_other u v _ _ (d + 1) w (by omega) (notInt _ (by simp [kty]) u tu) (notFloat _ (by simp [kty]) u tu) hs
      have e : eqS (.bool a) t = false := by cases t <;> first | (simp [kty] at hkk; done) | simp [eqS]
      rw [e]
      exact h
    | str a =>
      have h := depth_other u v _ _ (d + 1) w (by omega) (notInt _ (by simp [kty]) u tu) (notFloat _ (by simp [kty]) u tu) hs
      have e : eqS (.str a) t = false := by cases t <;> first | (simp [kty] at hkk; done) | simp [eqS]
      rw [e]
      exact h
    | bytes a =>
      have h := depth_other u v _ _ (d + 1) w (by omega) (notInt _ (by simp [kty]) u tu) (notFloat _ (by simp [kty]) u tu) hs
      have e : eqS (.bytes a) t = false := by cases t <;> first | (simp [kty] at hkk; done) | simp [eqS]
      rw [e]
      exact h
    | tuple l =>
      have h := depth_other u v _ _ (d + 1) w (by omega) (notInt _ (by simp [kty]) u tu) (notFloat _ (by simp [kty]) u tu) hs
      have e : eqS (.tuple l) t = false := by cases t <;> first | (simp [kty] at hkk; done) | (simp [keyS] at kt; done) | simp [eqS]
      rw [e]
      exact h
    | list l => simp [keyS] at ks
    | dict l => simp [keyS] at ks
    | set l => simp [keyS] at ks
theorem eqD_any : ∀ (d : Nat), d ≤ 10 → ∀ (s t : S) (u v : Value) (w : World), lev s ≤ d → fitS s → fitS t → keyS s = true → keyS t = true → KT w → SAt w w.heap.size s u → SAt w w.heap.size t v → Calls Tryz.prog 91 #[u, v, .int .i64 d] w (Eqd w (eqS s t))
  | 0, _, s, _, _, _, _, hl, _, _, _, _, _, _, _ => by have := lev_pos s; omega
  | d + 1, hd, s, t, u, v, w, hl, fs, ft, ks, kt, hk, hu, hv => equalDepth_any u v (d + 1) _ w (eqD_step d hd (eqD_any d (by omega)) s t u v w hl fs ft ks kt hk hu hv)
end Go.Proofs.YtkmeckimmfbkiaaGreatDoor
