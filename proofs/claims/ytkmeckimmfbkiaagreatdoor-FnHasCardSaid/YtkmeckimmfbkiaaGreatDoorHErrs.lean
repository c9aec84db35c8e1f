/- What can't be hashed; does a list or a tuple hold a value? Conditions: none. -/
import Derived.Test.YtkmeckimmfbkiaaGreatDoorKLook
namespace Go.Proofs.YtkmeckimmfbkiaaGreatDoor
open Go Go.RowKit
set_option maxRecDepth 10000 in
theorem errorsNew_any (t : ByteArray) (w : World) : Calls Tryz.prog 90 #[.string t] w fun e w' => (∃ T v, e = .returned (.iface T v)) ∧ Below w.heap.size w w' := by
  go_enter Tryz.func90, Tryz.ntmps90
  go_wp2
  go_ret
  exact ⟨⟨_, _, rfl⟩, (Below.refl _ _).alloc (Nat.le_refl _) _⟩
/-- An error in the place of a hash. -/
def HashErr (w : World) (e : Ending) (w' : World) : Prop := (∃ t v, e = .returned (.tuple #[.int .u32 0, .iface t v])) ∧ Below w.heap.size w w'
def HashME (w : World) (u : Value) : Prop := ∃ f r, HasM u "Hash" f r ∧ Calls Tryz.prog f #[r] w (HashErr w)
set_option maxRecDepth 10000 in
theorem hashE_list (v : Value) (w : World) : Calls Tryz.prog 219 #[v] w (HashErr w) := by
  go_enter Tryz.func219, Tryz.ntmps219
  go_wp2_with fail
  refine (errorsNew_any _ w).mono ?_
  rintro e w1 ⟨⟨T, x, rfl⟩, hB⟩
  have HB := Lib.hid hB
  clear hB
  go_wp2
  go_ret2
  exact ⟨⟨_, _, rfl⟩, HB.out⟩
set_option maxRecDepth 10000 in
theorem hashE_dict (v : Value) (w : World) : Calls Tryz.prog 233 #[v] w (HashErr w) := by
  go_enter Tryz.func233, Tryz.ntmps233
  go_wp2_with fail
  refine (errorsNew_any _ w).mono ?_
  rintro e w1 ⟨⟨T, x, rfl⟩, hB⟩
  have HB := Lib.hid hB
  clear hB
  go_wp2
  go_ret2
  exact ⟨⟨_, _, rfl⟩, HB.out⟩
set_option maxRecDepth 10000 in
theorem hashE_set (v : Value) (w : World) : Calls Tryz.prog 243 #[v] w (HashErr w) := by
  go_enter Tryz.func243, Tryz.ntmps243
  go_wp2_with fail
  refine (errorsNew_any _ w).mono ?_
  rintro e w1 ⟨⟨T, x, rfl⟩, hB⟩
  have HB := Lib.hid hB
  clear hB
  go_wp2
  go_ret2
  exact ⟨⟨_, _, rfl⟩, HB.out⟩
set_option maxRecDepth 10000 in
set_option maxHeartbeats 1000000 in
/-- A tuple whose k0-th element is the first that can't be hashed. -/
theorem hashE_tuple (A : Option Addr) (n c k0 : Nat) (xs : List Value) (w : World) (hn : n ≤ 16) (hk0 : k0 < n) (hr : Reads w w.heap.size 1 A n xs)
    (hok : ∀ (k : Nat) (u : Value), k < k0 → xs[k]? = some u → ∃ h : Int, (∃ t v, u = .iface t v) ∧ ∀ W, Below w.heap.size w W → HashMV h W u)
    (hbad : ∀ u : Value, xs[k0]? = some u → (∃ t v, u = .iface t v) ∧ ∀ W, Below w.heap.size w W → HashME W u) :
    Calls Tryz.prog 227 #[.slice A n c] w (HashErr w) := by
  have HM := Lib.hid (And.intro hr (And.intro hok hbad))
  clear hr hok hbad
  go_enter Tryz.func227, Tryz.ntmps227
  go_wp2_with fail
  go_loopw [4, 5, 12] (fun vx vm vi wr => ∃ (x m : Int) (k : Nat), vx = .int .u32 x ∧ vm = .int .u32 m ∧ vi = .int .i64 k ∧ k ≤ k0 ∧ Below w.heap.size w wr) (fun _ _ vi _ => k0 - (intOf vi).toNat)
  case atStart => exact ⟨3430008, 1000003, 0, rfl, rfl, rfl, by omega, Below.refl _ _⟩
  case round =>
    obtain ⟨x, m, k, rfl, rfl, rfl, hk, hB⟩ := hrel
    have hlt : k < n := by omega
    have hki : (k : Int) < (n : Int) := by omega
    have w1 : IntKind.i64.wrap ((k : Int) + 1) = (k : Int) + 1 := by rw [IntKind.wrap_i64]; omega
    have w2 : IntKind.i64.wrap ((n : Int) + n) = (n : Int) + n := by rw [IntKind.wrap_i64]; omega
    obtain ⟨ad, u, rfl, had, hu, hcell⟩ := (HM.out.1.below hB).at_ hlt
    rcases Nat.lt_or_ge k k0 with hkk | hkk
    · obtain ⟨h, ⟨t, v, rfl⟩, hmm⟩ := HM.out.2.1 k u hkk hu
      obtain ⟨f, q, ⟨t', v', he, m1, q1⟩, C⟩ := hmm wr hB
      cases he
      have C1 := Lib.hid C
      have HB := Lib.hid hB
      clear C hB hu
      go_wp2_with fail
      refine C1.out.mono ?_
      rintro e w3 ⟨rfl, hB3⟩
      have HB3 := Lib.hid (HB.out.trans (hB3.mono HB.out.size))
      clear hB3 HB C1
      go_wp2
      exact ⟨⟨_, _, k + 1, rfl, rfl, rfl, by omega, HB3.out⟩, by simp only [intOf]; omega⟩
    · have hke : k = k0 := by omega
      subst hke
      obtain ⟨⟨t, v, rfl⟩, hmm⟩ := HM.out.2.2 u hu
      obtain ⟨f, q, ⟨t', v', he, m1, q1⟩, C⟩ := hmm wr hB
      cases he
      have C1 := Lib.hid C
      have HB := Lib.hid hB
      clear C hB hu
      go_wp2_with fail
      refine C1.out.mono ?_
      rintro e w3 ⟨⟨T, z, rfl⟩, hB3⟩
      have HB3 := Lib.hid (HB.out.trans (hB3.mono HB.out.size))
      clear hB3 HB C1
      go_wp2
      go_ret2
      exact ⟨⟨_, _, rfl⟩, HB3.out⟩
theorem hasH_list (v : Value) : HasM (.iface 71 v) "Hash" 219 v := ⟨_, _, rfl, fun w => by kernel_rfl, fun args w => by kernel_rfl⟩
theorem hasH_dict (v : Value) : HasM (.iface 74 v) "Hash" 233 v := ⟨_, _, rfl, fun w => by kernel_rfl, fun args w => by kernel_rfl⟩
theorem hasH_set (v : Value) : HasM (.iface 77 v) "Hash" 243 v := ⟨_, _, rfl, fun w => by kernel_rfl, fun args w => by kernel_rfl⟩
/-- The first that can't be a key. -/
theorem first_bad : ∀ l : List S, keyL l = false → ∃ (k : Nat) (a : S), l[k]? = some a ∧ keyS a = false ∧ ∀ (j : Nat) (b : S), j < k → l[j]? = some b → keyS b = true
  | [], h => by simp [keyL] at h
  | a :: l, h => by
    simp only [keyL, Bool.and_eq_false_iff] at h
    rcases ha : keyS a with _ | _
    · exact ⟨0, a, rfl, ha, fun j b hj => by omega⟩
    · rw [ha] at h
      obtain ⟨k, b, h1, h2, h3⟩ := first_bad l (by simpa using h)
      refine ⟨k + 1, b, by simpa using h1, h2, fun j c hj hc => ?_⟩
      cases j with
      | zero => simp at hc; subst hc; exact ha
      | succ j => exact h3 j c (by omega) (by simpa using hc)
/-- Its Hash is an error. -/
theorem hashME_any : ∀ (d : Nat) (s : S) (u : Value) (w : World), lev s ≤ d → SAt w w.heap.size s u → keyS s = false → HashME w u
  | 0, s, _, _, hl, _, _ => by have := lev_pos s; omega
  | d + 1, .none, u, w, _, h, hk => by simp [keyS] at hk
  | d + 1, .bool _, u, w, _, h, hk => by simp [keyS] at hk
  | d + 1, .int _, u, w, _, h, hk => by simp [keyS] at hk
  | d + 1, .float _, u, w, _, h, hk => by simp [keyS] at hk
  | d + 1, .str _, u, w, _, h, hk => by simp [keyS] at hk
  | d + 1, .bytes _, u, w, _, h, hk => by simp [keyS] at hk
  | d + 1, .list _, u, w, _, h, _ => by simp only [SAt] at h; obtain ⟨g, A, c, rfl, _⟩ := h; exact ⟨_, _, hasH_list _, hashE_list _ w⟩
  | d + 1, .dict _, u, w, _, h, _ => by simp only [SAt] at h; obtain ⟨g, rfl, _⟩ := h; exact ⟨_, _, hasH_dict _, hashE_dict _ w⟩
  | d + 1, .set _, u, w, _, h, _ => by simp only [SAt] at h; obtain ⟨g, rfl, _⟩ := h; exact ⟨_, _, hasH_set _, hashE_set _ w⟩
  | d + 1, .tuple l, u, w, hl, h, hk => by
    simp only [keyS] at hk
    simp only [lev] at hl
    simp only [SAt] at h
    obtain ⟨A, c, xs, rfl, h16, hc, hr, he⟩ := h
    obtain ⟨k, a, h1, h2, h3⟩ := first_bad l hk
    have hkl : k < l.length := (List.getElem?_eq_some_iff.1 h1).1
    refine ⟨_, _, hasH_tuple _, hashE_tuple A l.length c k xs w h16 hkl hr (fun j u hj hu => ?_) fun u hu => ?_⟩
    · obtain ⟨b, hb⟩ : ∃ b, l[j]? = some b := ⟨_, List.getElem?_eq_getElem (by omega)⟩
      obtain ⟨v, hv, sv⟩ := he.get l xs j b hb
      rw [hu] at hv
      injection hv with hv
      subst hv
      exact ⟨hS b, sv.iface, fun W hW => hashMV_any b u W ((sv.below hW).more hW.size) (h3 j b hj hb)⟩
    · obtain ⟨v, hv, sv⟩ := he.get l xs k a h1
      rw [hu] at hv
      injection hv with hv
      subst hv
      have hla := lev_get l k a h1
      exact ⟨sv.iface, fun W hW => hashME_any d a u W (by omega) ((sv.below hW).more hW.size) h2⟩
set_option maxRecDepth 10000 in
theorem lookupE_any (g : Nat) (k : Value) (w : World) (hm : HashME w k) :
    Calls Tryz.prog 239 #[.pointer (some ⟨g, 0, none⟩), k] w fun e w' => (∃ t v, e = .returned (.tuple #[.nilIface, .bool false, .iface t v])) ∧ Below w.heap.size w w' := by
  obtain ⟨f, r, ⟨t, u, rfl, m1, q1⟩, C⟩ := hm
  have HC := Lib.hid C
  clear C
  go_enter Tryz.func239, Tryz.ntmps239
  go_wp2_with fail
  refine HC.out.mono ?_
  rintro e w2 ⟨⟨T, z, rfl⟩, hB⟩
  have HB := Lib.hid hB
  clear hB HC
  go_wp2
  go_ret3
  exact ⟨⟨_, _, rfl⟩, HB.out⟩
set_option maxRecDepth 10000 in
theorem setHasE_any (g : Nat) (k : Value) (w : World) (hm : HashME w k) :
    Calls Tryz.prog 242 #[.pointer (some ⟨g, 0, none⟩), k] w fun e w' => (∃ t v, e = .returned (.tuple #[.bool false, .iface t v])) ∧ Below w.heap.size w w' := by
  have HM := Lib.hid (lookupE_any g k w hm)
  clear hm
  go_enter Tryz.func242, Tryz.ntmps242
  go_wp2_with fail
  refine HM.out.mono ?_
  rintro e w2 ⟨⟨T, z, rfl⟩, hB⟩
  have HB := Lib.hid hB
  clear hB HM
  go_wp2
  go_ret2
  exact ⟨⟨_, _, rfl⟩, HB.out⟩
end Go.Proofs.YtkmeckimmfbkiaaGreatDoor
namespace Go.Proofs.YtkmeckimmfbkiaaGreatDoor
open Go Go.RowKit
set_option maxRecDepth 10000 in
set_option maxHeartbeats 1000000 in
theorem tupleHas_any (A : Option Addr) (n c : Nat) (xs : List Value) (v : Value) (R : Nat → Bool) (T : Bool) (w : World) (hn : n ≤ 16) (hr : Reads w w.heap.size 1 A n xs)
    (ih : ∀ (k : Nat) (u : Value), xs[k]? = some u → ∀ W, Below w.heap.size w W → Calls Tryz.prog 80 #[u, v] W (Eqd W (R k)))
    (hT : ∀ k, k < n → R k = true → T = true) (hF : (∀ k, k < n → R k = false) → T = false) :
    Calls Tryz.prog 226 #[.slice A n c, v] w (Eqd w T) := by
  have HM := Lib.hid (And.intro hr (And.intro ih (And.intro hT hF)))
  clear hr ih hT hF
  go_enter Tryz.func226, Tryz.ntmps226
  go_wp2_with fail
  go_loopw [12] (fun vi wr => ∃ (k : Nat), vi = .int .i64 k ∧ k ≤ n ∧ (∀ j, j < k → R j = false) ∧ Below w.heap.size w wr) (fun vi _ => n - (intOf vi).toNat)
  case atStart => exact ⟨0, rfl, by omega, fun j hj => by omega, Below.refl _ _⟩
  case round =>
    obtain ⟨k, rfl, hk, hall, hB⟩ := hrel
    have w1 : IntKind.i64.wrap ((k : Int) + 1) = (k : Int) + 1 := by rw [IntKind.wrap_i64]; omega
    rcases Nat.lt_or_ge k n with hlt | hge
    · have hki : (k : Int) < (n : Int) := by omega
      obtain ⟨ad, u, rfl, had, hu, hcell⟩ := (HM.out.1.below hB).at_ hlt
      have C1 := Lib.hid (HM.out.2.1 k u hu wr hB)
      have HB := Lib.hid (And.intro hall hB)
      clear hall hB hu
      go_wp2_with fail
      refine C1.out.mono ?_
      rintro e w3 ⟨rfl, hB3⟩
      have HB3 := Lib.hid (HB.out.2.trans (hB3.mono HB.out.2.size))
      clear hB3 C1
      rcases hR : R k with _ | _
      · have HR := Lib.hid hR
        clear hR
        go_wp2
        exact ⟨⟨k + 1, rfl, by omega, fun j hj => by
          rcases Nat.lt_or_ge j k with h | h
          · exact HB.out.1 j h
          · have e : j = k := by omega
            rw [e]; exact HR.out, HB3.out⟩, by simp only [intOf]; omega⟩
      · have HR := Lib.hid (HM.out.2.2.1 k hlt hR)
        clear hR
        go_wp2
        go_ret2
        exact ⟨by rw [HR.out]; rfl, HB3.out⟩
    · have hki : ¬ (k : Int) < (n : Int) := by omega
      have HR := Lib.hid (HM.out.2.2.2 fun j hj => hall j (by omega))
      have HB := Lib.hid hB
      clear hall hB
      go_wp2
      go_ret2
      exact ⟨by rw [HR.out]; rfl, HB.out⟩
set_option maxRecDepth 10000 in
set_option maxHeartbeats 1000000 in
theorem listHas_any (g : Nat) (A : Option Addr) (n c : Nat) (xs : List Value) (v : Value) (R : Nat → Bool) (T : Bool) (w : World) (hn : n ≤ 16) (c0 : w.cell? ⟨g, 0, none⟩ = some (.slice A n c)) (hr : Reads w w.heap.size 1 A n xs)
    (ih : ∀ (k : Nat) (u : Value), xs[k]? = some u → ∀ W, Below w.heap.size w W → Calls Tryz.prog 80 #[u, v] W (Eqd W (R k)))
    (hT : ∀ k, k < n → R k = true → T = true) (hF : (∀ k, k < n → R k = false) → T = false) :
    Calls Tryz.prog 218 #[.pointer (some ⟨g, 0, none⟩), v] w (Eqd w T) := by
  have HM := Lib.hid (And.intro hr (And.intro ih (And.intro hT hF)))
  clear hr ih hT hF
  go_enter Tryz.func218, Tryz.ntmps218
  go_wp2_with fail
  go_loopw [15] (fun vi wr => ∃ (k : Nat), vi = .int .i64 k ∧ k ≤ n ∧ (∀ j, j < k → R j = false) ∧ Below w.heap.size w wr) (fun vi _ => n - (intOf vi).toNat)
  case atStart => exact ⟨0, rfl, by omega, fun j hj => by omega, Below.refl _ _⟩
  case round =>
    obtain ⟨k, rfl, hk, hall, hB⟩ := hrel
    have w1 : IntKind.i64.wrap ((k : Int) + 1) = (k : Int) + 1 := by rw [IntKind.wrap_i64]; omega
    rcases Nat.lt_or_ge k n with hlt | hge
    · have hki : (k : Int) < (n : Int) := by omega
      obtain ⟨ad, u, rfl, had, hu, hcell⟩ := (HM.out.1.below hB).at_ hlt
      have C1 := Lib.hid (HM.out.2.1 k u hu wr hB)
      have HB := Lib.hid (And.intro hall hB)
      clear hall hB hu
      go_wp2_with fail
      refine C1.out.mono ?_
      rintro e w3 ⟨rfl, hB3⟩
      have HB3 := Lib.hid (HB.out.2.trans (hB3.mono HB.out.2.size))
      clear hB3 C1
      rcases hR : R k with _ | _
      · have HR := Lib.hid hR
        clear hR
        go_wp2
        exact ⟨⟨k + 1, rfl, by omega, fun j hj => by
          rcases Nat.lt_or_ge j k with h | h
          · exact HB.out.1 j h
          · have e : j = k := by omega
            rw [e]; exact HR.out, HB3.out⟩, by simp only [intOf]; omega⟩
      · have HR := Lib.hid (HM.out.2.2.1 k hlt hR)
        clear hR
        go_wp2
        go_ret2
        exact ⟨by rw [HR.out]; rfl, HB3.out⟩
    · have hki : ¬ (k : Int) < (n : Int) := by omega
      have HR := Lib.hid (HM.out.2.2.2 fun j hj => hall j (by omega))
      have HB := Lib.hid hB
      clear hall hB
      go_wp2
      go_ret2
      exact ⟨by rw [HR.out]; rfl, HB.out⟩
end Go.Proofs.YtkmeckimmfbkiaaGreatDoor
