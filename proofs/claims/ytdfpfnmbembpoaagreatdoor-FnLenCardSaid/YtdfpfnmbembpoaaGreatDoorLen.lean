/- Len of every kind of value; the thin package's value, whole. (Printed by genlen.py.). -/
import Derived.Test.YtdfpfnmbembpoaaGreatDoorJVals
import Derived.Test.YtdfpfnmbembpoaaGreatDoorJSEq
import Derived.Stop.Asserts
namespace Go.Proofs.YtdfpfnmbembpoaaGreatDoor
open Go Go.RowKit
/-- How long a value is. -/
def lenS : S → Int
  | .str s => s.size
  | .bytes s => s.size
  | .list l => l.length
  | .tuple l => l.length
  | .dict l => ((l.length / 2 : Nat) : Int)
  | .set l => l.length
  | _ => -1
/-- The thin package's value makes of a value what it stands for. -/
theorem value_any : ∀ (d : Nat) (s : S) (v : Value) (w : World), d ≤ 10 → lev s ≤ d → good s → KT w → KL w → VAt w w.heap.size s v → Calls Tryz.prog 16 #[v] w (RetS w s)
  | 0, s, _, _, _, hl, _, _, _, _ => by have := lev_pos s; omega
  | d + 1, s, v, w, hd, hl, hg, hkt, hkl, hv => by
    have small : kindI s < 6 → Calls Tryz.prog 16 #[v] w (RetS w s) := fun hk => by
      obtain ⟨neg, A, n, c, b, t, K, m, dd, e⟩ := hv.shape
      have hkk : kindN s = kindI s := by cases s <;> rfl
      subst e
      rw [hkk] at hv ⊢
      exact value_scalar s (kindI s) neg A n c b t K m dd w hk fun W hB => scalar_any s hk _ W ((hv.below hB).more hB.size)
    have vals : ∀ (l : List S) (A : Option Addr) (c : Nat) (xs : List Value), l.length ≤ 16 → levL l ≤ d → goodL l → Reads w w.heap.size 6 A l.length xs → KidsV w w.heap.size l xs → ∀ W, Below w.heap.size w W → Calls Tryz.prog 26 #[.slice A l.length c] W (ValsR W l l.length) := fun l A c xs h16 hlv hgl hx hK W hW =>
      values_any l A l.length c xs W rfl h16 ((hx.below hW).more hW.size) (fun i v hi hrow => by
        obtain ⟨neg, A, n, c, b, t, K, m, dd, e⟩ := (hK.row (List.getElem?_eq_getElem hi) hrow).shape
        exact ⟨_, neg, A, n, c, b, t, K, m, dd, e⟩) fun i s u hs hrow V hV =>
        have hVw := hW.trans (hV.mono hW.size)
        value_any d s u V (by omega) (by have := lev_get l i s hs; omega) (goodL_get l i s hs hgl) (hkt.below hVw) (hkl.below hVw) (((hK.row hs hrow).below hVw).more hVw.size)
    cases s
    case none => exact small (by decide)
    case bool b => exact small (by simp [kindI])
    case int x => exact small (by simp [kindI])
    case float f => exact small (by simp [kindI])
    case str t => exact small (by simp [kindI])
    case bytes t => exact small (by simp [kindI])
    case list l =>
      simp only [VAt] at hv
      simp only [good] at hg
      simp only [lev] at hl
      obtain ⟨A, c, xs, rfl, h16, hc, hx, hK⟩ := hv
      exact value_list l false none 0 0 0 noT A l.length c w rfl h16 (vals l A c xs h16 (by omega) hg.2 hx hK)
    case tuple l =>
      simp only [VAt] at hv
      simp only [good] at hg
      simp only [lev] at hl
      obtain ⟨A, c, xs, rfl, h16, hc, hx, hK⟩ := hv
      exact value_tuple l false none 0 0 0 noT A l.length c w rfl h16 (vals l A c xs h16 (by omega) hg.2 hx hK)
    case dict l =>
      simp only [VAt] at hv
      simp only [good] at hg
      simp only [lev] at hl
      obtain ⟨A, c, xs, rfl, h16, hc, hx, hK⟩ := hv
      exact value_dict l false none 0 0 0 noT A l.length c w rfl h16 hg.2.1 hg.2.2.1 hg.2.2.2.1 hg.2.2.2.2 (by omega) hkt hkl (vals l A c xs h16 (by omega) hg.2.2.2.2 hx hK)
    case set l =>
      simp only [VAt] at hv
      simp only [good] at hg
      simp only [lev] at hl
      obtain ⟨A, c, xs, rfl, h16, hc, hx, hK⟩ := hv
      exact value_set l false none 0 0 0 noT A l.length c w rfl h16 hg.1 hg.2.1 hg.2.2.1 hg.2.2.2 (by omega) hkt hkl (vals l A c xs h16 (by omega) hg.2.2.2 hx hK)
set_option maxRecDepth 10000 in
theorem strLen_any (s : ByteArray) (w : World) : Calls Tryz.prog 36 #[.string s] w fun e w' => e = .returned (.int .i64 s.size) ∧ w' = w := by
  go_enter Tryz.func36, Tryz.ntmps36
  go_wp2
  go_ret
  exact ⟨rfl, rfl⟩
set_option maxRecDepth 10000 in
theorem bytesLen_any (s : ByteArray) (w : World) : Calls Tryz.prog 291 #[.string s] w fun e w' => e = .returned (.int .i64 s.size) ∧ w' = w := by
  go_enter Tryz.func291, Tryz.ntmps291
  go_wp2
  go_ret
  exact ⟨rfl, rfl⟩
set_option maxRecDepth 10000 in
theorem tupleLen_any (A : Option Addr) (n c : Nat) (w : World) : Calls Tryz.prog 211 #[.slice A n c] w fun e w' => e = .returned (.int .i64 n) ∧ w' = w := by
  go_enter Tryz.func211, Tryz.ntmps211
  go_wp2
  go_ret
  exact ⟨rfl, rfl⟩
set_option maxRecDepth 10000 in
theorem listLen_any (g : Nat) (A : Option Addr) (n c : Nat) (w : World) (h : w.cell? ⟨g, 0, none⟩ = some (.slice A n c)) : Calls Tryz.prog 203 #[.pointer (some ⟨g, 0, none⟩)] w fun e w' => e = .returned (.int .i64 n) ∧ w' = w := by
  go_enter Tryz.func203, Tryz.ntmps203
  go_wp2
  go_ret
  exact ⟨rfl, rfl⟩
set_option maxRecDepth 10000 in
set_option maxHeartbeats 400000 in
theorem len_none  (w : World) : Calls Tryz.prog 22 #[.iface 80 (.int .u8 0)] w fun e w' => e = .returned (.int .i64 (-1)) ∧ w' = w := by
  have a1 : ∀ w, (Instr.typeAssert (.iface 80 (.int .u8 0)) 41 66 true).run Tryz.prog w = .ok (.tuple #[.string ⟨#[]⟩, .bool false]) w := fun w => by kernel_rfl
  have a2 := fun w => (run_typeAssert_lacksB Tryz.underlying77 (by kernel_rfl) (by kernel_rfl) (.int .u8 0) _ w : (Instr.typeAssert (.iface 80 (.int .u8 0)) 41 77 true).run Tryz.prog w = .ok (.tuple #[.nilIface, .bool false]) w)
  have a3 := fun w => (run_typeAssert_lacksB Tryz.underlying79 (by kernel_rfl) (by kernel_rfl) (.int .u8 0) _ w : (Instr.typeAssert (.iface 80 (.int .u8 0)) 41 79 true).run Tryz.prog w = .ok (.tuple #[.nilIface, .bool false]) w)
  go_enter Tryz.func22, Tryz.ntmps22
  go_wp2_with fail
  go_ret
  exact ⟨rfl, rfl⟩
set_option maxRecDepth 10000 in
set_option maxHeartbeats 400000 in
theorem len_bool (b : Bool) (w : World) : Calls Tryz.prog 22 #[.iface 81 (.bool b)] w fun e w' => e = .returned (.int .i64 (-1)) ∧ w' = w := by
  have a1 : ∀ w, (Instr.typeAssert (.iface 81 (.bool b)) 41 66 true).run Tryz.prog w = .ok (.tuple #[.string ⟨#[]⟩, .bool false]) w := fun w => by kernel_rfl
  have a2 := fun w => (run_typeAssert_lacksB Tryz.underlying77 (by kernel_rfl) (by kernel_rfl) (.bool b) _ w : (Instr.typeAssert (.iface 81 (.bool b)) 41 77 true).run Tryz.prog w = .ok (.tuple #[.nilIface, .bool false]) w)
  have a3 := fun w => (run_typeAssert_lacksB Tryz.underlying79 (by kernel_rfl) (by kernel_rfl) (.bool b) _ w : (Instr.typeAssert (.iface 81 (.bool b)) 41 79 true).run Tryz.prog w = .ok (.tuple #[.nilIface, .bool false]) w)
  go_enter Tryz.func22, Tryz.ntmps22
  go_wp2_with fail
  go_ret
  exact ⟨rfl, rfl⟩
set_option maxRecDepth 10000 in
set_option maxHeartbeats 400000 in
theorem len_int (a : Int) (p : Option Addr) (w : World) : Calls Tryz.prog 22 #[.iface 86 (.agg #[.int .i64 a, .pointer p])] w fun e w' => e = .returned (.int .i64 (-1)) ∧ w' = w := by
  have a1 : ∀ w, (Instr.typeAssert (.iface 86 (.agg #[.int .i64 a, .pointer p])) 41 66 true).run Tryz.prog w = .ok (.tuple #[.string ⟨#[]⟩, .bool false]) w := fun w => by kernel_rfl
  have a2 := fun w => (run_typeAssert_lacksB Tryz.underlying77 (by kernel_rfl) (by kernel_rfl) (.agg #[.int .i64 a, .pointer p]) _ w : (Instr.typeAssert (.iface 86 (.agg #[.int .i64 a, .pointer p])) 41 77 true).run Tryz.prog w = .ok (.tuple #[.nilIface, .bool false]) w)
  have a3 := fun w => (run_typeAssert_lacksB Tryz.underlying79 (by kernel_rfl) (by kernel_rfl) (.agg #[.int .i64 a, .pointer p]) _ w : (Instr.typeAssert (.iface 86 (.agg #[.int .i64 a, .pointer p])) 41 79 true).run Tryz.prog w = .ok (.tuple #[.nilIface, .bool false]) w)
  go_enter Tryz.func22, Tryz.ntmps22
  go_wp2_with fail
  go_ret
  exact ⟨rfl, rfl⟩
set_option maxRecDepth 10000 in
set_option maxHeartbeats 400000 in
theorem len_float (f : Nat) (w : World) : Calls Tryz.prog 22 #[.iface 88 (.float .f64 f)] w fun e w' => e = .returned (.int .i64 (-1)) ∧ w' = w := by
  have a1 : ∀ w, (Instr.typeAssert (.iface 88 (.float .f64 f)) 41 66 true).run Tryz.prog w = .ok (.tuple #[.string ⟨#[]⟩, .bool false]) w := fun w => by kernel_rfl
  have a2 := fun w => (run_typeAssert_lacksB Tryz.underlying77 (by kernel_rfl) (by kernel_rfl) (.float .f64 f) _ w : (Instr.typeAssert (.iface 88 (.float .f64 f)) 41 77 true).run Tryz.prog w = .ok (.tuple #[.nilIface, .bool false]) w)
  have a3 := fun w => (run_typeAssert_lacksB Tryz.underlying79 (by kernel_rfl) (by kernel_rfl) (.float .f64 f) _ w : (Instr.typeAssert (.iface 88 (.float .f64 f)) 41 79 true).run Tryz.prog w = .ok (.tuple #[.nilIface, .bool false]) w)
  go_enter Tryz.func22, Tryz.ntmps22
  go_wp2_with fail
  go_ret
  exact ⟨rfl, rfl⟩
set_option maxRecDepth 10000 in
set_option maxHeartbeats 400000 in
theorem len_str (s : ByteArray) (w : World) : Calls Tryz.prog 22 #[.iface 66 (.string s)] w fun e w' => e = .returned (.int .i64 (s.size)) ∧ w' = w := by
  have a1 : ∀ w, (Instr.typeAssert (.iface 66 (.string s)) 41 66 true).run Tryz.prog w = .ok (.tuple #[.string s, .bool true]) w := fun w => by kernel_rfl
  go_enter Tryz.func22, Tryz.ntmps22
  go_wp2_with fail
  refine (strLen_any s w).mono ?_
  rintro e w1 ⟨rfl, rfl⟩
  go_wp2
  go_ret
  exact ⟨rfl, rfl⟩
set_option maxRecDepth 10000 in
set_option maxHeartbeats 400000 in
theorem len_bytes (s : ByteArray) (w : World) : Calls Tryz.prog 22 #[.iface 90 (.string s)] w fun e w' => e = .returned (.int .i64 (s.size)) ∧ w' = w := by
  have a1 : ∀ w, (Instr.typeAssert (.iface 90 (.string s)) 41 66 true).run Tryz.prog w = .ok (.tuple #[.string ⟨#[]⟩, .bool false]) w := fun w => by kernel_rfl
  have a2 := fun w => (run_typeAssert_hasB Tryz.underlying77 (by kernel_rfl) (.string s) _ w : (Instr.typeAssert (.iface 90 (.string s)) 41 77 true).run Tryz.prog w = .ok (.tuple #[.iface 90 (.string s), .bool true]) w)
  obtain ⟨t1, x1, e1, m1, q1⟩ : HasM (.iface 90 (.string s)) "Len" 291 (.string s) := ⟨_, _, rfl, fun w => by kernel_rfl, fun args w => by kernel_rfl⟩
  cases e1
  go_enter Tryz.func22, Tryz.ntmps22
  go_wp2_with fail
  refine (bytesLen_any s w).mono ?_
  rintro e w1 ⟨rfl, rfl⟩
  go_wp2
  go_ret
  exact ⟨rfl, rfl⟩
set_option maxRecDepth 10000 in
set_option maxHeartbeats 400000 in
theorem len_tuple (A : Option Addr) (n c : Nat) (w : World) : Calls Tryz.prog 22 #[.iface 59 (.slice A n c)] w fun e w' => e = .returned (.int .i64 (n)) ∧ w' = w := by
  have a1 : ∀ w, (Instr.typeAssert (.iface 59 (.slice A n c)) 41 66 true).run Tryz.prog w = .ok (.tuple #[.string ⟨#[]⟩, .bool false]) w := fun w => by kernel_rfl
  have a2 := fun w => (run_typeAssert_hasB Tryz.underlying77 (by kernel_rfl) (.slice A n c) _ w : (Instr.typeAssert (.iface 59 (.slice A n c)) 41 77 true).run Tryz.prog w = .ok (.tuple #[.iface 59 (.slice A n c), .bool true]) w)
  obtain ⟨t1, x1, e1, m1, q1⟩ : HasM (.iface 59 (.slice A n c)) "Len" 211 (.slice A n c) := ⟨_, _, rfl, fun w => by kernel_rfl, fun args w => by kernel_rfl⟩
  cases e1
  go_enter Tryz.func22, Tryz.ntmps22
  go_wp2_with fail
  refine (tupleLen_any A n c w).mono ?_
  rintro e w1 ⟨rfl, rfl⟩
  go_wp2
  go_ret
  exact ⟨rfl, rfl⟩
set_option maxRecDepth 10000 in
set_option maxHeartbeats 400000 in
theorem len_list (g : Nat) (A : Option Addr) (n c : Nat) (w : World) (h : w.cell? ⟨g, 0, none⟩ = some (.slice A n c)) : Calls Tryz.prog 22 #[.iface 57 (.pointer (some ⟨g, 0, none⟩))] w fun e w' => e = .returned (.int .i64 (n)) ∧ w' = w := by
  have a1 : ∀ w, (Instr.typeAssert (.iface 57 (.pointer (some ⟨g, 0, none⟩))) 41 66 true).run Tryz.prog w = .ok (.tuple #[.string ⟨#[]⟩, .bool false]) w := fun w => by kernel_rfl
  have a2 := fun w => (run_typeAssert_hasB Tryz.underlying77 (by kernel_rfl) (.pointer (some ⟨g, 0, none⟩)) _ w : (Instr.typeAssert (.iface 57 (.pointer (some ⟨g, 0, none⟩))) 41 77 true).run Tryz.prog w = .ok (.tuple #[.iface 57 (.pointer (some ⟨g, 0, none⟩)), .bool true]) w)
  obtain ⟨t1, x1, e1, m1, q1⟩ : HasM (.iface 57 (.pointer (some ⟨g, 0, none⟩))) "Len" 203 (.pointer (some ⟨g, 0, none⟩)) := ⟨_, _, rfl, fun w => by kernel_rfl, fun args w => by kernel_rfl⟩
  cases e1
  go_enter Tryz.func22, Tryz.ntmps22
  go_wp2_with fail
  refine (listLen_any g A n c w h).mono ?_
  rintro e w1 ⟨rfl, rfl⟩
  go_wp2
  go_ret
  exact ⟨rfl, rfl⟩
set_option maxRecDepth 10000 in
set_option maxHeartbeats 400000 in
theorem len_dict (g n : Nat) (hn : n < 4294967296) (w : World) (h : w.cell? ⟨g, 42, none⟩ = some (.int .u32 (n : Int))) : Calls Tryz.prog 22 #[.iface 60 (.pointer (some ⟨g, 0, none⟩))] w fun e w' => e = .returned (.int .i64 (n)) ∧ w' = w := by
  have a1 : ∀ w, (Instr.typeAssert (.iface 60 (.pointer (some ⟨g, 0, none⟩))) 41 66 true).run Tryz.prog w = .ok (.tuple #[.string ⟨#[]⟩, .bool false]) w := fun w => by kernel_rfl
  have a2 := fun w => (run_typeAssert_lacksB Tryz.underlying77 (by kernel_rfl) (by kernel_rfl) (.pointer (some ⟨g, 0, none⟩)) _ w : (Instr.typeAssert (.iface 60 (.pointer (some ⟨g, 0, none⟩))) 41 77 true).run Tryz.prog w = .ok (.tuple #[.nilIface, .bool false]) w)
  have a3 := fun w => (run_typeAssert_hasB Tryz.underlying79 (by kernel_rfl) (.pointer (some ⟨g, 0, none⟩)) _ w : (Instr.typeAssert (.iface 60 (.pointer (some ⟨g, 0, none⟩))) 41 79 true).run Tryz.prog w = .ok (.tuple #[.iface 60 (.pointer (some ⟨g, 0, none⟩)), .bool true]) w)
  obtain ⟨t1, x1, e1, m1, q1⟩ : HasM (.iface 60 (.pointer (some ⟨g, 0, none⟩))) "Len" 40 (.pointer (some ⟨g, 0, none⟩)) := ⟨_, _, rfl, fun w => by kernel_rfl, fun args w => by kernel_rfl⟩
  cases e1
  go_enter Tryz.func22, Tryz.ntmps22
  go_wp2_with fail
  refine (dictLen_any g n hn w h).mono ?_
  rintro e w1 ⟨rfl, rfl⟩
  go_wp2
  go_ret
  exact ⟨rfl, rfl⟩
set_option maxRecDepth 10000 in
set_option maxHeartbeats 400000 in
theorem len_set (g n : Nat) (hn : n < 4294967296) (w : World) (h : w.cell? ⟨g, 42, none⟩ = some (.int .u32 (n : Int))) : Calls Tryz.prog 22 #[.iface 63 (.pointer (some ⟨g, 0, none⟩))] w fun e w' => e = .returned (.int .i64 (n)) ∧ w' = w := by
  have a1 : ∀ w, (Instr.typeAssert (.iface 63 (.pointer (some ⟨g, 0, none⟩))) 41 66 true).run Tryz.prog w = .ok (.tuple #[.string ⟨#[]⟩, .bool false]) w := fun w => by kernel_rfl
  have a2 := fun w => (run_typeAssert_lacksB Tryz.underlying77 (by kernel_rfl) (by kernel_rfl) (.pointer (some ⟨g, 0, none⟩)) _ w : (Instr.typeAssert (.iface 63 (.pointer (some ⟨g, 0, none⟩))) 41 77 true).run Tryz.prog w = .ok (.tuple #[.nilIface, .bool false]) w)
  have a3 := fun w => (run_typeAssert_hasB Tryz.underlying79 (by kernel_rfl) (.pointer (some ⟨g, 0, none⟩)) _ w : (Instr.typeAssert (.iface 63 (.pointer (some ⟨g, 0, none⟩))) 41 79 true).run Tryz.prog w = .ok (.tuple #[.iface 63 (.pointer (some ⟨g, 0, none⟩)), .bool true]) w)
  obtain ⟨t1, x1, e1, m1, q1⟩ : HasM (.iface 63 (.pointer (some ⟨g, 0, none⟩))) "Len" 42 (.pointer (some ⟨g, 0, none⟩)) := ⟨_, _, rfl, fun w => by kernel_rfl, fun args w => by kernel_rfl⟩
  cases e1
  go_enter Tryz.func22, Tryz.ntmps22
  go_wp2_with fail
  refine (setLen_any g n hn w h).mono ?_
  rintro e w1 ⟨rfl, rfl⟩
  go_wp2
  go_ret
  exact ⟨rfl, rfl⟩
/-- Len of every kind of value. -/
theorem len_any (s : S) (u : Value) (w : World) (B : Nat) (h : SAt w B s u) : Calls Tryz.prog 22 #[u] w fun e w' => e = .returned (.int .i64 (lenS s)) ∧ w' = w := by
  cases s <;> simp only [SAt] at h
  case none => subst h; exact len_none w
  case bool b => subst h; exact len_bool b w
  case int x => obtain ⟨a, p, rfl, _⟩ := h; exact len_int a p w
  case float f => obtain ⟨rfl, _⟩ := h; exact len_float f w
  case str s => obtain ⟨rfl, _⟩ := h; exact len_str s w
  case bytes s => obtain ⟨rfl, _⟩ := h; exact len_bytes s w
  case list l => obtain ⟨g, A, c, rfl, _, h⟩ := h; exact len_list g A _ c w h
  case tuple l => obtain ⟨A, c, xs, rfl, _⟩ := h; exact len_tuple A _ c w
  case dict l => obtain ⟨g, rfl, _, h, h16⟩ := h; exact len_dict g _ (by omega) w h
  case set l => obtain ⟨g, rfl, _, h, h16⟩ := h; exact len_set g _ (by omega) w h
end Go.Proofs.YtdfpfnmbembpoaaGreatDoor
