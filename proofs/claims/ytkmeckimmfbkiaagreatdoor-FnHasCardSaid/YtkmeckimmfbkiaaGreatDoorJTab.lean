/- Equality of keys; the cells of a small table. Conditions: the package variables karatsubaThreshold and CompareLimit hold 40 and 10. -/
import Derived.Test.YtkmeckimmfbkiaaGreatDoorCmp9
namespace Go.Proofs.YtkmeckimmfbkiaaGreatDoor
open Go Go.RowKit
def KL (w : World) : Prop := w.cell? ⟨3, 0, none⟩ = some (.int .i64 10)
theorem KL.below {w w' : World} (h : KL w) (hb : Below w.heap.size w w') : KL w' := (hb.cell (World.block_lt_of_cell? w _ h)).trans h
set_option maxRecDepth 10000 in
theorem notStr (k : KTy) (hk : k ≠ .str) (u : Value) (h : TyOf k u) : ∀ w, (Instr.typeAssert u 43 98 true).run Tryz.prog w = .ok (.tuple #[.string ⟨#[]⟩, .bool false]) w := by
  cases k <;> simp only [TyOf] at h
  case str => exact absurd rfl hk
  case int => obtain ⟨a, b, rfl⟩ := h; exact fun w => by kernel_rfl
  all_goals
    obtain ⟨v, rfl⟩ := h
    exact fun w => by kernel_rfl
set_option maxRecDepth 10000 in
set_option maxHeartbeats 400000 in
theorem equal_slow (u v : Value) (T : Bool) (w : World) (hl : KL w) (h1 : ∀ w, (Instr.typeAssert u 43 98 true).run Tryz.prog w = .ok (.tuple #[.string ⟨#[]⟩, .bool false]) w)
    (h : Calls Tryz.prog 91 #[u, v, .int .i64 (10 : Nat)] w (Eqd w T)) :
    Calls Tryz.prog 80 #[u, v] w (Eqd w T) := by
  have H := Lib.hid h
  unfold KL at hl
  clear h
  go_enter Tryz.func80, Tryz.ntmps80
  go_wp2_with fail
  refine H.out.mono ?_
  rintro e w1 ⟨rfl, hB⟩
  have HB := Lib.hid hB
  clear hB H
  go_wp2
  go_ret2
  exact ⟨rfl, HB.out⟩
set_option maxRecDepth 10000 in
set_option maxHeartbeats 400000 in
theorem equal_str (a : ByteArray) (v : Value) (R : Bool) (w : World) (he : ∀ w, (binOp .eql 43 (.iface 98 (.string a)) v).run Tryz.prog w = .ok (.bool R) w) :
    Calls Tryz.prog 80 #[.iface 98 (.string a), v] w (Eqd w R) := by
  have h1 : ∀ w, (Instr.typeAssert (.iface 98 (.string a)) 43 98 true).run Tryz.prog w = .ok (.tuple #[.string a, .bool true]) w := fun w => by kernel_rfl
  go_enter Tryz.func80, Tryz.ntmps80
  go_wp2_with fail
  go_ret2
  exact ⟨rfl, Below.refl _ _⟩
theorem bytes_beq (a b : ByteArray) : (a.toList == b.toList) = decide (a = b) := by
  rw [Bool.eq_iff_iff]
  simp only [beq_iff_eq, decide_eq_true_eq, ByteArray.toList_eq]
  constructor
  · intro h
    have h2 : a.data = b.data := Array.toList_inj.1 h
    cases a; cases b; simpa using h2
  · rintro rfl; rfl
theorem eql_str (a b : ByteArray) (w : World) : (binOp .eql 43 (.iface 98 (.string a)) (.iface 98 (.string b))).run Tryz.prog w = .ok (.bool (decide (a = b))) w := by
  have h : (binOp .eql 43 (.iface 98 (.string a)) (.iface 98 (.string b))).run Tryz.prog w = .ok (.bool (a.toList == b.toList)) w := by
    have h : ∀ d : Nat, (Op.equalIn (d + 2) 43 (.iface 98 (.string a)) (.iface 98 (.string b))).run Tryz.prog w = .ok (a.toList == b.toList) w := fun d => by
      have hc : Tryz.t98.comparable = true := by kernel_rfl
      simp [Op.equalIn, run_underlying Tryz.underlying43, run_underlying Tryz.underlying98, hc, beq_toListBytes]
    simp only [binOp]
    simp [Op.equal, Op.maxDepth, h 9998]
  rw [h, bytes_beq]
/-- Are two values that can be keys equal? -/
theorem equal_any (s t : S) (u v : Value) (w : World) (hl : lev s ≤ 10) (fs : fitS s) (ft : fitS t) (ks : keyS s = true) (kt : keyS t = true) (hk : KT w) (hK : KL w) (hu : SAt w w.heap.size s u) (hv : SAt w w.heap.size t v) :
    Calls Tryz.prog 80 #[u, v] w (Eqd w (eqS s t)) := by
  by_cases hs : kty s = .str
  · cases s <;> first | (simp [kty] at hs; done) | skip
    rename_i a
    simp only [SAt] at hu
    obtain ⟨rfl, _⟩ := hu
    by_cases ht : kty t = .str
    · cases t <;> first | (simp [kty] at ht; done) | skip
      rename_i b
      simp only [SAt] at hv
      obtain ⟨rfl, _⟩ := hv
      exact equal_str a _ _ w fun w => eql_str a b w
    · obtain ⟨T, x, rfl⟩ := hv.iface
      have tv := hv.ty kt
      have hT : T ≠ 98 := by
        revert ht tv
        cases kty t <;> intro ht tv <;> simp only [TyOf] at tv <;> first | (exact absurd rfl ht) | (obtain ⟨a, b, e⟩ := tv; cases e; decide) | (obtain ⟨a, e⟩ := tv; cases e; decide)
      have e : eqS (.str a) t = false := by cases t <;> first | (simp [kty] at ht; done) | simp [eqS]
      rw [e]
      exact equal_str a _ _ w fun w => run_eql_iface_types _ _ _ _ Tryz.underlying43 (Ne.symm hT) w
  · exact equal_slow u v _ w hK (notStr _ hs u (hu.ty ks)) (eqD_any 10 (by omega) s t u v w hl fs ft ks kt hk hu hv)
end Go.Proofs.YtkmeckimmfbkiaaGreatDoor
namespace Go.Proofs.YtkmeckimmfbkiaaGreatDoor
open Go Go.RowKit
/-- Where entry j begins. -/
def slotO (j : Nat) : Nat := 1 + 5 * (7 - j)
/-- The five cells of entry j of n. -/
def entryC (g n j : Nat) (e : Nat × Value × Value) : List Value :=
  [.int .u32 e.1, e.2.1, e.2.2, (if j + 1 < n then .pointer (some ⟨g, slotO (j + 1), none⟩) else .pointer none), (if j = 0 then .pointer (some ⟨g, 44, none⟩) else .pointer (some ⟨g, slotO (j - 1) + 3, none⟩))]
def emptyC : List Value := [.int .u32 0, .nilIface, .nilIface, .pointer none, .pointer none]
def slotC (g : Nat) (es : List (Nat × Value × Value)) (j : Nat) : List Value :=
  match es[j]? with
  | some e => entryC g es.length j e
  | none => emptyC
def headC (g : Nat) (es : List (Nat × Value × Value)) : Value := if es.length = 0 then nilS else .slice (some ⟨g, 1, none⟩) 1 1
def tailC (g : Nat) (es : List (Nat × Value × Value)) : List Value :=
  [.pointer none, .int .u32 es.length, .int .u32 0, (if es.length = 0 then .pointer none else .pointer (some ⟨g, 36, none⟩)),
    (if es.length = 0 then .pointer none else .pointer (some ⟨g, slotO (es.length - 1) + 3, none⟩)), .bool false]
/-- The whole table. -/
def tabC (g : Nat) (es : List (Nat × Value × Value)) : Array Value :=
  (headC g es :: (slotC g es 7 ++ (slotC g es 6 ++ (slotC g es 5 ++ (slotC g es 4 ++ (slotC g es 3 ++ (slotC g es 2 ++ (slotC g es 1 ++ (slotC g es 0 ++ tailC g es))))))))).toArray
/-- The table of no key, made ready. -/
def tabI (g : Nat) : Array Value := ((tabC g []).setIfInBounds 0 (.slice (some ⟨g, 1, none⟩) 1 1)).setIfInBounds 45 (.pointer (some ⟨g, 44, none⟩))
theorem tab_s1 (g : Nat) (a : Nat × Value × Value) (h : Nat) (k v : Value) : (((((((tabC g [a]).setIfInBounds (slotO [a].length) (.int .u32 h)).setIfInBounds (slotO [a].length + 1) k).setIfInBounds (slotO [a].length + 2) v).setIfInBounds (slotO [a].length + 4) (.pointer (some ⟨g, slotO ([a].length - 1) + 3, none⟩))).setIfInBounds (slotO ([a].length - 1) + 3) (.pointer (some ⟨g, slotO [a].length, none⟩))).setIfInBounds 45 (.pointer (some ⟨g, slotO [a].length + 3, none⟩))).setIfInBounds 42 (.int .u32 (([a].length : Int) + 1)) = tabC g ([a] ++ [(h, k, v)]) := by kernel_rfl
theorem tab_s2 (g : Nat) (a b : Nat × Value × Value) (h : Nat) (k v : Value) : (((((((tabC g [a, b]).setIfInBounds (slotO [a, b].length) (.int .u32 h)).setIfInBounds (slotO [a, b].length + 1) k).setIfInBounds (slotO [a, b].length + 2) v).setIfInBounds (slotO [a, b].length + 4) (.pointer (some ⟨g, slotO ([a, b].length - 1) + 3, none⟩))).setIfInBounds (slotO ([a, b].length - 1) + 3) (.pointer (some ⟨g, slotO [a, b].length, none⟩))).setIfInBounds 45 (.pointer (some ⟨g, slotO [a, b].length + 3, none⟩))).setIfInBounds 42 (.int .u32 (([a, b].length : Int) + 1)) = tabC g ([a, b] ++ [(h, k, v)]) := by kernel_rfl
theorem tab_s3 (g : Nat) (a b c : Nat × Value × Value) (h : Nat) (k v : Value) : (((((((tabC g [a, b, c]).setIfInBounds (slotO [a, b, c].length) (.int .u32 h)).setIfInBounds (slotO [a, b, c].length + 1) k).setIfInBounds (slotO [a, b, c].length + 2) v).setIfInBounds (slotO [a, b, c].length + 4) (.pointer (some ⟨g, slotO ([a, b, c].length - 1) + 3, none⟩))).setIfInBounds (slotO ([a, b, c].length - 1) + 3) (.pointer (some ⟨g, slotO [a, b, c].length, none⟩))).setIfInBounds 45 (.pointer (some ⟨g, slotO [a, b, c].length + 3, none⟩))).setIfInBounds 42 (.int .u32 (([a, b, c].length : Int) + 1)) = tabC g ([a, b, c] ++ [(h, k, v)]) := by kernel_rfl
theorem tab_s4 (g : Nat) (a b c d : Nat × Value × Value) (h : Nat) (k v : Value) : (((((((tabC g [a, b, c, d]).setIfInBounds (slotO [a, b, c, d].length) (.int .u32 h)).setIfInBounds (slotO [a, b, c, d].length + 1) k).setIfInBounds (slotO [a, b, c, d].length + 2) v).setIfInBounds (slotO [a, b, c, d].length + 4) (.pointer (some ⟨g, slotO ([a, b, c, d].length - 1) + 3, none⟩))).setIfInBounds (slotO ([a, b, c, d].length - 1) + 3) (.pointer (some ⟨g, slotO [a, b, c, d].length, none⟩))).setIfInBounds 45 (.pointer (some ⟨g, slotO [a, b, c, d].length + 3, none⟩))).setIfInBounds 42 (.int .u32 (([a, b, c, d].length : Int) + 1)) = tabC g ([a, b, c, d] ++ [(h, k, v)]) := by kernel_rfl
theorem tab_s5 (g : Nat) (a b c d e : Nat × Value × Value) (h : Nat) (k v : Value) : (((((((tabC g [a, b, c, d, e]).setIfInBounds (slotO [a, b, c, d, e].length) (.int .u32 h)).setIfInBounds (slotO [a, b, c, d, e].length + 1) k).setIfInBounds (slotO [a, b, c, d, e].length + 2) v).setIfInBounds (slotO [a, b, c, d, e].length + 4) (.pointer (some ⟨g, slotO ([a, b, c, d, e].length - 1) + 3, none⟩))).setIfInBounds (slotO ([a, b, c, d, e].length - 1) + 3) (.pointer (some ⟨g, slotO [a, b, c, d, e].length, none⟩))).setIfInBounds 45 (.pointer (some ⟨g, slotO [a, b, c, d, e].length + 3, none⟩))).setIfInBounds 42 (.int .u32 (([a, b, c, d, e].length : Int) + 1)) = tabC g ([a, b, c, d, e] ++ [(h, k, v)]) := by kernel_rfl
theorem tab_s6 (g : Nat) (a b c d e f : Nat × Value × Value) (h : Nat) (k v : Value) : (((((((tabC g [a, b, c, d, e, f]).setIfInBounds (slotO [a, b, c, d, e, f].length) (.int .u32 h)).setIfInBounds (slotO [a, b, c, d, e, f].length + 1) k).setIfInBounds (slotO [a, b, c, d, e, f].length + 2) v).setIfInBounds (slotO [a, b, c, d, e, f].length + 4) (.pointer (some ⟨g, slotO ([a, b, c, d, e, f].length - 1) + 3, none⟩))).setIfInBounds (slotO ([a, b, c, d, e, f].length - 1) + 3) (.pointer (some ⟨g, slotO [a, b, c, d, e, f].length, none⟩))).setIfInBounds 45 (.pointer (some ⟨g, slotO [a, b, c, d, e, f].length + 3, none⟩))).setIfInBounds 42 (.int .u32 (([a, b, c, d, e, f].length : Int) + 1)) = tabC g ([a, b, c, d, e, f] ++ [(h, k, v)]) := by kernel_rfl
theorem tab_s7 (g : Nat) (a b c d e f i : Nat × Value × Value) (h : Nat) (k v : Value) : (((((((tabC g [a, b, c, d, e, f, i]).setIfInBounds (slotO [a, b, c, d, e, f, i].length) (.int .u32 h)).setIfInBounds (slotO [a, b, c, d, e, f, i].length + 1) k).setIfInBounds (slotO [a, b, c, d, e, f, i].length + 2) v).setIfInBounds (slotO [a, b, c, d, e, f, i].length + 4) (.pointer (some ⟨g, slotO ([a, b, c, d, e, f, i].length - 1) + 3, none⟩))).setIfInBounds (slotO ([a, b, c, d, e, f, i].length - 1) + 3) (.pointer (some ⟨g, slotO [a, b, c, d, e, f, i].length, none⟩))).setIfInBounds 45 (.pointer (some ⟨g, slotO [a, b, c, d, e, f, i].length + 3, none⟩))).setIfInBounds 42 (.int .u32 (([a, b, c, d, e, f, i].length : Int) + 1)) = tabC g ([a, b, c, d, e, f, i] ++ [(h, k, v)]) := by kernel_rfl
/-- One more key: what the stores make of the table. -/
theorem tab_step (g : Nat) (es : List (Nat × Value × Value)) (h : Nat) (k v : Value) (h0 : 0 < es.length) (hn : es.length ≤ 7) :
    (((((((tabC g es).setIfInBounds (slotO es.length) (.int .u32 h)).setIfInBounds (slotO es.length + 1) k).setIfInBounds (slotO es.length + 2) v).setIfInBounds (slotO es.length + 4) (.pointer (some ⟨g, slotO (es.length - 1) + 3, none⟩))).setIfInBounds (slotO (es.length - 1) + 3) (.pointer (some ⟨g, slotO es.length, none⟩))).setIfInBounds 45 (.pointer (some ⟨g, slotO es.length + 3, none⟩))).setIfInBounds 42 (.int .u32 ((es.length : Int) + 1)) = tabC g (es ++ [(h, k, v)]) := by
  match es, h0, hn with
  | [a], _, _ => exact tab_s1 g a h k v
  | [a, b], _, _ => exact tab_s2 g a b h k v
  | [a, b, c], _, _ => exact tab_s3 g a b c h k v
  | [a, b, c, d], _, _ => exact tab_s4 g a b c d h k v
  | [a, b, c, d, e], _, _ => exact tab_s5 g a b c d e h k v
  | [a, b, c, d, e, f], _, _ => exact tab_s6 g a b c d e f h k v
  | [a, b, c, d, e, f, i], _, _ => exact tab_s7 g a b c d e f i h k v
theorem tab_first (g h : Nat) (k v : Value) :
    (((((((tabI g).setIfInBounds 36 (.int .u32 h)).setIfInBounds 37 k).setIfInBounds 38 v).setIfInBounds 40 (.pointer (some ⟨g, 44, none⟩))).setIfInBounds 44 (.pointer (some ⟨g, 36, none⟩))).setIfInBounds 45 (.pointer (some ⟨g, 39, none⟩))).setIfInBounds 42 (.int .u32 1) = tabC g [(h, k, v)] := by kernel_rfl
end Go.Proofs.YtkmeckimmfbkiaaGreatDoor
