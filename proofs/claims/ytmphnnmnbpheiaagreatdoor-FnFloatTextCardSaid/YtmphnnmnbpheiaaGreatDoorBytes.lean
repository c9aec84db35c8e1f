/- Rows of bytes. -/
import Derived.Test.YtmphnnmnbpheiaaGreatDoorProg
import Derived.Test.YtmphnnmnbpheiaaGreatDoorMem
import Derived.WalkKit
import Derived.Outline
import Derived.WalkSpells
import Derived.WalkLawsBesides
import Derived.Lib.Hide
namespace Go.Proofs.YtmphnnmnbpheiaaGreatDoor
open Go Go.RowKit
def bv (l : List UInt8) : List Value := l.map fun b => Value.int .u8 (b.toNat : Int)
theorem bv_len (l : List UInt8) : (bv l).length = l.length := by simp [bv]
theorem bv_get (l : List UInt8) (k : Nat) (h : k < l.length) : (bv l)[k]? = some (.int .u8 (l[k].toNat : Int)) := by simp [bv, h]
theorem bv_drop (l : List UInt8) (k : Nat) : (bv l).drop k = bv (l.drop k) := by simp [bv]
theorem bv_take (l : List UInt8) (k : Nat) : (bv l).take k = bv (l.take k) := by simp [bv]
theorem bv_one (l : List UInt8) : ∀ u ∈ bv l, u.oneCell' = true := by
  intro u hu
  obtain ⟨b, _, rfl⟩ := List.mem_map.1 hu
  rfl
theorem Reads.byte {w : World} {B : Nat} {A : Option Addr} {l : List UInt8} (h : Reads w B 1 A l.length (bv l)) {k : Nat} (hk : k < l.length) :
    ∃ ad, A = some ad ∧ ad.block < B ∧ w.cell? (ad.add k) = some (.int .u8 (l[k].toNat : Int)) := by
  obtain ⟨ad, u, e, hb, hx, hc⟩ := h.at_ hk
  rw [bv_get l k hk] at hx
  injection hx with hx
  subst hx
  exact ⟨ad, e, hb, hc⟩
theorem Reads.byteQ {w : World} {B n : Nat} {A : Option Addr} {l : List UInt8} (h : Reads w B 1 A n (bv l)) {k : Nat} (hk : k < n) :
    ∃ ad b, A = some ad ∧ ad.block < B ∧ l[k]? = some b ∧ w.cell? (ad.add k) = some (.int .u8 (b.toNat : Int)) := by
  have hn : l.length = n := by have := h.1; rw [bv_len] at this; omega
  subst hn
  obtain ⟨ad, e, hb, hc⟩ := h.byte hk
  exact ⟨ad, l[k], e, hb, List.getElem?_eq_getElem hk, hc⟩
theorem info5 : (Tryz.prog.info? 5).map (fun i => (i.zero, i.size, i.bytes)) = some (some (.int .u8 0), 1, 1) := by kernel_rfl
/-- What stands behind the zeros ahead. -/
def cutB (l : List UInt8) : List UInt8 := l.dropWhile (· == 0)
theorem cutB_of (l : List UInt8) (k : Nat) (hk : k ≤ l.length) (h0 : ∀ j (hj : j < k), l[j]'(by omega) = 0) (h1 : ∀ h : k < l.length, l[k] ≠ 0) : cutB l = l.drop k := by
  induction l generalizing k with
  | nil => simp [cutB]
  | cons a l ih =>
    cases k with
    | zero =>
      have := h1 (by simp)
      simp only [List.getElem_cons_zero] at this
      simp [cutB, this]
    | succ k =>
      have ha := h0 0 (by omega)
      simp only [List.getElem_cons_zero] at ha
      subst ha
      have := ih k (by simp at hk; omega) (fun j hj => by simpa using h0 (j + 1) (by omega)) (fun h hh => h1 (by simp; omega) (by simpa using hh))
      simpa [cutB] using this
section
variable {w : World}
/-- 'append' of bytes onto a row of the call's own. -/
theorem app_bytes {ops : Array Oper} {rest : List Oper} {o : Oper} {a : Act} {Q : Exit → Act → World → Prop} (hgd : o.guard = none) (s x : Operand)
    (ho : o.op = .call { callee := .builtin .append, args := #[s, x], argTypes := #[38, 38] })
    (base : Nat) (v : Value) (n : Nat) (xs : List UInt8) (hs : a.eval s = v) (hown : w.ownsRow base 5 1 v n (bv xs))
    (B : Nat) (A : Option Addr) (m c : Nat) (ys : List UInt8) (hx : a.eval x = .slice A m c) (hr : Reads w B 1 A m (bv ys)) (hb : n + m ≤ 140737488355328) (hbase : base ≤ w.heap.size)
    (h : ∀ v' w', w'.ownsRow base 5 1 v' (n + m) (bv (xs ++ ys)) → w.grownBy w' v.ownBlock → (v'.ownBlock = v.ownBlock ∨ v'.ownBlock = some w.heap.size) → wpList Tryz.prog ops Q rest (a.put o.dst v') w') : wpList Tryz.prog ops Q (o :: rest) a w := by
  obtain ⟨i, hi, hz0, hz1, hz2⟩ := info_parts info5
  refine wpList_append_any w hgd s x 38 ho base 5 i (.int .u8 0) 1 1 Tryz.underlying38 hi hz0 hz1 hz2 rfl (by decide) v n (bv xs) hs hown B A m c (bv ys) hx hr (bv_one ys) (by unfold maxLen; omega) (by omega) hbase ?_
  intro v' w' h1 h2 h3
  exact h v' w' (by simpa [bv] using h1) h2 h3
theorem step_app_bytes {ops : Array Oper} {o : Oper} {a : Act} {K : Act → World → Prop} {Q : Exit → Act → World → Prop} {E : Prop} (hgd : o.guard = none) (s x : Operand)
    (ho : o.op = .call { callee := .builtin .append, args := #[s, x], argTypes := #[38, 38] })
    (base : Nat) (v : Value) (n : Nat) (xs : List UInt8) (hs : a.eval s = v) (hown : w.ownsRow base 5 1 v n (bv xs))
    (B : Nat) (A : Option Addr) (m c : Nat) (ys : List UInt8) (hx : a.eval x = .slice A m c) (hr : Reads w B 1 A m (bv ys)) (hb : n + m ≤ 140737488355328) (hbase : base ≤ w.heap.size)
    (h : ∀ v' w', w'.ownsRow base 5 1 v' (n + m) (bv (xs ++ ys)) → w.grownBy w' v.ownBlock → (v'.ownBlock = v.ownBlock ∨ v'.ownBlock = some w.heap.size) → K (a.put o.dst v') w') :
    if Region.wanted o (yielded ops a.tmps) = true then Oper.wp Tryz.prog o a w K Q else E := by
  obtain ⟨i, hi, hz0, hz1, hz2⟩ := info_parts info5
  refine step_append_any w hgd s x 38 ho base 5 i (.int .u8 0) 1 1 Tryz.underlying38 hi hz0 hz1 hz2 rfl (by decide) v n (bv xs) hs hown B A m c (bv ys) hx hr (bv_one ys) (by unfold maxLen; omega) (by omega) hbase ?_
  intro v' w' h1 h2 h3
  exact h v' w' (by simpa [bv] using h1) h2 h3
end
theorem ownsB_mk {w w' : World} {v : Value} {l r : List UInt8} {n : Nat} (hr : r = l) (h : w'.ownsRow w.heap.size 5 1 v n (bv l)) (hb : Below w.heap.size w w') : Owns 5 1 w r.length (bv r) (.returned v) w' := by
  subst hr
  have h1 : (bv r).length = n * 1 := h.1
  rw [bv_len] at h1
  exact owns_mk (by omega) h hb
end Go.Proofs.YtmphnnmnbpheiaaGreatDoor
