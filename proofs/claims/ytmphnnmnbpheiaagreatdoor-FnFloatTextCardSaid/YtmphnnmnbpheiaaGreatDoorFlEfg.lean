/- The text of a float's digits, written into a row of the call's own. -/
import Derived.Test.YtmphnnmnbpheiaaGreatDoorFlSetDig
namespace Go.Proofs.YtmphnnmnbpheiaaGreatDoor
open Go Go.RowKit
open Fl
/-- A row of the call's own that holds these bytes; the digits lie elsewhere. -/
structure Dst (base gb : Nat) (l : List UInt8) (w0 w : World) (v : Value) (n : Nat) (xs : List UInt8) : Prop where
  len : n = xs.length
  own : w.ownsRow base 5 1 v n (bv xs)
  below : Below base w0 w
  dig : DigAt w gb l
  ne : v.ownBlock ≠ some gb
  base : base ≤ w.heap.size
theorem own_lt {w : World} {base e size n : Nat} {v : Value} {xs : List Value} (h : w.ownsRow base e size v n xs) (g : Nat) (hg : v.ownBlock = some g) : g < w.heap.size ∧ base ≤ g := by
  rcases h.2 with ⟨rfl, _⟩ | ⟨g', cap, cur, rfl, hb, hh, _⟩
  · simp [Value.ownBlock] at hg
  · have : g' = g := by simpa [Value.ownBlock] using hg
    subst this
    refine ⟨?_, hb⟩
    rcases Nat.lt_or_ge g' w.heap.size with h | h
    · exact h
    · rw [Array.getElem?_eq_none h] at hh; cases hh
theorem Dst.alloc {base gb : Nat} {l : List UInt8} {w0 w : World} {v : Value} {n : Nat} {xs : List UInt8} (h : Dst base gb l w0 w v n xs) (o : Obj) : Dst base gb l w0 (w.alloc o) v n xs :=
  ⟨h.len, h.own.alloc o, h.below.alloc h.base o, h.dig.alloc o, h.ne, by have := h.base; simp; omega⟩
section
variable {w : World}
/-- 'append' onto it, of bytes that lie in memory. -/
theorem app_dst {ops : Array Oper} {rest : List Oper} {o : Oper} {a : Act} {Q : Exit → Act → World → Prop} (hgd : o.guard = none) (s x : Operand)
    (ho : o.op = .call { callee := .builtin .append, args := #[s, x], argTypes := #[38, 38] })
    (base gb : Nat) (l : List UInt8) (w0 : World) (v : Value) (n : Nat) (xs : List UInt8) (hs : a.eval s = v) (hD : Dst base gb l w0 w v n xs)
    (B : Nat) (A : Option Addr) (m c : Nat) (ys : List UInt8) (hx : a.eval x = .slice A m c) (hr : Reads w B 1 A m (bv ys)) (hb : n + m ≤ 140737488355328)
    (h : ∀ A' c' w', Dst base gb l w0 w' (.slice A' (n + m) c') (n + m) (xs ++ ys) → wpList Tryz.prog ops Q rest (a.put o.dst (.slice A' (n + m) c')) w') : wpList Tryz.prog ops Q (o :: rest) a w := by
  refine app_bytes hgd s x ho base v n xs hs hD.own B A m c ys hx hr hb hD.base ?_
  intro v' w' h1 h2 h3
  have hlen : n + m = (xs ++ ys).length := by have := h1.1; rw [bv_len] at this; omega
  obtain ⟨A', c', rfl, hc, _, hA⟩ := own_slice h1
  refine h A' c' w' ⟨hlen, h1, ?_, hD.dig.grown h2 hD.ne, ?_, by have := h2.size; have := hD.base; omega⟩
  · refine hD.below.grown h2 hD.base ?_
    intro k e
    exact (own_lt hD.own k e).2
  · rcases h3 with e | e
    · rw [e]; exact hD.ne
    · rw [e]; intro h; injection h with h; have := hD.dig.1; omega
end
theorem reads_new {w : World} {cells : Array Value} (cs : List UInt8) (hc : cells = (bv cs).toArray) (m : Nat) (hm : m = cs.length) :
    Reads (w.alloc (.cells cells 5)) (w.heap.size + 1) 1 (some ⟨w.heap.size, 0, none⟩) m (bv cs) := by
  subst hc hm
  refine ⟨by simp [bv_len], fun _ => ⟨_, rfl, by simp, fun j u hu => ?_⟩⟩
  have hb := Blk.new w 5 (bv cs).toArray
  show (w.alloc _).cell? (Addr.add ⟨w.heap.size, 0, none⟩ j) = some u
  have : Addr.add ⟨w.heap.size, 0, none⟩ j = ⟨w.heap.size, j, none⟩ := by
    unfold Addr.add; split
    · rename_i h; rw [h]
    · simp
  rw [this, hb.cell j]
  simpa using hu
theorem cells2 {a b : Int} {x y : UInt8} (ha : a = (x.toNat : Int)) (hb : b = (y.toNat : Int)) : #[Value.int .u8 a, Value.int .u8 b] = (bv [x, y]).toArray := by
  subst ha hb; rfl
theorem cells3 {a b c : Int} {x y z : UInt8} (ha : a = (x.toNat : Int)) (hb : b = (y.toNat : Int)) (hc : c = (z.toNat : Int)) : #[Value.int .u8 a, Value.int .u8 b, Value.int .u8 c] = (bv [x, y, z]).toArray := by
  subst ha hb hc; rfl
theorem cells1 {a : Int} {x : UInt8} (ha : a = (x.toNat : Int)) : #[Value.int .u8 a] = (bv [x]).toArray := by
  subst ha; rfl
/-- The digits from one place on. -/
theorem DigAt.reads {w : World} {g : Nat} {l : List UInt8} (h : DigAt w g l) (k n : Nat) (hn : k + n = l.length) : Reads w (g + 1) 1 (some ⟨g, k, none⟩) n (bv (l.drop k)) := by
  refine ⟨by rw [bv_len, List.length_drop]; omega, fun _ => ⟨_, rfl, by simp, fun j u hu => ?_⟩⟩
  have : Addr.add ⟨g, k, none⟩ j = ⟨g, k + j, none⟩ := by
    unfold Addr.add; split
    · rename_i h; rw [h]; rfl
    · rfl
  rw [this]
  have hj : k + j < l.length := by
    rcases Nat.lt_or_ge (k + j) l.length with h' | h'
    · exact h'
    · rw [bv, List.getElem?_map, List.getElem?_drop, List.getElem?_eq_none h'] at hu; cases hu
  rw [h.2 (k + j) hj, ← hu, bv, List.getElem?_map, List.getElem?_drop, List.getElem?_eq_getElem hj]
  rfl
/-- An exponent's digits. -/
def exp2 (y : Nat) : List UInt8 := if y < 10 then [48, UInt8.ofNat (48 + y)] else if y < 100 then [UInt8.ofNat (48 + y / 10), UInt8.ofNat (48 + y % 10)] else [UInt8.ofNat (48 + y / 100), UInt8.ofNat (48 + y / 10 % 10), UInt8.ofNat (48 + y % 10)]
def sgn (neg : Bool) : List UInt8 := if neg then [45] else []
def efgE (neg : Bool) (l : List UInt8) (x : Int) : List UInt8 := sgn neg ++ l.take 1 ++ (if 1 < l.length then 46 :: l.drop 1 else []) ++ [101] ++ [if x < 0 then 45 else 43] ++ exp2 x.natAbs
/-- The row, longer by a text, is handed back. -/
def Told (base : Nat) (w0 : World) (t : List UInt8) (e : Ending) (w' : World) : Prop :=
  ∃ A c, e = .returned (.slice A t.length c) ∧ w'.ownsRow base 5 1 (.slice A t.length c) t.length (bv t) ∧ Below base w0 w'
theorem told_of {base gb : Nat} {l : List UInt8} {w0 w : World} {A : Option Addr} {c n : Nat} {xs t : List UInt8} (h : Dst base gb l w0 w (.slice A n c) n xs) (ht : xs = t) : Told base w0 t (.returned (.slice A n c)) w := by
  subst ht
  obtain ⟨h1, h2, h3, _⟩ := h
  subst h1
  exact ⟨A, c, rfl, h2, h3⟩
theorem byte_of (y : Nat) (h : y < 10) : ((UInt8.ofNat (48 + y)).toNat : Int) = (y : Int) + 48 := by
  rw [UInt8.toNat_ofNat']; omega
end Go.Proofs.YtmphnnmnbpheiaaGreatDoor
