/- The scaling's constants are laid: a row of the table, a shift. -/
import Derived.Test.YtmphnnmnbpheiaaGreatDoorFlTiny
import Derived.Test.YtmphnnmnbpheiaaGreatDoorFlRow
namespace Go.Proofs.YtmphnnmnbpheiaaGreatDoor
open Go Go.RowKit
/-- The table of powers lies in its variable. -/
def PowTab (w : World) : Prop := ∀ i h l, Go.Pinned.pow10Rows[i]? = some (h, l) → w.cell? ⟨10, i * 2, none⟩ = some (.int .u64 (h : Nat)) ∧ w.cell? ⟨10, i * 2 + 1, none⟩ = some (.int .u64 (l : Nat))
set_option maxRecDepth 10000 in
theorem prescale_any (i : Nat) (h l : Nat) (hi : Go.Pinned.pow10Rows[i]? = some (h, l)) (e lp : Int) (he : -5000 ≤ e) (he' : e ≤ 5000) (hl : -5000 ≤ lp) (hl' : lp ≤ 5000) (g : Nat) (x0 x1 x2 : Value) (w : World)
    (hT : PowTab w) (hg : 10 < g) (hb : Blk w g 105 #[x0, x1, x2]) :
    Calls Tryz.prog 59 #[.pointer (some ⟨g, 0, none⟩), .int .i64 e, .int .i64 ((i : Int) - 348), .int .i64 lp] w fun r w' =>
      r = .returned (.tuple #[]) ∧ Blk w' g 105 #[.int .u64 (h : Nat), .int .u64 (l : Nat), .int .i64 (-(e + lp + 3))] ∧ w.grownBy w' (some g) ∧ w'.heap.size = w.heap.size := by
  have hlt : i < 696 := by
    rcases Nat.lt_or_ge i 696 with h' | h'
    · exact h'
    · rw [List.getElem?_eq_none (by rw [Fl.rows_length]; exact h')] at hi; cases hi
  obtain ⟨t1, t2⟩ := hT i h l hi
  obtain ⟨q0, q1, q2, f0, f1, f2⟩ := hb.c3
  have n1 : ¬ g = 10 := by omega
  have n2 : ¬ 10 = g := by omega
  have HB := Lib.hid hb
  clear hb hT hi hg
  go_enter Tryz.func59, Tryz.ntmps59
  go_wp2
  go_end0
  exact ⟨rfl, gen_set3 (M := fun W => Blk W g 105 #[.int .u64 (h : Nat), .int .u64 (l : Nat), .int .i64 (-(e + lp + 3))] ∧ w.grownBy W (some g) ∧ W.heap.size = w.heap.size) HB.out fun W a b c => ⟨a, b, c⟩⟩
end Go.Proofs.YtmphnnmnbpheiaaGreatDoor
