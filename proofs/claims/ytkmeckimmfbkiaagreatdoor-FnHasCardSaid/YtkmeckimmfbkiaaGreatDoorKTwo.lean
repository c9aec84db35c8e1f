/- A region that draws its order, by a condition that every operation keeps; two values made clean by one statement. Conditions: none. -/
import Derived.Test.YtkmeckimmfbkiaaGreatDoorJBase
import Derived.Test.YtkmeckimmfbkiaaGreatDoorSCl2
namespace Go.Proofs.YtkmeckimmfbkiaaGreatDoor
open Go Go.RowKit
theorem count_set : ∀ (l : List Bool) (i : Nat), l[i]? = some false → (l.set i true).count false + 1 = l.count false
  | b :: l, 0, h => by simp at h; subst h; simp
  | b :: l, i + 1, h => by
    have := count_set l i (by simpa using h)
    simp only [List.set_cons_succ, List.count_cons]
    omega
  | [], i, h => by simp at h
/-- Whatever comes up next keeps the condition: then it holds at the end, in whatever order. -/
theorem wpAny_inv {P : Program} {ops : Array Oper} {Q : Exit → Act → World → Prop} {md : Region.Mode} (I : Array Bool → Act → World → Prop)
    (hstep : ∀ (l : Array Bool) (a : Act) (w : World) (i : Nat), i ∈ Region.ready md ops l → I l a w → wpOp P ops Q i (fun a' w' => I (l.setIfInBounds i true) a' w') a w)
    (hdone : ∀ (l : Array Bool) (a : Act) (w : World), Region.ready md ops l = [] → I l a w → Q .normal a w) :
    ∀ (fuel : Nat) (l : Array Bool) (a : Act) (w : World), l.toList.count false ≤ fuel → I l a w → wpAny P md ops Q fuel l a w := by
  have hget : ∀ (l : Array Bool) (i : Nat), i ∈ Region.ready md ops l → l.toList[i]? = some false := fun l i hi => by
    have h := (mem_ready.1 hi).1
    rw [Array.getElem?_toList]
    rw [Array.getD_eq_getD_getElem?] at h
    cases e : l[i]? with
    | none => rw [e] at h; simp at h
    | some b => rw [e] at h; simp at h; rw [h]
  intro fuel
  induction fuel with
  | zero =>
    intro l a w hc hI
    have hr : Region.ready md ops l = [] := by
      apply List.eq_nil_iff_forall_not_mem.2
      intro i hi
      have := count_set l.toList i (hget l i hi)
      omega
    exact ⟨hr, hdone l a w hr hI⟩
  | succ fuel ih =>
    intro l a w hc hI
    refine ⟨fun hr => hdone l a w hr hI, fun i hi => wpOp_mono (fun a' w' h => ih _ a' w' ?_ h) (hstep l a w i hi hI)⟩
    have := count_set l.toList i (hget l i hi)
    rw [Array.toList_setIfInBounds]
    omega
/-- The same, of the region. -/
theorem wp_region_inv {P : Program} {ops : Array Oper} {Q : Exit → Act → World → Prop} {id : Nat} {a : Act} {w : World} (hm : P.follows .mixedOrders = true) (I : Array Bool → Act → World → Prop)
    (h0 : I (Array.replicate ops.size false) a w.drew)
    (hstep : ∀ (l : Array Bool) (a : Act) (w : World) (i : Nat), i ∈ Region.ready .any ops l → I l a w → wpOp P ops Q i (fun a' w' => I (l.setIfInBounds i true) a' w') a w)
    (hdone : ∀ (l : Array Bool) (a : Act) (w : World), Region.ready .any ops l = [] → I l a w → Q .normal a w) : (Code.region id ops true).wp P Q a w :=
  wp_region_any hm (wpAny_inv I hstep hdone _ _ a _ (by simp) h0)
/-- What may come up has not, and what it waits for has. -/
theorem ready_at {md : Region.Mode} {ops : Array Oper} {l : Array Bool} {i : Nat} {o : Oper} (h : i ∈ Region.ready md ops l) (ho : ops[i]? = some o) : l.getD i true = false ∧ ∀ e ∈ o.after, Region.binds md e = true → l.getD e.on false = true := by
  obtain ⟨h1, o', h2, h3⟩ := mem_ready.1 h
  rw [ho] at h2
  injection h2 with h2
  subst h2
  exact ⟨h1, h3⟩
theorem ready_lt {md : Region.Mode} {ops : Array Oper} {l : Array Bool} {i : Nat} (h : i ∈ Region.ready md ops l) : i < ops.size := by
  obtain ⟨_, o, h2, _⟩ := mem_ready.1 h
  exact (Array.getElem?_eq_some_iff.1 h2).1
end Go.Proofs.YtkmeckimmfbkiaaGreatDoor
namespace Go.Proofs.YtkmeckimmfbkiaaGreatDoor
open Go Go.RowKit
/-- A value that has been made; its parts lie in blocks from lo up to hi. -/
def MadeV (w : World) (n q lo hi : Nat) (v : Value) : Prop := ∃ s, good s ∧ lev s ≤ q ∧ n ≤ lo ∧ hi ≤ w.heap.size ∧ VN w (fun b => noP b ∨ (lo ≤ b ∧ b < hi)) s v
/-- A variable that has been made. -/
def MadeP (w : World) (n p : Nat) (v : Value) (x0 x1 x2 x3 x4 x5 : Value) : Prop := v = .pointer (some ⟨p, 0, none⟩) ∧ n ≤ p ∧ p < w.heap.size ∧ Blk w p 26 #[x0, x1, x2, x3, x4, x5]
/-- A block that is none of a value's. -/
def Apart (p lo hi : Nat) : Prop := p < lo ∨ hi ≤ p
theorem MadeV.below {w w' : World} {n q lo hi : Nat} {v : Value} (h : MadeV w n q lo hi v) (hb : Below w.heap.size w w') : MadeV w' n q lo hi v := by
  obtain ⟨s, h1, h2, h3, h4, h5⟩ := h
  exact ⟨s, h1, h2, h3, Nat.le_trans h4 hb.size, VN.keep (fun p hp => hb.cell (by rcases hp with h | h; exact h.elim; omega)) (fun _ h => h) s v h5⟩
theorem MadeV.grown {w w' : World} {n q lo hi p : Nat} {v : Value} (h : MadeV w n q lo hi v) (hg : w.grownBy w' (some p)) (ha : Apart p lo hi) : MadeV w' n q lo hi v := by
  obtain ⟨s, h1, h2, h3, h4, h5⟩ := h
  refine ⟨s, h1, h2, h3, Nat.le_trans h4 hg.size, VN.keep (fun a hp => ?_) (fun _ h => h) s v h5⟩
  have hr : lo ≤ a.block ∧ a.block < hi := by rcases hp with h | h; exact h.elim; exact h
  have hne : some a.block ≠ some p := fun e => by
    injection e with e
    unfold Apart at ha
    omega
  exact World.cell?_of_block (hg.block a.block (by omega) hne)
theorem MadeP.below {w w' : World} {n p : Nat} {v x0 x1 x2 x3 x4 x5 : Value} (h : MadeP w n p v x0 x1 x2 x3 x4 x5) (hb : Below w.heap.size w w') : MadeP w' n p v x0 x1 x2 x3 x4 x5 :=
  ⟨h.1, h.2.1, Nat.lt_of_lt_of_le h.2.2.1 hb.size, h.2.2.2.below hb h.2.2.1⟩
theorem MadeP.grown {w w' : World} {n p p' : Nat} {v x0 x1 x2 x3 x4 x5 : Value} (h : MadeP w n p v x0 x1 x2 x3 x4 x5) (hg : w.grownBy w' (some p')) (hne : p ≠ p') : MadeP w' n p v x0 x1 x2 x3 x4 x5 :=
  ⟨h.1, h.2.1, Nat.lt_of_lt_of_le h.2.2.1 hg.size, h.2.2.2.grown hg (fun e => hne (by injection e))⟩
theorem MadeV.of {w w' : World} {n q : Nat} {e : Ending} (hn : n ≤ w.heap.size) (h : RetG w q e w') : ∃ v, e = .returned v ∧ Below w.heap.size w w' ∧ MadeV w' n (q + 1) w.heap.size w'.heap.size v := by
  obtain ⟨s, hg, hl, v, rfl, hv, hB⟩ := h
  exact ⟨v, rfl, hB, s, hg, hl, hn, Nat.le_refl _, hv⟩
/-- Ahead of the stores: which of the two loads, calls, variables are through. -/
def StA (n : Nat) (w0 : World) (q1 q2 : Nat) (va vb : Value) (b0 b1 b2 b3 b4 b5 : Bool) (v25 v26 v27 v28 v5 v6 : Value) (w : World) : Prop :=
  Below n w0 w ∧ n ≤ w.heap.size ∧ (b0 = true → v25 = va) ∧ (b2 = true → v27 = vb) ∧
  ∃ lo1 hi1 lo2 hi2 p5 p6, (b1 = true → MadeV w n q1 lo1 hi1 v26) ∧ (b3 = true → MadeV w n q2 lo2 hi2 v28) ∧
    (b4 = true → MadeP w n p5 v5 (.int .i64 0) (.bool false) (.slice none 0 0) (.int .u64 0) (.string ⟨#[]⟩) (.slice none 0 0)) ∧
    (b5 = true → MadeP w n p6 v6 (.int .i64 0) (.bool false) (.slice none 0 0) (.int .u64 0) (.string ⟨#[]⟩) (.slice none 0 0)) ∧
    (b1 = true → b4 = true → Apart p5 lo1 hi1) ∧ (b1 = true → b5 = true → Apart p6 lo1 hi1) ∧ (b3 = true → b4 = true → Apart p5 lo2 hi2) ∧ (b3 = true → b5 = true → Apart p6 lo2 hi2) ∧ (b4 = true → b5 = true → p5 ≠ p6)
section
variable {n q1 q2 : Nat} {w0 w w' : World} {va vb v25 v26 v27 v28 v5 v6 : Value} {b0 b1 b2 b3 b4 b5 : Bool}
theorem StA.load1 (h : StA n w0 q1 q2 va vb b0 b1 b2 b3 b4 b5 v25 v26 v27 v28 v5 v6 w) : StA n w0 q1 q2 va vb true b1 b2 b3 b4 b5 va v26 v27 v28 v5 v6 w :=
  ⟨h.1, h.2.1, fun _ => rfl, h.2.2.2⟩
theorem StA.load2 (h : StA n w0 q1 q2 va vb b0 b1 b2 b3 b4 b5 v25 v26 v27 v28 v5 v6 w) : StA n w0 q1 q2 va vb b0 b1 true b3 b4 b5 v25 v26 vb v28 v5 v6 w :=
  ⟨h.1, h.2.1, h.2.2.1, fun _ => rfl, h.2.2.2.2⟩
theorem StA.call1 {v : Value} (h : StA n w0 q1 q2 va vb b0 b1 b2 b3 b4 b5 v25 v26 v27 v28 v5 v6 w) (hB : Below w.heap.size w w') (hv : MadeV w' n q1 w.heap.size w'.heap.size v) : StA n w0 q1 q2 va vb b0 true b2 b3 b4 b5 v25 v v27 v28 v5 v6 w' := by
  obtain ⟨h1, h2, h3, h4, lo1, hi1, lo2, hi2, p5, p6, m1, m2, r1, r2, a1, a2, a3, a4, a5⟩ := h
  refine ⟨h1.trans (hB.mono h2), Nat.le_trans h2 hB.size, h3, h4, w.heap.size, w'.heap.size, lo2, hi2, p5, p6, fun _ => hv, fun e => (m2 e).below hB, fun e => (r1 e).below hB, fun e => (r2 e).below hB, fun _ e => .inl (r1 e).2.2.1, fun _ e => .inl (r2 e).2.2.1, a3, a4, a5⟩
theorem StA.call2 {v : Value} (h : StA n w0 q1 q2 va vb b0 b1 b2 b3 b4 b5 v25 v26 v27 v28 v5 v6 w) (hB : Below w.heap.size w w') (hv : MadeV w' n q2 w.heap.size w'.heap.size v) : StA n w0 q1 q2 va vb b0 b1 b2 true b4 b5 v25 v26 v27 v v5 v6 w' := by
  obtain ⟨h1, h2, h3, h4, lo1, hi1, lo2, hi2, p5, p6, m1, m2, r1, r2, a1, a2, a3, a4, a5⟩ := h
  refine ⟨h1.trans (hB.mono h2), Nat.le_trans h2 hB.size, h3, h4, lo1, hi1, w.heap.size, w'.heap.size, p5, p6, fun e => (m1 e).below hB, fun _ => hv, fun e => (r1 e).below hB, fun e => (r2 e).below hB, a1, a2, fun _ e => .inl (r1 e).2.2.1, fun _ e => .inl (r2 e).2.2.1, a5⟩
theorem StA.alloc1 (h : StA n w0 q1 q2 va vb b0 b1 b2 b3 b4 b5 v25 v26 v27 v28 v5 v6 w) :
    StA n w0 q1 q2 va vb b0 b1 b2 b3 true b5 v25 v26 v27 v28 (.pointer (some ⟨w.heap.size, 0, none⟩)) v6 (w.alloc (.cells #[.int .i64 0, .bool false, .slice none 0 0, .int .u64 0, .string ⟨#[]⟩, .slice none 0 0] 26)) := by
  obtain ⟨h1, h2, h3, h4, lo1, hi1, lo2, hi2, p5, p6, m1, m2, r1, r2, a1, a2, a3, a4, a5⟩ := h
  have hB := (Below.refl w.heap.size w).alloc (Nat.le_refl _) (.cells #[.int .i64 0, .bool false, .slice none 0 0, .int .u64 0, .string ⟨#[]⟩, .slice none 0 0] 26)
  refine ⟨h1.trans (hB.mono h2), Nat.le_trans h2 hB.size, h3, h4, lo1, hi1, lo2, hi2, w.heap.size, p6, fun e => (m1 e).below hB, fun e => (m2 e).below hB, fun _ => ⟨rfl, h2, by simp, Blk.new _ _ _⟩, fun e => (r2 e).below hB, fun e _ => ?_, a2, fun e _ => ?_, a4, fun _ e => ?_⟩
  · obtain ⟨_, _, _, _, h, _⟩ := m1 e; exact .inr h
  · obtain ⟨_, _, _, _, h, _⟩ := m2 e; exact .inr h
  · have := (r2 e).2.2.1; omega
theorem StA.alloc2 (h : StA n w0 q1 q2 va vb b0 b1 b2 b3 b4 b5 v25 v26 v27 v28 v5 v6 w) :
    StA n w0 q1 q2 va vb b0 b1 b2 b3 b4 true v25 v26 v27 v28 v5 (.pointer (some ⟨w.heap.size, 0, none⟩)) (w.alloc (.cells #[.int .i64 0, .bool false, .slice none 0 0, .int .u64 0, .string ⟨#[]⟩, .slice none 0 0] 26)) := by
  obtain ⟨h1, h2, h3, h4, lo1, hi1, lo2, hi2, p5, p6, m1, m2, r1, r2, a1, a2, a3, a4, a5⟩ := h
  have hB := (Below.refl w.heap.size w).alloc (Nat.le_refl _) (.cells #[.int .i64 0, .bool false, .slice none 0 0, .int .u64 0, .string ⟨#[]⟩, .slice none 0 0] 26)
  refine ⟨h1.trans (hB.mono h2), Nat.le_trans h2 hB.size, h3, h4, lo1, hi1, lo2, hi2, p5, w.heap.size, fun e => (m1 e).below hB, fun e => (m2 e).below hB, fun e => (r1 e).below hB, fun _ => ⟨rfl, h2, by simp, Blk.new _ _ _⟩, a1, fun e _ => ?_, a3, fun e _ => ?_, fun e _ => ?_⟩
  · obtain ⟨_, _, _, _, h, _⟩ := m1 e; exact .inr h
  · obtain ⟨_, _, _, _, h, _⟩ := m2 e; exact .inr h
  · have := (r1 e).2.2.1; omega
/-- Nothing is through. -/
theorem StA.start (hn : n ≤ w.heap.size) (h : Below n w0 w) : StA n w0 q1 q2 va vb false false false false false false v25 v26 v27 v28 v5 v6 w :=
  ⟨h, hn, fun e => by simp at e, fun e => by simp at e, 0, 0, 0, 0, 0, 0, fun e => by simp at e, fun e => by simp at e, fun e => by simp at e, fun e => by simp at e, fun e => by simp at e, fun e => by simp at e, fun e => by simp at e, fun e => by simp at e, fun e => by simp at e⟩
end
/-- Behind the first store. -/
def StB (n : Nat) (w0 : World) (q1 q2 : Nat) (v26 v28 v5 v6 : Value) (w : World) : Prop :=
  Below n w0 w ∧ n ≤ w.heap.size ∧ ∃ lo1 hi1 lo2 hi2 p5 p6 x0 x1 x2 x3 x4 x5, v26 = .agg #[x0, x1, x2, x3, x4, x5] ∧ MadeV w n q1 lo1 hi1 v26 ∧ MadeV w n q2 lo2 hi2 v28 ∧
    MadeP w n p5 v5 x0 x1 x2 x3 x4 x5 ∧ MadeP w n p6 v6 (.int .i64 0) (.bool false) (.slice none 0 0) (.int .u64 0) (.string ⟨#[]⟩) (.slice none 0 0) ∧
    Apart p5 lo1 hi1 ∧ Apart p6 lo1 hi1 ∧ Apart p5 lo2 hi2 ∧ Apart p6 lo2 hi2 ∧ p5 ≠ p6
/-- Behind both. -/
def StC (n : Nat) (w0 : World) (q1 q2 : Nat) (v26 v28 v5 v6 : Value) (w : World) : Prop :=
  Below n w0 w ∧ n ≤ w.heap.size ∧ ∃ lo1 hi1 lo2 hi2 p5 p6 x0 x1 x2 x3 x4 x5 y0 y1 y2 y3 y4 y5, v26 = .agg #[x0, x1, x2, x3, x4, x5] ∧ v28 = .agg #[y0, y1, y2, y3, y4, y5] ∧ MadeV w n q1 lo1 hi1 v26 ∧ MadeV w n q2 lo2 hi2 v28 ∧
    MadeP w n p5 v5 x0 x1 x2 x3 x4 x5 ∧ MadeP w n p6 v6 y0 y1 y2 y3 y4 y5 ∧ p5 ≠ p6 ∧ Apart p5 lo2 hi2
theorem MadeV.six {w : World} {n q lo hi : Nat} {v : Value} (h : MadeV w n q lo hi v) : ∃ k neg A m c b t K j d, v = .agg #[.int .i64 k, .bool neg, .slice A m c, .int .u64 b, .string t, .slice K j d] := by
  obtain ⟨s, _, _, _, _, h⟩ := h
  obtain ⟨neg, A, m, c, b, t, K, k, d, e⟩ := h.six
  exact ⟨_, _, _, _, _, _, _, _, _, _, e⟩
theorem StA.store {n q1 q2 : Nat} {w0 w w' : World} {va vb v25 v26 v27 v28 v5 v6 : Value} {p : Nat} {x0 x1 x2 x3 x4 x5 : Value} (h : StA n w0 q1 q2 va vb true true true true true true v25 v26 v27 v28 v5 v6 w) (hp : v5 = .pointer (some ⟨p, 0, none⟩)) (hv : v26 = .agg #[x0, x1, x2, x3, x4, x5])
    (hb : Blk w' p 26 #[x0, x1, x2, x3, x4, x5]) (hg : w.grownBy w' (some p)) : StB n w0 q1 q2 v26 v28 v5 v6 w' := by
  obtain ⟨h1, h2, h3, h4, lo1, hi1, lo2, hi2, p5, p6, m1, m2, r1, r2, a1, a2, a3, a4, a5⟩ := h
  have e := (r1 rfl).1
  rw [hp] at e
  injection e with e
  injection e with e
  injection e with e
  subst e
  exact ⟨below_grown h1 hg (r1 rfl).2.1 h2, Nat.le_trans h2 hg.size, lo1, hi1, lo2, hi2, p, p6, x0, x1, x2, x3, x4, x5, hv, (m1 rfl).grown hg (a1 rfl rfl), (m2 rfl).grown hg (a3 rfl rfl), ⟨hp, (r1 rfl).2.1, hb.lt, hb⟩, (r2 rfl).grown hg (Ne.symm (a5 rfl rfl)), a1 rfl rfl, a2 rfl rfl, a3 rfl rfl, a4 rfl rfl, a5 rfl rfl⟩
theorem StB.store {n q1 q2 : Nat} {w0 w w' : World} {v26 v28 v5 v6 : Value} {p : Nat} {y0 y1 y2 y3 y4 y5 : Value} (h : StB n w0 q1 q2 v26 v28 v5 v6 w) (hp : v6 = .pointer (some ⟨p, 0, none⟩)) (hv : v28 = .agg #[y0, y1, y2, y3, y4, y5])
    (hb : Blk w' p 26 #[y0, y1, y2, y3, y4, y5]) (hg : w.grownBy w' (some p)) : StC n w0 q1 q2 v26 v28 v5 v6 w' := by
  obtain ⟨h1, h2, lo1, hi1, lo2, hi2, p5, p6, x0, x1, x2, x3, x4, x5, e1, m1, m2, r1, r2, a1, a2, a3, a4, a5⟩ := h
  have e := r2.1
  rw [hp] at e
  injection e with e
  injection e with e
  injection e with e
  subst e
  exact ⟨below_grown h1 hg r2.2.1 h2, Nat.le_trans h2 hg.size, lo1, hi1, lo2, hi2, p5, p, x0, x1, x2, x3, x4, x5, y0, y1, y2, y3, y4, y5, e1, hv, m1.grown hg a2, m2.grown hg a4, r1.grown hg a5, ⟨hp, r2.2.1, hb.lt, hb⟩, a5, a3⟩
theorem wp_region_inv' {P : Program} {ops : Array Oper} {Q : Exit → Act → World → Prop} {id : Nat} {a : Act} {w : World} (hm : P.follows .mixedOrders = true) (I : Act → Array Bool → Act → World → Prop)
    (h0 : I a (Array.replicate ops.size false) a w.drew)
    (hstep : ∀ (l : Array Bool) (a' : Act) (w : World) (i : Nat), i ∈ Region.ready .any ops l → I a l a' w → wpOp P ops Q i (fun a' w' => I a (l.setIfInBounds i true) a' w') a' w)
    (hdone : ∀ (l : Array Bool) (a' : Act) (w : World), Region.ready .any ops l = [] → I a l a' w → Q .normal a' w) : (Code.region id ops true).wp P Q a w :=
  wp_region_inv hm (I a) h0 hstep hdone
/-- The test of sizes. -/
def FitsR (w : World) (e : Ending) (w' : World) : Prop := ∃ q : Bool, e = .returned (.bool q) ∧ Below w.heap.size w w'
set_option maxRecDepth 10000 in
theorem fits_any (k : Int) (neg : Bool) (A : Option Addr) (n c : Nat) (b : Int) (t : ByteArray) (K : Option Addr) (m d : Nat) (w : World) :
    Calls Tryz.prog 4 #[.agg #[.int .i64 k, .bool neg, .slice A n c, .int .u64 b, .string t, .slice K m d]] w (FitsR w) := by
  by_cases h1 : (2147483647 : Int) < (n : Int)
  · go_enter Tryz.func4, Tryz.ntmps4
    go_wp2
    go_ret
    exact ⟨false, rfl, (Below.refl _ _).alloc (Nat.le_refl _) _⟩
  by_cases h2 : (2147483647 : Int) < (t.size : Int)
  · go_enter Tryz.func4, Tryz.ntmps4
    go_wp2
    go_ret
    exact ⟨false, rfl, (Below.refl _ _).alloc (Nat.le_refl _) _⟩
  by_cases h3 : (2147483647 : Int) < (m : Int)
  · go_enter Tryz.func4, Tryz.ntmps4
    go_wp2
    go_ret
    exact ⟨false, rfl, (Below.refl _ _).alloc (Nat.le_refl _) _⟩
  · go_enter Tryz.func4, Tryz.ntmps4
    go_wp2
    go_ret
    exact ⟨true, rfl, (Below.refl _ _).alloc (Nat.le_refl _) _⟩
end Go.Proofs.YtkmeckimmfbkiaaGreatDoor
