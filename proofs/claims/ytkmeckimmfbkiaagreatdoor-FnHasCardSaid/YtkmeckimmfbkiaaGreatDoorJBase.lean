/- What lies in memory: rows of bytes and of words, natural numbers in words. Conditions: none. -/
import Derived.Handy
import Derived.Below
import Derived.Laws.OwnMore
import Derived.Deep.AppendLies
import Derived.Deep.Draws
import Derived.Laws.Rows
import Derived.Maps.AppendAt
import Derived.RegionTactic
import Derived.OwnWalk
import Derived.Laws.MakeOwn
import Derived.Laws.Entries
import Derived.Test.YtkmeckimmfbkiaaGreatDoorProg
import Derived.WalkKit
import Derived.Outline
import Derived.WalkSpells
import Derived.WalkLawsBesides
import Derived.Lib.Hide
import Derived.Deep.QuietTactic
import Derived.BigQuiet
import Derived.Laws.BitsAllLaws
import Derived.Deep.LoopGhost
import Derived.Deep.DeepCutAuto
import Derived.Laws.CopyOwn
import Derived.Lib.Builder
import Derived.LaidEqlPtr
import Derived.Deep.RegionHeld3
import Derived.Deep.RegionWith
namespace Go.Proofs.YtkmeckimmfbkiaaGreatDoor
open Go Go.RowKit
theorem block_of_add (a : Addr) (n : Nat) : (a.add n).block = a.block := by unfold Addr.add; split <;> rfl
theorem add_of_add (a : Addr) (i j : Nat) : (a.add i).add j = a.add (i + j) := by
  unfold Addr.add
  by_cases hi : i = 0 <;> by_cases hj : j = 0 <;> simp [hi, hj, Nat.add_assoc]

def Reads (w : World) (B size : Nat) (A : Option Addr) (n : Nat) (xs : List Value) : Prop :=
  xs.length = n * size ∧ (0 < n → ∃ ad, A = some ad ∧ ad.block < B ∧ ∀ j u, xs[j]? = some u → w.cell? (ad.add j) = some u)

section
variable {w w' : World} {B B' size n : Nat} {A : Option Addr} {xs : List Value}
theorem Reads.none_ : Reads w B size A 0 [] := ⟨by simp, fun h => absurd h (by omega)⟩
theorem Reads.at_ {k : Nat} (h : Reads w B 1 A n xs) (hk : k < n) : ∃ ad u, A = some ad ∧ ad.block < B ∧ xs[k]? = some u ∧ w.cell? (ad.add k) = some u := by
  obtain ⟨ad, e, hb, hc⟩ := h.2 (by omega)
  have hl : k < xs.length := by have := h.1; omega
  exact ⟨ad, xs[k], e, hb, List.getElem?_eq_getElem hl, hc k _ (List.getElem?_eq_getElem hl)⟩
theorem Reads.keep (h : Reads w B size A n xs) (hk : ∀ p : Addr, p.block < B → w'.cell? p = w.cell? p) : Reads w' B size A n xs :=
  ⟨h.1, fun hn => by
    obtain ⟨ad, e, hb, hc⟩ := h.2 hn
    exact ⟨ad, e, hb, fun j u hu => (hk _ (by rw [block_of_add]; exact hb)).trans (hc j u hu)⟩⟩
theorem Reads.more (h : Reads w B size A n xs) (hB : B ≤ B') : Reads w B' size A n xs :=
  ⟨h.1, fun hn => by
    obtain ⟨ad, e, hb, hc⟩ := h.2 hn
    exact ⟨ad, e, by omega, hc⟩⟩
theorem Reads.below (h : Reads w B size A n xs) (hb : Below B w w') : Reads w' B size A n xs := h.keep fun _ hp => hb.cell hp
theorem Reads.drew (h : Reads w B size A n xs) : Reads w.drew B size A n xs := h
theorem Reads.drewN (h : Reads w B size A n xs) (k : Nat) : Reads (w.drewN k) B size A n xs := h
theorem Reads.alloc (h : Reads w B size A n xs) (hB : B ≤ w.heap.size) (o : Obj) : Reads (w.alloc o) B size A n xs := h.keep fun p hp => World.cell?_alloc_lt w o p (by omega)
theorem Reads.setCell (h : Reads w B size A n xs) {p : Addr} (hB : B ≤ p.block) (u : Value) : Reads (w.setCell p u) B size A n xs :=
  h.keep fun q hq => World.cell?_setCell_other w p q u (fun e => by subst e; omega)
theorem Reads.grown (h : Reads w B size A n xs) {row : Option Nat} (hg : w.grownBy w' row) (hB : B ≤ w.heap.size) (hr : ∀ g, row = some g → B ≤ g) : Reads w' B size A n xs :=
  h.keep fun p hp => World.cell?_of_block (hg.block p.block (by omega) (fun e => by have := hr _ e.symm; omega))
theorem Reads.cut (h : Reads w B size A n xs) {k cap : Nat} (hk : k ≤ n) (hc : n ≤ cap) :
    Reads w B size (if cap = k then A else A.map (·.add (k * size))) (n - k) (xs.drop (k * size)) := by
  refine ⟨by rw [List.length_drop, h.1, Nat.sub_mul], fun hn => ?_⟩
  obtain ⟨ad, rfl, hb, hcell⟩ := h.2 (by omega)
  rw [if_neg (by omega)]
  refine ⟨ad.add (k * size), rfl, by rw [block_of_add]; exact hb, fun j u hu => ?_⟩
  rw [add_of_add]
  exact hcell _ u (by rw [← hu, List.getElem?_drop])
theorem Reads.of_own {base : Nat} {e : TypeId} {c : Nat} (h : w.ownsRow base e size (.slice A n c) n xs) : Reads w w.heap.size size A n xs := by
  refine ⟨h.1, fun hn => ?_⟩
  obtain ⟨g, cap, hv, _, hlt⟩ := h.form hn
  have hA : A = some ⟨g, 0, none⟩ := by injection hv
  subst hA
  exact ⟨_, rfl, hlt, h.cells (g := g) rfl⟩
end

def Blk (w : World) (g : Nat) (t : TypeId) (cs : Array Value) : Prop := w.heap[g]? = some (.cells cs t (0, 0))

section
variable {w w' : World} {g : Nat} {t : TypeId} {cs : Array Value}
theorem Blk.lt (h : Blk w g t cs) : g < w.heap.size := by
  rcases Nat.lt_or_ge g w.heap.size with hlt | hge
  · exact hlt
  · unfold Blk at h; rw [Array.getElem?_eq_none hge] at h; cases h
theorem Blk.cell (h : Blk w g t cs) (i : Nat) : w.cell? ⟨g, i, none⟩ = cs[i]? := cell_of_row w g i cs t (0, 0) h
theorem Blk.frozen (h : Blk w g t cs) (i : Nat) : w.frozen? ⟨g, i, none⟩ = false := by
  unfold Blk at h
  simp [World.frozen?, h]
theorem Blk.new (w : World) (t : TypeId) (cs : Array Value) : Blk (w.alloc (.cells cs t)) w.heap.size t cs := heap_alloc_new w _
theorem Blk.drew (h : Blk w g t cs) : Blk w.drew g t cs := h
theorem Blk.drewN (h : Blk w g t cs) (n : Nat) : Blk (w.drewN n) g t cs := h
theorem Blk.alloc (h : Blk w g t cs) (o : Obj) : Blk (w.alloc o) g t cs := (Below.heap_alloc w o g h.lt).trans h
theorem Blk.set_ (h : Blk w g t cs) (i : Nat) (u : Value) : Blk (w.setCell ⟨g, i, none⟩ u) g t (cs.setIfInBounds i u) := by
  unfold Blk at h ⊢
  simp [World.setCell, Array.getElem?_modify, h]
theorem Blk.far (h : Blk w g t cs) {p : Addr} (hp : g ≠ p.block) (u : Value) : Blk (w.setCell p u) g t cs := (Below.heap_setCell w p u g hp).trans h
theorem Blk.below {B : Nat} (h : Blk w g t cs) (hb : Below B w w') (hg : g < B) : Blk w' g t cs := (hb.block g hg).trans h
theorem Blk.grown {row : Option Nat} (h : Blk w g t cs) (hb : w.grownBy w' row) (hg : some g ≠ row) : Blk w' g t cs := (hb.block g h.lt hg).trans h
theorem Blk.ne_ {g' : Nat} {t' : TypeId} {cs' : Array Value} (h : Blk w g t cs) (h' : Blk w g' t' cs') (hne : t ≠ t') : g ≠ g' := by
  rintro rfl
  unfold Blk at h h'
  rw [h] at h'
  injection h' with h'
  injection h' with _ ht
  exact hne ht
theorem own_blk_ne {base : Nat} {e : TypeId} {size n : Nat} {v : Value} {xs : List Value} (h : w.ownsRow base e size v n xs) (hg : Blk w g t cs) (hne : e ≠ t) : v.ownBlock ≠ some g := by
  rcases h.2 with ⟨rfl, _⟩ | ⟨g', cap, cur, rfl, _, hh, _⟩
  · simp [Value.ownBlock]
  · intro he
    have : g' = g := by simpa [Value.ownBlock] using he
    subst this
    exact Blk.ne_ (t := e) hh hg hne rfl
end

section
variable {P : Program} (w : World)

theorem run_append_of_nil (base : Nat) (t ty e : TypeId) (i : TypeInfo) (size : Nat) (ht : P.underlying t = some (.slice e)) (hi : P.info? e = some i)
    (v : Value) (n : Nat) (xs : List Value) (hown : w.ownsRow base e size v n xs) (c : Nat) : (Builtin.append_ #[t, t] ty #[v, .slice none 0 c]).run P w = .ok v w := by
  rcases hown.2 with ⟨rfl, rfl⟩ | ⟨g, cap, cur, rfl, _, _, hnc, _⟩
  · simp [Builtin.append_, run_underlying ht, sizeOf, typeInfo, hi, Builtin.lenOf, Builtin.firstCells]
  · simp [Builtin.append_, run_underlying ht, sizeOf, typeInfo, hi, Builtin.lenOf, Builtin.firstCells, hnc, storeCells]

theorem run_append_any (base : Nat) (t ty e : TypeId) (i : TypeInfo) (z : Value) (size bytes : Nat) (ht : P.underlying t = some (.slice e)) (hi : P.info? e = some i) (hz : i.zero = some z)
    (hsize : i.size = size) (hby : i.bytes = bytes) (hzs : z.cells.size = size) (hsz : 0 < size)
    (v : Value) (n : Nat) (xs : List Value) (hown : w.ownsRow base e size v n xs)
    (B : Nat) (A : Option Addr) (m c : Nat) (news : List Value) (hr : Reads w B size A m news) (h1 : ∀ u ∈ news, u.oneCell' = true)
    (h63 : n + m ≤ maxLen) (hbytes : (n + m) * bytes ≤ 140737488355328) (hbase : base ≤ w.heap.size) :
    ∃ v' w', (Builtin.append_ #[t, t] ty #[v, .slice A m c]).run P w = .ok v' w' ∧ w'.ownsRow base e size v' (n + m) (xs ++ news) ∧ w.grownBy w' v.ownBlock ∧
      (v'.ownBlock = v.ownBlock ∨ v'.ownBlock = some w.heap.size) := by
  rcases A with _ | ad
  · have hm : m = 0 := by
      rcases Nat.eq_zero_or_pos m with h0 | h0
      · exact h0
      · obtain ⟨ad, h, _⟩ := hr.2 h0
        cases h
    subst hm
    have hn : news = [] := List.eq_nil_of_length_eq_zero (by simpa using hr.1)
    subst hn
    exact ⟨v, w, run_append_of_nil w base t ty e i size ht hi v n xs hown c, by simpa using hown, World.grownBy.refl w _, .inl rfl⟩
  · have hcells : ∀ j u, news[j]? = some u → w.cell? (ad.add j) = some u := by
      intro j u hu
      rcases Nat.eq_zero_or_pos m with h0 | h0
      · subst h0
        have hn : news = [] := List.eq_nil_of_length_eq_zero (by simpa using hr.1)
        subst hn
        simp at hu
      · obtain ⟨ad', h, _, hc⟩ := hr.2 h0
        injection h with h
        subst h
        exact hc j u hu
    obtain ⟨v', w', hrun, h2, h3, _, h5⟩ := run_append_own_at (P := P) w base t ty e i z size bytes ht hi hz hsize hby hzs hsz v n xs hown ad m c news hr.1 hcells h1 h63 hbytes hbase
    exact ⟨v', w', hrun, h2, h3, h5⟩

theorem wp_append_any {o : Oper} {a : Act} {K : Act → World → Prop} {Q : Exit → Act → World → Prop} (s x : Operand) (t : TypeId)
    (ho : o.op = .call { callee := .builtin .append, args := #[s, x], argTypes := #[t, t] })
    (base : Nat) (e : TypeId) (i : TypeInfo) (z : Value) (size bytes : Nat) (ht : P.underlying t = some (.slice e)) (hi : P.info? e = some i) (hz : i.zero = some z)
    (hsize : i.size = size) (hby : i.bytes = bytes) (hzs : z.cells.size = size) (hsz : 0 < size)
    (v : Value) (n : Nat) (xs : List Value) (hs : a.eval s = v) (hown : w.ownsRow base e size v n xs)
    (B : Nat) (A : Option Addr) (m c : Nat) (news : List Value) (hx : a.eval x = .slice A m c) (hr : Reads w B size A m news) (h1 : ∀ u ∈ news, u.oneCell' = true)
    (h63 : n + m ≤ maxLen) (hbytes : (n + m) * bytes ≤ 140737488355328) (hbase : base ≤ w.heap.size)
    (h : ∀ v' w', w'.ownsRow base e size v' (n + m) (xs ++ news) → w.grownBy w' v.ownBlock → (v'.ownBlock = v.ownBlock ∨ v'.ownBlock = some w.heap.size) → K (a.put o.dst v') w') : o.wp P a w K Q := by
  obtain ⟨v', w', hrun, h2, h3, h4⟩ := run_append_any (P := P) w base t o.type e i z size bytes ht hi hz hsize hby hzs hsz v n xs hown B A m c news hr h1 h63 hbytes hbase
  unfold Oper.wp execOp
  simp only [ho, resolve, invoke, builtin, Sem.run_bind, Sem.run_pure, Result.andThen_ok, List.map_toArray, List.map_cons, List.map_nil, hs, hx, hrun]
  exact h v' w' h2 h3 h4

theorem wpList_append_any {ops : Array Oper} {rest : List Oper} {o : Oper} {a : Act} {Q : Exit → Act → World → Prop} (hgd : o.guard = none) (s x : Operand) (t : TypeId)
    (ho : o.op = .call { callee := .builtin .append, args := #[s, x], argTypes := #[t, t] })
    (base : Nat) (e : TypeId) (i : TypeInfo) (z : Value) (size bytes : Nat) (ht : P.underlying t = some (.slice e)) (hi : P.info? e = some i) (hz : i.zero = some z)
    (hsize : i.size = size) (hby : i.bytes = bytes) (hzs : z.cells.size = size) (hsz : 0 < size)
    (v : Value) (n : Nat) (xs : List Value) (hs : a.eval s = v) (hown : w.ownsRow base e size v n xs)
    (B : Nat) (A : Option Addr) (m c : Nat) (news : List Value) (hx : a.eval x = .slice A m c) (hr : Reads w B size A m news) (h1 : ∀ u ∈ news, u.oneCell' = true)
    (h63 : n + m ≤ maxLen) (hbytes : (n + m) * bytes ≤ 140737488355328) (hbase : base ≤ w.heap.size)
    (h : ∀ v' w', w'.ownsRow base e size v' (n + m) (xs ++ news) → w.grownBy w' v.ownBlock → (v'.ownBlock = v.ownBlock ∨ v'.ownBlock = some w.heap.size) → wpList P ops Q rest (a.put o.dst v') w') : wpList P ops Q (o :: rest) a w :=
  wpList_plain hgd fun _ hK => wp_append_any w s x t ho base e i z size bytes ht hi hz hsize hby hzs hsz v n xs hs hown B A m c news hx hr h1 h63 hbytes hbase fun v' w' h2 h3 h4 => hK _ _ (h v' w' h2 h3 h4)

theorem step_append_any {ops : Array Oper} {o : Oper} {a : Act} {K : Act → World → Prop} {Q : Exit → Act → World → Prop} {E : Prop} (hgd : o.guard = none) (s x : Operand) (t : TypeId)
    (ho : o.op = .call { callee := .builtin .append, args := #[s, x], argTypes := #[t, t] })
    (base : Nat) (e : TypeId) (i : TypeInfo) (z : Value) (size bytes : Nat) (ht : P.underlying t = some (.slice e)) (hi : P.info? e = some i) (hz : i.zero = some z)
    (hsize : i.size = size) (hby : i.bytes = bytes) (hzs : z.cells.size = size) (hsz : 0 < size)
    (v : Value) (n : Nat) (xs : List Value) (hs : a.eval s = v) (hown : w.ownsRow base e size v n xs)
    (B : Nat) (A : Option Addr) (m c : Nat) (news : List Value) (hx : a.eval x = .slice A m c) (hr : Reads w B size A m news) (h1 : ∀ u ∈ news, u.oneCell' = true)
    (h63 : n + m ≤ maxLen) (hbytes : (n + m) * bytes ≤ 140737488355328) (hbase : base ≤ w.heap.size)
    (h : ∀ v' w', w'.ownsRow base e size v' (n + m) (xs ++ news) → w.grownBy w' v.ownBlock → (v'.ownBlock = v.ownBlock ∨ v'.ownBlock = some w.heap.size) → K (a.put o.dst v') w') :
    if Region.wanted o (yielded ops a.tmps) = true then Oper.wp P o a w K Q else E := by
  have hw : Region.wanted o (yielded ops a.tmps) = true := by simp [Region.wanted, hgd]
  rw [if_pos hw]
  exact wp_append_any w s x t ho base e i z size bytes ht hi hz hsize hby hzs hsz v n xs hs hown B A m c news hx hr h1 h63 hbytes hbase h
end

theorem own_slice {w : World} {base e size n : Nat} {v : Value} {xs : List Value} (h : w.ownsRow base e size v n xs) : ∃ A c, v = .slice A n c ∧ n ≤ c ∧ c ≤ maxLen ∧ ∀ ad, A = some ad → base ≤ ad.block := by
  rcases h.2 with ⟨rfl, rfl⟩ | ⟨g, cap, cur, rfl, hb, _, hc, hm, _⟩
  · exact ⟨none, 0, rfl, Nat.le_refl _, Nat.zero_le _, fun ad h => by cases h⟩
  · exact ⟨_, _, rfl, hc, hm, fun ad h => by cases h; exact hb⟩
theorem own_mono {w : World} {base base' e size n : Nat} {v : Value} {xs : List Value} (h : w.ownsRow base e size v n xs) (hb : base' ≤ base) : w.ownsRow base' e size v n xs := by
  obtain ⟨h1, h2⟩ := h
  refine ⟨h1, ?_⟩
  rcases h2 with h2 | ⟨g, cap, cur, hv, hg, r⟩
  · exact .inl h2
  · exact .inr ⟨g, cap, cur, hv, by omega, r⟩
/-- A slice of n elements of the call's own is handed back; nothing that was there has turned. -/
def Owns (T size : Nat) (w : World) (n : Nat) (xs : List Value) (e : Ending) (w' : World) : Prop :=
  ∃ A c, e = .returned (.slice A n c) ∧ w'.ownsRow w.heap.size T size (.slice A n c) n xs ∧ n ≤ c ∧ Below w.heap.size w w'
theorem owns_mk {T size : Nat} {w w' : World} {v : Value} {n m : Nat} {xs : List Value} (hm : m = n) (h : w'.ownsRow w.heap.size T size v m xs) (hb : Below w.heap.size w w') : Owns T size w n xs (.returned v) w' := by
  subst hm
  obtain ⟨A, c, rfl, hc, _, _⟩ := own_slice h
  exact ⟨A, c, rfl, h, hc, hb⟩
/-- A world with new blocks under a name of its own: what lay there lies there, the new blocks are known whole. -/
theorem gen1 {M : World → Prop} {w : World} {X : Array Value} {T : TypeId}
    (h : ∀ W : World, Below w.heap.size w W → Blk W w.heap.size T X → W.heap.size = w.heap.size + 1 → M W) : M (w.alloc (.cells X T)) :=
  h _ ((Below.refl _ _).alloc (Nat.le_refl _) _) (Blk.new _ _ _) (by simp)
theorem gen2 {M : World → Prop} {w : World} {X Y : Array Value} {T U : TypeId}
    (h : ∀ W : World, Below w.heap.size w W → Blk W w.heap.size T X → Blk W (w.heap.size + 1) U Y → W.heap.size = w.heap.size + 2 → M W) : M ((w.alloc (.cells X T)).alloc (.cells Y U)) :=
  h _ (((Below.refl _ _).alloc (Nat.le_refl _) _).alloc (by simp) _) ((Blk.new _ _ _).alloc _) (by simpa using Blk.new (w.alloc (.cells X T)) U Y) (by simp)
theorem gen3 {M : World → Prop} {w : World} {X Y Z : Array Value} {T U V : TypeId}
    (h : ∀ W : World, Below w.heap.size w W → Blk W w.heap.size T X → Blk W (w.heap.size + 1) U Y → Blk W (w.heap.size + 2) V Z → W.heap.size = w.heap.size + 3 → M W) : M (((w.alloc (.cells X T)).alloc (.cells Y U)).alloc (.cells Z V)) :=
  h _ ((((Below.refl _ _).alloc (Nat.le_refl _) _).alloc (by simp) _).alloc (by simp; omega) _) (((Blk.new _ _ _).alloc _).alloc _) (by simpa using (Blk.new (w.alloc (.cells X T)) U Y).alloc (.cells Z V)) (by simpa using Blk.new ((w.alloc (.cells X T)).alloc (.cells Y U)) V Z) (by simp)
theorem Blk.cellE {w : World} {g : Nat} {t : TypeId} {cs : Array Value} (h : Blk w g t cs) (i : Nat) (hi : i < cs.size) : w.cell? ⟨g, i, none⟩ = some cs[i] := by
  rw [h.cell i, Array.getElem?_eq_getElem hi]
theorem Blk.c1 {w : World} {g : Nat} {t : TypeId} {x0 : Value} (h : Blk w g t #[x0]) : w.cell? ⟨g, 0, none⟩ = some x0 ∧ w.frozen? ⟨g, 0, none⟩ = false :=
  ⟨h.cell 0, h.frozen 0⟩
theorem Blk.c2 {w : World} {g : Nat} {t : TypeId} {x0 x1 : Value} (h : Blk w g t #[x0, x1]) : w.cell? ⟨g, 0, none⟩ = some x0 ∧ w.cell? ⟨g, 1, none⟩ = some x1 ∧ w.frozen? ⟨g, 0, none⟩ = false ∧ w.frozen? ⟨g, 1, none⟩ = false :=
  ⟨h.cell 0, h.cell 1, h.frozen 0, h.frozen 1⟩
theorem Blk.c3 {w : World} {g : Nat} {t : TypeId} {x0 x1 x2 : Value} (h : Blk w g t #[x0, x1, x2]) : w.cell? ⟨g, 0, none⟩ = some x0 ∧ w.cell? ⟨g, 1, none⟩ = some x1 ∧ w.cell? ⟨g, 2, none⟩ = some x2 ∧ w.frozen? ⟨g, 0, none⟩ = false ∧ w.frozen? ⟨g, 1, none⟩ = false ∧ w.frozen? ⟨g, 2, none⟩ = false :=
  ⟨h.cell 0, h.cell 1, h.cell 2, h.frozen 0, h.frozen 1, h.frozen 2⟩
theorem Blk.c4 {w : World} {g : Nat} {t : TypeId} {x0 x1 x2 x3 : Value} (h : Blk w g t #[x0, x1, x2, x3]) : w.cell? ⟨g, 0, none⟩ = some x0 ∧ w.cell? ⟨g, 1, none⟩ = some x1 ∧ w.cell? ⟨g, 2, none⟩ = some x2 ∧ w.cell? ⟨g, 3, none⟩ = some x3 ∧ w.frozen? ⟨g, 0, none⟩ = false ∧ w.frozen? ⟨g, 1, none⟩ = false ∧ w.frozen? ⟨g, 2, none⟩ = false ∧ w.frozen? ⟨g, 3, none⟩ = false :=
  ⟨h.cell 0, h.cell 1, h.cell 2, h.cell 3, h.frozen 0, h.frozen 1, h.frozen 2, h.frozen 3⟩
theorem Blk.c6 {w : World} {g : Nat} {t : TypeId} {x0 x1 x2 x3 x4 x5 : Value} (h : Blk w g t #[x0, x1, x2, x3, x4, x5]) : w.cell? ⟨g, 0, none⟩ = some x0 ∧ w.cell? ⟨g, 1, none⟩ = some x1 ∧ w.cell? ⟨g, 2, none⟩ = some x2 ∧ w.cell? ⟨g, 3, none⟩ = some x3 ∧ w.cell? ⟨g, 4, none⟩ = some x4 ∧ w.cell? ⟨g, 5, none⟩ = some x5 ∧ w.frozen? ⟨g, 0, none⟩ = false ∧ w.frozen? ⟨g, 1, none⟩ = false ∧ w.frozen? ⟨g, 2, none⟩ = false ∧ w.frozen? ⟨g, 3, none⟩ = false ∧ w.frozen? ⟨g, 4, none⟩ = false ∧ w.frozen? ⟨g, 5, none⟩ = false :=
  ⟨h.cell 0, h.cell 1, h.cell 2, h.cell 3, h.cell 4, h.cell 5, h.frozen 0, h.frozen 1, h.frozen 2, h.frozen 3, h.frozen 4, h.frozen 5⟩
theorem grown_set {w W : World} {g : Nat} (h : w.grownBy W (some g)) {i : Nat} (u : Value) : w.grownBy (W.setCell ⟨g, i, none⟩ u) (some g) :=
  ⟨h.os, h.tape, h.output, by simpa [World.setCell] using h.size, fun k hk hne => (Below.heap_setCell W ⟨g, i, none⟩ u k (fun e => hne (by rw [e]))).trans (h.block k hk hne)⟩
theorem gen_set1 {M : World → Prop} {w : World} {g : Nat} {t : TypeId} {x0 y0 : Value} (hb : Blk w g t #[x0])
    (h : ∀ W : World, Blk W g t #[y0] → w.grownBy W (some g) → W.heap.size = w.heap.size → M W) : M (w.setCell ⟨g, 0, none⟩ y0) :=
  h _ (by simpa using (hb.set_ 0 y0)) (grown_set (World.grownBy.refl w (some g)) y0) (by simp)
theorem gen_set2 {M : World → Prop} {w : World} {g : Nat} {t : TypeId} {x0 x1 y0 y1 : Value} (hb : Blk w g t #[x0, x1])
    (h : ∀ W : World, Blk W g t #[y0, y1] → w.grownBy W (some g) → W.heap.size = w.heap.size → M W) : M ((w.setCell ⟨g, 0, none⟩ y0).setCell ⟨g, 1, none⟩ y1) :=
  h _ (by simpa using ((hb.set_ 0 y0).set_ 1 y1)) (grown_set (grown_set (World.grownBy.refl w (some g)) y0) y1) (by simp)
theorem gen_set3 {M : World → Prop} {w : World} {g : Nat} {t : TypeId} {x0 x1 x2 y0 y1 y2 : Value} (hb : Blk w g t #[x0, x1, x2])
    (h : ∀ W : World, Blk W g t #[y0, y1, y2] → w.grownBy W (some g) → W.heap.size = w.heap.size → M W) : M (((w.setCell ⟨g, 0, none⟩ y0).setCell ⟨g, 1, none⟩ y1).setCell ⟨g, 2, none⟩ y2) :=
  h _ (by simpa using (((hb.set_ 0 y0).set_ 1 y1).set_ 2 y2)) (grown_set (grown_set (grown_set (World.grownBy.refl w (some g)) y0) y1) y2) (by simp)
theorem gen_set4 {M : World → Prop} {w : World} {g : Nat} {t : TypeId} {x0 x1 x2 x3 y0 y1 y2 y3 : Value} (hb : Blk w g t #[x0, x1, x2, x3])
    (h : ∀ W : World, Blk W g t #[y0, y1, y2, y3] → w.grownBy W (some g) → W.heap.size = w.heap.size → M W) : M ((((w.setCell ⟨g, 0, none⟩ y0).setCell ⟨g, 1, none⟩ y1).setCell ⟨g, 2, none⟩ y2).setCell ⟨g, 3, none⟩ y3) :=
  h _ (by simpa using ((((hb.set_ 0 y0).set_ 1 y1).set_ 2 y2).set_ 3 y3)) (grown_set (grown_set (grown_set (grown_set (World.grownBy.refl w (some g)) y0) y1) y2) y3) (by simp)
theorem gen_set6 {M : World → Prop} {w : World} {g : Nat} {t : TypeId} {x0 x1 x2 x3 x4 x5 y0 y1 y2 y3 y4 y5 : Value} (hb : Blk w g t #[x0, x1, x2, x3, x4, x5])
    (h : ∀ W : World, Blk W g t #[y0, y1, y2, y3, y4, y5] → w.grownBy W (some g) → W.heap.size = w.heap.size → M W) : M ((((((w.setCell ⟨g, 0, none⟩ y0).setCell ⟨g, 1, none⟩ y1).setCell ⟨g, 2, none⟩ y2).setCell ⟨g, 3, none⟩ y3).setCell ⟨g, 4, none⟩ y4).setCell ⟨g, 5, none⟩ y5) :=
  h _ (by simpa using ((((((hb.set_ 0 y0).set_ 1 y1).set_ 2 y2).set_ 3 y3).set_ 4 y4).set_ 5 y5)) (grown_set (grown_set (grown_set (grown_set (grown_set (grown_set (World.grownBy.refl w (some g)) y0) y1) y2) y3) y4) y5) (by simp)

theorem below_grown {w0 w W : World} {B g : Nat} (h : Below B w0 w) (hg : w.grownBy W (some g)) (hB : B ≤ g) (hs : B ≤ w.heap.size) : Below B w0 W := h.grown hg hs (fun k e => by cases e; exact hB)
/-- A function that hands back a struct, which lies whole in a block. -/
theorem ret_row {P : Program} {fn : Func} {R : Ending → World → Prop} {a : Act} {w : World} {p : Tmp} {ty : TypeId} (h : fn.results = #[.cell p ty]) {g : Nat} {t : TypeId} {cs : Array Value} (d : TypeDesc) (hb : Blk w g t cs)
    (hp : a.tmps.getD p undef = .pointer (some ⟨g, 0, none⟩))
    (hu : P.underlying ty = some d) (hd : (match d with | .struct _ | .array _ _ => true | _ => false) = true) (hi : (P.info? ty).map (·.size) = some cs.size) (hdf : a.defers = [])
    (hR : R (.returned (.agg cs)) w) : bodyPost P fn R .ret a w :=
  bodyPost_ret (results_cell_row h a.tmps w g t cs (0, 0) d hp hb hu hd hi) hdf hR
theorem ret_row2 {P : Program} {fn : Func} {R : Ending → World → Prop} {a : Act} {w : World} {p q : Tmp} {ty uy : TypeId} (h : fn.results = #[.cell p ty, .cell q uy]) {g g' : Nat} {t t' : TypeId} {cs cs' : Array Value} (d d' : TypeDesc) (hb : Blk w g t cs) (hb' : Blk w g' t' cs')
    (hp : a.tmps.getD p undef = .pointer (some ⟨g, 0, none⟩)) (hp' : a.tmps.getD q undef = .pointer (some ⟨g', 0, none⟩))
    (hu : P.underlying ty = some d) (hd : (match d with | .struct _ | .array _ _ => true | _ => false) = true) (hi : (P.info? ty).map (·.size) = some cs.size)
    (hu' : P.underlying uy = some d') (hd' : (match d' with | .struct _ | .array _ _ => true | _ => false) = true) (hi' : (P.info? uy).map (·.size) = some cs'.size) (hdf : a.defers = [])
    (hR : R (.returned (.tuple #[.agg cs, .agg cs'])) w) : bodyPost P fn R .ret a w := by
  refine bodyPost_ret ?_ hdf hR
  have hq : a.tmps[p]?.getD undef = .pointer (some ⟨g, 0, none⟩) := by simpa using hp
  have hq' : a.tmps[q]?.getD undef = .pointer (some ⟨g', 0, none⟩) := by simpa using hp'
  simp [results, h, hq, hq', asAddr, run_loadVar_row w g t ty cs (0, 0) d hb hu hd hi, run_loadVar_row w g' t' uy cs' (0, 0) d' hb' hu' hd' hi']
theorem Reads.take {w : World} {B n : Nat} {A : Option Addr} {xs : List Value} (h : Reads w B 1 A n xs) {k : Nat} (hk : k ≤ n) : Reads w B 1 A k (xs.take k) := by
  refine ⟨by rw [List.length_take, h.1]; omega, fun h0 => ?_⟩
  obtain ⟨ad, e, hb, hc⟩ := h.2 (by omega)
  refine ⟨ad, e, hb, fun j u hu => hc j u ?_⟩
  rw [List.getElem?_take] at hu
  split at hu
  · exact hu
  · cases hu
/-- A store into another block. -/
theorem cell_past {w : World} {p q : Addr} {u : Value} {v : Option Value} (hne : p.block ≠ q.block) (h : w.cell? p = v) : (w.setCell q u).cell? p = v :=
  (World.cell?_of_block (Below.heap_setCell w q u p.block hne)).trans h
theorem run_make_rowN {P : Program} (t e : TypeId) (i : TypeInfo) (z : Value) (ht : P.underlying t = some (.slice e)) (hi : P.info? e = some i) (hz : i.zero = some z)
    (kl kc : IntKind) (n c : Nat) (hnc : n ≤ c) (hbytes : i.bytes * c ≤ 281474976710656) (h63 : c ≤ 9223372036854775807) (w : World) :
    (Instr.makeSlice t (.int kl (n : Int)) (.int kc (c : Int))).run P w = .ok (.slice (some ⟨w.heap.size, 0, none⟩) n c) (w.alloc (.cells (madeCells z.cells (c * i.size)) e)) := by
  have hb : (i.bytes : Int) * (c : Int) ≤ 281474976710656 := by
    have h : ((i.bytes * c : Nat) : Int) ≤ 281474976710656 := by omega
    rwa [Int.natCast_mul] at h
  have hr := run_make (P := P) w t e i z ht hi hz kl kc n c (by omega) (by omega) hb (by omega)
  simp only [Int.toNat_natCast] at hr
  exact hr
theorem _root_.Go.RowKit.Below.drewN_ {B : Nat} {a w : World} (h : Below B a w) (n : Nat) : Below B a (w.drewN n) := ⟨h.os, h.tape, h.output, h.size, h.block⟩
end Go.Proofs.YtkmeckimmfbkiaaGreatDoor
namespace Go.Proofs.YtkmeckimmfbkiaaGreatDoor
open Go Go.RowKit
def bv (l : List UInt8) : List Value := l.map fun b => Value.int .u8 (b.toNat : Int)
theorem bv_len (l : List UInt8) : (bv l).length = l.length := by simp [bv]
theorem bv_get (l : List UInt8) (k : Nat) (h : k < l.length) : (bv l)[k]? = some (.int .u8 (l[k].toNat : Int)) := by simp [bv, h]
theorem bv_drop (l : List UInt8) (k : Nat) : (bv l).drop k = bv (l.drop k) := by simp [bv]
theorem bv_take (l : List UInt8) (k : Nat) : (bv l).take k = bv (l.take k) := by simp [bv]
theorem bv_one (l : List UInt8) : ∀ u ∈ bv l, u.oneCell' = true := by
  intro u hu
  obtain ⟨b, _, rfl⟩ := List.mem_map.1 hu
  rfl
theorem Reads.byte {w : World} {B : Nat} {A : Option Addr} {l : List UInt8} (h : Reads w B 1 A l.length (bv l)) {k : Nat} (hk : k < l.length) :
    ∃ ad, A = some ad ∧ ad.block < B ∧ w.cell? (ad.add k) = some (.int .u8 (l[k].toNat : Int)) := by
  obtain ⟨ad, u, e, hb, hx, hc⟩ := h.at_ hk
  rw [bv_get l k hk] at hx
  injection hx with hx
  subst hx
  exact ⟨ad, e, hb, hc⟩
theorem Reads.byteQ {w : World} {B n : Nat} {A : Option Addr} {l : List UInt8} (h : Reads w B 1 A n (bv l)) {k : Nat} (hk : k < n) :
    ∃ ad b, A = some ad ∧ ad.block < B ∧ l[k]? = some b ∧ w.cell? (ad.add k) = some (.int .u8 (b.toNat : Int)) := by
  have hn : l.length = n := by have := h.1; rw [bv_len] at this; omega
  subst hn
  obtain ⟨ad, e, hb, hc⟩ := h.byte hk
  exact ⟨ad, l[k], e, hb, List.getElem?_eq_getElem hk, hc⟩
theorem info5 : (Tryz.prog.info? 5).map (fun i => (i.zero, i.size, i.bytes)) = some (some (.int .u8 0), 1, 1) := by kernel_rfl
/-- What stands behind the zeros ahead. -/
def cutB (l : List UInt8) : List UInt8 := l.dropWhile (· == 0)
theorem cutB_of (l : List UInt8) (k : Nat) (hk : k ≤ l.length) (h0 : ∀ j (hj : j < k), l[j]'(by omega) = 0) (h1 : ∀ h : k < l.length, l[k] ≠ 0) : cutB l = l.drop k := by
  induction l generalizing k with
  | nil => simp [cutB]
  | cons a l ih =>
    cases k with
    | zero =>
      have := h1 (by simp)
      simp only [List.getElem_cons_zero] at this
      simp [cutB, this]
    | succ k =>
      have ha := h0 0 (by omega)
      simp only [List.getElem_cons_zero] at ha
      subst ha
      have := ih k (by simp at hk; omega) (fun j hj => by simpa using h0 (j + 1) (by omega)) (fun h hh => h1 (by simp; omega) (by simpa using hh))
      simpa [cutB] using this
section
variable {w : World}
/-- 'append' of bytes onto a row of the call's own. -/
theorem app_bytes {ops : Array Oper} {rest : List Oper} {o : Oper} {a : Act} {Q : Exit → Act → World → Prop} (hgd : o.guard = none) (s x : Operand)
    (ho : o.op = .call { callee := .builtin .append, args := #[s, x], argTypes := #[22, 22] })
    (base : Nat) (v : Value) (n : Nat) (xs : List UInt8) (hs : a.eval s = v) (hown : w.ownsRow base 5 1 v n (bv xs))
    (B : Nat) (A : Option Addr) (m c : Nat) (ys : List UInt8) (hx : a.eval x = .slice A m c) (hr : Reads w B 1 A m (bv ys)) (hb : n + m ≤ 140737488355328) (hbase : base ≤ w.heap.size)
    (h : ∀ v' w', w'.ownsRow base 5 1 v' (n + m) (bv (xs ++ ys)) → w.grownBy w' v.ownBlock → (v'.ownBlock = v.ownBlock ∨ v'.ownBlock = some w.heap.size) → wpList Tryz.prog ops Q rest (a.put o.dst v') w') : wpList Tryz.prog ops Q (o :: rest) a w := by
  obtain ⟨i, hi, hz0, hz1, hz2⟩ := info_parts info5
  refine wpList_append_any w hgd s x 22 ho base 5 i (.int .u8 0) 1 1 Tryz.underlying22 hi hz0 hz1 hz2 rfl (by decide) v n (bv xs) hs hown B A m c (bv ys) hx hr (bv_one ys) (by unfold maxLen; omega) (by omega) hbase ?_
  intro v' w' h1 h2 h3
  exact h v' w' (by simpa [bv] using h1) h2 h3
theorem step_app_bytes {ops : Array Oper} {o : Oper} {a : Act} {K : Act → World → Prop} {Q : Exit → Act → World → Prop} {E : Prop} (hgd : o.guard = none) (s x : Operand)
    (ho : o.op = .call { callee := .builtin .append, args := #[s, x], argTypes := #[22, 22] })
    (base : Nat) (v : Value) (n : Nat) (xs : List UInt8) (hs : a.eval s = v) (hown : w.ownsRow base 5 1 v n (bv xs))
    (B : Nat) (A : Option Addr) (m c : Nat) (ys : List UInt8) (hx : a.eval x = .slice A m c) (hr : Reads w B 1 A m (bv ys)) (hb : n + m ≤ 140737488355328) (hbase : base ≤ w.heap.size)
    (h : ∀ v' w', w'.ownsRow base 5 1 v' (n + m) (bv (xs ++ ys)) → w.grownBy w' v.ownBlock → (v'.ownBlock = v.ownBlock ∨ v'.ownBlock = some w.heap.size) → K (a.put o.dst v') w') :
    if Region.wanted o (yielded ops a.tmps) = true then Oper.wp Tryz.prog o a w K Q else E := by
  obtain ⟨i, hi, hz0, hz1, hz2⟩ := info_parts info5
  refine step_append_any w hgd s x 22 ho base 5 i (.int .u8 0) 1 1 Tryz.underlying22 hi hz0 hz1 hz2 rfl (by decide) v n (bv xs) hs hown B A m c (bv ys) hx hr (bv_one ys) (by unfold maxLen; omega) (by omega) hbase ?_
  intro v' w' h1 h2 h3
  exact h v' w' (by simpa [bv] using h1) h2 h3
end
theorem ownsB_mk {w w' : World} {v : Value} {l r : List UInt8} {n : Nat} (hr : r = l) (h : w'.ownsRow w.heap.size 5 1 v n (bv l)) (hb : Below w.heap.size w w') : Owns 5 1 w r.length (bv r) (.returned v) w' := by
  subst hr
  have h1 : (bv r).length = n * 1 := h.1
  rw [bv_len] at h1
  exact owns_mk (by omega) h hb
end Go.Proofs.YtkmeckimmfbkiaaGreatDoor
namespace Go.Proofs.YtkmeckimmfbkiaaGreatDoor
open Go Go.RowKit
def beNat (l : List UInt8) : Nat := l.foldl (fun a b => a * 256 + b.toNat) 0
theorem be32_val (a b c d : Nat) (ha : a < 256) (hb : b < 256) (hc : c < 256) (hd : d < 256) :
    bits .or .u32 (bits .or .u32 (bits .or .u32 ((d : Int) % 4294967296) ((c : Int) % 4294967296 * 256 % 4294967296)) ((b : Int) % 4294967296 * 65536 % 4294967296)) ((a : Int) % 4294967296 * 16777216 % 4294967296) =
      ((((a * 256 + b) * 256 + c) * 256 + d : Nat) : Int) := by
  have e1 : (d : Int) % 4294967296 = ((d : Nat) : Int) := by omega
  have e2 : (c : Int) % 4294967296 * 256 % 4294967296 = ((c * 256 : Nat) : Int) := by omega
  have e3 : (b : Int) % 4294967296 * 65536 % 4294967296 = ((b * 65536 : Nat) : Int) := by omega
  have e4 : (a : Int) % 4294967296 * 16777216 % 4294967296 = ((a * 16777216 : Nat) : Int) := by omega
  rw [e1, e2, e3, e4, u32_or_nat d (c * 256) (by omega) (by omega)]
  have j1 : d ||| c * 256 = d + c * 256 := by rw [Nat.or_comm, nat_join 8 (c * 256) d (by omega) (by omega)]; omega
  rw [j1, u32_or_nat _ (b * 65536) (by omega) (by omega)]
  have j2 : (d + c * 256) ||| b * 65536 = d + c * 256 + b * 65536 := by rw [Nat.or_comm, nat_join 16 (b * 65536) _ (by omega) (by omega)]; omega
  rw [j2, u32_or_nat _ (a * 16777216) (by omega) (by omega)]
  have j3 : (d + c * 256 + b * 65536) ||| a * 16777216 = d + c * 256 + b * 65536 + a * 16777216 := by rw [Nat.or_comm, nat_join 24 (a * 16777216) _ (by omega) (by omega)]; omega
  rw [j3]
  omega
theorem be64_val (x y : Nat) (hx : x < 4294967296) (hy : y < 4294967296) : bits .or .u64 ((x : Int) * 4294967296) (y : Int) = ((x * 4294967296 + y : Nat) : Int) := by
  have e1 : (x : Int) * 4294967296 = ((x * 4294967296 : Nat) : Int) := by omega
  rw [e1, u64_or_nat _ _ (by omega) (by omega), nat_join 32 _ _ (by omega) (by omega)]
def word4 (a b c d : UInt8) : Nat := ((a.toNat * 256 + b.toNat) * 256 + c.toNat) * 256 + d.toNat
theorem word4_lt (a b c d : UInt8) : word4 a b c d < 4294967296 := by
  have := a.toNat_lt; have := b.toNat_lt; have := c.toNat_lt; have := d.toNat_lt
  unfold word4; omega
set_option maxRecDepth 10000 in
set_option maxHeartbeats 400000 in
theorem be32_any (b0 b1 b2 b3 : UInt8) (A : Addr) (n c : Nat) (w : World) (hn : 4 ≤ n) (_hc : n ≤ c) (h0 : w.cell? A = some (.int .u8 (b0.toNat : Int))) (h1 : w.cell? ⟨A.block, A.off + 1, none⟩ = some (.int .u8 (b1.toNat : Int))) (h2 : w.cell? ⟨A.block, A.off + 2, none⟩ = some (.int .u8 (b2.toNat : Int))) (h3 : w.cell? ⟨A.block, A.off + 3, none⟩ = some (.int .u8 (b3.toNat : Int))) :
    Calls Tryz.prog 95 #[.slice (some A) n c] w fun e w' => e = .returned (.int .u32 ((word4 b0 b1 b2 b3 : Nat) : Int)) ∧ ∃ k, w' = w.drewN k := by
  have i3 : (3 : Int) < (n : Int) := by omega
  have i2 : (2 : Int) < (n : Int) := by omega
  have i1 : (1 : Int) < (n : Int) := by omega
  have i0 : (0 : Int) < (n : Int) := by omega
  have hv := be32_val _ _ _ _ b0.toNat_lt b1.toNat_lt b2.toNat_lt b3.toNat_lt
  have HV := Lib.hid hv
  clear hv
  go_enter Tryz.func95, Tryz.ntmps95
  go_wp2_with fail
  go_quiet (fail)
  go_wp2
  go_ret
  exact ⟨by rw [HV.out]; rfl, _, rfl⟩
set_option maxRecDepth 10000 in
set_option maxHeartbeats 400000 in
theorem be64_any (b0 b1 b2 b3 b4 b5 b6 b7 : UInt8) (A : Addr) (n c : Nat) (w : World) (hn : 8 ≤ n) (hc : n ≤ c) (h : ∀ i, ∀ u, (bv [b0, b1, b2, b3, b4, b5, b6, b7])[i]? = some u → w.cell? (A.add i) = some u) :
    Calls Tryz.prog 94 #[.slice (some A) n c] w fun e w' => e = .returned (.int .u64 ((word4 b0 b1 b2 b3 * 4294967296 + word4 b4 b5 b6 b7 : Nat) : Int)) ∧ ∃ k, w' = w.drewN k := by
  have i7 : (7 : Int) < (n : Int) := by omega
  have i4 : (4 : Int) ≤ (n : Int) := by omega
  have l1 := word4_lt b0 b1 b2 b3
  have l2 := word4_lt b4 b5 b6 b7
  have hv := be64_val _ _ l1 l2
  have HV := Lib.hid hv
  clear hv
  have h0 := h 0 _ rfl
  have h1 := h 1 _ rfl
  have h2 := h 2 _ rfl
  have h3 := h 3 _ rfl
  have h4 := h 4 _ rfl
  have h5 := h 5 _ rfl
  have h6 := h 6 _ rfl
  have h7 := h 7 _ rfl
  simp only [Addr.add, reduceIte, Nat.reduceEqDiff] at h0 h1 h2 h3 h4 h5 h6 h7
  clear h
  have first1 : ∀ k, Calls Tryz.prog 95 #[.slice (some A) n c] (w.drewN k) fun e w' => e = .returned (.int .u32 ((word4 b0 b1 b2 b3 : Nat) : Int)) ∧ ∃ m, w' = (w.drewN k).drewN m := fun k =>
    be32_any b0 b1 b2 b3 A n c (w.drewN k) (by omega) hc h0 h1 h2 h3
  have second1 : ∀ k, Calls Tryz.prog 95 #[.slice (some ⟨A.block, A.off + 4, none⟩) (n - 4) (c - 4)] (w.drewN k) fun e w' => e = .returned (.int .u32 ((word4 b4 b5 b6 b7 : Nat) : Int)) ∧ ∃ m, w' = (w.drewN k).drewN m := fun k =>
    be32_any b4 b5 b6 b7 ⟨A.block, A.off + 4, none⟩ (n - 4) (c - 4) (w.drewN k) (by omega) (by omega) h4 h5 h6 h7
  have F1 := Lib.hid first1
  have F2 := Lib.hid second1
  clear first1 second1
  go_enter Tryz.func94, Tryz.ntmps94
  go_wp2_with fail
  have hcc : decide (c = 4) = false := by simp; omega
  go_quiet ((go_at_call 95; first | (with_reducible exact Calls.quiet_of (F1.out _)) | (with_reducible exact Calls.quiet_of (F2.out _))))
  go_wp2
  go_ret
  exact ⟨by rw [HV.out]; rfl, _, rfl⟩
end Go.Proofs.YtkmeckimmfbkiaaGreatDoor
namespace Go.Proofs.YtkmeckimmfbkiaaGreatDoor
open Go Go.RowKit
def wv (l : List Nat) : List Value := l.map fun n : Nat => Value.int .u64 (n : Int)
theorem wv_len (l : List Nat) : (wv l).length = l.length := by simp [wv]
theorem wv_get (l : List Nat) (k : Nat) (h : k < l.length) : (wv l)[k]? = some (.int .u64 (l[k] : Int)) := by simp [wv, h]
theorem wv_one (l : List Nat) : ∀ u ∈ wv l, u.oneCell' = true := by
  intro u hu
  obtain ⟨b, _, rfl⟩ := List.mem_map.1 hu
  rfl
theorem Reads.word {w : World} {B : Nat} {A : Option Addr} {l : List Nat} (h : Reads w B 1 A l.length (wv l)) {k : Nat} (hk : k < l.length) :
    ∃ ad, A = some ad ∧ ad.block < B ∧ w.cell? (ad.add k) = some (.int .u64 (l[k] : Int)) := by
  obtain ⟨ad, u, e, hb, hx, hc⟩ := h.at_ hk
  rw [wv_get l k hk] at hx
  injection hx with hx
  subst hx
  exact ⟨ad, e, hb, hc⟩
def natV : List Nat → Nat
  | [] => 0
  | x :: l => x + 18446744073709551616 * natV l
theorem info116 : (Tryz.prog.info? 157).map (fun i => (i.zero, i.size, i.bytes)) = some (some (.int .u64 0), 1, 8) := by kernel_rfl
set_option maxRecDepth 10000 in
set_option maxHeartbeats 400000 in
theorem makeNil_zero (w : World) : Calls Tryz.prog 84 #[.slice none 0 0, .int .i64 0] w fun e w' => e = .returned (.slice none 0 0) ∧ w = w' := by
  go_enter Tryz.func84, Tryz.ntmps84
  go_wp2
  go_ret
  exact ⟨rfl, rfl⟩
set_option maxRecDepth 10000 in
set_option maxHeartbeats 400000 in
theorem makeNil_pos (n : Nat) (hn : 0 < n) (hm : n ≤ 2147483647) (w : World) : Calls Tryz.prog 84 #[.slice none 0 0, .int .i64 n] w fun e w' =>
    ∃ c, e = .returned (.slice (some ⟨w.heap.size, 0, none⟩) n c) ∧ Below w.heap.size w w' ∧ Blk w' w.heap.size 157 (Array.replicate c (.int .u64 0)) ∧ w'.heap.size = w.heap.size + 1 ∧ n ≤ c ∧ c ≤ n + 4 := by
  obtain ⟨i, hi, hz0, hz1, hz2⟩ := info_parts info116
  have hmk := fun (n c : Nat) (hnc : n ≤ c) (hc : c ≤ 2147483651) (W : World) => run_make_rowN (P := Tryz.prog) 130 157 i (.int .u64 0) Tryz.underlying130 hi hz0 .i64 .i64 n c hnc (by rw [hz2]; omega) (by omega) W
  have mc : ∀ c, madeCells (Value.int .u64 0).cells c = Array.replicate c (.int .u64 0) := fun c => by
    apply Array.toList_inj.1
    rw [show (Value.int .u64 0).cells = #[.int .u64 0] from rfl, toList_madeCells_one]
    simp
  simp only [hz1, Nat.mul_one, mc] at hmk
  clear mc
  have h0 : decide ((n : Int) ≤ 0) = false := by simp; omega
  have fin : ∀ c : Nat, n ≤ c → c ≤ n + 4 → ∃ c', Ending.returned (.slice (some ⟨w.heap.size, 0, none⟩) n c) = .returned (.slice (some ⟨w.heap.size, 0, none⟩) n c') ∧ Below w.heap.size w (w.alloc (.cells (Array.replicate c (.int .u64 0)) 157)) ∧ Blk (w.alloc (.cells (Array.replicate c (.int .u64 0)) 157)) w.heap.size 157 (Array.replicate c' (.int .u64 0)) ∧ (w.alloc (.cells (Array.replicate c (.int .u64 0)) 157)).heap.size = w.heap.size + 1 ∧ n ≤ c' ∧ c' ≤ n + 4 := fun c h1 h2 =>
    ⟨c, rfl, (Below.refl _ _).alloc (Nat.le_refl _) _, Blk.new _ _ _, by simp, h1, h2⟩
  have F := Lib.hid fin
  clear fin hi hz0 hz1 hz2
  by_cases h1 : n = 1
  · subst h1
    have m1 : ∀ W : World, (Instr.makeSlice 130 (.int .i64 1) (.int .i64 1)).run Tryz.prog W = .ok (.slice (some ⟨W.heap.size, 0, none⟩) 1 1) (W.alloc (.cells (Array.replicate 1 (.int .u64 0)) 157)) := hmk 1 1 (Nat.le_refl _) (by omega)
    clear hmk
    go_enter Tryz.func84, Tryz.ntmps84
    go_wp2
    go_ret
    exact F.out 1 (Nat.le_refl _) (by omega)
  · have h1' : ((n : Int) == 1) = false := by simp; omega
    have m1 := hmk n (n + 4) (by omega) (by omega)
    have e4 : ((n + 4 : Nat) : Int) = (n : Int) + 4 := by omega
    rw [e4] at m1
    clear hmk e4
    go_enter Tryz.func84, Tryz.ntmps84
    go_wp2
    go_ret
    exact F.out (n + 4) (by omega) (by omega)
set_option maxRecDepth 10000 in
set_option maxHeartbeats 400000 in
theorem norm_any (ws : List Nat) (A : Option Addr) (c : Nat) (w : World) (hl : ws.length ≤ 2147483647) (hc0 : ws.length ≤ c) (hr : Reads w w.heap.size 1 A ws.length (wv ws)) :
    Calls Tryz.prog 86 #[.slice A ws.length c] w fun e w' => ∃ k, k ≤ ws.length ∧ (∀ j (h : j < ws.length), k ≤ j → ws[j] = 0) ∧ (∀ (_ : 0 < k) (h : k - 1 < ws.length), ws[k - 1] ≠ 0) ∧ e = .returned (.slice A k c) ∧ w = w' := by
  go_enter Tryz.func86, Tryz.ntmps86
  go_wp2
  go_loop [3] (fun i => ∃ k : Nat, k ≤ ws.length ∧ (∀ j (h : j < ws.length), k ≤ j → ws[j] = 0) ∧ i = .int .i64 k) (fun i => (intOf i).toNat)
  case atStart => exact ⟨ws.length, Nat.le_refl _, fun j h h' => absurd h (by omega), rfl⟩
  case round =>
    obtain ⟨k, hk, h0, rfl⟩ := hrel
    have H0 := Lib.hid h0
    clear h0
    rcases k with _ | k
    · go_wp2
      go_ret
      exact ⟨0, by omega, H0.out, fun h => absurd h (by omega), rfl, rfl⟩
    · obtain ⟨ad, rfl, _, hcell⟩ := hr.word (k := k) (by omega)
      clear hr
      by_cases hb : ws[k] = 0
      · have hz : ((ws[k] : Int) == 0) = true := by simp [hb]
        go_wp2
        refine ⟨⟨k, by omega, fun j h h' => ?_, rfl⟩, by simp [intOf]⟩
        rcases Nat.lt_or_ge k j with h1 | h1
        · exact H0.out j h h1
        · obtain rfl : j = k := by omega
          exact hb
      · have hz : ((ws[k] : Int) == 0) = false := by simp; omega
        go_wp2
        go_ret
        exact ⟨k + 1, by omega, H0.out, fun _ _ => hb, rfl, rfl⟩
end Go.Proofs.YtkmeckimmfbkiaaGreatDoor
namespace Go.Proofs.YtkmeckimmfbkiaaGreatDoor
open Go Go.RowKit
theorem beNat_fold (l : List UInt8) (a : Nat) : l.foldl (fun a b => a * 256 + b.toNat) a = a * 256 ^ l.length + beNat l := by
  induction l generalizing a with
  | nil => simp [beNat]
  | cons x l ih =>
    simp only [List.foldl_cons, beNat, List.length_cons]
    rw [ih, ih (0 * 256 + x.toNat)]
    rw [Nat.pow_succ, Nat.add_mul, Nat.mul_assoc, Nat.mul_comm 256, Nat.zero_mul, Nat.zero_add]
    omega
theorem beNat_append (l r : List UInt8) : beNat (l ++ r) = beNat l * 256 ^ r.length + beNat r := by
  rw [beNat, List.foldl_append, beNat_fold]
  rfl
theorem beNat_cons (x : UInt8) (l : List UInt8) : beNat (x :: l) = x.toNat * 256 ^ l.length + beNat l := by
  have := beNat_append [x] l
  simpa [beNat] using this
theorem beNat_lt (l : List UInt8) : beNat l < 256 ^ l.length := by
  induction l with
  | nil => simp [beNat]
  | cons x l ih =>
    rw [beNat_cons, List.length_cons, Nat.pow_succ]
    have := x.toNat_lt
    have h1 : x.toNat * 256 ^ l.length ≤ 255 * 256 ^ l.length := Nat.mul_le_mul_right _ (by omega)
    omega
/-- The words of bytes, the lowest first. -/
def wordsOf (l : List UInt8) : List Nat := if _h : l.length = 0 then [] else if l.length < 8 then [beNat l] else beNat (l.drop (l.length - 8)) :: wordsOf (l.take (l.length - 8))
termination_by l.length
decreasing_by simp; omega
theorem wordsOf_nil : wordsOf [] = [] := by rw [wordsOf]; simp
theorem wordsOf_short (l : List UInt8) (h0 : 0 < l.length) (h : l.length < 8) : wordsOf l = [beNat l] := by
  rw [wordsOf, dif_neg (by omega), if_pos h]
theorem wordsOf_long (l : List UInt8) (h : 8 ≤ l.length) : wordsOf l = beNat (l.drop (l.length - 8)) :: wordsOf (l.take (l.length - 8)) := by
  rw [wordsOf, dif_neg (by omega), if_neg (by omega)]
theorem wordsOf_length (n : Nat) : ∀ l : List UInt8, l.length = n → (wordsOf l).length = (n + 7) / 8 := by
  induction n using Nat.strongRecOn with
  | ind n ih =>
    intro l hl
    by_cases h0 : n = 0
    · subst h0
      obtain rfl := List.eq_nil_of_length_eq_zero hl
      simp [wordsOf_nil]
    · by_cases h8 : n < 8
      · rw [wordsOf_short l (by omega) (by omega)]; simp; omega
      · rw [wordsOf_long l (by omega), List.length_cons, ih (n - 8) (by omega) _ (by simp; omega)]
        omega
theorem natV_wordsOf (n : Nat) : ∀ l : List UInt8, l.length = n → natV (wordsOf l) = beNat l := by
  induction n using Nat.strongRecOn with
  | ind n ih =>
    intro l hl
    by_cases h0 : n = 0
    · subst h0
      obtain rfl := List.eq_nil_of_length_eq_zero hl
      simp [wordsOf_nil, natV, beNat]
    · by_cases h8 : n < 8
      · rw [wordsOf_short l (by omega) (by omega)]; simp [natV]
      · rw [wordsOf_long l (by omega), natV, ih (n - 8) (by omega) _ (by simp; omega)]
        have := beNat_append (l.take (l.length - 8)) (l.drop (l.length - 8))
        rw [List.take_append_drop, List.length_drop] at this
        rw [this, show l.length - (l.length - 8) = 8 by omega]
        omega
theorem wordsOf_lt (n : Nat) : ∀ l : List UInt8, l.length = n → ∀ x ∈ wordsOf l, x < 18446744073709551616 := by
  induction n using Nat.strongRecOn with
  | ind n ih =>
    intro l hl x hx
    by_cases h0 : n = 0
    · subst h0
      obtain rfl := List.eq_nil_of_length_eq_zero hl
      simp [wordsOf_nil] at hx
    · by_cases h8 : n < 8
      · rw [wordsOf_short l (by omega) (by omega)] at hx
        simp at hx
        subst hx
        have h1 := beNat_lt l
        have h2 : 256 ^ l.length ≤ 256 ^ 8 := Nat.pow_le_pow_right (by omega) (by omega)
        omega
      · rw [wordsOf_long l (by omega)] at hx
        rcases List.mem_cons.1 hx with rfl | hx
        · have h1 := beNat_lt (l.drop (l.length - 8))
          rw [List.length_drop, show l.length - (l.length - 8) = 8 by omega] at h1
          omega
        · exact ih (n - 8) (by omega) _ (by simp; omega) x hx
theorem list8 (l : List UInt8) (h : l.length = 8) : ∃ a b c d e f g k, l = [a, b, c, d, e, f, g, k] := by
  match l, h with
  | [a, b, c, d, e, f, g, k], _ => exact ⟨a, b, c, d, e, f, g, k, rfl⟩
theorem word8 (a b c d e f g k : UInt8) : word4 a b c d * 4294967296 + word4 e f g k = beNat [a, b, c, d, e, f, g, k] := by
  simp [beNat, word4]; omega
/-- The words of a number, the lowest first, no zero on top. -/
def limbs (x : Nat) : List Nat := if h : x = 0 then [] else x % 18446744073709551616 :: limbs (x / 18446744073709551616)
termination_by x
decreasing_by exact Nat.div_lt_self (by omega) (by omega)
theorem limbs_zero : limbs 0 = [] := by rw [limbs]; simp
theorem limbs_pos (x : Nat) (h : 0 < x) : limbs x = x % 18446744073709551616 :: limbs (x / 18446744073709551616) := by rw [limbs, dif_neg (by omega)]
theorem natV_limbs (x : Nat) : natV (limbs x) = x := by
  induction x using Nat.strongRecOn with
  | ind x ih =>
    by_cases h : x = 0
    · subst h; rw [limbs_zero]; rfl
    · rw [limbs_pos x (by omega), natV, ih _ (Nat.div_lt_self (by omega) (by omega))]
      omega
theorem limbs_lt (x : Nat) : ∀ y ∈ limbs x, y < 18446744073709551616 := by
  induction x using Nat.strongRecOn with
  | ind x ih =>
    intro y hy
    by_cases h : x = 0
    · subst h; rw [limbs_zero] at hy; cases hy
    · rw [limbs_pos x (by omega)] at hy
      rcases List.mem_cons.1 hy with rfl | hy
      · omega
      · exact ih _ (Nat.div_lt_self (by omega) (by omega)) y hy
theorem natV_zero (ws : List Nat) (h : natV ws = 0) : ∀ x ∈ ws, x = 0 := by
  induction ws with
  | nil => intro x hx; cases hx
  | cons a l ih =>
    intro x hx
    simp only [natV] at h
    rcases List.mem_cons.1 hx with rfl | hx
    · omega
    · exact ih (by omega) x hx
theorem limbs_natV (ws : List Nat) (hb : ∀ x ∈ ws, x < 18446744073709551616) (hn : ∀ (h : 0 < ws.length), ws[ws.length - 1] ≠ 0) : limbs (natV ws) = ws := by
  induction ws with
  | nil => simp [natV, limbs_zero]
  | cons a l ih =>
    have ha := hb a (by simp)
    have hl := ih (fun x hx => hb x (by simp [hx])) (fun h => by
      have := hn (by simp)
      simp only [List.length_cons, Nat.add_sub_cancel] at this
      rwa [List.getElem_cons, dif_neg (by omega)] at this)
    have hpos : 0 < natV (a :: l) := by
      rcases Nat.eq_zero_or_pos (natV (a :: l)) with h0 | h0
      · exact absurd (natV_zero _ h0 _ (List.getElem_mem (by simp : (a :: l).length - 1 < (a :: l).length))) (hn (by simp))
      · exact h0
    rw [limbs_pos _ hpos]
    simp only [natV]
    rw [show (a + 18446744073709551616 * natV l) % 18446744073709551616 = a by omega, show (a + 18446744073709551616 * natV l) / 18446744073709551616 = natV l by omega, hl]
theorem natV_append (l r : List Nat) : natV (l ++ r) = natV l + 18446744073709551616 ^ l.length * natV r := by
  induction l with
  | nil => simp [natV]
  | cons a l ih =>
    simp only [List.cons_append, natV, ih, List.length_cons, Nat.pow_succ, Nat.mul_add]
    rw [Nat.mul_comm (18446744073709551616 ^ l.length) 18446744073709551616, Nat.mul_assoc]
    omega
theorem natV_zeros (ws : List Nat) (h : ∀ x ∈ ws, x = 0) : natV ws = 0 := by
  induction ws with
  | nil => rfl
  | cons a l ih => simp only [natV, h a (by simp), ih (fun x hx => h x (by simp [hx]))]
theorem natV_take (ws : List Nat) (k : Nat) (h : ∀ j (hj : j < ws.length), k ≤ j → ws[j] = 0) : natV (ws.take k) = natV ws := by
  have e := natV_append (ws.take k) (ws.drop k)
  rw [List.take_append_drop] at e
  rw [natV_zeros (ws.drop k) (fun x hx => by
    obtain ⟨i, hi, rfl⟩ := List.mem_iff_getElem.1 hx
    rw [List.getElem_drop]
    exact h _ _ (by omega))] at e
  omega
/-- What 'norm' leaves. -/
theorem limbs_take (ws : List Nat) (k : Nat) (hb : ∀ x ∈ ws, x < 18446744073709551616) (hk : k ≤ ws.length) (h : ∀ j (hj : j < ws.length), k ≤ j → ws[j] = 0) (hn : ∀ (_ : 0 < k) (h : k - 1 < ws.length), ws[k - 1] ≠ 0) :
    ws.take k = limbs (natV ws) := by
  rw [← natV_take ws k h, limbs_natV]
  · exact fun x hx => hb x (List.mem_of_mem_take hx)
  · intro h0
    have hlen : (ws.take k).length = k := by simp; omega
    simp only [List.getElem_take, hlen]
    exact hn (by omega) (by omega)
theorem sb_step (l : List UInt8) (i r t : Nat) (b : UInt8) (hr : r + 1 + t = i) (ht : t ≤ 6) (hi : i ≤ l.length) (hb : l[r]? = some b) :
    bits .or .u64 ((beNat ((l.take i).drop (r + 1)) : Nat) : Int) (IntKind.u64.wrap (IntKind.u64.wrap (b.toNat : Int) * ((256 ^ t : Nat) : Int))) = ((beNat ((l.take i).drop r) : Nat) : Int) := by
  have hlt := beNat_lt ((l.take i).drop (r + 1))
  have hlen : ((l.take i).drop (r + 1)).length = t := by simp; omega
  rw [hlen] at hlt
  have h8 : 256 ^ t ≤ 256 ^ 6 := Nat.pow_le_pow_right (by omega) ht
  have hbt := b.toNat_lt
  have hm : b.toNat * 256 ^ t ≤ 255 * 256 ^ 6 := Nat.mul_le_mul (by omega) h8
  have e1 : (l.take i).drop r = b :: (l.take i).drop (r + 1) := by
    have hr' : r < (l.take i).length := by simp; omega
    rw [List.drop_eq_getElem_cons hr']
    congr 1
    rw [List.getElem_take]
    rw [List.getElem?_eq_getElem (by omega)] at hb
    injection hb
  rw [e1, beNat_cons, hlen, IntKind.wrap_u64, IntKind.wrap_u64]
  have e2 : ((b.toNat : Int) % 18446744073709551616 * ((256 ^ t : Nat) : Int)) % 18446744073709551616 = ((b.toNat * 256 ^ t : Nat) : Int) := by
    rw [show (b.toNat : Int) % 18446744073709551616 = (b.toNat : Int) by omega, ← Int.natCast_mul]
    omega
  rw [e2, u64_or_nat _ _ (by omega) (by omega), Nat.or_comm, show 256 ^ t = 2 ^ (8 * t) by rw [Nat.pow_mul], nat_join (8 * t) _ _ (Nat.mul_mod_left _ _) (by rw [← show 256 ^ t = 2 ^ (8 * t) by rw [Nat.pow_mul]]; exact hlt)]
end Go.Proofs.YtkmeckimmfbkiaaGreatDoor
namespace Go.Proofs.YtkmeckimmfbkiaaGreatDoor
open Go Go.RowKit
set_option maxRecDepth 10000 in
set_option maxHeartbeats 400000 in
theorem beWord_any (b0 b1 b2 b3 b4 b5 b6 b7 : UInt8) (A : Addr) (n c : Nat) (w : World) (hn : 8 ≤ n) (hc : n ≤ c) (h : ∀ i, ∀ u, (bv [b0, b1, b2, b3, b4, b5, b6, b7])[i]? = some u → w.cell? (A.add i) = some u) :
    Calls Tryz.prog 85 #[.slice (some A) n c] w fun e w' => e = .returned (.int .u64 ((beNat [b0, b1, b2, b3, b4, b5, b6, b7] : Nat) : Int)) ∧ ∃ k, w' = w.drewN k := by
  have H := Lib.hid h
  clear h
  go_enter Tryz.func85, Tryz.ntmps85
  go_wp2_with fail
  refine (be64_any b0 b1 b2 b3 b4 b5 b6 b7 A n c w hn hc H.out).mono ?_
  rintro e w' ⟨rfl, k, rfl⟩
  go_wp2
  go_ret
  exact ⟨by rw [← word8]; rfl, k, rfl⟩
/-- The words laid so far, zeros behind them. -/
def laidW (pre : List Nat) (c : Nat) : Array Value := (wv pre ++ List.replicate (c - pre.length) (Value.int .u64 0)).toArray
theorem laidW_size (pre : List Nat) (c : Nat) (h : pre.length ≤ c) : (laidW pre c).size = c := by simp [laidW, wv_len]; omega
theorem laidW_get (pre : List Nat) (c k : Nat) (h : pre.length ≤ k) (hk : k < c) : (laidW pre c)[k]? = some (.int .u64 0) := by
  simp [laidW, List.getElem?_append, wv_len, List.getElem?_replicate]
  rw [if_neg (by omega), if_pos (by omega)]
theorem laidW_set (pre : List Nat) (c x : Nat) (h : pre.length < c) : (laidW pre c).setIfInBounds pre.length (.int .u64 x) = laidW (pre ++ [x]) c := by
  have e : c - pre.length = (c - (pre.length + 1)) + 1 := by omega
  simp only [laidW, List.setIfInBounds_toArray, List.length_append, List.length_singleton, e, List.replicate_succ]
  rw [List.set_append_right _ _ (by simp [wv_len])]
  simp [wv]
def SB1 (l : List UInt8) (w : World) (g c : Nat) (vi vk : Value) (wr : World) : Prop :=
  ∃ (i k : Nat) (pre : List Nat), vi = .int .i64 i ∧ vk = .int .i64 k ∧ l.length = i + 8 * k ∧ wordsOf l = pre ++ wordsOf (l.take i) ∧ pre.length = k ∧ Blk wr g 157 (laidW pre c) ∧ Below w.heap.size w wr
/-- A natural number is handed back, in new memory. -/
def OwnsNat (w : World) (x : Nat) (e : Ending) (w' : World) : Prop :=
  ∃ A c, e = .returned (.slice A (limbs x).length c) ∧ w'.ownsRow w.heap.size 157 1 (.slice A (limbs x).length c) (limbs x).length (wv (limbs x)) ∧ (limbs x).length ≤ c ∧ Below w.heap.size w w'
theorem own_laid (w w' : World) (g c k : Nat) (ws : List Nat) (hl : ws.length ≤ c) (hk : k ≤ ws.length) (hm : c ≤ maxLen) (hg : w.heap.size ≤ g) (hb : Blk w' g 157 (laidW ws c)) :
    w'.ownsRow w.heap.size 157 1 (.slice (some ⟨g, 0, none⟩) k c) k (wv (ws.take k)) := by
  refine ⟨by simp [wv_len]; omega, .inr ⟨g, c, _, rfl, hg, hb, by omega, hm, by rw [laidW_size ws c hl]; omega, ?_⟩⟩
  simp only [laidW, Nat.mul_one]
  rw [List.take_append_of_le_length (by rw [wv_len]; omega)]
  simp [wv, List.map_take]
theorem sb_fin (l : List UInt8) (w wr : World) (n c : Nat) (ws : List Nat) (hws : ws = wordsOf l) (hn : ws.length = n) (hnm : n ≤ 2147483647) (hc : n ≤ c) (hm : c ≤ 2147483651) (hb : Blk wr w.heap.size 157 (laidW ws c)) (hB : Below w.heap.size w wr) :
    Calls Tryz.prog 86 #[.slice (some ⟨w.heap.size, 0, none⟩) n c] wr (OwnsNat w (beNat l)) := by
  have hlt := hb.lt
  have hmm : c ≤ maxLen := by unfold maxLen; omega
  have hR := (Reads.of_own (own_laid w wr w.heap.size c n ws (by omega) (by omega) hmm (Nat.le_refl _) hb))
  rw [List.take_of_length_le (by omega)] at hR
  subst hn
  refine (norm_any ws _ c wr (by omega) hc hR).mono ?_
  rintro e w' ⟨k, h1, h2, h3, rfl, rfl⟩
  have e1 := limbs_take ws k (by rw [hws]; exact wordsOf_lt _ l rfl) h1 h2 h3
  rw [hws, natV_wordsOf _ l rfl, ← hws] at e1
  have e2 : k = (limbs (beNat l)).length := by rw [← e1, List.length_take]; omega
  have ho := own_laid w wr w.heap.size c k ws hc h1 hmm (Nat.le_refl _) hb
  rw [e1] at ho
  subst e2
  exact ⟨_, _, rfl, ho, by omega, hB⟩
set_option maxRecDepth 10000 in
set_option maxHeartbeats 400000 in
theorem setBytes_pos (l : List UInt8) (A : Option Addr) (c : Nat) (w : World) (h0 : 0 < l.length) (hl : l.length ≤ 2147483640) (hc0 : l.length ≤ c) (hr : Reads w w.heap.size 1 A l.length (bv l)) :
    Calls Tryz.prog 72 #[.slice none 0 0, .slice A l.length c] w (OwnsNat w (beNat l)) := by
  obtain ⟨ad, rfl⟩ : ∃ ad, A = some ad := (hr.2 h0).imp fun ad h => h.1
  have HR := Lib.hid hr
  clear hr
  go_enter Tryz.func72, Tryz.ntmps72
  go_wp2_with fail
  rw [show ((l.length : Int) + 8 - 1) / 8 = (((l.length + 7) / 8 : Nat) : Int) from by omega]
  have hpos : 0 < (l.length + 7) / 8 := by omega
  have hle : (l.length + 7) / 8 ≤ 2147483647 := by omega
  have hN : l.length = (l.length + 7) / 8 * 8 - ((l.length + 7) / 8 * 8 - l.length) := by omega
  generalize hn : (l.length + 7) / 8 = n at *
  have HN := Lib.hid (And.intro hn hN)
  clear hn hN
  refine (makeNil_pos n hpos hle w).mono ?_
  rintro e w1 ⟨c1, rfl, hB, hb, hz, hc1, hc2⟩
  have HZ := Lib.hid hz
  clear hz
  go_wp2_with fail
  go_loopw [5, 6] (fun vi vk wr => SB1 l w w.heap.size c1 vi vk wr) (fun vi _ _ => (intOf vi).toNat)
  case atStart => exact ⟨l.length, 0, [], rfl, rfl, by omega, by simp, rfl, by simpa [laidW, wv] using hb, hB⟩
  case round =>
    obtain ⟨i, k, pre, rfl, rfl, hik, hpre, hk, hb1, hB1⟩ := hrel
    have HP := Lib.hid (And.intro hik (And.intro hpre hk))
    have hik1 : l.length ≤ i + 8 * k := by omega
    have hik2 : i + 8 * k ≤ l.length := by omega
    clear hpre hk hik
    try clear hb
    by_cases hi : 8 ≤ i
    · obtain ⟨j, rfl⟩ : ∃ j, i = j + 8 := ⟨i - 8, by omega⟩
      obtain ⟨b0, b1, b2, b3, b4, b5, b6, b7, hbytes⟩ := list8 ((l.take (j + 8)).drop j) (by simp; omega)
      have hcell : ∀ i, ∀ u, (bv [b0, b1, b2, b3, b4, b5, b6, b7])[i]? = some u → wr.cell? ((ad.add j).add i) = some u := by
        intro i u hu
        rw [← hbytes] at hu
        obtain ⟨ad', e, hlt, hc⟩ := (HR.out.below hB1).2 h0
        cases e
        rw [add_of_add]
        refine hc (j + i) u ?_
        simp only [bv, List.getElem?_map, List.getElem?_drop, List.getElem?_take] at hu ⊢
        split at hu
        · exact hu
        · simp at hu
      have hkn : k < n := by have := HN.out.1; omega
      have hkn' : (k : Int) < (n : Int) := by omega
      have HC := Lib.hid hcell
      have HBY := Lib.hid hbytes
      clear hcell hbytes
      go_wp2_with fail
      refine (beWord_any b0 b1 b2 b3 b4 b5 b6 b7 (ad.add j) 8 (c - j) wr (by omega) (by omega) HC.out).mono ?_
      rintro e w2 ⟨rfl, nq, rfl⟩
      have hb2 := hb1.drewN nq
      have q0 := hb2.cell k
      rw [laidW_get pre c1 k (by have := HP.out.2.2; omega) (by omega)] at q0
      have q1 := hb2.frozen k
      generalize hx : beNat [b0, b1, b2, b3, b4, b5, b6, b7] = x at *
      have HX := Lib.hid hx
      clear hx hb2
      go_wp2
      go_roundw
      case rel =>
        have hx := HX.out
        have hbytes := HBY.out
        obtain ⟨h1, h2, h3⟩ := HP.out
        subst h3
        have hb3 := (hb1.drewN nq).set_ pre.length (.int .u64 x)
        rw [laidW_set pre c1 x (by omega)] at hb3
        have hlen8 : (l.take (j + 8)).length = j + 8 := by simp; omega
        refine ⟨j, pre.length + 1, pre ++ [x], rfl, by go_num, by omega, ?_, by simp, hb3, (hB1.drewN_ nq).setCell (Nat.le_refl _) _⟩
        rw [h2, wordsOf_long _ (by omega), hlen8, Nat.add_sub_cancel, hbytes, hx, List.take_take, Nat.min_eq_left (by omega)]
        simp
      case measure => simp [intOf]; omega
    · by_cases hi0 : i = 0
      · subst hi0
        go_wp2_with fail
        have hws : wordsOf l = pre := by have := HP.out.2.1; rw [List.take_zero, wordsOf_nil, List.append_nil] at this; exact this
        have hn : pre.length = n := by have := HN.out.1; have := HP.out.1; have := HP.out.2.2; omega
        refine (sb_fin l w wr n c1 pre hws.symm hn hle hc1 (by omega) hb1 hB1).mono ?_
        rintro e w' ⟨A1, c2, rfl, ho, hc2, hB2⟩
        clear HP HR hb1
        go_wp2
        go_ret
        exact ⟨A1, c2, rfl, ho, hc2, hB2⟩
      · have hi1 : 0 < i := by omega
        go_wp2_with fail
        go_loop [5, 7, 8] (fun vi vd vs => ∃ r t : Nat, r + t = i ∧ vi = .int .i64 r ∧ vd = .int .u64 ((beNat ((l.take i).drop r) : Nat) : Int) ∧ vs = .int .u64 ((8 * t : Nat) : Int)) (fun vi _ _ => (intOf vi).toNat)
        case atStart => exact ⟨i, 0, by omega, rfl, by simp [beNat], rfl⟩
        case round =>
          obtain ⟨r, t, hrt, rfl, rfl, rfl⟩ := hrel
          rcases r with _ | r
          · have hk : k + 1 = n := by have := HN.out.1; have := HP.out.1; omega
            have q0 := hb1.cell k
            rw [laidW_get pre c1 k (by have := HP.out.2.2; omega) (by omega)] at q0
            have q1 := hb1.frozen k
            have hk' : (n : Int) - 1 = (k : Int) := by omega
            have hkn : (k : Int) < (n : Int) := by omega
            have HK := Lib.hid hk
            clear hk
            go_wp2_with fail
            have hb2 := hb1.set_ k (.int .u64 ((beNat (l.take i) : Nat) : Int))
            obtain ⟨p1, p2, p3⟩ := HP.out
            rw [← p3, laidW_set pre c1 _ (by omega), p3] at hb2
            have hws : pre ++ [beNat (l.take i)] = wordsOf l := by rw [p2, wordsOf_short _ (by simp; omega) (by simp; omega)]
            refine (sb_fin l w _ n c1 (pre ++ [beNat (l.take i)]) hws (by have := HK.out; simp; omega) hle hc1 (by omega) hb2 (hB1.setCell (Nat.le_refl _) _)).mono ?_
            rintro e w' ⟨A1, c2, rfl, ho, hc2, hB2⟩
            clear HP HR hb1 hws hb2 p1 p2 p3
            go_wp2
            go_ret
            exact ⟨A1, c2, rfl, ho, hc2, hB2⟩
          · have ht : t = 0 ∨ t = 1 ∨ t = 2 ∨ t = 3 ∨ t = 4 ∨ t = 5 ∨ t = 6 := by omega
            obtain ⟨ad', b, e, _, hb, hcell⟩ := (HR.out.below hB1).byteQ (k := r) (by omega)
            cases e
            have hs := sb_step l i r t b (by omega) (by omega) (by omega) hb
            have HB := Lib.hid hs
            clear hb hs
            have hrt1 : r + 1 + t ≤ i := by omega
            have hrt2 : i ≤ r + 1 + t := by omega
            clear hrt
            rcases ht with rfl | rfl | rfl | rfl | rfl | rfl | rfl
            all_goals
              go_wp2
              refine ⟨⟨r, i - r, by omega, rfl, ?_, congrArg _ (by omega)⟩, by simp [intOf]⟩
              have hs := HB.out
              simp only [Nat.reducePow, Int.natCast_one, Int.mul_one] at hs
              exact congrArg _ hs
set_option maxRecDepth 10000 in
set_option maxHeartbeats 400000 in
theorem setBytes_zero (A : Option Addr) (c : Nat) (w : World) :
    Calls Tryz.prog 72 #[.slice none 0 0, .slice A 0 c] w (OwnsNat w 0) := by
  go_enter Tryz.func72, Tryz.ntmps72
  go_wp2_with fail
  refine (makeNil_zero w).mono ?_
  rintro e w1 ⟨rfl, rfl⟩
  go_wp2_with fail
  refine wp_loop_rounds 1 ?_
  rw [rounds_succ]
  go_wp2_with fail
  refine (norm_any [] none 0 w (by simp) (by simp) Reads.none_).mono ?_
  rintro e w1 ⟨k, h1, h2, h3, rfl, rfl⟩
  obtain rfl : k = 0 := by simpa using h1
  go_wp2
  go_ret
  exact ⟨none, 0, by rw [limbs_zero]; rfl, by rw [limbs_zero]; exact World.ownsRow_nil _ _ _ _, by rw [limbs_zero]; simp, Below.refl _ _⟩
theorem setBytes_any (l : List UInt8) (A : Option Addr) (n c : Nat) (w : World) (hn : l.length = n) (hl : n ≤ 2147483640) (hc0 : n ≤ c) (hr : Reads w w.heap.size 1 A n (bv l)) :
    Calls Tryz.prog 72 #[.slice none 0 0, .slice A n c] w (OwnsNat w (beNat l)) := by
  subst hn
  rcases Nat.eq_zero_or_pos l.length with h0 | h0
  · obtain rfl := List.eq_nil_of_length_eq_zero h0
    exact setBytes_zero A c w
  · exact setBytes_pos l A c w h0 hl hc0 hr
end Go.Proofs.YtkmeckimmfbkiaaGreatDoor
namespace Go.Proofs.YtkmeckimmfbkiaaGreatDoor
open Go Go.RowKit
theorem size116 : (Tryz.prog.info? 157).map (·.size) = some 1 := by kernel_rfl
theorem ownsNat_mk {w w' : World} {x : Nat} {g n c : Nat} {cur : List Value} (hn : (limbs x).length = n) (hc : n ≤ c) (hm : c ≤ maxLen) (hg : w.heap.size ≤ g) (hb : w'.heap[g]? = some (.cells cur.toArray 157 (0, 0))) (hl : cur.length = c)
    (ht : cur.take n = wv (limbs x)) (hB : Below w.heap.size w w') : OwnsNat w x (.returned (.slice (some ⟨g, 0, none⟩) n c)) w' := by
  subst hn
  refine ⟨_, _, rfl, ⟨by simp [wv_len], .inr ⟨g, c, _, rfl, hg, hb, hc, hm, by simp; omega, ?_⟩⟩, hc, hB⟩
  simpa using ht
set_option maxRecDepth 10000 in
set_option maxHeartbeats 400000 in
theorem setNil_any (x : Nat) (A : Option Addr) (n c : Nat) (w : World) (hn : (limbs x).length = n) (hl : n ≤ 2147483640) (hc0 : n ≤ c) (hr : Reads w w.heap.size 1 A n (wv (limbs x))) :
    Calls Tryz.prog 87 #[.slice none 0 0, .slice A n c] w (OwnsNat w x) := by
  have HR := Lib.hid hr
  have HN := Lib.hid hn
  clear hr hn
  go_enter Tryz.func87, Tryz.ntmps87
  rcases Nat.eq_zero_or_pos n with h0 | h0
  · subst h0
    go_wp2_with fail
    refine (makeNil_zero w).mono ?_
    rintro e w1 ⟨rfl, rfl⟩
    go_wp2_with (with_reducible refine wpList_copy_nothing rfl _ _ _ _ rfl 157 Tryz.underlying130 size116 _ _ _ _ _ _ rfl rfl (by simp) ?_)
    go_wp2
    go_ret
    exact ⟨none, 0, by rw [HN.out]; rfl, by rw [HN.out, List.eq_nil_of_length_eq_zero HN.out]; exact World.ownsRow_nil _ _ _ _, by rw [HN.out]; exact Nat.le_refl _, Below.refl _ _⟩
  · go_wp2_with fail
    refine (makeNil_pos n h0 (by omega) w).mono ?_
    rintro e w1 ⟨c1, rfl, hB, hb, hz, hc1, hc2⟩
    have HZ := Lib.hid hz
    clear hz
    obtain ⟨ad, rfl⟩ : ∃ ad, A = some ad := (HR.out.2 h0).imp fun ad h => h.1
    have hb' : w1.heap[w.heap.size]? = some (.cells (List.replicate c1 (Value.int .u64 0)).toArray 157 (0, 0)) := by simpa [Blk] using hb
    go_wp2_with (with_reducible refine wpList_copy_splice rfl (.tmp 9) (.tmp 10) 130 130 rfl 157 Tryz.underlying130 size116 (some ⟨w.heap.size, 0, none⟩) (some ad) n c1 n c rfl rfl w.heap.size 0 (List.replicate c1 (Value.int .u64 0)) 157 hb' (wv (limbs x)) (by rw [wv_len, HN.out]; simp) ?hpos ?hfit (wv_one _) w.heap.size w hB (Nat.le_refl _) ?_)
    case hpos =>
      intro _ j v hj
      obtain ⟨ad', e, _, hc⟩ := (HR.out.below hB).2 h0
      cases e
      exact hc j v hj
    case hfit => rw [wv_len, HN.out]; simp; omega
    intro w2 hw2 hB2
    clear hb hb'
    go_wp2
    go_ret
    refine ownsNat_mk HN.out hc1 (by unfold maxLen; omega) (Nat.le_refl _) hw2.out ?_ ?_ hB2
    · simp [splice, wv_len, HN.out]; omega
    · simp [splice, wv_len, HN.out]
theorem run_neq_ptr_other {P : Program} (w : World) {tp te : TypeId} {j : TypeInfo} {a b : Addr} {ca cb : Array Value} {ta tb : TypeId} (hp : P.underlying tp = some (.pointer te)) (hte : P.info? te = some j) (hsz : j.size ≠ 0)
    (hne : a ≠ b) (ha : w.heap[a.block]? = some (.cells ca ta (0, 0))) (hb : w.heap[b.block]? = some (.cells cb tb (0, 0))) :
    (binOp .neq tp (.pointer (some a)) (.pointer (some b))).run P w = .ok (.bool true) w := by
  have h : ∀ d : Nat, (Op.equalIn (d + 1) tp (.pointer (some a)) (.pointer (some b))).run P w = .ok false w := fun d => by
    simp [Op.equalIn, run_underlying hp, sizeOf, typeInfo, hte, hsz, run_sameAddr_other w hne ha hb]
  simp only [binOp]
  simp [Op.equal, Op.maxDepth, h 9999]

/-- A big integer: its sign and its words in a block, the words below block B. -/
def IntAt (w : World) (B g : Nat) (neg : Bool) (x : Nat) : Prop :=
  ∃ A c, Blk w g 132 #[.bool neg, .slice A (limbs x).length c] ∧ g < B ∧ Reads w B 1 A (limbs x).length (wv (limbs x)) ∧ (limbs x).length ≤ c
theorem IntAt.below {w w' : World} {B g : Nat} {neg : Bool} {x : Nat} (h : IntAt w B g neg x) (hb : Below B w w') : IntAt w' B g neg x := by
  obtain ⟨A, c, h1, h2, h3, h4⟩ := h
  exact ⟨A, c, h1.below hb h2, h2, h3.below hb, h4⟩
theorem IntAt.more {w : World} {B B' g : Nat} {neg : Bool} {x : Nat} (h : IntAt w B g neg x) (hB : B ≤ B') : IntAt w B' g neg x := by
  obtain ⟨A, c, h1, h2, h3, h4⟩ := h
  exact ⟨A, c, h1, by omega, h3.more hB, h4⟩
/-- A big integer has been set in block g; nothing else that was there has turned. -/
def SetInt (w : World) (g : Nat) (neg : Bool) (x : Nat) (e : Ending) (w' : World) : Prop :=
  e = .returned (.pointer (some ⟨g, 0, none⟩)) ∧ IntAt w' w'.heap.size g neg x ∧ w.grownBy w' (some g)
theorem size97 : (Tryz.prog.info? 132).map (·.size) = some 2 := by kernel_rfl
theorem info97 : ∃ i, Tryz.prog.info? 132 = some i ∧ i.size ≠ 0 := by
  obtain ⟨i, hi, h⟩ := Option.map_eq_some_iff.1 size97
  exact ⟨i, hi, by omega⟩
theorem grown_of_below {w w' : World} (h : Below w.heap.size w w') (row : Option Nat) : w.grownBy w' row := ⟨h.os, h.tape, h.output, h.size, fun i hi _ => h.block i hi⟩
theorem grown_trans {a b c : World} {row : Option Nat} (h : a.grownBy b row) (k : b.grownBy c row) : a.grownBy c row :=
  ⟨k.os.trans h.os, k.tape.trans h.tape, k.output.trans h.output, Nat.le_trans h.size k.size, fun i hi hne => (k.block i (Nat.lt_of_lt_of_le hi h.size) hne).trans (h.block i hi hne)⟩
set_option maxRecDepth 10000 in
set_option maxHeartbeats 400000 in
theorem intSetBytes_any (l : List UInt8) (A : Option Addr) (n c g : Nat) (w : World) (hn : l.length = n) (hl : n ≤ 2147483640) (hc0 : n ≤ c) (hr : Reads w w.heap.size 1 A n (bv l)) (hb : Blk w g 132 #[.bool false, .slice none 0 0]) :
    Calls Tryz.prog 64 #[.pointer (some ⟨g, 0, none⟩), .slice A n c] w (SetInt w g false (beNat l)) := by
  obtain ⟨k0, k1, z0, z1⟩ := hb.c2
  have HH := Lib.hid (And.intro hn (And.intro hr hb))
  have hg := hb.lt
  clear hn hr hb
  go_enter Tryz.func64, Tryz.ntmps64
  go_wp2_with fail
  refine (setBytes_any l A n c w HH.out.1 hl hc0 HH.out.2.1).mono ?_
  rintro e w1 ⟨A1, c1, rfl, ho, hc1, hB⟩
  have hb1 := HH.out.2.2.below hB hg
  have hz := hB.size
  obtain ⟨k0, k1, z0, z1⟩ := hb1.c2
  have H1 := Lib.hid (And.intro ho (And.intro hB hb1))
  clear ho hB hb1
  go_wp2
  go_ret
  obtain ⟨ho, hB, hb1⟩ := H1.out
  have hb2 := (hb1.set_ 1 (.slice A1 (limbs (beNat l)).length c1)).set_ 0 (.bool false)
  have hg2 := grown_set (i := 0) (grown_set (i := 1) (grown_of_below hB (some g)) (.slice A1 (limbs (beNat l)).length c1)) (.bool false)
  refine ⟨rfl, ⟨A1, c1, by simpa using hb2, by simp; omega, ?_, hc1⟩, hg2⟩
  exact (Reads.of_own (ownsRow_setCell_below (ownsRow_setCell_below ho hg _) hg _)).more (by simp)
set_option maxRecDepth 10000 in
set_option maxHeartbeats 400000 in
theorem intSet_any (g gx x : Nat) (neg : Bool) (w : World) (hx : IntAt w w.heap.size gx neg x) (hs : (limbs x).length ≤ 2147483640) (hne : g ≠ gx) (hb : Blk w g 132 #[.bool false, .slice none 0 0]) :
    Calls Tryz.prog 73 #[.pointer (some ⟨g, 0, none⟩), .pointer (some ⟨gx, 0, none⟩)] w (SetInt w g neg x) := by
  obtain ⟨A, c, hbx, hgx, hrx, hcx⟩ := hx
  obtain ⟨i, hi, hi0⟩ := info97
  have hq := run_neq_ptr_other (P := Tryz.prog) (a := ⟨g, 0, none⟩) (b := ⟨gx, 0, none⟩) w Tryz.underlying90 hi hi0 (by intro h; exact hne (by injection h)) hb hbx
  clear hi hi0
  obtain ⟨k0, k1, z0, z1⟩ := hb.c2
  obtain ⟨p0, p1, y0, y1⟩ := hbx.c2
  have HH := Lib.hid (And.intro hrx (And.intro hb hbx))
  have hg := hb.lt
  generalize hn : (limbs x).length = n at *
  have HN := Lib.hid hn
  clear hrx hb hbx hn
  go_enter Tryz.func73, Tryz.ntmps73
  go_wp2_with fail
  go_region_with
    ((go_at_call 87; refine (setNil_any x A n c _ HN.out hs hcx (by exact HH.out.1)).mono ?_; rintro e w3 ⟨A3, c3, rfl, ho, hc3, hB3⟩
      have hb1 := HH.out.2.1.drew.below hB3 hg
      have hbx1 := HH.out.2.2.drew.below hB3 hgx
      obtain ⟨k0, q0, z0, z1⟩ := hb1.c2
      obtain ⟨p0, q1, y0, y1⟩ := hbx1.c2))
  all_goals
    have hn1 : ¬ gx = g := fun h => hne h.symm
    have hz3 := hB3.size
    simp only [World.size_drew] at hz3
    have HF := Lib.hid (And.intro ho (And.intro hB3 (And.intro hb1 hbx1)))
    clear ho hB3 hb1 hbx1
    go_wp2
    go_ret
    obtain ⟨ho, hB3, hb1, hbx1⟩ := HF.out
    have hb2 := (hb1.set_ 1 (.slice A3 (limbs x).length c3)).set_ 0 (.bool neg)
    have hg2 := grown_set (i := 0) (grown_set (i := 1) (grown_of_below (w := w.drew) hB3 (some g)) (.slice A3 (limbs x).length c3)) (.bool neg)
    refine ⟨rfl, ⟨A3, c3, by simpa using hb2, by simp; omega, ?_, hc3⟩, ⟨hg2.os, hg2.tape, hg2.output, hg2.size, hg2.block⟩⟩
    exact (Reads.of_own (ownsRow_setCell_below (ownsRow_setCell_below ho hg _) hg _)).more (by simp)
/-- 'z.Set(z)': nothing happens. -/
theorem intSetSame_any (g : Nat) (w : World) :
    Calls Tryz.prog 73 #[.pointer (some ⟨g, 0, none⟩), .pointer (some ⟨g, 0, none⟩)] w fun e w' => e = .returned (.pointer (some ⟨g, 0, none⟩)) ∧ w = w' := by
  obtain ⟨i, hi, hi0⟩ := info97
  have hq := Lib.run_neq_ptr_same (P := Tryz.prog) (w := w) ⟨g, 0, none⟩ Tryz.underlying90 hi
  clear hi hi0
  go_enter Tryz.func73, Tryz.ntmps73
  go_wp2
  go_ret
  exact ⟨rfl, rfl⟩
/-- Words do not lie in a big integer's own block. -/
theorem Reads.set_int {w : World} {B g n m c : Nat} {b : Bool} {A A' : Option Addr} {l : List Nat} (h : Reads w B 1 A n (wv l)) (hb : Blk w g 132 #[.bool b, .slice A' m c]) (i : Nat) (u : Value) : Reads (w.setCell ⟨g, i, none⟩ u) B 1 A n (wv l) := by
  refine ⟨h.1, fun hn => ?_⟩
  obtain ⟨ad, e, hlt, hc⟩ := h.2 hn
  have hlen : l.length = n := by have := h.1; rw [wv_len] at this; omega
  refine ⟨ad, e, hlt, fun j v hj => cell_past ?_ (hc j v hj)⟩
  rw [block_of_add]
  intro hg
  have h0 := hc 0 _ (wv_get l 0 (by omega))
  have e0 : ad.add 0 = ad := rfl
  rw [e0] at h0
  obtain ⟨bl, off, spot⟩ := ad
  simp only at hg
  subst hg
  unfold Blk at hb
  simp only [World.cell?, hb] at h0
  split at h0
  · cases h0
  · rcases off with _ | _ | off <;> simp at h0
theorem limbs_len_pos (x : Nat) : (0 < (limbs x).length) = (0 < x) := by
  rcases Nat.eq_zero_or_pos x with h | h
  · subst h; simp [limbs_zero]
  · rw [limbs_pos x h]; simp [h]
set_option maxRecDepth 10000 in
set_option maxHeartbeats 400000 in
/-- 'z.Neg(z)'. -/
theorem intNeg_any (g x : Nat) (neg : Bool) (w : World) (hx : IntAt w w.heap.size g neg x) (hs : (limbs x).length ≤ 2147483640) :
    Calls Tryz.prog 65 #[.pointer (some ⟨g, 0, none⟩), .pointer (some ⟨g, 0, none⟩)] w (SetInt w g (decide (0 < x) && !neg) x) := by
  obtain ⟨A, c, hb, hg, hr, hc⟩ := hx
  obtain ⟨k0, k1, z0, z1⟩ := hb.c2
  have HH := Lib.hid (And.intro hr hb)
  have hl := limbs_len_pos x
  generalize hn : (limbs x).length = n at *
  have HN := Lib.hid (And.intro hl hn)
  clear hr hb hl hn
  go_enter Tryz.func65, Tryz.ntmps65
  go_wp2_with fail
  refine (intSetSame_any g w).mono ?_
  rintro e w1 ⟨rfl, rfl⟩
  go_wp2
  · have hp : 0 < n := by omega
    have hv : (!neg) = (decide (0 < x) && !neg) := by
      have := HN.out.1
      rw [this] at hp
      simp [hp]
    go_ret
    have hb2 := HH.out.2.set_ 0 (.bool (!neg))
    have h2 := HN.out.2
    subst h2
    refine ⟨rfl, ⟨A, c, by rw [← hv]; simpa using hb2, by simpa using hg, ?_, hc⟩, grown_set (World.grownBy.refl w _) _⟩
    exact (HH.out.1.set_int HH.out.2 0 _).more (by simp)
  · have hp : ¬ 0 < n := by omega
    have hv : false = (decide (0 < x) && !neg) := by
      have := HN.out.1
      rw [this] at hp
      simp [hp]
    go_ret
    have hb2 := HH.out.2.set_ 0 (.bool false)
    have h2 := HN.out.2
    subst h2
    refine ⟨rfl, ⟨A, c, by rw [← hv]; simpa using hb2, by simpa using hg, ?_, hc⟩, grown_set (World.grownBy.refl w _) _⟩
    exact (HH.out.1.set_int HH.out.2 0 _).more (by simp)
end Go.Proofs.YtkmeckimmfbkiaaGreatDoor
