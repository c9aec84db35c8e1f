/- Words for memory: a slice that reads as a list, a block that is known whole, append onto a row of one's own. -/
import Derived.Handy
import Derived.Below
import Derived.Laws.OwnMore
import Derived.Deep.AppendLies
import Derived.Deep.Draws
import Derived.Laws.Rows
import Derived.Maps.AppendAt
import Derived.RegionTactic
import Derived.OwnWalk
import Derived.Laws.MakeOwn
import Derived.Laws.Entries
namespace Go.Proofs.YtmphnnmnbpheiaaGreatDoor
open Go Go.RowKit
theorem block_of_add (a : Addr) (n : Nat) : (a.add n).block = a.block := by unfold Addr.add; split <;> rfl
theorem add_of_add (a : Addr) (i j : Nat) : (a.add i).add j = a.add (i + j) := by
  unfold Addr.add
  by_cases hi : i = 0 <;> by_cases hj : j = 0 <;> simp [hi, hj, Nat.add_assoc]

def Reads (w : World) (B size : Nat) (A : Option Addr) (n : Nat) (xs : List Value) : Prop :=
  xs.length = n * size ∧ (0 < n → ∃ ad, A = some ad ∧ ad.block < B ∧ ∀ j u, xs[j]? = some u → w.cell? (ad.add j) = some u)

section
variable {w w' : World} {B B' size n : Nat} {A : Option Addr} {xs : List Value}
theorem Reads.none_ : Reads w B size A 0 [] := ⟨by simp, fun h => absurd h (by omega)⟩
theorem Reads.at_ {k : Nat} (h : Reads w B 1 A n xs) (hk : k < n) : ∃ ad u, A = some ad ∧ ad.block < B ∧ xs[k]? = some u ∧ w.cell? (ad.add k) = some u := by
  obtain ⟨ad, e, hb, hc⟩ := h.2 (by omega)
  have hl : k < xs.length := by have := h.1; omega
  exact ⟨ad, xs[k], e, hb, List.getElem?_eq_getElem hl, hc k _ (List.getElem?_eq_getElem hl)⟩
theorem Reads.keep (h : Reads w B size A n xs) (hk : ∀ p : Addr, p.block < B → w'.cell? p = w.cell? p) : Reads w' B size A n xs :=
  ⟨h.1, fun hn => by
    obtain ⟨ad, e, hb, hc⟩ := h.2 hn
    exact ⟨ad, e, hb, fun j u hu => (hk _ (by rw [block_of_add]; exact hb)).trans (hc j u hu)⟩⟩
theorem Reads.more (h : Reads w B size A n xs) (hB : B ≤ B') : Reads w B' size A n xs :=
  ⟨h.1, fun hn => by
    obtain ⟨ad, e, hb, hc⟩ := h.2 hn
    exact ⟨ad, e, by omega, hc⟩⟩
theorem Reads.below (h : Reads w B size A n xs) (hb : Below B w w') : Reads w' B size A n xs := h.keep fun _ hp => hb.cell hp
theorem Reads.drew (h : Reads w B size A n xs) : Reads w.drew B size A n xs := h
theorem Reads.drewN (h : Reads w B size A n xs) (k : Nat) : Reads (w.drewN k) B size A n xs := h
theorem Reads.alloc (h : Reads w B size A n xs) (hB : B ≤ w.heap.size) (o : Obj) : Reads (w.alloc o) B size A n xs := h.keep fun p hp => World.cell?_alloc_lt w o p (by omega)
theorem Reads.setCell (h : Reads w B size A n xs) {p : Addr} (hB : B ≤ p.block) (u : Value) : Reads (w.setCell p u) B size A n xs :=
  h.keep fun q hq => World.cell?_setCell_other w p q u (fun e => by subst e; omega)
theorem Reads.grown (h : Reads w B size A n xs) {row : Option Nat} (hg : w.grownBy w' row) (hB : B ≤ w.heap.size) (hr : ∀ g, row = some g → B ≤ g) : Reads w' B size A n xs :=
  h.keep fun p hp => World.cell?_of_block (hg.block p.block (by omega) (fun e => by have := hr _ e.symm; omega))
theorem Reads.cut (h : Reads w B size A n xs) {k cap : Nat} (hk : k ≤ n) (hc : n ≤ cap) :
    Reads w B size (if cap = k then A else A.map (·.add (k * size))) (n - k) (xs.drop (k * size)) := by
  refine ⟨by rw [List.length_drop, h.1, Nat.sub_mul], fun hn => ?_⟩
  obtain ⟨ad, rfl, hb, hcell⟩ := h.2 (by omega)
  rw [if_neg (by omega)]
  refine ⟨ad.add (k * size), rfl, by rw [block_of_add]; exact hb, fun j u hu => ?_⟩
  rw [add_of_add]
  exact hcell _ u (by rw [← hu, List.getElem?_drop])
theorem Reads.of_own {base : Nat} {e : TypeId} {c : Nat} (h : w.ownsRow base e size (.slice A n c) n xs) : Reads w w.heap.size size A n xs := by
  refine ⟨h.1, fun hn => ?_⟩
  obtain ⟨g, cap, hv, _, hlt⟩ := h.form hn
  have hA : A = some ⟨g, 0, none⟩ := by injection hv
  subst hA
  exact ⟨_, rfl, hlt, h.cells (g := g) rfl⟩
end

def Blk (w : World) (g : Nat) (t : TypeId) (cs : Array Value) : Prop := w.heap[g]? = some (.cells cs t (0, 0))

section
variable {w w' : World} {g : Nat} {t : TypeId} {cs : Array Value}
theorem Blk.lt (h : Blk w g t cs) : g < w.heap.size := by
  rcases Nat.lt_or_ge g w.heap.size with hlt | hge
  · exact hlt
  · unfold Blk at h; rw [Array.getElem?_eq_none hge] at h; cases h
theorem Blk.cell (h : Blk w g t cs) (i : Nat) : w.cell? ⟨g, i, none⟩ = cs[i]? := cell_of_row w g i cs t (0, 0) h
theorem Blk.frozen (h : Blk w g t cs) (i : Nat) : w.frozen? ⟨g, i, none⟩ = false := by
  unfold Blk at h
  simp [World.frozen?, h]
theorem Blk.new (w : World) (t : TypeId) (cs : Array Value) : Blk (w.alloc (.cells cs t)) w.heap.size t cs := heap_alloc_new w _
theorem Blk.drew (h : Blk w g t cs) : Blk w.drew g t cs := h
theorem Blk.drewN (h : Blk w g t cs) (n : Nat) : Blk (w.drewN n) g t cs := h
theorem Blk.alloc (h : Blk w g t cs) (o : Obj) : Blk (w.alloc o) g t cs := (Below.heap_alloc w o g h.lt).trans h
theorem Blk.set_ (h : Blk w g t cs) (i : Nat) (u : Value) : Blk (w.setCell ⟨g, i, none⟩ u) g t (cs.setIfInBounds i u) := by
  unfold Blk at h ⊢
  simp [World.setCell, Array.getElem?_modify, h]
theorem Blk.far (h : Blk w g t cs) {p : Addr} (hp : g ≠ p.block) (u : Value) : Blk (w.setCell p u) g t cs := (Below.heap_setCell w p u g hp).trans h
theorem Blk.below {B : Nat} (h : Blk w g t cs) (hb : Below B w w') (hg : g < B) : Blk w' g t cs := (hb.block g hg).trans h
theorem Blk.grown {row : Option Nat} (h : Blk w g t cs) (hb : w.grownBy w' row) (hg : some g ≠ row) : Blk w' g t cs := (hb.block g h.lt hg).trans h
theorem Blk.ne_ {g' : Nat} {t' : TypeId} {cs' : Array Value} (h : Blk w g t cs) (h' : Blk w g' t' cs') (hne : t ≠ t') : g ≠ g' := by
  rintro rfl
  unfold Blk at h h'
  rw [h] at h'
  injection h' with h'
  injection h' with _ ht
  exact hne ht
theorem own_blk_ne {base : Nat} {e : TypeId} {size n : Nat} {v : Value} {xs : List Value} (h : w.ownsRow base e size v n xs) (hg : Blk w g t cs) (hne : e ≠ t) : v.ownBlock ≠ some g := by
  rcases h.2 with ⟨rfl, _⟩ | ⟨g', cap, cur, rfl, _, hh, _⟩
  · simp [Value.ownBlock]
  · intro he
    have : g' = g := by simpa [Value.ownBlock] using he
    subst this
    exact Blk.ne_ (t := e) hh hg hne rfl
end

section
variable {P : Program} (w : World)

theorem run_append_of_nil (base : Nat) (t ty e : TypeId) (i : TypeInfo) (size : Nat) (ht : P.underlying t = some (.slice e)) (hi : P.info? e = some i)
    (v : Value) (n : Nat) (xs : List Value) (hown : w.ownsRow base e size v n xs) (c : Nat) : (Builtin.append_ #[t, t] ty #[v, .slice none 0 c]).run P w = .ok v w := by
  rcases hown.2 with ⟨rfl, rfl⟩ | ⟨g, cap, cur, rfl, _, _, hnc, _⟩
  · simp [Builtin.append_, run_underlying ht, sizeOf, typeInfo, hi, Builtin.lenOf, Builtin.firstCells]
  · simp [Builtin.append_, run_underlying ht, sizeOf, typeInfo, hi, Builtin.lenOf, Builtin.firstCells, hnc, storeCells]

theorem run_append_any (base : Nat) (t ty e : TypeId) (i : TypeInfo) (z : Value) (size bytes : Nat) (ht : P.underlying t = some (.slice e)) (hi : P.info? e = some i) (hz : i.zero = some z)
    (hsize : i.size = size) (hby : i.bytes = bytes) (hzs : z.cells.size = size) (hsz : 0 < size)
    (v : Value) (n : Nat) (xs : List Value) (hown : w.ownsRow base e size v n xs)
    (B : Nat) (A : Option Addr) (m c : Nat) (news : List Value) (hr : Reads w B size A m news) (h1 : ∀ u ∈ news, u.oneCell' = true)
    (h63 : n + m ≤ maxLen) (hbytes : (n + m) * bytes ≤ 140737488355328) (hbase : base ≤ w.heap.size) :
    ∃ v' w', (Builtin.append_ #[t, t] ty #[v, .slice A m c]).run P w = .ok v' w' ∧ w'.ownsRow base e size v' (n + m) (xs ++ news) ∧ w.grownBy w' v.ownBlock ∧
      (v'.ownBlock = v.ownBlock ∨ v'.ownBlock = some w.heap.size) := by
  rcases A with _ | ad
  · have hm : m = 0 := by
      rcases Nat.eq_zero_or_pos m with h0 | h0
      · exact h0
      · obtain ⟨ad, h, _⟩ := hr.2 h0
        cases h
    subst hm
    have hn : news = [] := List.eq_nil_of_length_eq_zero (by simpa using hr.1)
    subst hn
    exact ⟨v, w, run_append_of_nil w base t ty e i size ht hi v n xs hown c, by simpa using hown, World.grownBy.refl w _, .inl rfl⟩
  · have hcells : ∀ j u, news[j]? = some u → w.cell? (ad.add j) = some u := by
      intro j u hu
      rcases Nat.eq_zero_or_pos m with h0 | h0
      · subst h0
        have hn : news = [] := List.eq_nil_of_length_eq_zero (by simpa using hr.1)
        subst hn
        simp at hu
      · obtain ⟨ad', h, _, hc⟩ := hr.2 h0
        injection h with h
        subst h
        exact hc j u hu
    obtain ⟨v', w', hrun, h2, h3, _, h5⟩ := run_append_own_at (P := P) w base t ty e i z size bytes ht hi hz hsize hby hzs hsz v n xs hown ad m c news hr.1 hcells h1 h63 hbytes hbase
    exact ⟨v', w', hrun, h2, h3, h5⟩

theorem wp_append_any {o : Oper} {a : Act} {K : Act → World → Prop} {Q : Exit → Act → World → Prop} (s x : Operand) (t : TypeId)
    (ho : o.op = .call { callee := .builtin .append, args := #[s, x], argTypes := #[t, t] })
    (base : Nat) (e : TypeId) (i : TypeInfo) (z : Value) (size bytes : Nat) (ht : P.underlying t = some (.slice e)) (hi : P.info? e = some i) (hz : i.zero = some z)
    (hsize : i.size = size) (hby : i.bytes = bytes) (hzs : z.cells.size = size) (hsz : 0 < size)
    (v : Value) (n : Nat) (xs : List Value) (hs : a.eval s = v) (hown : w.ownsRow base e size v n xs)
    (B : Nat) (A : Option Addr) (m c : Nat) (news : List Value) (hx : a.eval x = .slice A m c) (hr : Reads w B size A m news) (h1 : ∀ u ∈ news, u.oneCell' = true)
    (h63 : n + m ≤ maxLen) (hbytes : (n + m) * bytes ≤ 140737488355328) (hbase : base ≤ w.heap.size)
    (h : ∀ v' w', w'.ownsRow base e size v' (n + m) (xs ++ news) → w.grownBy w' v.ownBlock → (v'.ownBlock = v.ownBlock ∨ v'.ownBlock = some w.heap.size) → K (a.put o.dst v') w') : o.wp P a w K Q := by
  obtain ⟨v', w', hrun, h2, h3, h4⟩ := run_append_any (P := P) w base t o.type e i z size bytes ht hi hz hsize hby hzs hsz v n xs hown B A m c news hr h1 h63 hbytes hbase
  unfold Oper.wp execOp
  simp only [ho, resolve, invoke, builtin, Sem.run_bind, Sem.run_pure, Result.andThen_ok, List.map_toArray, List.map_cons, List.map_nil, hs, hx, hrun]
  exact h v' w' h2 h3 h4

theorem wpList_append_any {ops : Array Oper} {rest : List Oper} {o : Oper} {a : Act} {Q : Exit → Act → World → Prop} (hgd : o.guard = none) (s x : Operand) (t : TypeId)
    (ho : o.op = .call { callee := .builtin .append, args := #[s, x], argTypes := #[t, t] })
    (base : Nat) (e : TypeId) (i : TypeInfo) (z : Value) (size bytes : Nat) (ht : P.underlying t = some (.slice e)) (hi : P.info? e = some i) (hz : i.zero = some z)
    (hsize : i.size = size) (hby : i.bytes = bytes) (hzs : z.cells.size = size) (hsz : 0 < size)
    (v : Value) (n : Nat) (xs : List Value) (hs : a.eval s = v) (hown : w.ownsRow base e size v n xs)
    (B : Nat) (A : Option Addr) (m c : Nat) (news : List Value) (hx : a.eval x = .slice A m c) (hr : Reads w B size A m news) (h1 : ∀ u ∈ news, u.oneCell' = true)
    (h63 : n + m ≤ maxLen) (hbytes : (n + m) * bytes ≤ 140737488355328) (hbase : base ≤ w.heap.size)
    (h : ∀ v' w', w'.ownsRow base e size v' (n + m) (xs ++ news) → w.grownBy w' v.ownBlock → (v'.ownBlock = v.ownBlock ∨ v'.ownBlock = some w.heap.size) → wpList P ops Q rest (a.put o.dst v') w') : wpList P ops Q (o :: rest) a w :=
  wpList_plain hgd fun _ hK => wp_append_any w s x t ho base e i z size bytes ht hi hz hsize hby hzs hsz v n xs hs hown B A m c news hx hr h1 h63 hbytes hbase fun v' w' h2 h3 h4 => hK _ _ (h v' w' h2 h3 h4)

theorem step_append_any {ops : Array Oper} {o : Oper} {a : Act} {K : Act → World → Prop} {Q : Exit → Act → World → Prop} {E : Prop} (hgd : o.guard = none) (s x : Operand) (t : TypeId)
    (ho : o.op = .call { callee := .builtin .append, args := #[s, x], argTypes := #[t, t] })
    (base : Nat) (e : TypeId) (i : TypeInfo) (z : Value) (size bytes : Nat) (ht : P.underlying t = some (.slice e)) (hi : P.info? e = some i) (hz : i.zero = some z)
    (hsize : i.size = size) (hby : i.bytes = bytes) (hzs : z.cells.size = size) (hsz : 0 < size)
    (v : Value) (n : Nat) (xs : List Value) (hs : a.eval s = v) (hown : w.ownsRow base e size v n xs)
    (B : Nat) (A : Option Addr) (m c : Nat) (news : List Value) (hx : a.eval x = .slice A m c) (hr : Reads w B size A m news) (h1 : ∀ u ∈ news, u.oneCell' = true)
    (h63 : n + m ≤ maxLen) (hbytes : (n + m) * bytes ≤ 140737488355328) (hbase : base ≤ w.heap.size)
    (h : ∀ v' w', w'.ownsRow base e size v' (n + m) (xs ++ news) → w.grownBy w' v.ownBlock → (v'.ownBlock = v.ownBlock ∨ v'.ownBlock = some w.heap.size) → K (a.put o.dst v') w') :
    if Region.wanted o (yielded ops a.tmps) = true then Oper.wp P o a w K Q else E := by
  have hw : Region.wanted o (yielded ops a.tmps) = true := by simp [Region.wanted, hgd]
  rw [if_pos hw]
  exact wp_append_any w s x t ho base e i z size bytes ht hi hz hsize hby hzs hsz v n xs hs hown B A m c news hx hr h1 h63 hbytes hbase h
end

theorem own_slice {w : World} {base e size n : Nat} {v : Value} {xs : List Value} (h : w.ownsRow base e size v n xs) : ∃ A c, v = .slice A n c ∧ n ≤ c ∧ c ≤ maxLen ∧ ∀ ad, A = some ad → base ≤ ad.block := by
  rcases h.2 with ⟨rfl, rfl⟩ | ⟨g, cap, cur, rfl, hb, _, hc, hm, _⟩
  · exact ⟨none, 0, rfl, Nat.le_refl _, Nat.zero_le _, fun ad h => by cases h⟩
  · exact ⟨_, _, rfl, hc, hm, fun ad h => by cases h; exact hb⟩
theorem own_mono {w : World} {base base' e size n : Nat} {v : Value} {xs : List Value} (h : w.ownsRow base e size v n xs) (hb : base' ≤ base) : w.ownsRow base' e size v n xs := by
  obtain ⟨h1, h2⟩ := h
  refine ⟨h1, ?_⟩
  rcases h2 with h2 | ⟨g, cap, cur, hv, hg, r⟩
  · exact .inl h2
  · exact .inr ⟨g, cap, cur, hv, by omega, r⟩
/-- A slice of n elements of the call's own is handed back; nothing that was there has turned. -/
def Owns (T size : Nat) (w : World) (n : Nat) (xs : List Value) (e : Ending) (w' : World) : Prop :=
  ∃ A c, e = .returned (.slice A n c) ∧ w'.ownsRow w.heap.size T size (.slice A n c) n xs ∧ n ≤ c ∧ Below w.heap.size w w'
theorem owns_mk {T size : Nat} {w w' : World} {v : Value} {n m : Nat} {xs : List Value} (hm : m = n) (h : w'.ownsRow w.heap.size T size v m xs) (hb : Below w.heap.size w w') : Owns T size w n xs (.returned v) w' := by
  subst hm
  obtain ⟨A, c, rfl, hc, _, _⟩ := own_slice h
  exact ⟨A, c, rfl, h, hc, hb⟩
/-- A world with new blocks under a name of its own: what lay there lies there, the new blocks are known whole. -/
theorem gen1 {M : World → Prop} {w : World} {X : Array Value} {T : TypeId}
    (h : ∀ W : World, Below w.heap.size w W → Blk W w.heap.size T X → W.heap.size = w.heap.size + 1 → M W) : M (w.alloc (.cells X T)) :=
  h _ ((Below.refl _ _).alloc (Nat.le_refl _) _) (Blk.new _ _ _) (by simp)
theorem gen2 {M : World → Prop} {w : World} {X Y : Array Value} {T U : TypeId}
    (h : ∀ W : World, Below w.heap.size w W → Blk W w.heap.size T X → Blk W (w.heap.size + 1) U Y → W.heap.size = w.heap.size + 2 → M W) : M ((w.alloc (.cells X T)).alloc (.cells Y U)) :=
  h _ (((Below.refl _ _).alloc (Nat.le_refl _) _).alloc (by simp) _) ((Blk.new _ _ _).alloc _) (by simpa using Blk.new (w.alloc (.cells X T)) U Y) (by simp)
theorem gen3 {M : World → Prop} {w : World} {X Y Z : Array Value} {T U V : TypeId}
    (h : ∀ W : World, Below w.heap.size w W → Blk W w.heap.size T X → Blk W (w.heap.size + 1) U Y → Blk W (w.heap.size + 2) V Z → W.heap.size = w.heap.size + 3 → M W) : M (((w.alloc (.cells X T)).alloc (.cells Y U)).alloc (.cells Z V)) :=
  h _ ((((Below.refl _ _).alloc (Nat.le_refl _) _).alloc (by simp) _).alloc (by simp; omega) _) (((Blk.new _ _ _).alloc _).alloc _) (by simpa using (Blk.new (w.alloc (.cells X T)) U Y).alloc (.cells Z V)) (by simpa using Blk.new ((w.alloc (.cells X T)).alloc (.cells Y U)) V Z) (by simp)
theorem Blk.cellE {w : World} {g : Nat} {t : TypeId} {cs : Array Value} (h : Blk w g t cs) (i : Nat) (hi : i < cs.size) : w.cell? ⟨g, i, none⟩ = some cs[i] := by
  rw [h.cell i, Array.getElem?_eq_getElem hi]
theorem Blk.c1 {w : World} {g : Nat} {t : TypeId} {x0 : Value} (h : Blk w g t #[x0]) : w.cell? ⟨g, 0, none⟩ = some x0 ∧ w.frozen? ⟨g, 0, none⟩ = false :=
  ⟨h.cell 0, h.frozen 0⟩
theorem Blk.c2 {w : World} {g : Nat} {t : TypeId} {x0 x1 : Value} (h : Blk w g t #[x0, x1]) : w.cell? ⟨g, 0, none⟩ = some x0 ∧ w.cell? ⟨g, 1, none⟩ = some x1 ∧ w.frozen? ⟨g, 0, none⟩ = false ∧ w.frozen? ⟨g, 1, none⟩ = false :=
  ⟨h.cell 0, h.cell 1, h.frozen 0, h.frozen 1⟩
theorem Blk.c3 {w : World} {g : Nat} {t : TypeId} {x0 x1 x2 : Value} (h : Blk w g t #[x0, x1, x2]) : w.cell? ⟨g, 0, none⟩ = some x0 ∧ w.cell? ⟨g, 1, none⟩ = some x1 ∧ w.cell? ⟨g, 2, none⟩ = some x2 ∧ w.frozen? ⟨g, 0, none⟩ = false ∧ w.frozen? ⟨g, 1, none⟩ = false ∧ w.frozen? ⟨g, 2, none⟩ = false :=
  ⟨h.cell 0, h.cell 1, h.cell 2, h.frozen 0, h.frozen 1, h.frozen 2⟩
theorem Blk.c4 {w : World} {g : Nat} {t : TypeId} {x0 x1 x2 x3 : Value} (h : Blk w g t #[x0, x1, x2, x3]) : w.cell? ⟨g, 0, none⟩ = some x0 ∧ w.cell? ⟨g, 1, none⟩ = some x1 ∧ w.cell? ⟨g, 2, none⟩ = some x2 ∧ w.cell? ⟨g, 3, none⟩ = some x3 ∧ w.frozen? ⟨g, 0, none⟩ = false ∧ w.frozen? ⟨g, 1, none⟩ = false ∧ w.frozen? ⟨g, 2, none⟩ = false ∧ w.frozen? ⟨g, 3, none⟩ = false :=
  ⟨h.cell 0, h.cell 1, h.cell 2, h.cell 3, h.frozen 0, h.frozen 1, h.frozen 2, h.frozen 3⟩
theorem Blk.c6 {w : World} {g : Nat} {t : TypeId} {x0 x1 x2 x3 x4 x5 : Value} (h : Blk w g t #[x0, x1, x2, x3, x4, x5]) : w.cell? ⟨g, 0, none⟩ = some x0 ∧ w.cell? ⟨g, 1, none⟩ = some x1 ∧ w.cell? ⟨g, 2, none⟩ = some x2 ∧ w.cell? ⟨g, 3, none⟩ = some x3 ∧ w.cell? ⟨g, 4, none⟩ = some x4 ∧ w.cell? ⟨g, 5, none⟩ = some x5 ∧ w.frozen? ⟨g, 0, none⟩ = false ∧ w.frozen? ⟨g, 1, none⟩ = false ∧ w.frozen? ⟨g, 2, none⟩ = false ∧ w.frozen? ⟨g, 3, none⟩ = false ∧ w.frozen? ⟨g, 4, none⟩ = false ∧ w.frozen? ⟨g, 5, none⟩ = false :=
  ⟨h.cell 0, h.cell 1, h.cell 2, h.cell 3, h.cell 4, h.cell 5, h.frozen 0, h.frozen 1, h.frozen 2, h.frozen 3, h.frozen 4, h.frozen 5⟩
theorem grown_set {w W : World} {g : Nat} (h : w.grownBy W (some g)) {i : Nat} (u : Value) : w.grownBy (W.setCell ⟨g, i, none⟩ u) (some g) :=
  ⟨h.os, h.tape, h.output, by simpa [World.setCell] using h.size, fun k hk hne => (Below.heap_setCell W ⟨g, i, none⟩ u k (fun e => hne (by rw [e]))).trans (h.block k hk hne)⟩
theorem gen_set1 {M : World → Prop} {w : World} {g : Nat} {t : TypeId} {x0 y0 : Value} (hb : Blk w g t #[x0])
    (h : ∀ W : World, Blk W g t #[y0] → w.grownBy W (some g) → W.heap.size = w.heap.size → M W) : M (w.setCell ⟨g, 0, none⟩ y0) :=
  h _ (by simpa using (hb.set_ 0 y0)) (grown_set (World.grownBy.refl w (some g)) y0) (by simp)
theorem gen_set2 {M : World → Prop} {w : World} {g : Nat} {t : TypeId} {x0 x1 y0 y1 : Value} (hb : Blk w g t #[x0, x1])
    (h : ∀ W : World, Blk W g t #[y0, y1] → w.grownBy W (some g) → W.heap.size = w.heap.size → M W) : M ((w.setCell ⟨g, 0, none⟩ y0).setCell ⟨g, 1, none⟩ y1) :=
  h _ (by simpa using ((hb.set_ 0 y0).set_ 1 y1)) (grown_set (grown_set (World.grownBy.refl w (some g)) y0) y1) (by simp)
theorem gen_set3 {M : World → Prop} {w : World} {g : Nat} {t : TypeId} {x0 x1 x2 y0 y1 y2 : Value} (hb : Blk w g t #[x0, x1, x2])
    (h : ∀ W : World, Blk W g t #[y0, y1, y2] → w.grownBy W (some g) → W.heap.size = w.heap.size → M W) : M (((w.setCell ⟨g, 0, none⟩ y0).setCell ⟨g, 1, none⟩ y1).setCell ⟨g, 2, none⟩ y2) :=
  h _ (by simpa using (((hb.set_ 0 y0).set_ 1 y1).set_ 2 y2)) (grown_set (grown_set (grown_set (World.grownBy.refl w (some g)) y0) y1) y2) (by simp)
theorem gen_set4 {M : World → Prop} {w : World} {g : Nat} {t : TypeId} {x0 x1 x2 x3 y0 y1 y2 y3 : Value} (hb : Blk w g t #[x0, x1, x2, x3])
    (h : ∀ W : World, Blk W g t #[y0, y1, y2, y3] → w.grownBy W (some g) → W.heap.size = w.heap.size → M W) : M ((((w.setCell ⟨g, 0, none⟩ y0).setCell ⟨g, 1, none⟩ y1).setCell ⟨g, 2, none⟩ y2).setCell ⟨g, 3, none⟩ y3) :=
  h _ (by simpa using ((((hb.set_ 0 y0).set_ 1 y1).set_ 2 y2).set_ 3 y3)) (grown_set (grown_set (grown_set (grown_set (World.grownBy.refl w (some g)) y0) y1) y2) y3) (by simp)
theorem gen_set6 {M : World → Prop} {w : World} {g : Nat} {t : TypeId} {x0 x1 x2 x3 x4 x5 y0 y1 y2 y3 y4 y5 : Value} (hb : Blk w g t #[x0, x1, x2, x3, x4, x5])
    (h : ∀ W : World, Blk W g t #[y0, y1, y2, y3, y4, y5] → w.grownBy W (some g) → W.heap.size = w.heap.size → M W) : M ((((((w.setCell ⟨g, 0, none⟩ y0).setCell ⟨g, 1, none⟩ y1).setCell ⟨g, 2, none⟩ y2).setCell ⟨g, 3, none⟩ y3).setCell ⟨g, 4, none⟩ y4).setCell ⟨g, 5, none⟩ y5) :=
  h _ (by simpa using ((((((hb.set_ 0 y0).set_ 1 y1).set_ 2 y2).set_ 3 y3).set_ 4 y4).set_ 5 y5)) (grown_set (grown_set (grown_set (grown_set (grown_set (grown_set (World.grownBy.refl w (some g)) y0) y1) y2) y3) y4) y5) (by simp)

theorem below_grown {w0 w W : World} {B g : Nat} (h : Below B w0 w) (hg : w.grownBy W (some g)) (hB : B ≤ g) (hs : B ≤ w.heap.size) : Below B w0 W := h.grown hg hs (fun k e => by cases e; exact hB)
/-- A function that hands back a struct, which lies whole in a block. -/
theorem ret_row {P : Program} {fn : Func} {R : Ending → World → Prop} {a : Act} {w : World} {p : Tmp} {ty : TypeId} (h : fn.results = #[.cell p ty]) {g : Nat} {t : TypeId} {cs : Array Value} (d : TypeDesc) (hb : Blk w g t cs)
    (hp : a.tmps.getD p undef = .pointer (some ⟨g, 0, none⟩))
    (hu : P.underlying ty = some d) (hd : (match d with | .struct _ | .array _ _ => true | _ => false) = true) (hi : (P.info? ty).map (·.size) = some cs.size) (hdf : a.defers = [])
    (hR : R (.returned (.agg cs)) w) : bodyPost P fn R .ret a w :=
  bodyPost_ret (results_cell_row h a.tmps w g t cs (0, 0) d hp hb hu hd hi) hdf hR
theorem ret_row2 {P : Program} {fn : Func} {R : Ending → World → Prop} {a : Act} {w : World} {p q : Tmp} {ty uy : TypeId} (h : fn.results = #[.cell p ty, .cell q uy]) {g g' : Nat} {t t' : TypeId} {cs cs' : Array Value} (d d' : TypeDesc) (hb : Blk w g t cs) (hb' : Blk w g' t' cs')
    (hp : a.tmps.getD p undef = .pointer (some ⟨g, 0, none⟩)) (hp' : a.tmps.getD q undef = .pointer (some ⟨g', 0, none⟩))
    (hu : P.underlying ty = some d) (hd : (match d with | .struct _ | .array _ _ => true | _ => false) = true) (hi : (P.info? ty).map (·.size) = some cs.size)
    (hu' : P.underlying uy = some d') (hd' : (match d' with | .struct _ | .array _ _ => true | _ => false) = true) (hi' : (P.info? uy).map (·.size) = some cs'.size) (hdf : a.defers = [])
    (hR : R (.returned (.tuple #[.agg cs, .agg cs'])) w) : bodyPost P fn R .ret a w := by
  refine bodyPost_ret ?_ hdf hR
  have hq : a.tmps[p]?.getD undef = .pointer (some ⟨g, 0, none⟩) := by simpa using hp
  have hq' : a.tmps[q]?.getD undef = .pointer (some ⟨g', 0, none⟩) := by simpa using hp'
  simp [results, h, hq, hq', asAddr, run_loadVar_row w g t ty cs (0, 0) d hb hu hd hi, run_loadVar_row w g' t' uy cs' (0, 0) d' hb' hu' hd' hi']
theorem Reads.take {w : World} {B n : Nat} {A : Option Addr} {xs : List Value} (h : Reads w B 1 A n xs) {k : Nat} (hk : k ≤ n) : Reads w B 1 A k (xs.take k) := by
  refine ⟨by rw [List.length_take, h.1]; omega, fun h0 => ?_⟩
  obtain ⟨ad, e, hb, hc⟩ := h.2 (by omega)
  refine ⟨ad, e, hb, fun j u hu => hc j u ?_⟩
  rw [List.getElem?_take] at hu
  split at hu
  · exact hu
  · cases hu
/-- A store into another block. -/
theorem cell_past {w : World} {p q : Addr} {u : Value} {v : Option Value} (hne : p.block ≠ q.block) (h : w.cell? p = v) : (w.setCell q u).cell? p = v :=
  (World.cell?_of_block (Below.heap_setCell w q u p.block hne)).trans h
theorem run_make_rowN {P : Program} (t e : TypeId) (i : TypeInfo) (z : Value) (ht : P.underlying t = some (.slice e)) (hi : P.info? e = some i) (hz : i.zero = some z)
    (kl kc : IntKind) (n c : Nat) (hnc : n ≤ c) (hbytes : i.bytes * c ≤ 281474976710656) (h63 : c ≤ 9223372036854775807) (w : World) :
    (Instr.makeSlice t (.int kl (n : Int)) (.int kc (c : Int))).run P w = .ok (.slice (some ⟨w.heap.size, 0, none⟩) n c) (w.alloc (.cells (madeCells z.cells (c * i.size)) e)) := by
  have hb : (i.bytes : Int) * (c : Int) ≤ 281474976710656 := by
    have h : ((i.bytes * c : Nat) : Int) ≤ 281474976710656 := by omega
    rwa [Int.natCast_mul] at h
  have hr := run_make (P := P) w t e i z ht hi hz kl kc n c (by omega) (by omega) hb (by omega)
  simp only [Int.toNat_natCast] at hr
  exact hr
theorem _root_.Go.RowKit.Below.drewN_ {B : Nat} {a w : World} (h : Below B a w) (n : Nat) : Below B a (w.drewN n) := ⟨h.os, h.tape, h.output, h.size, h.block⟩
end Go.Proofs.YtmphnnmnbpheiaaGreatDoor
