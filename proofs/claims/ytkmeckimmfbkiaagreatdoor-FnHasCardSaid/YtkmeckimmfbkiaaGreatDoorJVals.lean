/- The thin package's values, of rows. Conditions: as JTab. -/
import Derived.Test.YtkmeckimmfbkiaaGreatDoorJIns
import Derived.Test.YtkmeckimmfbkiaaGreatDoorJSEq1
import Derived.Test.YtkmeckimmfbkiaaGreatDoorJPure
namespace Go.Proofs.YtkmeckimmfbkiaaGreatDoor
open Go Go.RowKit
theorem infoV1 : (Tryz.prog.info? 43).map (fun i => (i.zero, i.size, i.bytes)) = some (some .nilIface, 1, 16) := by kernel_rfl
theorem wpList_append1 {P : Program} (w : World) {ops : Array Oper} {rest : List Oper} {o : Oper} {a : Act} {Q : Exit → Act → World → Prop} (hgd : o.guard = none) (s x : Operand) (t : TypeId)
    (ho : o.op = .call { callee := .builtin .append, args := #[s, x], argTypes := #[t, t] })
    (e : TypeId) (i : TypeInfo) (ht : P.underlying t = some (.slice e)) (hi : P.info? e = some i) (hsize : i.size = 1)
    (g n cap : Nat) (hs : a.eval s = .slice (some ⟨g, 0, none⟩) n cap) (ad : Addr) (c : Nat) (u : Value) (hx : a.eval x = .slice (some ad) 1 c) (hu : w.cell? ad = some u) (h1 : u.oneCell' = true) (hroom : n + 1 ≤ cap)
    (hc : (w.cell? ⟨g, n, none⟩).isSome = true) (hf : w.frozen? ⟨g, n, none⟩ = false)
    (h : wpList P ops Q rest (a.put o.dst (.slice (some ⟨g, 0, none⟩) (n + 1) cap)) (w.setCell ⟨g, n, none⟩ u)) : wpList P ops Q (o :: rest) a w := by
  have hrun := run_append_room_cells (P := P) (w := w) t o.type e i ht hi g 0 n cap ad 1 c [u] (by rw [hsize]; rfl) (fun j v hv => by
    rcases j with _ | j
    · simp at hv; subst hv; simpa [Addr.add] using hu
    · simp at hv) (by simpa using h1) hroom (fun j hj => by
      have : j = 0 := by simp at hj; omega
      subst this
      simpa [hsize] using hc) (fun j hj => by
      have : j = 0 := by simp at hj; omega
      subst this
      simpa [hsize] using hf)
  simp only [hsize, Nat.mul_one, Nat.zero_add, World.setCells] at hrun
  refine wpList_plain hgd fun _ hK => ?_
  unfold Oper.wp execOp
  simp only [ho, resolve, invoke, builtin, Sem.run_bind, Sem.run_pure, Result.andThen_ok, List.map_toArray, List.map_cons, List.map_nil, hs, hx, hrun]
  exact hK _ _ h
/-- Elements that lie away from rows of values that were there, and from the row gr. -/
def EF (w wr : World) (gr : Nat) (l : List S) (us : List Value) : Prop := ∀ X : Nat → Prop, (∀ k, X k → VB w k ∨ k = gr) → ∀ w2 : World, (∀ k, k < wr.heap.size → ¬ X k → w2.heap[k]? = wr.heap[k]?) → wr.heap.size ≤ w2.heap.size → ElemsV w2 wr.heap.size l us
/-- The row so far. -/
def rowU (us : List Value) (n : Nat) : Array Value := (us ++ List.replicate (n - us.length) Value.nilIface).toArray
theorem rowU_set (us : List Value) (n : Nat) (u : Value) (h : us.length < n) : (rowU us n).setIfInBounds us.length u = rowU (us ++ [u]) n := by
  unfold rowU
  have e : n - us.length = (n - (us.length + 1)) + 1 := by omega
  rw [List.setIfInBounds_toArray, e, List.replicate_succ, List.set_append_right _ _ (Nat.le_refl _), Nat.sub_self, List.set_cons_zero, List.length_append, List.length_singleton]
  simp
theorem rowU_vb {w : World} {g n : Nat} {us : List Value} (hb : Blk w g 43 (rowU us n)) (hu : ∀ u ∈ us, ∃ t v, u = .iface t v) : VB w g := by
  refine ⟨_, hb, fun c hc => ?_⟩
  unfold rowU at hc
  simp only [List.mem_toArray, List.mem_append] at hc
  rcases hc with h | h
  · exact .inr (hu c h)
  · exact .inl (List.mem_replicate.1 h).2
/-- What stands while values are made. -/
def ValsI (w wr : World) (l : List S) (n i : Nat) (us : List Value) : Prop :=
  us.length = i ∧ Blk wr w.heap.size 43 (rowU us n) ∧ (∀ u ∈ us, ∃ t v, u = .iface t v) ∧ EF w wr w.heap.size (l.take i) us ∧ Below w.heap.size w wr
theorem ValsI.push {w wr w5 w6 : World} {l : List S} {n i : Nat} {us : List Value} {s : S} {u : Value} (h : ValsI w wr l n i us) (hs : l[i]? = some s) (hin : i < n) (h5 : Below wr.heap.size wr w5) (hB6 : Below w5.heap.size w5 w6)
    (hf : Far w5 w6 (fun w2 => SAt w2 w6.heap.size s u)) (o : Obj) : ValsI w ((w6.alloc o).setCell ⟨w.heap.size, i, none⟩ u) l n (i + 1) (us ++ [u]) := by
  obtain ⟨hl, hb, hu, hE, hB⟩ := h
  have hgl := hb.lt
  have hs5 := h5.size
  have hs6 := hB6.size
  have hui : ∃ t v, u = .iface t v := hf.self.iface
  have h56 : Below wr.heap.size wr w6 := h5.trans (hB6.mono hs5)
  have hvb := rowU_vb hb hu
  refine ⟨by simp [hl], ?_, fun v hv => ?_, ?_, ?_⟩
  · have h := ((hb.below h56 hgl).alloc o).set_ i u
    rw [← hl, rowU_set us n u (by omega), hl] at h
    rw [← hl]
    rw [hl]
    exact h
  · rcases List.mem_append.1 hv with h | h
    · exact hu v h
    · rw [List.mem_singleton.1 h]; exact hui
  · intro X hX w2 h1 h2
    have hsz : ((w6.alloc o).setCell ⟨w.heap.size, i, none⟩ u).heap.size = w6.heap.size + 1 := by simp
    rw [hsz] at h2
    have hag : ∀ k, k < w6.heap.size → ¬ (X k ∨ k = w.heap.size) → w2.heap[k]? = w6.heap[k]? := fun k hk hn => by
      refine (h1 k (by rw [hsz]; omega) (fun h => hn (.inl h))).trans ?_
      refine (Below.heap_setCell _ _ _ k (fun e => hn (.inr e))).trans ?_
      exact Below.heap_alloc w6 o k hk
    have hold : ElemsV w2 wr.heap.size (l.take i) us := hE (fun k => X k ∨ k = w.heap.size) (fun k hk => by
      rcases hk with h | h
      · exact hX k h
      · exact .inr h) w2 (fun k hk hn => (hag k (by omega) hn).trans (h56.block k hk)) (by omega)
    have hnew : SAt w2 w6.heap.size s u := hf (fun k => X k ∨ k = w.heap.size) (fun k hk => by
      have hwr : VB w k ∨ k = w.heap.size → VB w5 k := fun h => by
        rcases h with h | h
        · exact (h.below (hB.trans (h5.mono hB.size)))
        · subst h; exact hvb.below h5
      rcases hk with h | h
      · exact hwr (hX k h)
      · exact hwr (.inr h)) w2 hag (by omega)
    rw [List.take_add_one, hs, Option.toList_some]
    rw [hsz]
    exact ElemsV.snoc (hnew.more (by omega)) _ _ (hold.more (by omega))
  · exact ((hB.trans (h56.mono hB.size)).alloc (by omega) o).setCell (Nat.le_refl _) u
set_option maxRecDepth 10000 in
set_option maxHeartbeats 2000000 in
theorem values_any (l : List S) (A : Option Addr) (n c : Nat) (xs : List Value) (w : World) (hl : l.length = n) (hn : n ≤ 16) (hr : Reads w w.heap.size 6 A n xs)
    (hsh : ∀ (i : Nat) (v : Value), i < n → RowV xs i v → ∃ kd ng A n c b t K m d, v = .agg #[.int .i64 kd, .bool ng, .slice A n c, .int .u64 b, .string t, .slice K m d])
    (ih : ∀ (i : Nat) (s : S) (v : Value), l[i]? = some s → RowV xs i v → ∀ W, Below w.heap.size w W → Calls Tryz.prog 19 #[v] W (RetS W s)) :
    Calls Tryz.prog 36 #[.slice A n c] w fun e w' => ∃ us, e = .returned (.tuple #[.slice (some ⟨w.heap.size, 0, none⟩) n n, .bool true]) ∧ us.length = n ∧ (∀ u ∈ us, ∃ t v, u = .iface t v) ∧ Below w.heap.size w w' ∧ Far w w' (fun w2 => Reads w2 w'.heap.size 1 (some ⟨w.heap.size, 0, none⟩) n us ∧ ElemsV w2 w'.heap.size l us) := by
  have HX := Lib.hid (And.intro hr (And.intro ih (And.intro hl hsh)))
  obtain ⟨iV, hi, hz, hs, hby⟩ := info_parts infoV1
  have HI := Lib.hid (And.intro hi hs)
  have HM : ∀ W : World, (Instr.makeSlice 68 (.int .i64 0) (.int .i64 (n : Int))).run Tryz.prog W = .ok (.slice (some ⟨W.heap.size, 0, none⟩) 0 n) (W.alloc (.cells (rowU [] n) 43)) := fun W => by
    have h := run_make_rowN (P := Tryz.prog) 68 43 iV .nilIface Tryz.underlying68 hi hz .i64 .i64 0 n (Nat.zero_le _) (by rw [hby]; omega) (by omega) W
    have mc : madeCells (Value.nilIface).cells (n * 1) = rowU [] n := by
      apply Array.toList_inj.1
      rw [show (Value.nilIface).cells = #[.nilIface] from rfl, toList_madeCells_one]
      simp [rowU]
    rw [hs, mc] at h
    exact h
  clear hr ih hl hi hz hs hby hsh
  generalize hcs : rowU [] n = cs at HM
  go_enter Tryz.func36, Tryz.ntmps36
  go_wp2_with fail
  go_loopw [4, 14] (fun vo vi wr => ∃ (i : Nat) (us : List Value), vo = .slice (some ⟨w.heap.size, 0, none⟩) i n ∧ vi = .int .i64 i ∧ i ≤ n ∧ ValsI w wr l n i us) (fun _ vi _ => n - (intOf vi).toNat)
  case atStart => exact ⟨0, [], rfl, rfl, by omega, rfl, by rw [hcs]; exact Blk.new _ _ _, by simp, by rw [List.take_zero]; exact fun _ _ _ _ _ => by simp only [ElemsV], (Below.refl _ _).alloc (Nat.le_refl _) _⟩
  case round =>
    obtain ⟨i, us, rfl, rfl, hi, hV⟩ := hrel
    have HV := Lib.hid hV
    have hBw := hV.2.2.2.2
    have hgl := hV.2.1.lt
    rcases Nat.lt_or_ge i n with hlt | hge
    · have bi : (i : Int) < (n : Int) := by omega
      have wi : IntKind.i64.wrap ((i : Int) + 1) = (i : Int) + 1 := by rw [IntKind.wrap_i64]; omega
      obtain ⟨ad, p0, p1, p2, p3, p4, p5, rfl, had, hrow, hsix⟩ := HX.out.1.six2 hlt
      have hlo : i < l.length := by rw [HX.out.2.2.1]; exact hlt
      have hs := List.getElem?_eq_getElem hlo
      have HC := Lib.hid (HX.out.2.1 i _ _ hs hrow)
      have HS := Lib.hid hs
      obtain ⟨kd, ng, A0, n0, c0, b0, t0, K0, m0, d0, e⟩ := HX.out.2.2.2 i _ hlt hrow
      simp only [Value.agg.injEq, Array.mk.injEq, List.cons.injEq, and_true] at e
      obtain ⟨rfl, rfl, rfl, rfl, rfl, rfl⟩ := e
      obtain ⟨g0, g1, g2, g3, g4, g5⟩ := hsix.below hBw had
      have HBw := Lib.hid hBw
      clear hsix hBw hrow hs hV
      go_wp2_with fail
      refine gen1 (M := fun V => Calls _ _ _ V _) fun W5 hB5 b5 hz5 => ?_
      have hz51 : wr.heap.size < W5.heap.size := by omega
      clear hz5
      refine (HC.out W5 (HBw.out.trans (hB5.mono HBw.out.size))).mono ?_
      rintro e w6 ⟨u, rfl, hB6, hF⟩
      obtain ⟨tu, vu, rfl⟩ := hF.self.iface
      have hs6 := hB6.size
      have b6 := HV.out.2.1.below (hB5.trans (hB6.mono (by omega))) hgl
      have b6a := b6.alloc (.cells #[.iface tu vu] 43)
      have hcu : ((w6.alloc (.cells #[.iface tu vu] 43)).cell? ⟨w.heap.size, i, none⟩).isSome = true := by
        rw [b6a.cell i]
        have hl2 : (rowU us n).size = n := by unfold rowU; simp; have := HV.out.1; omega
        rw [Array.getElem?_eq_getElem (by rw [hl2]; exact hlt)]
        rfl
      have hfu := b6a.frozen i
      have hnu := (Blk.new w6 43 #[.iface tu vu]).cell 0
      have HP := Lib.hid (ValsI.push HV.out HS.out hlt hB5 hB6 hF (.cells #[.iface tu vu] 43))
      clear hB5 b5 hB6 hF b6 b6a g0 g1 g2 g3 g4 g5
      go_wp2_with (at_builtin; refine wpList_append1 _ rfl (.tmp 25) (.tmp 27) 68 rfl 43 iV Tryz.underlying68 HI.out.1 HI.out.2 w.heap.size i n rfl ⟨w6.heap.size, 0, none⟩ 1 (.iface tu vu) rfl hnu rfl (by omega) hcu hfu ?_)
      refine ⟨⟨i + 1, us ++ [.iface tu vu], rfl, by go_num, by omega, HP.out⟩, by simp only [intOf]; omega⟩
    · have hin : i = n := by omega
      subst hin
      have bi : ¬ (i : Int) < (i : Int) := by omega
      clear hV hBw
      go_wp2
      go_ret2
      obtain ⟨hl, hb, hu, hE, hB⟩ := HV.out
      refine ⟨rfl, us, hl, hu, hB, fun X hX w2 h1 h2 => ?_⟩
      have hnX : ∀ k, X k → k < w.heap.size := fun k hk => (hX k hk).lt
      have hlk : l.take i = l := List.take_of_length_le (Nat.le_of_eq HX.out.2.2.1)
      have he := hE X (fun k hk => .inl (hX k hk)) w2 h1 h2
      rw [hlk] at he
      refine ⟨⟨by rw [hl, Nat.mul_one], fun _ => ⟨_, rfl, hgl, fun j u hj => ?_⟩⟩, he⟩
      have hc : wr.cell? ⟨w.heap.size, j, none⟩ = some u := by
        rw [hb.cell j]
        unfold rowU
        rw [List.getElem?_toArray, List.getElem?_append_left (by have := List.getElem?_eq_some_iff.1 hj; obtain ⟨h, _⟩ := this; exact h)]
        exact hj
      have ha : (⟨w.heap.size, 0, none⟩ : Addr).add j = ⟨w.heap.size, j, none⟩ := by unfold Addr.add; split <;> simp_all
      rw [ha]
      exact (World.cell?_of_block (h1 w.heap.size hgl (fun h => by have := hnX _ h; omega))).trans hc
end Go.Proofs.YtkmeckimmfbkiaaGreatDoor
namespace Go.Proofs.YtkmeckimmfbkiaaGreatDoor
open Go Go.RowKit
mutual
theorem good_fit : ∀ s : S, good s → fitS s
  | .none, _ => trivial
  | .bool _, _ => trivial
  | .int x, h => by
    simp only [good] at h
    simp only [fitS]
    exact limbs_len_le 5 _ (by have e : (256 : Nat) ^ 40 = 18446744073709551616 ^ 5 := by decide
                               rw [← e]; exact h)
  | .float _, _ => trivial
  | .str _, _ => trivial
  | .bytes _, _ => trivial
  | .list l, h => by simp only [good] at h; simp only [fitS]; exact goodL_fit l h.2
  | .tuple l, h => by simp only [good] at h; simp only [fitS]; exact goodL_fit l h.2
  | .dict l, h => by simp only [good] at h; simp only [fitS]; exact goodL_fit l h.2.2.2.2
  | .set l, h => by simp only [good] at h; simp only [fitS]; exact goodL_fit l h.2.2.2
theorem goodL_fit : ∀ l : List S, goodL l → fitL l
  | [], _ => trivial
  | a :: l, h => ⟨good_fit a h.1, goodL_fit l h.2⟩
end
/-- Values are handed back in a row of their own. -/
def ValsR (w : World) (l : List S) (n : Nat) (e : Ending) (w' : World) : Prop := ∃ us, e = .returned (.tuple #[.slice (some ⟨w.heap.size, 0, none⟩) n n, .bool true]) ∧ us.length = n ∧ (∀ u ∈ us, ∃ t v, u = .iface t v) ∧ Below w.heap.size w w' ∧ Far w w' (fun w2 => Reads w2 w'.heap.size 1 (some ⟨w.heap.size, 0, none⟩) n us ∧ ElemsV w2 w'.heap.size l us)
theorem Far.next {w w1 w' : World} {p : World → Prop} {_B : Nat} (h : Far w w1 p) (hb : Below w1.heap.size w1 w') (_hw : Below w.heap.size w w1) : Far w w' p := fun X hX w2 h1 h2 => h X hX w2 (fun k hk hn => (h1 k (by have := hb.size; omega) hn).trans (hb.block k hk)) (by have := hb.size; omega)
/-- A cell of a block made since. -/
theorem Far.cell {w w' : World} {g i : Nat} {v : Value} (hg : w.heap.size ≤ g) (hg' : g < w'.heap.size) (h : w'.cell? ⟨g, i, none⟩ = some v) : Far w w' (fun w2 => w2.cell? ⟨g, i, none⟩ = some v) := fun X hX w2 h1 h2 =>
  (World.cell?_of_block (h1 g hg' (fun h => by have := (hX g h).lt; omega))).trans h
set_option maxRecDepth 10000 in
theorem newList_any (A : Option Addr) (n c : Nat) (w : World) : Calls Tryz.prog 37 #[.slice A n c] w fun e w' => e = .returned (.pointer (some ⟨w.heap.size, 0, none⟩)) ∧ w'.cell? ⟨w.heap.size, 0, none⟩ = some (.slice A n c) ∧ Below w.heap.size w w' ∧ w.heap.size < w'.heap.size := by
  go_enter Tryz.func37, Tryz.ntmps37
  go_wp2
  go_ret
  exact ⟨rfl, (Blk.new w _ _).cell 0, (Below.refl _ _).alloc (Nat.le_refl _) _, by simp⟩
set_option maxRecDepth 10000 in
set_option maxHeartbeats 2000000 in
theorem value_list (l : List S) (neg : Bool) (A : Option Addr) (n c : Nat) (b : Int) (t : ByteArray) (K : Option Addr) (m d : Nat) (w : World) (hl : l.length = m) (_hm : m ≤ 16)
    (hv : ∀ W, Below w.heap.size w W → Calls Tryz.prog 36 #[.slice K m d] W (ValsR W l m)) :
    Calls Tryz.prog 19 #[.agg #[.int .i64 6, .bool neg, .slice A n c, .int .u64 b, .string t, .slice K m d]] w (RetS w (.list l)) := by
  have HV := Lib.hid hv
  clear hv
  go_enter Tryz.func19, Tryz.ntmps19
  go_wp2_with fail
  refine gen1 (M := fun W => Calls _ _ _ W _) fun W hB b1 hz => ?_
  have hz1 : w.heap.size < W.heap.size := by omega
  clear hz
  refine (HV.out W hB).mono ?_
  rintro e w1 ⟨us, rfl, hul, hui, hB1, hF⟩
  have b2 := b1.below hB1 hz1
  obtain ⟨x0, x1, x2, x3, x4, x5, _, _, _, _, _, _⟩ := b2.c6
  have hs1 := hB1.size
  have HF := Lib.hid (And.intro (hB.trans (hB1.mono hB.size)) (And.intro (hF.first hB) (And.intro hul hui)))
  clear hB b1 hB1 b2 hF hul hui HV
  go_wp2_with fail
  refine (newList_any _ m m w1).mono ?_
  rintro e w2 ⟨rfl, hc, hB2, hlt⟩
  have H2 := Lib.hid (And.intro hc hB2)
  clear hc hB2
  go_wp2
  go_ret2
  have hw := HF.out.1.size
  refine ⟨_, rfl, HF.out.1.trans (H2.out.2.mono hw), (Far.cell hw hlt H2.out.1).imp fun w3 h => ?_⟩
  simp only [SAt]
  exact ⟨w1.heap.size, _, m, rfl, hlt, by rw [hl]; exact h⟩
set_option maxRecDepth 10000 in
set_option maxHeartbeats 2000000 in
theorem value_tuple (l : List S) (neg : Bool) (A : Option Addr) (n c : Nat) (b : Int) (t : ByteArray) (K : Option Addr) (m d : Nat) (w : World) (hl : l.length = m) (hm : m ≤ 16)
    (hv : ∀ W, Below w.heap.size w W → Calls Tryz.prog 36 #[.slice K m d] W (ValsR W l m)) :
    Calls Tryz.prog 19 #[.agg #[.int .i64 7, .bool neg, .slice A n c, .int .u64 b, .string t, .slice K m d]] w (RetS w (.tuple l)) := by
  have HV := Lib.hid hv
  clear hv
  go_enter Tryz.func19, Tryz.ntmps19
  go_wp2_with fail
  refine gen1 (M := fun W => Calls _ _ _ W _) fun W hB b1 hz => ?_
  have hz1 : w.heap.size < W.heap.size := by omega
  clear hz
  refine (HV.out W hB).mono ?_
  rintro e w1 ⟨us, rfl, hul, hui, hB1, hF⟩
  have b2 := b1.below hB1 hz1
  obtain ⟨x0, x1, x2, x3, x4, x5, _, _, _, _, _, _⟩ := b2.c6
  have hs1 := hB1.size
  have HF := Lib.hid (And.intro (hB.trans (hB1.mono hB.size)) (And.intro (hF.first hB) (And.intro hul hui)))
  clear hB b1 hB1 b2 hF hul hui HV
  go_wp2_with fail
  go_ret2
  refine ⟨_, rfl, HF.out.1, HF.out.2.1.imp fun w3 h => ?_⟩
  simp only [SAt]
  exact ⟨some ⟨W.heap.size, 0, none⟩, m, us, by rw [hl]; rfl, by rw [hl]; exact hm, by rw [hl]; exact Nat.le_refl _, by rw [hl]; exact h.1, h.2⟩
set_option maxRecDepth 10000 in
set_option maxHeartbeats 2000000 in
theorem value_dict (l : List S) (neg : Bool) (A : Option Addr) (n c : Nat) (b : Int) (t : ByteArray) (K : Option Addr) (m d : Nat) (w : World) (hl : l.length = m) (hm : m ≤ 16) (he : m % 2 = 0) (hks : keysK 2 l) (hds : distK 2 l) (hg : goodL l) (hlv : levL l ≤ 10) (hkt : KT w) (hkl : KL w)
    (hv : ∀ W, Below w.heap.size w W → Calls Tryz.prog 36 #[.slice K m d] W (ValsR W l m)) :
    Calls Tryz.prog 19 #[.agg #[.int .i64 8, .bool neg, .slice A n c, .int .u64 b, .string t, .slice K m d]] w (RetS w (.dict l)) := by
  have HV := Lib.hid hv
  clear hv
  go_enter Tryz.func19, Tryz.ntmps19
  go_wp2_with fail
  refine gen1 (M := fun W => Calls _ _ _ W _) fun W hB b1 hz => ?_
  have hz1 : w.heap.size < W.heap.size := by omega
  clear hz
  refine (HV.out W hB).mono ?_
  rintro e w1 ⟨us, rfl, hul, hui, hB1, hF⟩
  have b2 := b1.below hB1 hz1
  obtain ⟨x0, x1, x2, x3, x4, x5, _, _, _, _, _, _⟩ := b2.c6
  have hs1 := hB1.size
  have HF := Lib.hid (And.intro (hB.trans (hB1.mono hB.size)) (And.intro (hF.first hB) (And.intro hul hui)))
  clear hB b1 hB1 b2 hF hul hui HV
  obtain ⟨hR, hE⟩ := HF.out.2.1.self
  have hkt1 : KT w1 := hkt.below HF.out.1
  have hkl1 : KL w1 := hkl.below HF.out.1
  have HD := Lib.hid (dict_any (some ⟨W.heap.size, 0, none⟩) m m us w1 hm he hR
    (fun j u v hu hv => ⟨HF.out.2.2.2 v (List.mem_of_getElem? hv), fun V hV => by
      obtain ⟨s, hs⟩ : ∃ s, l[2 * j]? = some s := ⟨_, List.getElem?_eq_getElem (by have := List.getElem?_eq_some_iff.1 hu; obtain ⟨h, _⟩ := this; have := HF.out.2.2.1; omega)⟩
      obtain ⟨u', hu', hS⟩ := hE.get l us (2 * j) s hs
      rw [hu] at hu'
      cases hu'
      exact hashM_any s u V ((hS.below hV).more hV.size) (hks j s hs)⟩)
    (fun i j u v hij hu hv V hV => by
      have hl2 := HF.out.2.2.1
      obtain ⟨s, hs⟩ : ∃ s, l[2 * i]? = some s := ⟨_, List.getElem?_eq_getElem (by have := List.getElem?_eq_some_iff.1 hu; obtain ⟨h, _⟩ := this; omega)⟩
      obtain ⟨r, hr⟩ : ∃ r, l[2 * j]? = some r := ⟨_, List.getElem?_eq_getElem (by have := List.getElem?_eq_some_iff.1 hv; obtain ⟨h, _⟩ := this; omega)⟩
      obtain ⟨u', hu', hS⟩ := hE.get l us (2 * i) s hs
      rw [hu] at hu'
      cases hu'
      obtain ⟨v', hv', hR⟩ := hE.get l us (2 * j) r hr
      rw [hv] at hv'
      cases hv'
      have h := equal_any r s v u V (Nat.le_trans (lev_get l _ r hr) hlv) (good_fit r (goodL_get l _ r hr hg)) (good_fit s (goodL_get l _ s hs hg)) (hks j r hr) (hks i s hs) (hkt1.below hV) (hkl1.below hV) ((hR.below hV).more hV.size) ((hS.below hV).more hV.size)
      rw [eqS_symm, hds i j s r hij hs hr] at h
      exact h))
  clear hR hE hkt hkl hkt1 hkl1
  go_wp2_with fail
  refine HD.out.mono ?_
  rintro e w2 ⟨rfl, es, hes, _, hb2, hB2⟩
  have hlt := hb2.lt
  have H2 := Lib.hid (And.intro ((hb2.cell 42).trans (tab_len _ es)) hB2)
  clear hb2 hB2
  go_wp2
  go_ret2
  have hw := HF.out.1.size
  refine ⟨_, rfl, HF.out.1.trans (H2.out.2.mono hw), (Far.cell hw hlt H2.out.1).imp fun w3 h => ?_⟩
  simp only [SAt]
  exact ⟨w1.heap.size, rfl, hlt, by rw [h]; exact congrArg some (congrArg (Value.int .u32) (by omega)), by rw [hl]; exact hm⟩
set_option maxRecDepth 10000 in
set_option maxHeartbeats 2000000 in
theorem value_set (l : List S) (neg : Bool) (A : Option Addr) (n c : Nat) (b : Int) (t : ByteArray) (K : Option Addr) (m d : Nat) (w : World) (hl : l.length = m) (hm : m ≤ 16) (h8 : m ≤ 8) (hks : keysK 1 l) (hds : distK 1 l) (hg : goodL l) (hlv : levL l ≤ 10) (hkt : KT w) (hkl : KL w)
    (hv : ∀ W, Below w.heap.size w W → Calls Tryz.prog 36 #[.slice K m d] W (ValsR W l m)) :
    Calls Tryz.prog 19 #[.agg #[.int .i64 9, .bool neg, .slice A n c, .int .u64 b, .string t, .slice K m d]] w (RetS w (.set l)) := by
  have HV := Lib.hid hv
  clear hv
  go_enter Tryz.func19, Tryz.ntmps19
  go_wp2_with fail
  refine gen1 (M := fun W => Calls _ _ _ W _) fun W hB b1 hz => ?_
  have hz1 : w.heap.size < W.heap.size := by omega
  clear hz
  refine (HV.out W hB).mono ?_
  rintro e w1 ⟨us, rfl, hul, hui, hB1, hF⟩
  have b2 := b1.below hB1 hz1
  obtain ⟨x0, x1, x2, x3, x4, x5, _, _, _, _, _, _⟩ := b2.c6
  have hs1 := hB1.size
  have HF := Lib.hid (And.intro (hB.trans (hB1.mono hB.size)) (And.intro (hF.first hB) (And.intro hul hui)))
  clear hB b1 hB1 b2 hF hul hui HV
  obtain ⟨hR, hE⟩ := HF.out.2.1.self
  have hkt1 : KT w1 := hkt.below HF.out.1
  have hkl1 : KL w1 := hkl.below HF.out.1
  have HD := Lib.hid (set_any (some ⟨W.heap.size, 0, none⟩) m m us w1 h8 hR
    (fun j u hu V hV => by
      obtain ⟨s, hs⟩ : ∃ s, l[1 * j]? = some s := ⟨_, List.getElem?_eq_getElem (by have := List.getElem?_eq_some_iff.1 hu; obtain ⟨h, _⟩ := this; have := HF.out.2.2.1; omega)⟩
      obtain ⟨u', hu', hS⟩ := hE.get l us (1 * j) s hs
      rw [hu] at hu'
      cases hu'
      exact hashM_any s u V ((hS.below hV).more hV.size) (hks j s hs))
    (fun i j u v hij hu hv V hV => by
      have hl2 := HF.out.2.2.1
      obtain ⟨s, hs⟩ : ∃ s, l[1 * i]? = some s := ⟨_, List.getElem?_eq_getElem (by have := List.getElem?_eq_some_iff.1 hu; obtain ⟨h, _⟩ := this; omega)⟩
      obtain ⟨r, hr⟩ : ∃ r, l[1 * j]? = some r := ⟨_, List.getElem?_eq_getElem (by have := List.getElem?_eq_some_iff.1 hv; obtain ⟨h, _⟩ := this; omega)⟩
      obtain ⟨u', hu', hS⟩ := hE.get l us (1 * i) s hs
      rw [hu] at hu'
      cases hu'
      obtain ⟨v', hv', hR⟩ := hE.get l us (1 * j) r hr
      rw [hv] at hv'
      cases hv'
      have h := equal_any r s v u V (Nat.le_trans (lev_get l _ r hr) hlv) (good_fit r (goodL_get l _ r hr hg)) (good_fit s (goodL_get l _ s hs hg)) (hks j r hr) (hks i s hs) (hkt1.below hV) (hkl1.below hV) ((hR.below hV).more hV.size) ((hS.below hV).more hV.size)
      rw [eqS_symm, hds i j s r hij hs hr] at h
      exact h))
  clear hR hE hkt hkl hkt1 hkl1
  go_wp2_with fail
  refine HD.out.mono ?_
  rintro e w2 ⟨rfl, es, hes, _, hb2, hB2⟩
  have hlt := hb2.lt
  have H2 := Lib.hid (And.intro ((hb2.cell 42).trans (tab_len _ es)) hB2)
  clear hb2 hB2
  go_wp2
  go_ret2
  have hw := HF.out.1.size
  refine ⟨_, rfl, HF.out.1.trans (H2.out.2.mono hw), (Far.cell hw hlt H2.out.1).imp fun w3 h => ?_⟩
  simp only [SAt]
  exact ⟨w1.heap.size, rfl, hlt, by rw [h]; rw [hes, hl], by rw [hl]; exact hm⟩
end Go.Proofs.YtkmeckimmfbkiaaGreatDoor
