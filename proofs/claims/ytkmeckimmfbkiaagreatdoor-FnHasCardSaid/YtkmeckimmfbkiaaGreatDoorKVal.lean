/- The thin package's value, told in full. Conditions: the package variables karatsubaThreshold and CompareLimit hold 40 and 10. -/
import Derived.Test.YtkmeckimmfbkiaaGreatDoorJVals
import Derived.Test.YtkmeckimmfbkiaaGreatDoorKDict
import Derived.Test.YtkmeckimmfbkiaaGreatDoorJSEq
namespace Go.Proofs.YtkmeckimmfbkiaaGreatDoor
open Go Go.RowKit
/-- A value of the language is handed back, told in full, and that it could be made. -/
def RetD (w : World) (s : S) (e : Ending) (w' : World) : Prop := ∃ u, e = .returned (.tuple #[u, .bool true]) ∧ Below w.heap.size w w' ∧ Far w w' (fun w2 => DAt w2 w'.heap.size s u)
theorem DElems.snoc {w : World} {B : Nat} {s : S} {u : Value} (hv : DAt w B s u) : ∀ (l : List S) (xs : List Value), DElems w B l xs → DElems w B (l ++ [s]) (xs ++ [u])
  | [], xs, h => by
    simp only [DElems] at h
    subst h
    simp only [List.nil_append, DElems]
    exact ⟨u, [], rfl, hv, rfl⟩
  | a :: l, xs, h => by
    simp only [DElems] at h
    obtain ⟨d, ys, rfl, h2, h3⟩ := h
    simp only [List.cons_append, DElems]
    exact ⟨d, ys ++ [u], rfl, h2, DElems.snoc hv l ys h3⟩
theorem DAt.iface {w : World} {B : Nat} {s : S} {u : Value} (h : DAt w B s u) : ∃ t v, u = .iface t v := (DAt.brief s u h).iface
theorem DElems.len {w : World} {B : Nat} {l : List S} {xs : List Value} (h : DElems w B l xs) : xs.length = l.length := (DElems.brief l xs h).len
theorem DElems.one {w : World} {B : Nat} {l : List S} {xs : List Value} (h : DElems w B l xs) : ∀ u ∈ xs, u.oneCell' = true := (DElems.brief l xs h).one
/-- Elements that lie away from rows of values that were there, and from the row gr. -/
def EFD (w wr : World) (gr : Nat) (l : List S) (us : List Value) : Prop := ∀ X : Nat → Prop, (∀ k, X k → VB w k ∨ k = gr) → ∀ w2 : World, (∀ k, k < wr.heap.size → ¬ X k → w2.heap[k]? = wr.heap[k]?) → wr.heap.size ≤ w2.heap.size → DElems w2 wr.heap.size l us
/-- What stands while values are made. -/
def ValsID (w wr : World) (l : List S) (n i : Nat) (us : List Value) : Prop :=
  us.length = i ∧ Blk wr w.heap.size 43 (rowU us n) ∧ (∀ u ∈ us, ∃ t v, u = .iface t v) ∧ EFD w wr w.heap.size (l.take i) us ∧ Below w.heap.size w wr
theorem ValsID.push {w wr w5 w6 : World} {l : List S} {n i : Nat} {us : List Value} {s : S} {u : Value} (h : ValsID w wr l n i us) (hs : l[i]? = some s) (hin : i < n) (h5 : Below wr.heap.size wr w5) (hB6 : Below w5.heap.size w5 w6)
    (hf : Far w5 w6 (fun w2 => DAt w2 w6.heap.size s u)) (o : Obj) : ValsID w ((w6.alloc o).setCell ⟨w.heap.size, i, none⟩ u) l n (i + 1) (us ++ [u]) := by
  obtain ⟨hl, hb, hu, hE, hB⟩ := h
  have hgl := hb.lt
  have hs5 := h5.size
  have hs6 := hB6.size
  have hui : ∃ t v, u = .iface t v := hf.self.iface
  have h56 : Below wr.heap.size wr w6 := h5.trans (hB6.mono hs5)
  have hvb := rowU_vb hb hu
  refine ⟨by simp [hl], ?_, fun v hv => ?_, ?_, ?_⟩
  · have h := ((hb.below h56 hgl).alloc o).set_ i u
    rw [← hl, rowU_set us n u (by omega), hl] at h
    rw [← hl]
    rw [hl]
    exact h
  · rcases List.mem_append.1 hv with h | h
    · exact hu v h
    · rw [List.mem_singleton.1 h]; exact hui
  · intro X hX w2 h1 h2
    have hsz : ((w6.alloc o).setCell ⟨w.heap.size, i, none⟩ u).heap.size = w6.heap.size + 1 := by simp
    rw [hsz] at h2
    have hag : ∀ k, k < w6.heap.size → ¬ (X k ∨ k = w.heap.size) → w2.heap[k]? = w6.heap[k]? := fun k hk hn => by
      refine (h1 k (by rw [hsz]; omega) (fun h => hn (.inl h))).trans ?_
      refine (Below.heap_setCell _ _ _ k (fun e => hn (.inr e))).trans ?_
      exact Below.heap_alloc w6 o k hk
    have hold : DElems w2 wr.heap.size (l.take i) us := hE (fun k => X k ∨ k = w.heap.size) (fun k hk => by
      rcases hk with h | h
      · exact hX k h
      · exact .inr h) w2 (fun k hk hn => (hag k (by omega) hn).trans (h56.block k hk)) (by omega)
    have hnew : DAt w2 w6.heap.size s u := hf (fun k => X k ∨ k = w.heap.size) (fun k hk => by
      have hwr : VB w k ∨ k = w.heap.size → VB w5 k := fun h => by
        rcases h with h | h
        · exact (h.below (hB.trans (h5.mono hB.size)))
        · subst h; exact hvb.below h5
      rcases hk with h | h
      · exact hwr (hX k h)
      · exact hwr (.inr h)) w2 hag (by omega)
    rw [List.take_add_one, hs, Option.toList_some]
    rw [hsz]
    exact DElems.snoc (hnew.more (by omega)) _ _ (hold.more (by omega))
  · exact ((hB.trans (h56.mono hB.size)).alloc (by omega) o).setCell (Nat.le_refl _) u
set_option maxRecDepth 10000 in
set_option maxHeartbeats 2000000 in
theorem valuesD_any (l : List S) (A : Option Addr) (n c : Nat) (xs : List Value) (w : World) (hl : l.length = n) (hn : n ≤ 16) (hr : Reads w w.heap.size 6 A n xs)
    (hsh : ∀ (i : Nat) (v : Value), i < n → RowV xs i v → ∃ kd ng A n c b t K m d, v = .agg #[.int .i64 kd, .bool ng, .slice A n c, .int .u64 b, .string t, .slice K m d])
    (ih : ∀ (i : Nat) (s : S) (v : Value), l[i]? = some s → RowV xs i v → ∀ W, Below w.heap.size w W → Calls Tryz.prog 19 #[v] W (RetD W s)) :
    Calls Tryz.prog 36 #[.slice A n c] w fun e w' => ∃ us, e = .returned (.tuple #[.slice (some ⟨w.heap.size, 0, none⟩) n n, .bool true]) ∧ us.length = n ∧ (∀ u ∈ us, ∃ t v, u = .iface t v) ∧ Below w.heap.size w w' ∧ Far w w' (fun w2 => Reads w2 w'.heap.size 1 (some ⟨w.heap.size, 0, none⟩) n us ∧ DElems w2 w'.heap.size l us) := by
  have HX := Lib.hid (And.intro hr (And.intro ih (And.intro hl hsh)))
  obtain ⟨iV, hi, hz, hs, hby⟩ := info_parts infoV1
  have HI := Lib.hid (And.intro hi hs)
  have HM : ∀ W : World, (Instr.makeSlice 68 (.int .i64 0) (.int .i64 (n : Int))).run Tryz.prog W = .ok (.slice (some ⟨W.heap.size, 0, none⟩) 0 n) (W.alloc (.cells (rowU [] n) 43)) := fun W => by
    have h := run_make_rowN (P := Tryz.prog) 68 43 iV .nilIface Tryz.underlying68 hi hz .i64 .i64 0 n (Nat.zero_le _) (by rw [hby]; omega) (by omega) W
    have mc : madeCells (Value.nilIface).cells (n * 1) = rowU [] n := by
      apply Array.toList_inj.1
      rw [show (Value.nilIface).cells = #[.nilIface] from rfl, toList_madeCells_one]
      simp [rowU]
    rw [hs, mc] at h
    exact h
  clear hr ih hl hi hz hs hby hsh
  generalize hcs : rowU [] n = cs at HM
  go_enter Tryz.func36, Tryz.ntmps36
  go_wp2_with fail
  go_loopw [4, 14] (fun vo vi wr => ∃ (i : Nat) (us : List Value), vo = .slice (some ⟨w.heap.size, 0, none⟩) i n ∧ vi = .int .i64 i ∧ i ≤ n ∧ ValsID w wr l n i us) (fun _ vi _ => n - (intOf vi).toNat)
  case atStart => exact ⟨0, [], rfl, rfl, by omega, rfl, by rw [hcs]; exact Blk.new _ _ _, by simp, by rw [List.take_zero]; exact fun _ _ _ _ _ => by simp only [DElems], (Below.refl _ _).alloc (Nat.le_refl _) _⟩
  case round =>
    obtain ⟨i, us, rfl, rfl, hi, hV⟩ := hrel
    have HV := Lib.hid hV
    have hBw := hV.2.2.2.2
    have hgl := hV.2.1.lt
    rcases Nat.lt_or_ge i n with hlt | hge
    · have bi : (i : Int) < (n : Int) := by omega
      have wi : IntKind.i64.wrap ((i : Int) + 1) = (i : Int) + 1 := by rw [IntKind.wrap_i64]; omega
      obtain ⟨ad, p0, p1, p2, p3, p4, p5, rfl, had, hrow, hsix⟩ := HX.out.1.six2 hlt
      have hlo : i < l.length := by rw [HX.out.2.2.1]; exact hlt
      have hs := List.getElem?_eq_getElem hlo
      have HC := Lib.hid (HX.out.2.1 i _ _ hs hrow)
      have HS := Lib.hid hs
      obtain ⟨kd, ng, A0, n0, c0, b0, t0, K0, m0, d0, e⟩ := HX.out.2.2.2 i _ hlt hrow
      simp only [Value.agg.injEq, Array.mk.injEq, List.cons.injEq, and_true] at e
      obtain ⟨rfl, rfl, rfl, rfl, rfl, rfl⟩ := e
      obtain ⟨g0, g1, g2, g3, g4, g5⟩ := hsix.below hBw had
      have HBw := Lib.hid hBw
      clear hsix hBw hrow hs hV
      go_wp2_with fail
      refine gen1 (M := fun V => Calls _ _ _ V _) fun W5 hB5 b5 hz5 => ?_
      have hz51 : wr.heap.size < W5.heap.size := by omega
      clear hz5
      refine (HC.out W5 (HBw.out.trans (hB5.mono HBw.out.size))).mono ?_
      rintro e w6 ⟨u, rfl, hB6, hF⟩
      obtain ⟨tu, vu, rfl⟩ := hF.self.iface
      have hs6 := hB6.size
      have b6 := HV.out.2.1.below (hB5.trans (hB6.mono (by omega))) hgl
      have b6a := b6.alloc (.cells #[.iface tu vu] 43)
      have hcu : ((w6.alloc (.cells #[.iface tu vu] 43)).cell? ⟨w.heap.size, i, none⟩).isSome = true := by
        rw [b6a.cell i]
        have hl2 : (rowU us n).size = n := by unfold rowU; simp; have := HV.out.1; omega
        rw [Array.getElem?_eq_getElem (by rw [hl2]; exact hlt)]
        rfl
      have hfu := b6a.frozen i
      have hnu := (Blk.new w6 43 #[.iface tu vu]).cell 0
      have HP := Lib.hid (ValsID.push HV.out HS.out hlt hB5 hB6 hF (.cells #[.iface tu vu] 43))
      clear hB5 b5 hB6 hF b6 b6a g0 g1 g2 g3 g4 g5
      go_wp2_with (at_builtin; refine wpList_append1 _ rfl (.tmp 25) (.tmp 27) 68 rfl 43 iV Tryz.underlying68 HI.out.1 HI.out.2 w.heap.size i n rfl ⟨w6.heap.size, 0, none⟩ 1 (.iface tu vu) rfl hnu rfl (by omega) hcu hfu ?_)
      refine ⟨⟨i + 1, us ++ [.iface tu vu], rfl, by go_num, by omega, HP.out⟩, by simp only [intOf]; omega⟩
    · have hin : i = n := by omega
      subst hin
      have bi : ¬ (i : Int) < (i : Int) := by omega
      clear hV hBw
      go_wp2
      go_ret2
      obtain ⟨hl, hb, hu, hE, hB⟩ := HV.out
      refine ⟨rfl, us, hl, hu, hB, fun X hX w2 h1 h2 => ?_⟩
      have hnX : ∀ k, X k → k < w.heap.size := fun k hk => (hX k hk).lt
      have hlk : l.take i = l := List.take_of_length_le (Nat.le_of_eq HX.out.2.2.1)
      have he := hE X (fun k hk => .inl (hX k hk)) w2 h1 h2
      rw [hlk] at he
      refine ⟨⟨by rw [hl, Nat.mul_one], fun _ => ⟨_, rfl, hgl, fun j u hj => ?_⟩⟩, he⟩
      have hc : wr.cell? ⟨w.heap.size, j, none⟩ = some u := by
        rw [hb.cell j]
        unfold rowU
        rw [List.getElem?_toArray, List.getElem?_append_left (by have := List.getElem?_eq_some_iff.1 hj; obtain ⟨h, _⟩ := this; exact h)]
        exact hj
      have ha : (⟨w.heap.size, 0, none⟩ : Addr).add j = ⟨w.heap.size, j, none⟩ := by unfold Addr.add; split <;> simp_all
      rw [ha]
      exact (World.cell?_of_block (h1 w.heap.size hgl (fun h => by have := hnX _ h; omega))).trans hc
end Go.Proofs.YtkmeckimmfbkiaaGreatDoor
namespace Go.Proofs.YtkmeckimmfbkiaaGreatDoor
open Go Go.RowKit
theorem Far.both {w w' : World} {p q : World → Prop} (h : Far w w' p) (h' : Far w w' q) : Far w w' (fun w2 => p w2 ∧ q w2) := fun X hX w2 h1 h2 => ⟨h X hX w2 h1 h2, h' X hX w2 h1 h2⟩
theorem Far.blk {w w' : World} {g T : Nat} {cs : Array Value} (hg : w.heap.size ≤ g) (hg' : g < w'.heap.size) (h : Blk w' g T cs) : Far w w' (fun w2 => Blk w2 g T cs) := fun X hX w2 h1 h2 =>
  (h1 g hg' (fun h => by have := (hX g h).lt; omega)).trans h
def ValsRD (w : World) (l : List S) (n : Nat) (e : Ending) (w' : World) : Prop := ∃ us, e = .returned (.tuple #[.slice (some ⟨w.heap.size, 0, none⟩) n n, .bool true]) ∧ us.length = n ∧ (∀ u ∈ us, ∃ t v, u = .iface t v) ∧ Below w.heap.size w w' ∧ Far w w' (fun w2 => Reads w2 w'.heap.size 1 (some ⟨w.heap.size, 0, none⟩) n us ∧ DElems w2 w'.heap.size l us)
set_option maxRecDepth 10000 in
set_option maxHeartbeats 2000000 in
theorem valueD_list (l : List S) (neg : Bool) (A : Option Addr) (n c : Nat) (b : Int) (t : ByteArray) (K : Option Addr) (m d : Nat) (w : World) (hl : l.length = m) (_hm : m ≤ 16)
    (hv : ∀ W, Below w.heap.size w W → Calls Tryz.prog 36 #[.slice K m d] W (ValsRD W l m)) :
    Calls Tryz.prog 19 #[.agg #[.int .i64 6, .bool neg, .slice A n c, .int .u64 b, .string t, .slice K m d]] w (RetD w (.list l)) := by
  have HV := Lib.hid hv
  clear hv
  go_enter Tryz.func19, Tryz.ntmps19
  go_wp2_with fail
  refine gen1 (M := fun W => Calls _ _ _ W _) fun W hB b1 hz => ?_
  have hz1 : w.heap.size < W.heap.size := by omega
  clear hz
  refine (HV.out W hB).mono ?_
  rintro e w1 ⟨us, rfl, hul, hui, hB1, hF⟩
  have b2 := b1.below hB1 hz1
  obtain ⟨x0, x1, x2, x3, x4, x5, _, _, _, _, _, _⟩ := b2.c6
  have hs1 := hB1.size
  have HF := Lib.hid (And.intro (hB.trans (hB1.mono hB.size)) (And.intro (hF.first hB) (And.intro hul hui)))
  clear hB b1 hB1 b2 hF hul hui HV
  go_wp2_with fail
  refine (newList_any _ m m w1).mono ?_
  rintro e w2 ⟨rfl, hc, hB2, hlt⟩
  have H2 := Lib.hid (And.intro hc hB2)
  clear hc hB2
  go_wp2
  go_ret2
  have hw := HF.out.1.size
  refine ⟨_, rfl, HF.out.1.trans (H2.out.2.mono hw), ((Far.cell hw hlt H2.out.1).both (HF.out.2.1.next H2.out.2 HF.out.1 (_B := 0))).imp fun w3 h => ?_⟩
  simp only [DAt]
  have hs2 := H2.out.2.size
  exact ⟨w1.heap.size, _, m, us, rfl, hlt, by rw [hl]; exact h.1, by rw [hl]; exact _hm, by rw [hl]; exact Nat.le_refl _, by rw [hl]; exact h.2.1.more hs2, h.2.2.more hs2⟩
set_option maxRecDepth 10000 in
set_option maxHeartbeats 2000000 in
theorem valueD_tuple (l : List S) (neg : Bool) (A : Option Addr) (n c : Nat) (b : Int) (t : ByteArray) (K : Option Addr) (m d : Nat) (w : World) (hl : l.length = m) (hm : m ≤ 16)
    (hv : ∀ W, Below w.heap.size w W → Calls Tryz.prog 36 #[.slice K m d] W (ValsRD W l m)) :
    Calls Tryz.prog 19 #[.agg #[.int .i64 7, .bool neg, .slice A n c, .int .u64 b, .string t, .slice K m d]] w (RetD w (.tuple l)) := by
  have HV := Lib.hid hv
  clear hv
  go_enter Tryz.func19, Tryz.ntmps19
  go_wp2_with fail
  refine gen1 (M := fun W => Calls _ _ _ W _) fun W hB b1 hz => ?_
  have hz1 : w.heap.size < W.heap.size := by omega
  clear hz
  refine (HV.out W hB).mono ?_
  rintro e w1 ⟨us, rfl, hul, hui, hB1, hF⟩
  have b2 := b1.below hB1 hz1
  obtain ⟨x0, x1, x2, x3, x4, x5, _, _, _, _, _, _⟩ := b2.c6
  have hs1 := hB1.size
  have HF := Lib.hid (And.intro (hB.trans (hB1.mono hB.size)) (And.intro (hF.first hB) (And.intro hul hui)))
  clear hB b1 hB1 b2 hF hul hui HV
  go_wp2_with fail
  go_ret2
  refine ⟨_, rfl, HF.out.1, HF.out.2.1.imp fun w3 h => ?_⟩
  simp only [DAt]
  exact ⟨some ⟨W.heap.size, 0, none⟩, m, us, by rw [hl]; rfl, by rw [hl]; exact hm, by rw [hl]; exact Nat.le_refl _, by rw [hl]; exact h.1, h.2⟩
set_option maxRecDepth 10000 in
set_option maxHeartbeats 2000000 in
theorem valueD_dict (l : List S) (neg : Bool) (A : Option Addr) (n c : Nat) (b : Int) (t : ByteArray) (K : Option Addr) (m d : Nat) (w : World) (hl : l.length = m) (hm : m ≤ 16) (he : m % 2 = 0) (hks : keysK 2 l) (hds : distK 2 l) (hg : goodL l) (hlv : levL l ≤ 10) (hkt : KT w) (hkl : KL w)
    (hv : ∀ W, Below w.heap.size w W → Calls Tryz.prog 36 #[.slice K m d] W (ValsRD W l m)) :
    Calls Tryz.prog 19 #[.agg #[.int .i64 8, .bool neg, .slice A n c, .int .u64 b, .string t, .slice K m d]] w (RetD w (.dict l)) := by
  have HV := Lib.hid hv
  clear hv
  go_enter Tryz.func19, Tryz.ntmps19
  go_wp2_with fail
  refine gen1 (M := fun W => Calls _ _ _ W _) fun W hB b1 hz => ?_
  have hz1 : w.heap.size < W.heap.size := by omega
  clear hz
  refine (HV.out W hB).mono ?_
  rintro e w1 ⟨us, rfl, hul, hui, hB1, hF⟩
  have b2 := b1.below hB1 hz1
  obtain ⟨x0, x1, x2, x3, x4, x5, _, _, _, _, _, _⟩ := b2.c6
  have hs1 := hB1.size
  have HF := Lib.hid (And.intro (hB.trans (hB1.mono hB.size)) (And.intro (hF.first hB) (And.intro hul hui)))
  clear hB b1 hB1 b2 hF hul hui HV
  obtain ⟨hR, hE⟩ := HF.out.2.1.self
  have hkt1 : KT w1 := hkt.below HF.out.1
  have hkl1 : KL w1 := hkl.below HF.out.1
  have HD := Lib.hid (dictV_any (hsOf 2 l) (hsOf_lt 2 l) (some ⟨W.heap.size, 0, none⟩) m m us w1 hm he hR
    (fun j u v hu hv => ⟨HF.out.2.2.2 v (List.mem_of_getElem? hv), fun V hV => by
      obtain ⟨s, hs⟩ : ∃ s, l[2 * j]? = some s := ⟨_, List.getElem?_eq_getElem (by have := List.getElem?_eq_some_iff.1 hu; obtain ⟨h, _⟩ := this; have := HF.out.2.2.1; omega)⟩
      obtain ⟨u', hu', hS⟩ := hE.get l us (2 * j) s hs
      rw [hu] at hu'
      cases hu'
      rw [hsOf_some hs, hK_cast]
      exact hashMV_any s u V ((((DAt.brief s u hS)).below hV).more hV.size) (hks j s hs)⟩)
    (fun i j u v hij hu hv V hV => by
      have hl2 := HF.out.2.2.1
      obtain ⟨s, hs⟩ : ∃ s, l[2 * i]? = some s := ⟨_, List.getElem?_eq_getElem (by have := List.getElem?_eq_some_iff.1 hu; obtain ⟨h, _⟩ := this; omega)⟩
      obtain ⟨r, hr⟩ : ∃ r, l[2 * j]? = some r := ⟨_, List.getElem?_eq_getElem (by have := List.getElem?_eq_some_iff.1 hv; obtain ⟨h, _⟩ := this; omega)⟩
      obtain ⟨u', hu', hS⟩ := hE.get l us (2 * i) s hs
      rw [hu] at hu'
      cases hu'
      obtain ⟨v', hv', hR⟩ := hE.get l us (2 * j) r hr
      rw [hv] at hv'
      cases hv'
      have h := equal_any r s v u V (Nat.le_trans (lev_get l _ r hr) hlv) (good_fit r (goodL_get l _ r hr hg)) (good_fit s (goodL_get l _ s hs hg)) (hks j r hr) (hks i s hs) (hkt1.below hV) (hkl1.below hV) ((((DAt.brief r v hR)).below hV).more hV.size) ((((DAt.brief s u hS)).below hV).more hV.size)
      rw [eqS_symm, hds i j s r hij hs hr] at h
      exact h))
  clear hR hE hkt hkl hkt1 hkl1
  go_wp2_with fail
  refine HD.out.mono ?_
  rintro e w2 ⟨rfl, es, hes, hE2, hb2, hB2⟩
  have hlt := hb2.lt
  have H2 := Lib.hid (And.intro hb2 (And.intro hB2 hE2))
  clear hb2 hB2 hE2
  go_wp2
  go_ret2
  have hw := HF.out.1.size
  refine ⟨_, rfl, HF.out.1.trans (H2.out.2.1.mono hw), ((Far.blk hw hlt H2.out.1).both (HF.out.2.1.next H2.out.2.1 HF.out.1 (_B := 0))).imp fun w3 h => ?_⟩
  have hs2 := H2.out.2.1.size
  simp only [DAt]
  exact ⟨w1.heap.size, es, us, rfl, hlt, by rw [hl]; exact hm, h.1, by rw [hl]; exact hes, H2.out.2.2, h.2.2.more hs2⟩
set_option maxRecDepth 10000 in
set_option maxHeartbeats 2000000 in
theorem valueD_set (l : List S) (neg : Bool) (A : Option Addr) (n c : Nat) (b : Int) (t : ByteArray) (K : Option Addr) (m d : Nat) (w : World) (hl : l.length = m) (_hm : m ≤ 16) (h8 : m ≤ 8) (hks : keysK 1 l) (hds : distK 1 l) (hg : goodL l) (hlv : levL l ≤ 10) (hkt : KT w) (hkl : KL w)
    (hv : ∀ W, Below w.heap.size w W → Calls Tryz.prog 36 #[.slice K m d] W (ValsRD W l m)) :
    Calls Tryz.prog 19 #[.agg #[.int .i64 9, .bool neg, .slice A n c, .int .u64 b, .string t, .slice K m d]] w (RetD w (.set l)) := by
  have HV := Lib.hid hv
  clear hv
  go_enter Tryz.func19, Tryz.ntmps19
  go_wp2_with fail
  refine gen1 (M := fun W => Calls _ _ _ W _) fun W hB b1 hz => ?_
  have hz1 : w.heap.size < W.heap.size := by omega
  clear hz
  refine (HV.out W hB).mono ?_
  rintro e w1 ⟨us, rfl, hul, hui, hB1, hF⟩
  have b2 := b1.below hB1 hz1
  obtain ⟨x0, x1, x2, x3, x4, x5, _, _, _, _, _, _⟩ := b2.c6
  have hs1 := hB1.size
  have HF := Lib.hid (And.intro (hB.trans (hB1.mono hB.size)) (And.intro (hF.first hB) (And.intro hul hui)))
  clear hB b1 hB1 b2 hF hul hui HV
  obtain ⟨hR, hE⟩ := HF.out.2.1.self
  have hkt1 : KT w1 := hkt.below HF.out.1
  have hkl1 : KL w1 := hkl.below HF.out.1
  have HD := Lib.hid (setV_any (hsOf 1 l) (hsOf_lt 1 l) (some ⟨W.heap.size, 0, none⟩) m m us w1 h8 hR
    (fun j u hu V hV => by
      obtain ⟨s, hs⟩ : ∃ s, l[1 * j]? = some s := ⟨_, List.getElem?_eq_getElem (by have := List.getElem?_eq_some_iff.1 hu; obtain ⟨h, _⟩ := this; have := HF.out.2.2.1; omega)⟩
      obtain ⟨u', hu', hS⟩ := hE.get l us (1 * j) s hs
      rw [hu] at hu'
      cases hu'
      rw [hsOf_some hs, hK_cast]
      exact hashMV_any s u V ((((DAt.brief s u hS)).below hV).more hV.size) (hks j s hs))
    (fun i j u v hij hu hv V hV => by
      have hl2 := HF.out.2.2.1
      obtain ⟨s, hs⟩ : ∃ s, l[1 * i]? = some s := ⟨_, List.getElem?_eq_getElem (by have := List.getElem?_eq_some_iff.1 hu; obtain ⟨h, _⟩ := this; omega)⟩
      obtain ⟨r, hr⟩ : ∃ r, l[1 * j]? = some r := ⟨_, List.getElem?_eq_getElem (by have := List.getElem?_eq_some_iff.1 hv; obtain ⟨h, _⟩ := this; omega)⟩
      obtain ⟨u', hu', hS⟩ := hE.get l us (1 * i) s hs
      rw [hu] at hu'
      cases hu'
      obtain ⟨v', hv', hR⟩ := hE.get l us (1 * j) r hr
      rw [hv] at hv'
      cases hv'
      have h := equal_any r s v u V (Nat.le_trans (lev_get l _ r hr) hlv) (good_fit r (goodL_get l _ r hr hg)) (good_fit s (goodL_get l _ s hs hg)) (hks j r hr) (hks i s hs) (hkt1.below hV) (hkl1.below hV) ((((DAt.brief r v hR)).below hV).more hV.size) ((((DAt.brief s u hS)).below hV).more hV.size)
      rw [eqS_symm, hds i j s r hij hs hr] at h
      exact h))
  clear hR hE hkt hkl hkt1 hkl1
  go_wp2_with fail
  refine HD.out.mono ?_
  rintro e w2 ⟨rfl, es, hes, hE2, hb2, hB2⟩
  have hlt := hb2.lt
  have H2 := Lib.hid (And.intro hb2 (And.intro hB2 hE2))
  clear hb2 hB2 hE2
  go_wp2
  go_ret2
  have hw := HF.out.1.size
  refine ⟨_, rfl, HF.out.1.trans (H2.out.2.1.mono hw), ((Far.blk hw hlt H2.out.1).both (HF.out.2.1.next H2.out.2.1 HF.out.1 (_B := 0))).imp fun w3 h => ?_⟩
  have hs2 := H2.out.2.1.size
  simp only [DAt]
  exact ⟨w1.heap.size, es, us, rfl, hlt, by rw [hl]; exact h8, h.1, by rw [hl]; exact hes, H2.out.2.2, h.2.2.more hs2⟩
end Go.Proofs.YtkmeckimmfbkiaaGreatDoor
namespace Go.Proofs.YtkmeckimmfbkiaaGreatDoor
open Go Go.RowKit
theorem DAt.ofScalar {w : World} {B : Nat} {s : S} {u : Value} (hk : kindI s < 6) (h : SAt w B s u) : DAt w B s u := by
  cases s <;> first | (simp only [DAt]; exact h) | (simp [kindI] at hk; done)
/-- The thin package's value makes of a value what it stands for. -/
theorem valueD_any : ∀ (d : Nat) (s : S) (v : Value) (w : World), d ≤ 10 → lev s ≤ d → good s → KT w → KL w → VAt w w.heap.size s v → Calls Tryz.prog 19 #[v] w (RetD w s)
  | 0, s, _, _, _, hl, _, _, _, _ => by have := lev_pos s; omega
  | d + 1, s, v, w, hd, hl, hg, hkt, hkl, hv => by
    have small : kindI s < 6 → Calls Tryz.prog 19 #[v] w (RetD w s) := fun hk => by
      obtain ⟨neg, A, n, c, b, t, K, m, dd, e⟩ := hv.shape
      have hkk : kindN s = kindI s := by cases s <;> rfl
      subst e
      rw [hkk] at hv ⊢
      refine (value_scalar s (kindI s) neg A n c b t K m dd w hk fun W hB => scalar_any s hk _ W ((hv.below hB).more hB.size)).mono ?_
      rintro e w' ⟨u, rfl, hB, hF⟩
      exact ⟨u, rfl, hB, hF.imp fun w2 h => DAt.ofScalar hk h⟩
    have vals : ∀ (l : List S) (A : Option Addr) (c : Nat) (xs : List Value), l.length ≤ 16 → levL l ≤ d → goodL l → Reads w w.heap.size 6 A l.length xs → KidsV w w.heap.size l xs → ∀ W, Below w.heap.size w W → Calls Tryz.prog 36 #[.slice A l.length c] W (ValsRD W l l.length) := fun l A c xs h16 hlv hgl hx hK W hW =>
      valuesD_any l A l.length c xs W rfl h16 ((hx.below hW).more hW.size) (fun i v hi hrow => by
        obtain ⟨neg, A, n, c, b, t, K, m, dd, e⟩ := (hK.row (List.getElem?_eq_getElem hi) hrow).shape
        exact ⟨_, neg, A, n, c, b, t, K, m, dd, e⟩) fun i s u hs hrow V hV =>
        have hVw := hW.trans (hV.mono hW.size)
        valueD_any d s u V (by omega) (by have := lev_get l i s hs; omega) (goodL_get l i s hs hgl) (hkt.below hVw) (hkl.below hVw) (((hK.row hs hrow).below hVw).more hVw.size)
    cases s
    case none => exact small (by decide)
    case bool b => exact small (by simp [kindI])
    case int x => exact small (by simp [kindI])
    case float f => exact small (by simp [kindI])
    case str t => exact small (by simp [kindI])
    case bytes t => exact small (by simp [kindI])
    case list l =>
      simp only [VAt] at hv
      simp only [good] at hg
      simp only [lev] at hl
      obtain ⟨A, c, xs, rfl, h16, hc, hx, hK⟩ := hv
      exact valueD_list l false none 0 0 0 noT A l.length c w rfl h16 (vals l A c xs h16 (by omega) hg.2 hx hK)
    case tuple l =>
      simp only [VAt] at hv
      simp only [good] at hg
      simp only [lev] at hl
      obtain ⟨A, c, xs, rfl, h16, hc, hx, hK⟩ := hv
      exact valueD_tuple l false none 0 0 0 noT A l.length c w rfl h16 (vals l A c xs h16 (by omega) hg.2 hx hK)
    case dict l =>
      simp only [VAt] at hv
      simp only [good] at hg
      simp only [lev] at hl
      obtain ⟨A, c, xs, rfl, h16, hc, hx, hK⟩ := hv
      exact valueD_dict l false none 0 0 0 noT A l.length c w rfl h16 hg.2.1 hg.2.2.1 hg.2.2.2.1 hg.2.2.2.2 (by omega) hkt hkl (vals l A c xs h16 (by omega) hg.2.2.2.2 hx hK)
    case set l =>
      simp only [VAt] at hv
      simp only [good] at hg
      simp only [lev] at hl
      obtain ⟨A, c, xs, rfl, h16, hc, hx, hK⟩ := hv
      exact valueD_set l false none 0 0 0 noT A l.length c w rfl h16 hg.1 hg.2.1 hg.2.2.1 hg.2.2.2 (by omega) hkt hkl (vals l A c xs h16 (by omega) hg.2.2.2 hx hK)
end Go.Proofs.YtkmeckimmfbkiaaGreatDoor
