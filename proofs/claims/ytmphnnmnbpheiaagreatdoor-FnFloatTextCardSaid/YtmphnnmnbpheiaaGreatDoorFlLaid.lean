/- What the row's condition says of the variables that the walk reads. -/
import Derived.Test.YtmphnnmnbpheiaaGreatDoorFlLaw
import Derived.Test.YtmphnnmnbpheiaaGreatDoorRows
import Derived.LaidMore
import Derived.Lib.LaidTab
import Derived.ChangeArms
import Derived.OpenShut
import Derived.Deep.Slices
import Derived.MakeChecks
namespace Go.Proofs.YtmphnnmnbpheiaaGreatDoor
open Go Go.RowKit Go.ChangeShapes
open Fl
theorem laid_at {P : Program} {W : World} : ∀ {l : List (String × DataW Unit)} {ps : List MemPlace}, DataW.LaidVars P W l ps → ∀ {n : String} {d : DataW Unit} (i : Nat), l[i]? = some (n, d) →
    ∃ g t cs fuel p, P.globalNamed n = some g ∧ (P.globals[g]?).map (·.type) = some t ∧ W.var? P n = some cs ∧ DataW.trod (fun _ => ()) P W 0 (fun _ => true) false fuel t cs.toList = some (d, p)
  | [], _, _, _, _, i, h => by simp at h
  | (n', d') :: r, _, h, n, d, i, hi => by
    obtain ⟨g, t, cs, fuel, p, q, h1, h2, h3, h4, h5, _⟩ := h
    cases i with
    | zero =>
      simp only [List.getElem?_cons_zero, Option.some.injEq, Prod.mk.injEq] at hi
      obtain ⟨rfl, rfl⟩ := hi
      exact ⟨g, t, cs, fuel, p, h1, h2, h3, h4⟩
    | succ i => exact laid_at h5 i (by simpa using hi)
section
variable {H : Type} {enc : TypeId × Value → H} {P : Program} {w : World} {base : Nat} {spare : Nat → Bool} {held : Bool} {fuel : Nat} {t : TypeId} {cs : List Value}
theorem trod_float {x : DataW H × List MemPlace} (ht : P.underlying t = some (.float .f64)) (h : DataW.trod enc P w base spare held fuel t cs = some x) : ∃ n, cs = [.float .f64 n] ∧ x.1 = .lit (.float .f64 n) := by
  cases fuel with
  | zero => simp [DataW.trod] at h
  | succ n =>
    unfold DataW.trod at h
    rw [ht] at h
    split at h <;> simp_all
    rw [← h.2]
def shapeOf (u : Option TypeDesc) : List (Nat × Nat) := match u with
  | some (.struct fs) => fs.toList.map fun f => (f.type, f.offset)
  | _ => []
theorem field_cell {x : DataW H × List MemPlace} {ds : List (DataW H)} {k : IntKind} {n : Int} {j ty off : Nat} (h : DataW.trod enc P w base spare held fuel t cs = some x) (hx : x.1 = .agg ds) (hS : (shapeOf (P.underlying t))[j]? = some (ty, off))
    (hty : P.underlying ty = some (.int k)) (hc : P.cellsOf ty = 1) (hd : ds[j]? = some (.lit (.int k n))) : cs[off]? = some (.int k n) := by
  obtain ⟨fs, hfs⟩ : ∃ fs, P.underlying t = some (.struct fs) := by
    unfold shapeOf at hS
    split at hS
    · exact ⟨_, by assumption⟩
    · simp at hS
  obtain ⟨xs, m, _, rfl, _, hlen, hf⟩ := DataW.trod_struct hfs h
  rw [hfs] at hS
  simp only [shapeOf, List.getElem?_map, Option.map_eq_some_iff, Prod.mk.injEq] at hS
  obtain ⟨f, hfj, rfl, rfl⟩ := hS
  have hfj' : fs[j]? = some f := by simpa using hfj
  have h1 := hf j f hfj'
  obtain rfl : xs.map (·.1) = ds := by simpa using hx
  rw [List.getElem?_map, Option.map_eq_some_iff] at hd
  obtain ⟨y, hy, hyd⟩ := hd
  rw [hy, hc] at h1
  obtain ⟨n', e1, e2, _⟩ := DataW.trod_int hty h1
  have hn : n' = n := by
    rw [e2] at hyd
    simpa using hyd
  subst hn
  have h0 : ((cs.drop f.offset).take 1)[0]? = some (.int k n') := by rw [e1]; rfl
  simpa using h0
end
theorem cell_of {P : Program} {W : World} {n : String} {g k : Nat} {cs : Array Value} {v : Value} (hg : P.globalNamed n = some g) (hv : W.var? P n = some cs) (h : cs.toList[k]? = some v) : W.cell? ⟨g, k, none⟩ = some v := by
  rw [World.var?_cell hg hv k]
  simpa using h
theorem lt_of_var {P : Program} {W : World} {n : String} {g : Nat} {cs : Array Value} {v : Value} (hg : P.globalNamed n = some g) (hv : W.var? P n = some cs) (h : cs.toList[0]? = some v) : g < W.heap.size :=
  block_lt_of_cell (a := ⟨g, 0, none⟩) (cell_of hg hv h)
section
variable {W : World} {ps : List MemPlace}
set_option maxRecDepth 100000 in
theorem laid_info (h : DataW.LaidVars Tryz.prog W Rows.fnFloatTextRow.laid ps) : Info W := by
  obtain ⟨g, t, cs, fuel, p, hg, ht, hv, hd⟩ := laid_at h 3 (n := "internal/strconv.float64info") (d := Rows.laid_internal_strconv_float64info) rfl
  obtain rfl := Option.some.inj ((show Tryz.prog.globalNamed "internal/strconv.float64info" = some 5 by kernel_rfl).symm.trans hg)
  obtain rfl := Option.some.inj ((show (Tryz.prog.globals[5]?).map (·.type) = some 72 by kernel_rfl).symm.trans ht)
  exact cell_of hg hv (field_cell (j := 0) (ty := 70) (off := 0) (k := .u64) (n := 52) hd rfl (by kernel_rfl) (by kernel_rfl) (by kernel_rfl) rfl)
set_option maxRecDepth 100000 in
theorem laid_opt (h : DataW.LaidVars Tryz.prog W Rows.fnFloatTextRow.laid ps) : Opt W := by
  obtain ⟨g, t, cs, fuel, p, hg, ht, hv, hd⟩ := laid_at h 4 (n := "internal/strconv.optimize") (d := Rows.laid_internal_strconv_optimize) rfl
  obtain rfl := Option.some.inj ((show Tryz.prog.globalNamed "internal/strconv.optimize" = some 4 by kernel_rfl).symm.trans hg)
  obtain rfl := Option.some.inj ((show (Tryz.prog.globals[4]?).map (·.type) = some 4 by kernel_rfl).symm.trans ht)
  obtain ⟨b, e1, e2⟩ := DataW.trod_bool Tryz.underlying4 hd
  have hb : b = true := by
    have := congrArg Prod.fst e2
    simpa [Rows.laid_internal_strconv_optimize] using this.symm
  subst hb
  exact cell_of hg hv (by rw [e1]; rfl)
set_option maxRecDepth 100000 in
theorem laid_ten (h : DataW.LaidVars Tryz.prog W Rows.fnFloatTextRow.laid ps) : TenTab W ∧ 11 < W.heap.size := by
  obtain ⟨g, t, cs, fuel, p, hg, ht, hv, hd⟩ := laid_at h 8 (n := "internal/strconv.uint64pow10") (d := Rows.laid_internal_strconv_uint64pow10) rfl
  obtain rfl := Option.some.inj ((show Tryz.prog.globalNamed "internal/strconv.uint64pow10" = some 11 by kernel_rfl).symm.trans hg)
  obtain rfl := Option.some.inj ((show (Tryz.prog.globals[11]?).map (·.type) = some 145 by kernel_rfl).symm.trans ht)
  have hT : Rows.laid_internal_strconv_uint64pow10 = Lib.tabData (H := Unit) .u64 Lib.pow10Tab := by kernel_rfl
  rw [hT] at hd
  have hc := Lib.cells_of_tab (t := 145) (e := 22) (n := 20) (by kernel_rfl) Tryz.underlying22 (by kernel_rfl) (by kernel_rfl) hd
  refine ⟨?_, lt_of_var hg hv (v := .int .u64 1) (by rw [hc]; rfl)⟩
  show W.var? _ _ = _
  rw [hv, ← hc]
set_option maxRecDepth 100000 in
theorem laid_p10 (h : DataW.LaidVars Tryz.prog W Rows.fnFloatTextRow.laid ps) : P10 W := by
  obtain ⟨g, t, cs, fuel, p, hg, ht, hv, hd⟩ := laid_at h 6 (n := "internal/strconv.float64pow10") (d := Rows.laid_internal_strconv_float64pow10) rfl
  obtain rfl := Option.some.inj ((show Tryz.prog.globalNamed "internal/strconv.float64pow10" = some 8 by kernel_rfl).symm.trans hg)
  obtain rfl := Option.some.inj ((show (Tryz.prog.globals[8]?).map (·.type) = some 117 by kernel_rfl).symm.trans ht)
  have hds : Rows.laid_internal_strconv_float64pow10 = (.slice ((List.range 23).map fun k => .lit (.float .f64 (p10 k))) [] : DataW Unit) := by kernel_rfl
  rw [hds] at hd
  rcases Go.Deep.open_slice1 (t := 117) (e := 24) (by kernel_rfl) (by kernel_rfl) hd with ⟨_, h0⟩ | ⟨a, len, cap, m, n, V, D, Pl, hcs, _, hl, _, hm, hx, hel⟩
  · simp at h0
  · rw [if_pos rfl] at hm
    subst hm
    have hx1 := DataW.slice.inj (congrArg Prod.fst hx)
    have hlen : len = 23 := by
      have := congrArg List.length hx1.1
      simpa using this.symm
    have hcap : m = 23 := by
      have := congrArg List.length hx1.2
      simp at this
      omega
    subst hlen
    subst hcap
    have hcell : ∀ k, k < 23 → W.cell? (a.add k) = some (.float .f64 (p10 k)) := by
      intro k hk
      obtain ⟨h1, h2⟩ := hel k hk
      obtain ⟨z, e1, e2⟩ := trod_float (t := 24) (by kernel_rfl) h2
      simp only [List.cons.injEq, and_true] at e1
      have e3 := congrArg (·[k]?) hx1.1
      simp only [List.getElem?_map, List.getElem?_range hk, Option.map_some, Option.some.injEq] at e3
      simp only [← e3, DataW.lit.injEq, Lit.float.injEq, true_and] at e2
      rw [h1, e1, e2]
    refine ⟨a, lt_of_var hg hv (v := .slice (some a) 23 23) (by rw [hcs]; rfl), cell_of hg hv (by rw [hcs]; rfl), ?_, hcell⟩
    have := block_lt_of_cell (a := a.add 0) (hcell 0 (by decide))
    have e : (a.add 0).block = a.block := by unfold Addr.add; split <;> rfl
    rw [e] at this
    exact this
set_option maxRecDepth 100000 in
theorem laid_pow (h : DataW.LaidVars Tryz.prog W Rows.fnFloatTextRow.laid ps) : PowTab W := by
  obtain ⟨g, t, cs, fuel, p, hg, ht, hv, hd⟩ := laid_at h 12 (n := "internal/strconv.pow10Tab") (d := Rows.laid_internal_strconv_pow10Tab) rfl
  obtain rfl := Option.some.inj ((show Tryz.prog.globalNamed "internal/strconv.pow10Tab" = some 10 by kernel_rfl).symm.trans hg)
  obtain rfl := Option.some.inj ((show (Tryz.prog.globals[10]?).map (·.type) = some 134 by kernel_rfl).symm.trans ht)
  have hds : Rows.laid_internal_strconv_pow10Tab = (.agg (Go.Pinned.pow10Rows.map fun x => .agg [.lit (.int .u64 x.1), .lit (.int .u64 x.2)]) : DataW Unit) := rfl
  rw [hds] at hd
  obtain ⟨xs, m, _, hx, _, hl, hel⟩ := DataW.trod_array (t := 134) (n := 696) (e := 133) (by kernel_rfl) hd
  have hx1 := DataW.agg.inj (congrArg Prod.fst hx)
  have c2 : Tryz.prog.cellsOf 133 = 2 := by kernel_rfl
  rw [c2] at hel
  intro i a b hi
  have hi6 : i < 696 := by
    rcases Nat.lt_or_ge i 696 with h' | h'
    · exact h'
    · rw [List.getElem?_eq_none (by rw [Fl.rows_length]; exact h')] at hi; cases hi
  have h1 := hel i hi6
  have e3 := congrArg (·[i]?) hx1
  simp only [List.getElem?_map, hi, Option.map_some] at e3
  rw [eq_comm, Option.map_eq_some_iff] at e3
  obtain ⟨y, hy, hyd⟩ := e3
  rw [hy] at h1
  have f0 := field_cell (j := 0) (ty := 22) (off := 0) (k := .u64) (n := (a : Int)) h1 hyd (by kernel_rfl) Tryz.underlying22 (by kernel_rfl) rfl
  have f1 := field_cell (j := 1) (ty := 22) (off := 1) (k := .u64) (n := (b : Int)) h1 hyd (by kernel_rfl) Tryz.underlying22 (by kernel_rfl) rfl
  exact ⟨cell_of hg hv (by simpa using f0), cell_of hg hv (by simpa using f1)⟩
end
set_option maxRecDepth 100000 in
theorem laid_of {W : World} (h : laidMetH Tryz.prog Rows.fnFloatTextRow.laid W) : Laid W ∧ TenTab W ∧ 11 < W.heap.size := by
  rw [MakeChecks.laidMetH_plain _ _ _ (by kernel_rfl)] at h
  obtain ⟨ps, hl, _, _⟩ := h
  obtain ⟨h1, h2⟩ := laid_ten hl
  exact ⟨⟨laid_pow hl, laid_p10 hl, laid_info hl, laid_opt hl, by omega⟩, h1, h2⟩
end Go.Proofs.YtmphnnmnbpheiaaGreatDoor
