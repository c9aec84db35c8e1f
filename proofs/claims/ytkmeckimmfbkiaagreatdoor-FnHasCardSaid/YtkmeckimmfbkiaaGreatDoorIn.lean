/- A raw argument as the row reads it. -/
import Derived.Test.YtkmeckimmfbkiaaGreatDoorJVMem
import Derived.Test.YtkmeckimmfbkiaaGreatDoorJTab
import Derived.Test.YtkmeckimmfbkiaaGreatDoorRows
import Derived.Deep.Slices
import Derived.ChangeArms
import Derived.ChangeSlices
import Derived.OpenShut
import Derived.LaidMore
namespace Go.Proofs.YtkmeckimmfbkiaaGreatDoor
open Go Go.RowKit Go.ChangeShapes
theorem in_laid_at {P : Program} {W : World} : ∀ {l : List (String × DataW Unit)} {ps : List MemPlace}, DataW.LaidVars P W l ps → ∀ {n : String} {d : DataW Unit} (i : Nat), l[i]? = some (n, d) →
    ∃ g t cs fuel p, P.globalNamed n = some g ∧ (P.globals[g]?).map (·.type) = some t ∧ W.var? P n = some cs ∧ DataW.trod (fun _ => ()) P W 0 (fun _ => true) false fuel t cs.toList = some (d, p)
  | [], _, _, _, _, i, h => by simp at h
  | (n', d') :: r, _, h, n, d, i, hi => by
    obtain ⟨g, t, cs, fuel, p, q, h1, h2, h3, h4, h5, _⟩ := h
    cases i with
    | zero =>
      simp only [List.getElem?_cons_zero, Option.some.injEq, Prod.mk.injEq] at hi
      obtain ⟨rfl, rfl⟩ := hi
      exact ⟨g, t, cs, fuel, p, h1, h2, h3, h4⟩
    | succ i => exact in_laid_at h5 i (by simpa using hi)
theorem in_int_at {W : World} {l : List (String × DataW Unit)} {ps : List MemPlace} (h : DataW.LaidVars Tryz.prog W l ps) {n : String} {z : Int} (i g : Nat) (hl : l[i]? = some (n, .lit (.int .i64 z))) (hg : Tryz.prog.globalNamed n = some g) (ht : (Tryz.prog.globals[g]?).map (·.type) = some 3) : W.cell? ⟨g, 0, none⟩ = some (.int .i64 z) := by
  obtain ⟨g', t, cs, fuel, p, h1, h2, h3, h4⟩ := in_laid_at h i hl
  obtain rfl : g' = g := Option.some.inj (h1.symm.trans hg)
  obtain rfl : t = 3 := Option.some.inj (h2.symm.trans ht)
  obtain ⟨z', e1, e2, _⟩ := DataW.trod_int Tryz.underlying3 h4
  have : z' = z := by
    have := congrArg Prod.fst e2
    simpa using this.symm
  subst this
  rw [World.var?_cell hg h3 0, show cs[0]? = cs.toList[0]? by simp, e1]
  rfl
/-- The bytes of a row of numbers. -/
def inBytes (zs : List Int) : List UInt8 := zs.map fun n => UInt8.ofNat n.toNat
theorem bv_inBytes (zs : List Int) (h : ∀ n ∈ zs, (Lit.int .u8 n).wf = true) : bv (inBytes zs) = zs.map (Value.int .u8) := by
  simp only [bv, inBytes, List.map_map]
  apply List.map_congr_left
  intro n hn
  have hb := bounds_u8 (h n hn)
  have e : (UInt8.ofNat n.toNat).toNat = n.toNat := by
    rw [UInt8.toNat_ofNat']
    omega
  simp only [Function.comp, e]
  rw [Int.toNat_of_nonneg (by omega)]
section
variable {H : Type} {enc : TypeId × Value → H} {W : World}
theorem in_bytes {fuel : Nat} {cs : List Value} {x : DataW H × List MemPlace} (h : DataW.trod enc Tryz.prog W 0 (fun _ => true) true fuel 22 cs = some x) :
    ∃ (A : Option Addr) (l : List UInt8) (c : Nat), cs = [.slice A l.length c] ∧ l.length ≤ c ∧ c ≤ maxLen ∧ Reads W W.heap.size 1 A l.length (bv l) := by
  rcases open_ints Tryz.underlying22 Tryz.underlying5 (by kernel_rfl) h with ⟨rfl, _⟩ | ⟨a, len, cap, zs, rfl, _, hl, hm, hz, _, hc, hw⟩
  · exact ⟨none, [], 0, rfl, Nat.le_refl _, Nat.zero_le _, Reads.none_⟩
  · have hz' : zs.length = cap := by simpa using hz
    have hlen : (inBytes (zs.take len)).length = len := by simp [inBytes]; omega
    refine ⟨some a, inBytes (zs.take len), cap, by rw [hlen], by omega, hm, ?_⟩
    rw [hlen]
    have hcell : ∀ j u, (bv (inBytes (zs.take len)))[j]? = some u → W.cell? (a.add j) = some u := by
      intro j u hu
      rw [bv_inBytes _ (fun n hn => hw n (List.mem_of_mem_take hn))] at hu
      simp only [List.getElem?_map, List.getElem?_take] at hu
      split at hu
      · rename_i hj
        have hj' : j < zs.length := by omega
        rw [List.getElem?_eq_getElem hj'] at hu
        simp only [Option.map_some, Option.some.injEq] at hu
        subst hu
        have := hc j hj'
        rw [List.getD_eq_getElem?_getD, List.getElem?_eq_getElem hj'] at this
        exact this
      · cases hu
    refine ⟨by rw [bv_len, hlen, Nat.mul_one], fun hn => ⟨a, rfl, ?_, hcell⟩⟩
    obtain ⟨u, hu⟩ : ∃ u, (bv (inBytes (zs.take len)))[0]? = some u := ⟨_, List.getElem?_eq_getElem (by rw [bv_len, hlen]; exact hn)⟩
    exact block_lt_of_cell (a := a) (hcell 0 u hu)
/-- Kids as they lie. -/
theorem in_kids {fuel : Nat} {cs : List Value} {x : DataW H × List MemPlace} (h : DataW.trod enc Tryz.prog W 0 (fun _ => true) true fuel 24 cs = some x) :
    ∃ (K : Option Addr) (kn kc : Nat) (xs : List Value), cs = [.slice K kn kc] ∧ kn ≤ kc ∧ kc ≤ maxLen ∧ Reads W W.heap.size 6 K kn xs ∧
      ∀ i c0 c1 c2 c3 c4 c5, xs[6 * i]? = some c0 → xs[6 * i + 1]? = some c1 → xs[6 * i + 2]? = some c2 → xs[6 * i + 3]? = some c3 → xs[6 * i + 4]? = some c4 → xs[6 * i + 5]? = some c5 →
        ∃ f y, DataW.trod enc Tryz.prog W 0 (fun _ => true) true f 26 [c0, c1, c2, c3, c4, c5] = some y := by
  have h6 : Tryz.prog.cellsOf 26 = 6 := by kernel_rfl
  rcases Deep.open_slice Tryz.underlying24 h with ⟨rfl, _⟩ | ⟨a, len, cap, m, n, D, Pl, rfl, _, hl, hm, hmm, _, hx⟩
  · exact ⟨none, 0, 0, [], rfl, Nat.le_refl _, Nat.zero_le _, Reads.none_, fun i c0 _ _ _ _ _ h0 => by simp at h0⟩
  have hmm : m = cap := by simpa using hmm
  rw [h6] at hx
  have hcell : ∀ j, j < len * 6 → ∃ u, W.cell? (a.add j) = some u := fun j hj => by
    obtain ⟨cs', h1, _⟩ := hx (j / 6) (by omega)
    obtain ⟨_, hlen, hc⟩ := World.cells?_some h1
    have := hc (j % 6) (Nat.mod_lt _ (by decide))
    rw [Deep.add_add, show j / 6 * 6 + j % 6 = j by omega] at this
    exact ⟨_, this.trans (List.getElem?_eq_getElem (by rw [hlen]; exact Nat.mod_lt _ (by decide)))⟩
  refine ⟨some a, len, cap, (List.range (len * 6)).map (fun j => (W.cell? (a.add j)).getD .nilIface), rfl, hl, hm, ?_, ?_⟩
  · have hrd : ∀ j u, ((List.range (len * 6)).map (fun j => (W.cell? (a.add j)).getD .nilIface))[j]? = some u → W.cell? (a.add j) = some u := fun j u hu => by
      rw [List.getElem?_map] at hu
      by_cases hj : j < len * 6
      · rw [List.getElem?_range hj] at hu
        obtain ⟨v, hv⟩ := hcell j hj
        simp only [Option.map_some, hv, Option.getD_some] at hu
        rw [hv]; exact hu
      · rw [List.getElem?_eq_none (by simpa using hj)] at hu
        cases hu
    refine ⟨by simp, fun hn => ⟨a, rfl, ?_, hrd⟩⟩
    obtain ⟨u, hu⟩ := hcell 0 (by omega)
    exact block_lt_of_cell (a := a) hu
  · intro i c0 c1 c2 c3 c4 c5 e0 e1 e2 e3 e4 e5
    have hget : ∀ j u, ((List.range (len * 6)).map (fun j => (W.cell? (a.add j)).getD .nilIface))[j]? = some u → j < len * 6 ∧ W.cell? (a.add j) = some u := fun j u hu => by
      rw [List.getElem?_map] at hu
      by_cases hj : j < len * 6
      · rw [List.getElem?_range hj] at hu
        obtain ⟨v, hv⟩ := hcell j hj
        simp only [Option.map_some, hv, Option.getD_some] at hu
        exact ⟨hj, by rw [hv]; exact hu⟩
      · rw [List.getElem?_eq_none (by simpa using hj)] at hu
        cases hu
    obtain ⟨hi, e0⟩ := hget _ _ e0
    obtain ⟨_, e1⟩ := hget _ _ e1
    obtain ⟨_, e2⟩ := hget _ _ e2
    obtain ⟨_, e3⟩ := hget _ _ e3
    obtain ⟨_, e4⟩ := hget _ _ e4
    obtain ⟨_, e5⟩ := hget _ _ e5
    obtain ⟨cs', h1, h2⟩ := hx i (by omega)
    obtain ⟨_, hlen, hc⟩ := World.cells?_some h1
    have hc' : ∀ j, j < 6 → cs'[j]? = W.cell? (a.add (6 * i + j)) := fun j hj => by
      rw [← hc j hj, Deep.add_add, Nat.mul_comm i 6]
    match cs', hlen with
    | [v0, v1, v2, v3, v4, v5], _ =>
      have g0 : v0 = c0 := Option.some.inj ((hc' 0 (by omega)).trans e0)
      have g1 : v1 = c1 := Option.some.inj ((hc' 1 (by omega)).trans e1)
      have g2 : v2 = c2 := Option.some.inj ((hc' 2 (by omega)).trans e2)
      have g3 : v3 = c3 := Option.some.inj ((hc' 3 (by omega)).trans e3)
      have g4 : v4 = c4 := Option.some.inj ((hc' 4 (by omega)).trans e4)
      have g5 : v5 = c5 := Option.some.inj ((hc' 5 (by omega)).trans e5)
      subst g0 g1 g2 g3 g4 g5
      exact ⟨_, _, h2⟩
theorem six_of {α : Type} {cs : List α} (h : cs.length = 6) : ∃ c0 c1 c2 c3 c4 c5, cs = [c0, c1, c2, c3, c4, c5] := by
  match cs, h with
  | [c0, c1, c2, c3, c4, c5], _ => exact ⟨_, _, _, _, _, _, rfl⟩
set_option maxRecDepth 10000 in
/-- What the row reads as a value of the thin package is one that came in. -/
theorem in_val : ∀ (n fuel : Nat) (cs : List Value) (x : DataW H × List MemPlace), DataW.trod enc Tryz.prog W 0 (fun _ => true) true fuel 26 cs = some x → InVal W W.heap.size n (.agg cs.toArray)
  | n, fuel, cs, x, h => by
    obtain ⟨xs, m, _, _, hl, hlen, hf⟩ := DataW.trod_struct Tryz.underlying26 h
    have h6 : Tryz.prog.cellsOf 26 = 6 := by kernel_rfl
    have k0 : Tryz.prog.cellsOf 3 = 1 := by kernel_rfl
    have k1 : Tryz.prog.cellsOf 4 = 1 := by kernel_rfl
    have k2 : Tryz.prog.cellsOf 22 = 1 := by kernel_rfl
    have k3 : Tryz.prog.cellsOf 23 = 1 := by kernel_rfl
    have k4 : Tryz.prog.cellsOf 9 = 1 := by kernel_rfl
    have k5 : Tryz.prog.cellsOf 24 = 1 := by kernel_rfl
    rw [h6] at hl
    have hlen : xs.length = 6 := hlen
    obtain ⟨c0, c1, c2, c3, c4, c5, rfl⟩ := six_of hl
    obtain ⟨y0, y1, y2, y3, y4, y5, rfl⟩ := six_of hlen
    have f0 : DataW.trod enc Tryz.prog W 0 (fun _ => true) true m 3 (([c0, c1, c2, c3, c4, c5].drop 0).take (Tryz.prog.cellsOf 3)) = some y0 := hf 0 _ rfl
    have f1 : DataW.trod enc Tryz.prog W 0 (fun _ => true) true m 4 (([c0, c1, c2, c3, c4, c5].drop 1).take (Tryz.prog.cellsOf 4)) = some y1 := hf 1 _ rfl
    have f2 : DataW.trod enc Tryz.prog W 0 (fun _ => true) true m 22 (([c0, c1, c2, c3, c4, c5].drop 2).take (Tryz.prog.cellsOf 22)) = some y2 := hf 2 _ rfl
    have f3 : DataW.trod enc Tryz.prog W 0 (fun _ => true) true m 23 (([c0, c1, c2, c3, c4, c5].drop 3).take (Tryz.prog.cellsOf 23)) = some y3 := hf 3 _ rfl
    have f4 : DataW.trod enc Tryz.prog W 0 (fun _ => true) true m 9 (([c0, c1, c2, c3, c4, c5].drop 4).take (Tryz.prog.cellsOf 9)) = some y4 := hf 4 _ rfl
    have f5 : DataW.trod enc Tryz.prog W 0 (fun _ => true) true m 24 (([c0, c1, c2, c3, c4, c5].drop 5).take (Tryz.prog.cellsOf 24)) = some y5 := hf 5 _ rfl
    rw [k0] at f0
    rw [k1] at f1
    rw [k2] at f2
    rw [k3] at f3
    rw [k4] at f4
    rw [k5] at f5
    obtain ⟨k, e0, _, w0⟩ := DataW.trod_int Tryz.underlying3 f0
    obtain ⟨neg, e1, _⟩ := DataW.trod_bool Tryz.underlying4 f1
    obtain ⟨A, l, c, e2, hlc, hcm, hr⟩ := in_bytes f2
    obtain ⟨b, e3, _, w3⟩ := DataW.trod_int Tryz.underlying23 f3
    obtain ⟨t, e4, _, ht⟩ := DataW.trod_string Tryz.underlying9 f4
    obtain ⟨K, kn, kc, zs, e5, hkk, hkc, hz, hk⟩ := in_kids f5
    have b0 := bounds_i64 w0
    have b3 := bounds_u64 w3
    obtain rfl : c0 = _ := List.cons.inj e0 |>.1
    obtain rfl : c1 = _ := List.cons.inj e1 |>.1
    obtain rfl : c2 = _ := List.cons.inj e2 |>.1
    obtain rfl : c3 = _ := List.cons.inj e3 |>.1
    obtain rfl : c4 = _ := List.cons.inj e4 |>.1
    obtain rfl : c5 = _ := List.cons.inj e5 |>.1
    cases n with
    | zero =>
      unfold InVal
      exact ⟨k, neg, A, l, c, b, t, K, kn, kc, rfl, ⟨by omega, by omega⟩, ⟨by omega, by omega⟩, hlc, hcm, hr, hkk, hkc, ht, trivial⟩
    | succ n =>
      unfold InVal
      exact ⟨k, neg, A, l, c, b, t, K, kn, kc, rfl, ⟨by omega, by omega⟩, ⟨by omega, by omega⟩, hlc, hcm, hr, hkk, hkc, ht, zs, hz, fun i c0 c1 c2 c3 c4 c5 e0 e1 e2 e3 e4 e5 => by
        obtain ⟨f, y, hy⟩ := hk i c0 c1 c2 c3 c4 c5 e0 e1 e2 e3 e4 e5
        exact in_val n f _ y hy⟩
end
end Go.Proofs.YtkmeckimmfbkiaaGreatDoor
