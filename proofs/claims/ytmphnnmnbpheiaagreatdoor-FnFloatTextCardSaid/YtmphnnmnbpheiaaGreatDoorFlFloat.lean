/- The text of a float of the language. -/
import Derived.Test.YtmphnnmnbpheiaaGreatDoorFlFinite
import Derived.Lib.IndexLaws
namespace Go.Proofs.YtmphnnmnbpheiaaGreatDoor
open Go Go.RowKit
open Fl
/-- A point and a zero behind what would be an integer's text. -/
def dot (t : List UInt8) : List UInt8 := if 101 ∈ t ∨ 46 ∈ t then t else t ++ [46, 48]
def Full (b : Nat) (T : List UInt8) : Prop :=
  (b % 2 ^ 63 < 2047 * 2 ^ 52 ∧ ∃ t, FText b t ∧ T = dot t) ∨ (b = 2047 * 2 ^ 52 ∧ T = [43, 105, 110, 102]) ∨ (b = 2 ^ 63 + 2047 * 2 ^ 52 ∧ T = [45, 105, 110, 102]) ∨ (2047 * 2 ^ 52 < b % 2 ^ 63 ∧ T = [110, 97, 110])
theorem index_neg (l : List UInt8) (c : UInt8) : Lib.indexByte l c < 0 ↔ c ∉ l := by
  induction l with
  | nil => simp [Lib.indexByte]
  | cons b l ih =>
    have := Lib.indexByte_ge l c
    by_cases h : b = c
    · subst h; simp [Lib.indexByte]
    · have h' : (b == c) = false := by simpa using h
      rw [Lib.indexByte, h']
      simp only [Bool.false_eq_true, if_false, List.mem_cons, not_or]
      rw [← ih]
      split
      · rename_i h2
        have h2 := eq_of_beq h2
        constructor
        · intro _; exact ⟨fun e => h e.symm, by omega⟩
        · intro _; omega
      · rename_i h2
        have h2 : ¬ Lib.indexByte l c = -1 := by simpa using h2
        constructor
        · intro _; omega
        · intro hh; omega
theorem cells_app (bs t : List UInt8) : Lib.byteCells bs ++ Lib.strCells ⟨t.toArray⟩ = Lib.byteCells (bs ++ t) := by
  simp [Lib.byteCells, Lib.strCells]
set_option maxRecDepth 10000 in
set_option maxHeartbeats 1000000 in
theorem write_any (B b : Nat) (bs t : List UInt8) (w : World) (h : Lib.IsBuilder 40 5 B b (Lib.byteCells bs) w) (hlen : bs.length + t.length ≤ 1000000) (hBw : B ≤ w.heap.size) :
    Calls Tryz.prog 22 #[.pointer (some ⟨b, 0, none⟩), .string ⟨t.toArray⟩] w fun e w' => e = .returned (.tuple #[.int .i64 t.length, .nilIface]) ∧ Lib.IsBuilder 40 5 B b (Lib.byteCells (bs ++ t)) w' ∧ Below B w w' := by
  refine (writeString_any B b (Lib.byteCells bs) ⟨t.toArray⟩ w h (by rw [Lib.byteCells_length]; show bs.length + t.toArray.size ≤ _; simp; omega) hBw).mono ?_
  rintro e w' ⟨rfl, h1, h2⟩
  rw [cells_app] at h1
  refine ⟨?_, .inr h1, h2⟩
  show Ending.returned (.tuple #[.int .i64 (t.toArray.size : Nat), .nilIface]) = _
  simp
theorem builder_below {T e : TypeId} {B b : Nat} {bs : List Value} {w w' : World} (h : Lib.IsBuilder T e B b bs w) (hb : Below w.heap.size w w') : Lib.IsBuilder T e B b bs w' := by
  have g : ∀ p, Lib.BuilderAt T e B b p bs w → Lib.BuilderAt T e B b p bs w' := by
    intro p hp
    have hlt := hp.lt
    obtain ⟨h1, v, h2, h3, h4⟩ := hp
    exact ⟨h1, v, (hb.block b hlt).trans h2, own_below h3 hb, h4⟩
  rcases h with h | h
  · exact .inl (g _ h)
  · exact .inr (g _ h)
theorem sgn_len (neg : Bool) : (sgn neg).length ≤ 1 := by cases neg <;> simp [sgn]
theorem exp2_len (y : Nat) : (exp2 y).length ≤ 3 := by
  unfold exp2; split
  · simp
  · split <;> simp
theorem ftext_len {b : Nat} {t : List UInt8} (h : FText b t) : t.length ≤ 1000 := by
  rcases h with ⟨_, rfl⟩ | ⟨l, dp, hr, rfl⟩
  · generalize decide (2 ^ 63 ≤ b) = neg
    have := sgn_len neg
    simp [efgF]; omega
  · generalize decide (2 ^ 63 ≤ b) = neg
    obtain ⟨h1, h2, q, h3, h4, h5, _⟩ := hr
    have hs := sgn_len neg
    have he := exp2_len (dp - 1).natAbs
    unfold ftxt
    split
    · unfold efgE
      split <;> simp <;> omega
    · unfold efgF
      split <;> split <;> simp <;> omega
theorem indexL_any (t : List UInt8) (c : UInt8) (w : World) : Calls Tryz.prog 24 #[.string ⟨t.toArray⟩, .int .u8 (c.toNat : Int)] w fun e w' => e = .returned (.int .i64 (Lib.indexByte t c)) ∧ w' = w := by
  have h := Tryz.strings_IndexByte ⟨t.toArray⟩ (c.toNat : Int) w
  rw [show ((c.toNat : Int).toNat).toUInt8 = c by simp] at h
  simpa using h
set_option maxRecDepth 10000 in
set_option maxHeartbeats 2000000 in
theorem format_any (b B bb : Nat) (hb : b < 2 ^ 64) (w : World) (hS : Hid (Lib.IsBuilder 40 5 B bb (Lib.byteCells []) w)) (hBw : Hid (B ≤ w.heap.size)) (hT : Hid (PowTab w ∧ TenTab w)) (hw : Hid (11 < w.heap.size ∧ 10 < w.heap.size)) :
    Calls Tryz.prog 13 #[.float .f64 b, .pointer (some ⟨bb, 0, none⟩), .int .u8 103] w fun e w' => e = .returned (.tuple #[]) ∧ ∃ T, Full b T ∧ Lib.IsBuilder 40 5 B bb (Lib.byteCells T) w' ∧ Below B w w' := by
  have HF := Lib.hid (isFinite_any b hb w)
  have HP := Lib.hid (isInf_pos b hb w)
  have HN := Lib.hid (isInf_neg b hb w)
  have hb' := Lib.hid hb
  clear hb
  by_cases hf : b % 2 ^ 63 < 2047 * 2 ^ 52
  · rw [decide_eq_true hf] at HF
    have HH := Lib.hid hf
    clear hf
    go_enter Tryz.func13, Tryz.ntmps13
    go_wp2_with fail
    refine HF.out.mono ?_
    rintro e w1 ⟨rfl, rfl⟩
    go_wp2_with fail
    refine (formatFloatS_any b hb'.out HH.out w1 hT hw).mono ?_
    rintro e w2 ⟨t, ht, rfl, hB2⟩
    have H2 := Lib.hid (And.intro ht hB2)
    clear ht hB2
    go_wp2_with fail
    refine (write_any B bb [] t w2 (builder_below hS.out H2.out.2) (by have := ftext_len H2.out.1; simp; omega) (by have := H2.out.2.size; have := hBw.out; omega)).mono ?_
    rintro e w3 ⟨rfl, h3, h4⟩
    have H3 := Lib.hid (And.intro h3 h4)
    clear h3 h4
    obtain ⟨x1, hx1⟩ : ∃ x1, Hid (x1 = Lib.indexByte t 101) := ⟨_, rfl⟩
    obtain ⟨x2, hx2⟩ : ∃ x2, Hid (x2 = Lib.indexByte t 46) := ⟨_, rfl⟩
    have i1 := Lib.hid (fun w => indexL_any t 101 w)
    have i2 := Lib.hid (fun w => indexL_any t 46 w)
    rw [← hx1.out] at i1
    rw [← hx2.out] at i2
    rcases Int.lt_or_le x1 0 with g1 | g1
    · have d1 : decide (x1 < 0) = true := by simp; omega
      rcases Int.lt_or_le x2 0 with g2 | g2
      · have d2 : decide (x2 < 0) = true := by simp; omega
        have hd : Hid (dot t = t ++ [46, 48]) := Lib.hid (by
          have a1 := (index_neg t 101).1 (by rw [← hx1.out]; exact g1)
          have a2 := (index_neg t 46).1 (by rw [← hx2.out]; exact g2)
          rw [dot, if_neg (by simp [a1, a2])])
        go_wp2_with fail
        refine (i1.out _).mono ?_
        rintro e w4 ⟨rfl, rfl⟩
        go_wp2_with fail
        refine (i2.out _).mono ?_
        rintro e w4 ⟨rfl, rfl⟩
        go_wp2_with fail
        refine (write_any B bb t [46, 48] w4 (by have := H3.out.1; simpa using this) (by have := ftext_len H2.out.1; simp; omega) (by have := H3.out.2.size; have := H2.out.2.size; have := hBw.out; omega)).mono ?_
        rintro e w5 ⟨rfl, h5, h6⟩
        have H5 := Lib.hid (And.intro h5 h6)
        clear h5 h6
        go_wp2_with fail
        refine bodyPost_ret (results_none rfl _ _ _) rfl ?_
        exact ⟨rfl, _, .inl ⟨HH.out, t, H2.out.1, hd.out.symm⟩, H5.out.1, (H2.out.2.mono hBw.out).trans (H3.out.2.trans H5.out.2)⟩
      · have d2 : decide (x2 < 0) = false := by simp; omega
        have hd : Hid (dot t = t) := Lib.hid (by
          have a2 : 46 ∈ t := by
            rcases Classical.em (46 ∈ t) with h | h
            · exact h
            · have := (index_neg t 46).2 h; rw [← hx2.out] at this; omega
          rw [dot, if_pos (.inr a2)])
        go_wp2_with fail
        refine (i1.out _).mono ?_
        rintro e w4 ⟨rfl, rfl⟩
        go_wp2_with fail
        refine (i2.out _).mono ?_
        rintro e w4 ⟨rfl, rfl⟩
        go_wp2_with fail
        refine bodyPost_ret (results_none rfl _ _ _) rfl ?_
        exact ⟨rfl, _, .inl ⟨HH.out, t, H2.out.1, hd.out.symm⟩, by have := H3.out.1; simpa using this, (H2.out.2.mono hBw.out).trans H3.out.2⟩
    · have d1 : decide (x1 < 0) = false := by simp; omega
      have hd : Hid (dot t = t) := Lib.hid (by
        have a2 : 101 ∈ t := by
          rcases Classical.em (101 ∈ t) with h | h
          · exact h
          · have := (index_neg t 101).2 h; rw [← hx1.out] at this; omega
        rw [dot, if_pos (.inl a2)])
      go_wp2_with fail
      refine (i1.out _).mono ?_
      rintro e w4 ⟨rfl, rfl⟩
      go_wp2_with fail
      refine bodyPost_ret (results_none rfl _ _ _) rfl ?_
      exact ⟨rfl, _, .inl ⟨HH.out, t, H2.out.1, hd.out.symm⟩, by have := H3.out.1; simpa using this, (H2.out.2.mono hBw.out).trans H3.out.2⟩
  · rw [decide_eq_false hf] at HF
    have hcase : b = 2047 * 2 ^ 52 ∨ (b ≠ 2047 * 2 ^ 52 ∧ b = 2 ^ 63 + 2047 * 2 ^ 52) ∨ (b ≠ 2047 * 2 ^ 52 ∧ b ≠ 2 ^ 63 + 2047 * 2 ^ 52 ∧ 2047 * 2 ^ 52 < b % 2 ^ 63) := by have := hb'.out; omega
    clear hf
    rcases hcase with h1 | ⟨h1, h2⟩ | ⟨h1, h2, h3⟩
    · rw [decide_eq_true h1] at HP
      have H1 := Lib.hid h1
      clear h1
      go_enter Tryz.func13, Tryz.ntmps13
      go_wp2_with fail
      refine HF.out.mono ?_
      rintro e w1 ⟨rfl, rfl⟩
      go_wp2_with fail
      refine HP.out.mono ?_
      rintro e w2 ⟨rfl, rfl⟩
      go_wp2_with fail
      refine (write_any B bb [] [43, 105, 110, 102] w2 hS (by simp) hBw.out).mono ?_
      rintro e w5 ⟨rfl, h5, h6⟩
      have H5 := Lib.hid (And.intro h5 h6)
      clear h5 h6
      go_wp2_with fail
      refine bodyPost_ret (results_none rfl _ _ _) rfl ?_
      exact ⟨rfl, _, .inr (.inl ⟨H1.out, rfl⟩), H5.out.1, H5.out.2⟩
    · rw [decide_eq_false h1] at HP
      rw [decide_eq_true h2] at HN
      have H1 := Lib.hid h2
      clear h1 h2
      go_enter Tryz.func13, Tryz.ntmps13
      go_wp2_with fail
      refine HF.out.mono ?_
      rintro e w1 ⟨rfl, rfl⟩
      go_wp2_with fail
      refine HP.out.mono ?_
      rintro e w2 ⟨rfl, rfl⟩
      go_wp2_with fail
      refine HN.out.mono ?_
      rintro e w3 ⟨rfl, rfl⟩
      go_wp2_with fail
      refine (write_any B bb [] [45, 105, 110, 102] w3 hS (by simp) hBw.out).mono ?_
      rintro e w5 ⟨rfl, h5, h6⟩
      have H5 := Lib.hid (And.intro h5 h6)
      clear h5 h6
      go_wp2_with fail
      refine bodyPost_ret (results_none rfl _ _ _) rfl ?_
      exact ⟨rfl, _, .inr (.inr (.inl ⟨H1.out, rfl⟩)), H5.out.1, H5.out.2⟩
    · rw [decide_eq_false h1] at HP
      rw [decide_eq_false h2] at HN
      have H1 := Lib.hid h3
      clear h1 h2 h3
      go_enter Tryz.func13, Tryz.ntmps13
      go_wp2_with fail
      refine HF.out.mono ?_
      rintro e w1 ⟨rfl, rfl⟩
      go_wp2_with fail
      refine HP.out.mono ?_
      rintro e w2 ⟨rfl, rfl⟩
      go_wp2_with fail
      refine HN.out.mono ?_
      rintro e w3 ⟨rfl, rfl⟩
      go_wp2_with fail
      refine (write_any B bb [] [110, 97, 110] w3 hS (by simp) hBw.out).mono ?_
      rintro e w5 ⟨rfl, h5, h6⟩
      have H5 := Lib.hid (And.intro h5 h6)
      clear h5 h6
      go_wp2_with fail
      refine bodyPost_ret (results_none rfl _ _ _) rfl ?_
      exact ⟨rfl, _, .inr (.inr (.inr ⟨H1.out, rfl⟩)), H5.out.1, H5.out.2⟩
/-- A new builder. -/
theorem builder_new {w W : World} (hB : Below w.heap.size w W) (hb : Blk W w.heap.size 40 #[.pointer none, .slice none 0 0]) : Lib.IsBuilder 40 5 w.heap.size w.heap.size (Lib.byteCells []) W :=
  .inl ⟨Nat.le_refl _, .slice none 0 0, hb, World.ownsRow_nil _ _ _ _, by simp [Value.ownBlock]⟩
set_option maxRecDepth 10000 in
set_option maxHeartbeats 1000000 in
theorem string_any (b : Nat) (hb : b < 2 ^ 64) (w : World) (hT : Hid (PowTab w ∧ TenTab w)) (hw : Hid (11 < w.heap.size ∧ 10 < w.heap.size)) :
    Calls Tryz.prog 10 #[.float .f64 b] w fun e w' => ∃ T, Full b T ∧ e = .returned (.string ⟨T.toArray⟩) ∧ Below w.heap.size w w' := by
  have hb' := Lib.hid hb
  clear hb
  go_enter Tryz.func10, Tryz.ntmps10
  go_wp2_with fail
  refine gen1 (M := fun W => Calls _ _ _ W _) fun W1 hB1 b1 hz1 => ?_
  refine (format_any b w.heap.size w.heap.size hb'.out W1 (builder_new hB1 b1) (by show _ ≤ _; omega) ⟨hT.out.1.below hB1 hw.out.2, hT.out.2.below hB1 hw.out.1⟩ ⟨by have := hw.out; omega, by have := hw.out; omega⟩).mono ?_
  rintro e w2 ⟨rfl, T, h1, h2, h3⟩
  have H2 := Lib.hid (And.intro h1 (And.intro h2 (And.intro (hB1.trans h3) (show w.heap.size ≤ w2.heap.size by have := h3.size; omega))))
  clear h1 h2 h3 hB1 b1 hz1
  go_wp2_with fail
  refine (Tryz.Builder_String_any w.heap.size w.heap.size T w2 H2.out.2.1 H2.out.2.2.2).mono ?_
  rintro e w3 ⟨rfl, h4⟩
  have H4 := Lib.hid h4
  clear h4
  go_wp2_with fail
  go_ret
  exact ⟨T, H2.out.1, rfl, H2.out.2.2.1.trans H4.out⟩
set_option maxRecDepth 10000 in
theorem floatOf_any (b : Nat) (w : World) : Calls Tryz.prog 9 #[.int .u64 (b : Int)] w fun e w' => e = .returned (.float .f64 b) ∧ w' = w := by
  have H := fun w => mfrom_run b w
  go_enter Tryz.func9, Tryz.ntmps9
  go_wp2_with (simp only [H])
  go_ret
  exact ⟨rfl, rfl⟩
set_option maxRecDepth 10000 in
theorem floatText_any (b : Nat) (hb : b < 2 ^ 64) (w : World) (hT : Hid (PowTab w ∧ TenTab w)) (hw : Hid (11 < w.heap.size ∧ 10 < w.heap.size)) :
    Calls Tryz.prog 4 #[.int .u64 (b : Int)] w fun e w' => ∃ T, Full b T ∧ e = .returned (.string ⟨T.toArray⟩) ∧ Below w.heap.size w w' := by
  have H1 := Lib.hid (floatOf_any b w)
  have H2 := Lib.hid (string_any b hb w hT hw)
  clear hb
  go_enter Tryz.func4, Tryz.ntmps4
  go_wp2_with fail
  refine H1.out.mono ?_
  rintro e w1 ⟨rfl, rfl⟩
  go_wp2_with fail
  refine H2.out.mono ?_
  rintro e w2 ⟨T, h1, rfl, h2⟩
  have H3 := Lib.hid (And.intro h1 h2)
  clear h1 h2
  go_wp2_with fail
  go_ret
  exact ⟨T, H3.out.1, rfl, H3.out.2⟩
end Go.Proofs.YtmphnnmnbpheiaaGreatDoor
