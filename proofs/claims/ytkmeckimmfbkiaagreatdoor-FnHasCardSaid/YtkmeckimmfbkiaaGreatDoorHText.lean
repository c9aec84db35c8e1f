/- Is one text a part of another? Does a value hold another one? Conditions: none. -/
import Derived.Test.YtkmeckimmfbkiaaGreatDoorJSEq1
import Derived.Lib.IndexBytes
import Derived.Test.YtkmeckimmfbkiaaGreatDoorKEq
namespace Go.Proofs.YtkmeckimmfbkiaaGreatDoor
open Go Go.RowKit
/-- Is t a part of s? -/
def partB (s t : ByteArray) : Bool := (List.range (s.size + 1)).any fun i => decide (i + t.size ≤ s.size) && decide (s.extract i (i + t.size) = t)
theorem partB_yes {s t : ByteArray} {i : Nat} (hi : i + t.size ≤ s.size) (h : s.extract i (i + t.size) = t) : partB s t = true := by
  unfold partB
  rw [List.any_eq_true]
  exact ⟨i, List.mem_range.2 (by omega), by simp [hi, h]⟩
theorem partB_no {s t : ByteArray} (h : ∀ i, i + t.size ≤ s.size → s.extract i (i + t.size) ≠ t) : partB s t = false := by
  unfold partB
  rw [List.any_eq_false]
  intro i _
  by_cases hi : i + t.size ≤ s.size
  · simp [hi, h i hi]
  · simp [hi]
theorem ext_occ (s t : ByteArray) (i : Nat) (hi : i + t.size ≤ s.size) : s.extract i (i + t.size) = t ↔ Lib.occAt s.data.toList t.data.toList i = true := by
  rw [Lib.occ_of_piece s t i hi, beq_iff_eq, ByteArray.toList_eq, ByteArray.toList_eq]
  exact ⟨fun h => by rw [h], fun h => ByteArray.ext (Array.toList_inj.1 h)⟩
/-- One byte is looked for. -/
theorem part_one (s : ByteArray) (c : UInt8) : decide (0 ≤ Lib.indexByte s.data.toList c) = partB s ⟨#[c]⟩ := by
  have h1 : (ByteArray.mk #[c]).size = 1 := rfl
  by_cases h : Lib.indexByte s.data.toList c = -1
  · rw [h, partB_no]
    · rfl
    · intro i hi he
      have hn := Lib.indexByte_none h i
      exact hn (Lib.occAt_head (sub := [c]) rfl ((ext_occ s _ i hi).1 he))
  · have hge := Lib.indexByte_ge s.data.toList c
    obtain ⟨o, ho⟩ : ∃ o : Nat, Lib.indexByte s.data.toList c = o := ⟨(Lib.indexByte s.data.toList c).toNat, by omega⟩
    obtain ⟨h2, _⟩ := Lib.indexByte_some ho
    have ho2 : o < s.data.toList.length := (List.getElem?_eq_some_iff.1 h2).1
    have hs : s.data.toList.length = s.size := Array.length_toList
    rw [ho, partB_yes (i := o) (by rw [h1]; omega) ((ext_occ s _ o (by rw [h1]; omega)).2 ?_)]
    · simp
    · show Lib.occAt s.data.toList [c] o = true
      obtain ⟨h3, h4⟩ := List.getElem?_eq_some_iff.1 h2
      rw [Lib.occAt_iff_take _ _ _ (by simp; omega), List.drop_eq_getElem_cons h3, h4]
      simp
/-- A place, or -1. -/
def Idx (w : World) (T : Bool) (e : Ending) (w' : World) : Prop := ∃ k : Int, e = .returned (.int .i64 k) ∧ decide (0 ≤ k) = T ∧ Below w.heap.size w w'
set_option maxRecDepth 10000 in
set_option maxHeartbeats 1000000 in
theorem place_any (s t : ByteArray) (w : World) (hs : s.size ≤ 60) (ht : t.size ≤ 60) : Calls Tryz.prog 26 #[.string s, .string t] w (Idx w (partB s t)) := by
  obtain ⟨T, hT⟩ : ∃ T, T = partB s t := ⟨_, rfl⟩
  rw [← hT]
  have HT := Lib.hid hT
  clear hT
  go_enter Tryz.func26, Tryz.ntmps26
  go_wp2_with fail
  go_loopw [5] (fun vi wr => ∃ i : Nat, vi = .int .i64 i ∧ i ≤ s.size + 1 ∧ (∀ j, j < i → j + t.size ≤ s.size → s.extract j (j + t.size) ≠ t) ∧ Below w.heap.size w wr) (fun vi _ => s.size + 2 - (intOf vi).toNat)
  case atStart => exact ⟨0, rfl, by omega, fun j hj => by omega, Below.refl _ _⟩
  case round =>
    obtain ⟨i, rfl, hi, hall, hB⟩ := hrel
    have w1 : IntKind.i64.wrap ((i : Int) + (t.size : Int)) = (i : Int) + (t.size : Int) := by rw [IntKind.wrap_i64]; omega
    have w2 : IntKind.i64.wrap ((i : Int) + 1) = (i : Int) + 1 := by rw [IntKind.wrap_i64]; omega
    have HH := Lib.hid (And.intro hi (And.intro hall hB))
    clear hi hall hB
    rcases Nat.lt_or_ge s.size (i + t.size) with hgt | hle
    · have hki : ¬ ((i : Int) + (t.size : Int) ≤ (s.size : Int)) := by omega
      have HP := Lib.hid (show T = false by rw [HT.out]; exact partB_no fun j hj => HH.out.2.1 j (by omega) hj)
      go_wp2_with fail
      go_ret
      exact ⟨-1, rfl, by rw [HP.out]; rfl, HH.out.2.2⟩
    · have hki : (i : Int) + (t.size : Int) ≤ (s.size : Int) := by omega
      have z0 : (0 : Int) ≤ (i : Int) := by omega
      have z1 : (i : Int) ≤ (i : Int) + (t.size : Int) := by omega
      have n1 : ((i : Int) + (t.size : Int)).toNat = i + t.size := by omega
      by_cases he : s.extract i (i + t.size) = t
      · have hd : ((s.extract i (i + t.size)).toList == t.toList) = true := by rw [he]; simp
        have HP := Lib.hid (show T = true by rw [HT.out]; exact partB_yes hle he)
        clear he
        go_wp2_with fail
        go_ret
        exact ⟨i, rfl, by rw [HP.out]; simp, HH.out.2.2⟩
      · have hd : ((s.extract i (i + t.size)).toList == t.toList) = false := by
          rw [beq_eq_false_iff_ne]
          intro h
          apply he
          rw [ByteArray.toList_eq, ByteArray.toList_eq] at h
          exact ByteArray.ext (Array.toList_inj.1 h)
        have HE := Lib.hid he
        clear he
        go_wp2_with fail
        exact ⟨⟨i + 1, rfl, by omega, fun j hj hle2 => by
          rcases Nat.lt_or_ge j i with h | h
          · exact HH.out.2.1 j h hle2
          · have e : j = i := by omega
            rw [e]; exact HE.out, HH.out.2.2⟩, by simp only [intOf]; omega⟩
set_option maxRecDepth 10000 in
set_option maxHeartbeats 1000000 in
theorem zzIndex_any (s t : ByteArray) (w : World) (hs : s.size ≤ 60) (ht : t.size ≤ 60) : Calls Tryz.prog 303 #[.string s, .string t] w (Idx w (partB s t)) := by
  obtain ⟨T, hT⟩ : ∃ T, T = partB s t := ⟨_, rfl⟩
  rw [← hT]
  have HT := Lib.hid hT
  clear hT
  go_enter Tryz.func303, Tryz.ntmps303
  go_wp2_with fail
  go_loopw [5] (fun vi wr => ∃ i : Nat, vi = .int .i64 i ∧ i ≤ s.size + 1 ∧ (∀ j, j < i → j + t.size ≤ s.size → s.extract j (j + t.size) ≠ t) ∧ Below w.heap.size w wr) (fun vi _ => s.size + 2 - (intOf vi).toNat)
  case atStart => exact ⟨0, rfl, by omega, fun j hj => by omega, Below.refl _ _⟩
  case round =>
    obtain ⟨i, rfl, hi, hall, hB⟩ := hrel
    have w1 : IntKind.i64.wrap ((i : Int) + (t.size : Int)) = (i : Int) + (t.size : Int) := by rw [IntKind.wrap_i64]; omega
    have w2 : IntKind.i64.wrap ((i : Int) + 1) = (i : Int) + 1 := by rw [IntKind.wrap_i64]; omega
    have HH := Lib.hid (And.intro hi (And.intro hall hB))
    clear hi hall hB
    rcases Nat.lt_or_ge s.size (i + t.size) with hgt | hle
    · have hki : ¬ ((i : Int) + (t.size : Int) ≤ (s.size : Int)) := by omega
      have HP := Lib.hid (show T = false by rw [HT.out]; exact partB_no fun j hj => HH.out.2.1 j (by omega) hj)
      go_wp2_with fail
      go_ret
      exact ⟨-1, rfl, by rw [HP.out]; rfl, HH.out.2.2⟩
    · have hki : (i : Int) + (t.size : Int) ≤ (s.size : Int) := by omega
      have z0 : (0 : Int) ≤ (i : Int) := by omega
      have z1 : (i : Int) ≤ (i : Int) + (t.size : Int) := by omega
      have n1 : ((i : Int) + (t.size : Int)).toNat = i + t.size := by omega
      by_cases he : s.extract i (i + t.size) = t
      · have hd : ((s.extract i (i + t.size)).toList == t.toList) = true := by rw [he]; simp
        have HP := Lib.hid (show T = true by rw [HT.out]; exact partB_yes hle he)
        clear he
        go_wp2_with fail
        go_ret
        exact ⟨i, rfl, by rw [HP.out]; simp, HH.out.2.2⟩
      · have hd : ((s.extract i (i + t.size)).toList == t.toList) = false := by
          rw [beq_eq_false_iff_ne]
          intro h
          apply he
          rw [ByteArray.toList_eq, ByteArray.toList_eq] at h
          exact ByteArray.ext (Array.toList_inj.1 h)
        have HE := Lib.hid he
        clear he
        go_wp2_with fail
        exact ⟨⟨i + 1, rfl, by omega, fun j hj hle2 => by
          rcases Nat.lt_or_ge j i with h | h
          · exact HH.out.2.1 j h hle2
          · have e : j = i := by omega
            rw [e]; exact HE.out, HH.out.2.2⟩, by simp only [intOf]; omega⟩
set_option maxRecDepth 10000 in
theorem zzContains_any (s t : ByteArray) (w : World) (hs : s.size ≤ 60) (ht : t.size ≤ 60) : Calls Tryz.prog 300 #[.string s, .string t] w (RetB w (partB s t)) := by
  have H := Lib.hid (zzIndex_any s t w hs ht)
  clear hs ht
  go_enter Tryz.func300, Tryz.ntmps300
  go_wp2_with fail
  refine H.out.mono ?_
  rintro e w1 ⟨k, rfl, hk, hB⟩
  have HB := Lib.hid (And.intro hB hk)
  clear hB H hk
  go_wp2
  go_ret
  exact ⟨by rw [← HB.out.2]; rfl, HB.out.1⟩
end Go.Proofs.YtkmeckimmfbkiaaGreatDoor
namespace Go.Proofs.YtkmeckimmfbkiaaGreatDoor
open Go Go.RowKit
/-- One byte. -/
def oneB (n : Int) : ByteArray := ⟨#[UInt8.ofNat n.toNat]⟩
/-- Does the first hold the second? None: that can't be asked. -/
def hasV : S → S → Option Bool
  | .list l, t => some (l.any fun a => eqV a t)
  | .tuple l, t => some (l.any fun a => eqV a t)
  | .set l, t => if keyS t then some (l.any fun a => eqV a t) else none
  | .str s, .str t => some (partB s t)
  | .bytes s, .bytes t => some (partB s t)
  | .bytes s, .int n => if 0 ≤ n ∧ n < 256 then some (partB s (oneB n)) else none
  | _, _ => none
/-- What a Has of a value answers. -/
def HasC (w : World) (o : Option Bool) (e : Ending) (w' : World) : Prop := (match o with | some b => e = .returned (.tuple #[.bool b, .nilIface]) | none => ∃ t v, e = .returned (.tuple #[.bool false, .iface t v])) ∧ Below w.heap.size w w'
theorem any_at {l : List S} {t : S} {k : Nat} {a : S} (h : l[k]? = some a) (he : eqV a t = true) : (l.any fun a => eqV a t) = true := List.any_eq_true.2 ⟨a, List.mem_of_getElem? h, he⟩
theorem any_none {l : List S} {t : S} (h : ∀ (k : Nat) (a : S), l[k]? = some a → eqV a t = false) : (l.any fun a => eqV a t) = false := by
  rw [List.any_eq_false]
  intro a ha
  obtain ⟨k, hk, rfl⟩ := List.getElem_of_mem ha
  rw [h k _ (List.getElem?_eq_getElem hk)]
  simp
end Go.Proofs.YtkmeckimmfbkiaaGreatDoor
