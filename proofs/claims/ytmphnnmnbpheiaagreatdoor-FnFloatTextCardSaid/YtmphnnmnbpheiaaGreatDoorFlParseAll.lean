/- A float's text, whatever float, is read as it. -/
import Derived.Test.YtmphnnmnbpheiaaGreatDoorFlAtof
namespace Go.Proofs.YtmphnnmnbpheiaaGreatDoor
open Go Go.RowKit
open Fl
/-- What lies in the variables that reading looks at. -/
structure Laid (w : World) : Prop where
  pow : PowTab w
  ten : P10 w
  info : Info w
  opt : Opt w
  lt : 10 < w.heap.size
/-- What is read: the float, or the one number that is none. -/
def back (b : Nat) : Nat := if 2047 * 2 ^ 52 < b % 2 ^ 63 then 9221120237041090561 else b
set_option maxRecDepth 10000 in
theorem atof_spec (s : ByteArray) (v n B : Nat) (w : World) (hB : B = w.heap.size) (H : Hid (∀ w, Calls Tryz.prog 34 #[.string s] w (Spec v n w))) :
    Calls Tryz.prog 26 #[.string s] w (Read v n B w) := by
  go_enter Tryz.func26, Tryz.ntmps26
  go_wp2_with fail
  refine (H.out w).mono ?_
  rintro e w1 ⟨rfl, rfl⟩
  go_wp2_with fail
  refine bodyPost_ret (results_tmp3 rfl _ _ _) rfl ?_
  exact ⟨rfl, .refl _ _⟩
theorem atof_any {b : Nat} {T : List UInt8} (h : Full b T) (hb : b < 2 ^ 64) (w : World) (hL : Laid w) :
    Calls Tryz.prog 26 #[.string ⟨T.toArray⟩] w (Read (back b) T.length w.heap.size w) := by
  rcases h with ⟨hf, t, ht, rfl⟩ | ⟨hi, rfl⟩ | ⟨hi, rfl⟩ | ⟨hn, rfl⟩
  · obtain ⟨I, F, E, hasE, xn, hN⟩ := num_of ht
    have e : back b = b := by unfold back; rw [if_neg (by omega)]
    rw [e]
    exact atof_num hN hb w hL.opt hL.info hL.ten hL.pow hL.lt hf
  · have e : back b = 9218868437227405312 := by unfold back; rw [if_neg (by omega)]; omega
    rw [e]
    exact atof_spec _ _ _ _ w rfl (Lib.hid special_pinf)
  · have e : back b = 18442240474082181120 := by unfold back; rw [if_neg (by omega)]; omega
    rw [e]
    exact atof_spec _ _ _ _ w rfl (Lib.hid special_ninf)
  · have e : back b = 9221120237041090561 := by unfold back; rw [if_pos hn]
    rw [e]
    exact atof_spec _ _ _ _ w rfl (Lib.hid special_nan)
set_option maxRecDepth 10000 in
theorem prefix_any (s : ByteArray) (v n B : Nat) (w : World) (H : Hid (Calls Tryz.prog 26 #[.string s] w (Read v n B w))) :
    Calls Tryz.prog 15 #[.string s, .int .i64 64] w (Read v n B w) := by
  go_enter Tryz.func15, Tryz.ntmps15
  go_wp2_with fail
  refine H.out.mono ?_
  rintro e w1 ⟨rfl, hbw⟩
  have HB := Lib.hid hbw
  clear hbw
  go_wp2_with fail
  refine bodyPost_ret (results_tmp3 rfl _ _ _) rfl ?_
  exact ⟨rfl, HB.out⟩
/-- A float and no error. -/
def Red (v B : Nat) (w : World) (e : Ending) (w' : World) : Prop := Fine v e ∧ Below B w w'
set_option maxRecDepth 10000 in
theorem iparse_any (s : ByteArray) (v n B : Nat) (hn : s.size = n) (hn2 : n ≤ 1000) (w : World) (H : Hid (Calls Tryz.prog 26 #[.string s] w (Read v n B w))) :
    Calls Tryz.prog 11 #[.string s, .int .i64 64] w (Red v B w) := by
  have HP := Lib.hid (prefix_any s v n B w H)
  clear H
  go_enter Tryz.func11, Tryz.ntmps11
  go_wp2_with fail
  refine HP.out.mono ?_
  rintro e w1 ⟨rfl, hbw⟩
  have HB := Lib.hid hbw
  clear hbw
  go_wp2_with fail
  go_ret2
  exact ⟨rfl, HB.out⟩
set_option maxRecDepth 10000 in
theorem sparse_any (s : ByteArray) (v n B : Nat) (hn : s.size = n) (hn2 : n ≤ 1000) (w : World) (H : Hid (Calls Tryz.prog 26 #[.string s] w (Read v n B w))) :
    Calls Tryz.prog 5 #[.string s, .int .i64 64] w (Red v B w) := by
  have HP := Lib.hid (iparse_any s v n B hn hn2 w H)
  clear H
  go_enter Tryz.func5, Tryz.ntmps5
  go_wp2_with fail
  refine HP.out.mono ?_
  rintro e w1 ⟨rfl, hbw⟩
  have HB := Lib.hid hbw
  clear hbw
  go_wp2_with fail
  go_ret2
  exact ⟨rfl, HB.out⟩
theorem full_len {b : Nat} {T : List UInt8} (h : Full b T) : T.length ≤ 100 := by
  rcases h with ⟨hf, t, ht, rfl⟩ | ⟨hi, rfl⟩ | ⟨hi, rfl⟩ | ⟨hn, rfl⟩
  · obtain ⟨I, F, E, hasE, xn, h⟩ := num_of ht
    have hlen := h.len
    have hi2 := h.i25
    have hf2 := h.f25
    have he3 := h.e3
    have hfl2 : (frac F).length ≤ 26 := by rw [frac_len]; split <;> omega
    have hel : (expo hasE xn E).length ≤ 5 := by unfold expo; split <;> simp; omega
    have hs : (sgn (decide (2 ^ 63 ≤ b))).length ≤ 1 := by unfold sgn; split <;> simp
    omega
  · decide
  · decide
  · decide
theorem parse_any {b : Nat} {T : List UInt8} (h : Full b T) (hb : b < 2 ^ 64) (w : World) (hL : Laid w) :
    Calls Tryz.prog 5 #[.string ⟨T.toArray⟩, .int .i64 64] w (Red (back b) w.heap.size w) :=
  sparse_any _ _ T.length _ rfl (by have := full_len h; omega) w (Lib.hid (atof_any h hb w hL))
end Go.Proofs.YtmphnnmnbpheiaaGreatDoor
