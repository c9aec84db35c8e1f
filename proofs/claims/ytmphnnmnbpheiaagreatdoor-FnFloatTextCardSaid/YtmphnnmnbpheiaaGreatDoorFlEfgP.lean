/- The text with an exponent, without a sign: the walk, printed by genefg.py. -/
import Derived.Test.YtmphnnmnbpheiaaGreatDoorFlEfg
namespace Go.Proofs.YtmphnnmnbpheiaaGreatDoor
open Go Go.RowKit
open Fl
set_option maxRecDepth 10000 in
set_option maxHeartbeats 4000000 in
theorem efgE_posn (base gb : Nat) (l : List UInt8) (w0 w : World) (A : Option Addr) (c : Nat) (hD : Hid (Dst base gb l w0 w (.slice A 0 c) 0 [])) (dp : Int) (nd : Nat) (hnd : Hid (nd = l.length)) (h1 : 2 ≤ nd) (h17 : nd ≤ 17) (hx : dp - 1 < -4 ∨ 6 ≤ dp - 1) (hx1 : -400 ≤ dp - 1) (hx2 : dp - 1 ≤ 400) :
    Calls Tryz.prog 73 #[.slice A 0 c, .bool false, .slice (some ⟨gb, 0, none⟩) 32 32, .int .i64 dp, .int .i64 nd, .int .i64 nd, .int .u8 103, .bool true] w (Told base w0 (efgE false l (dp - 1))) := by
  have hl0 : 0 < l.length := by have := hnd.out; omega
  generalize hb0 : l[0] = b0
  have HT := Lib.hid (show l.take 1 = [b0] by rw [← hb0, List.take_one, List.head?_eq_getElem?, List.getElem?_eq_getElem hl0]; rfl)
  have HB0 : Hid (∃ h : 0 < l.length, l[0] = b0) := Lib.hid ⟨hl0, hb0⟩
  clear hb0 hl0
  rcases hx with hx | hx
  · obtain ⟨y, hy⟩ : ∃ y : Nat, Hid (dp - 1 = -(y : Int)) := ⟨(dp - 1).natAbs, by show _ = _; omega⟩
    have hyl : 5 ≤ y ∧ y ≤ 400 := by have := hy.out; omega
    rcases (show y < 10 ∨ (10 ≤ y ∧ y < 100) ∨ 100 ≤ y by omega) with hm | hm | hm
    · have hm' : -10 < dp - 1 := by have := hy.out; omega
      go_enter Tryz.func73, Tryz.ntmps73
      obtain ⟨h0, e0⟩ := HB0.out
      have k1 := hD.out.dig.2 0 h0
      rw [e0] at k1
      clear e0 h0
      go_wp2_with (at_builtin; refine app_dst rfl _ _ rfl base gb l w0 _ (0) _ rfl (hD.out.alloc _) _ _ _ _ [b0] rfl (reads_new [b0] (cells1 rfl) _ rfl) (by omega) ?_)
      intro A1 c1 w1 hD1
      have HD1 := Lib.hid hD1
      clear hD1
      clear k1
      go_wp2_with (at_builtin; refine app_dst rfl _ _ rfl base gb l w0 _ (0 + 1) _ rfl (HD1.out.alloc _) _ _ _ _ [46] rfl (reads_new [46] (cells1 rfl) _ rfl) (by omega) ?_)
      intro A2 c2 w2 hD2
      have HD2 := Lib.hid hD2
      clear hD2
      go_wp2_with (at_builtin; refine app_dst rfl _ _ rfl base gb l w0 _ (0 + 1 + 1) _ rfl HD2.out _ _ _ _ (l.drop 1) rfl (HD2.out.dig.reads 1 (nd - 1) (by have := hnd.out; omega)) (by omega) ?_)
      intro A3 c3 w3 hD3
      have HD3 := Lib.hid hD3
      clear hD3
      go_wp2_with fail
      go_loop [0, 114] (fun d i => d = .slice A3 (0 + 1 + 1 + (nd - 1)) c3 ∧ i = .int .i64 0) (fun _ _ => 0)
      case' atStart => exact ⟨rfl, rfl⟩
      obtain ⟨rfl, rfl⟩ := hrel
      go_wp2_with (at_builtin; refine app_dst rfl _ _ rfl base gb l w0 _ (0 + 1 + 1 + (nd - 1)) _ rfl (HD3.out.alloc _) _ _ _ _ [101] rfl (reads_new [101] (cells1 rfl) _ rfl) (by omega) ?_)
      intro A4 c4 w4 hD4
      have HD4 := Lib.hid hD4
      clear hD4
      go_wp2_with (at_builtin; refine app_dst rfl _ _ rfl base gb l w0 _ (0 + 1 + 1 + (nd - 1) + 1) _ rfl (HD4.out.alloc _) _ _ _ _ [45] rfl (reads_new [45] (cells1 rfl) _ rfl) (by omega) ?_)
      intro A5 c5 w5 hD5
      have HD5 := Lib.hid hD5
      clear hD5
      go_wp2_with (at_builtin; refine app_dst rfl _ _ rfl base gb l w0 _ (0 + 1 + 1 + (nd - 1) + 1 + 1) _ rfl (HD5.out.alloc _) _ _ _ _ [48, UInt8.ofNat (48 + y)] rfl (reads_new [48, UInt8.ofNat (48 + y)] (cells2 rfl (by rw [byte_of y (by omega)]; have := hy.out; omega)) _ rfl) (by omega) ?_)
      intro A6 c6 w6 hD6
      have HD6 := Lib.hid hD6
      clear hD6
      go_wp2_with fail
      go_ret
      refine told_of HD6.out ?_
      have e1 := hy.out
      have e2 := hnd.out
      have e3 : exp2 (dp - 1).natAbs = [48, UInt8.ofNat (48 + y)] := by rw [show (dp - 1).natAbs = y by omega, exp2, if_pos (by omega)]
      rw [efgE, HT.out, e3, if_pos (show 1 < l.length by omega), if_pos (show dp - 1 < 0 by omega)]
      simp [sgn]
    · have hm' : dp - 1 ≤ -10 ∧ -100 < dp - 1 := by have := hy.out; omega
      have t1 : wrap64 (-((dp - 1).tdiv 10)) = ((y / 10 : Nat) : Int) := by rw [hy.out, Int.neg_tdiv, Int.tdiv_eq_ediv_of_nonneg (by omega), IntWalk.wrap64_in _ (by omega)]; omega
      have t2 : -((dp - 1).tmod 10) = ((y % 10 : Nat) : Int) := by rw [hy.out, Int.neg_tmod, Int.tmod_eq_emod_of_nonneg (by omega)]; omega
      go_enter Tryz.func73, Tryz.ntmps73
      obtain ⟨h0, e0⟩ := HB0.out
      have k1 := hD.out.dig.2 0 h0
      rw [e0] at k1
      clear e0 h0
      go_wp2_with (at_builtin; refine app_dst rfl _ _ rfl base gb l w0 _ (0) _ rfl (hD.out.alloc _) _ _ _ _ [b0] rfl (reads_new [b0] (cells1 rfl) _ rfl) (by omega) ?_)
      intro A1 c1 w1 hD1
      have HD1 := Lib.hid hD1
      clear hD1
      clear k1
      go_wp2_with (at_builtin; refine app_dst rfl _ _ rfl base gb l w0 _ (0 + 1) _ rfl (HD1.out.alloc _) _ _ _ _ [46] rfl (reads_new [46] (cells1 rfl) _ rfl) (by omega) ?_)
      intro A2 c2 w2 hD2
      have HD2 := Lib.hid hD2
      clear hD2
      go_wp2_with (at_builtin; refine app_dst rfl _ _ rfl base gb l w0 _ (0 + 1 + 1) _ rfl HD2.out _ _ _ _ (l.drop 1) rfl (HD2.out.dig.reads 1 (nd - 1) (by have := hnd.out; omega)) (by omega) ?_)
      intro A3 c3 w3 hD3
      have HD3 := Lib.hid hD3
      clear hD3
      go_wp2_with fail
      go_loop [0, 114] (fun d i => d = .slice A3 (0 + 1 + 1 + (nd - 1)) c3 ∧ i = .int .i64 0) (fun _ _ => 0)
      case' atStart => exact ⟨rfl, rfl⟩
      obtain ⟨rfl, rfl⟩ := hrel
      go_wp2_with (at_builtin; refine app_dst rfl _ _ rfl base gb l w0 _ (0 + 1 + 1 + (nd - 1)) _ rfl (HD3.out.alloc _) _ _ _ _ [101] rfl (reads_new [101] (cells1 rfl) _ rfl) (by omega) ?_)
      intro A4 c4 w4 hD4
      have HD4 := Lib.hid hD4
      clear hD4
      go_wp2_with (at_builtin; refine app_dst rfl _ _ rfl base gb l w0 _ (0 + 1 + 1 + (nd - 1) + 1) _ rfl (HD4.out.alloc _) _ _ _ _ [45] rfl (reads_new [45] (cells1 rfl) _ rfl) (by omega) ?_)
      intro A5 c5 w5 hD5
      have HD5 := Lib.hid hD5
      clear hD5
      go_wp2_with (at_builtin; refine app_dst rfl _ _ rfl base gb l w0 _ (0 + 1 + 1 + (nd - 1) + 1 + 1) _ rfl (HD5.out.alloc _) _ _ _ _ [UInt8.ofNat (48 + y / 10), UInt8.ofNat (48 + y % 10)] rfl (reads_new [UInt8.ofNat (48 + y / 10), UInt8.ofNat (48 + y % 10)] (cells2 (by rw [byte_of (y / 10) (by omega)]; have := hy.out; omega) (by rw [byte_of (y % 10) (by omega)]; have := hy.out; omega)) _ rfl) (by omega) ?_)
      intro A6 c6 w6 hD6
      have HD6 := Lib.hid hD6
      clear hD6
      go_wp2_with fail
      go_ret
      refine told_of HD6.out ?_
      have e1 := hy.out
      have e2 := hnd.out
      have e3 : exp2 (dp - 1).natAbs = [UInt8.ofNat (48 + y / 10), UInt8.ofNat (48 + y % 10)] := by rw [show (dp - 1).natAbs = y by omega, exp2, if_neg (by omega), if_pos (by omega)]
      rw [efgE, HT.out, e3, if_pos (show 1 < l.length by omega), if_pos (show dp - 1 < 0 by omega)]
      simp [sgn]
    · have hm' : dp - 1 ≤ -100 := by have := hy.out; omega
      have t1 : wrap64 (-((dp - 1).tdiv 10)) = ((y / 10 : Nat) : Int) := by rw [hy.out, Int.neg_tdiv, Int.tdiv_eq_ediv_of_nonneg (by omega), IntWalk.wrap64_in _ (by omega)]; omega
      have t2 : -((dp - 1).tmod 10) = ((y % 10 : Nat) : Int) := by rw [hy.out, Int.neg_tmod, Int.tmod_eq_emod_of_nonneg (by omega)]; omega
      have t3 : wrap64 (-((dp - 1).tdiv 100)) = ((y / 100 : Nat) : Int) := by rw [hy.out, Int.neg_tdiv, Int.tdiv_eq_ediv_of_nonneg (by omega), IntWalk.wrap64_in _ (by omega)]; omega
      go_enter Tryz.func73, Tryz.ntmps73
      obtain ⟨h0, e0⟩ := HB0.out
      have k1 := hD.out.dig.2 0 h0
      rw [e0] at k1
      clear e0 h0
      go_wp2_with (at_builtin; refine app_dst rfl _ _ rfl base gb l w0 _ (0) _ rfl (hD.out.alloc _) _ _ _ _ [b0] rfl (reads_new [b0] (cells1 rfl) _ rfl) (by omega) ?_)
      intro A1 c1 w1 hD1
      have HD1 := Lib.hid hD1
      clear hD1
      clear k1
      go_wp2_with (at_builtin; refine app_dst rfl _ _ rfl base gb l w0 _ (0 + 1) _ rfl (HD1.out.alloc _) _ _ _ _ [46] rfl (reads_new [46] (cells1 rfl) _ rfl) (by omega) ?_)
      intro A2 c2 w2 hD2
      have HD2 := Lib.hid hD2
      clear hD2
      go_wp2_with (at_builtin; refine app_dst rfl _ _ rfl base gb l w0 _ (0 + 1 + 1) _ rfl HD2.out _ _ _ _ (l.drop 1) rfl (HD2.out.dig.reads 1 (nd - 1) (by have := hnd.out; omega)) (by omega) ?_)
      intro A3 c3 w3 hD3
      have HD3 := Lib.hid hD3
      clear hD3
      go_wp2_with fail
      go_loop [0, 114] (fun d i => d = .slice A3 (0 + 1 + 1 + (nd - 1)) c3 ∧ i = .int .i64 0) (fun _ _ => 0)
      case' atStart => exact ⟨rfl, rfl⟩
      obtain ⟨rfl, rfl⟩ := hrel
      go_wp2_with (at_builtin; refine app_dst rfl _ _ rfl base gb l w0 _ (0 + 1 + 1 + (nd - 1)) _ rfl (HD3.out.alloc _) _ _ _ _ [101] rfl (reads_new [101] (cells1 rfl) _ rfl) (by omega) ?_)
      intro A4 c4 w4 hD4
      have HD4 := Lib.hid hD4
      clear hD4
      go_wp2_with (at_builtin; refine app_dst rfl _ _ rfl base gb l w0 _ (0 + 1 + 1 + (nd - 1) + 1) _ rfl (HD4.out.alloc _) _ _ _ _ [45] rfl (reads_new [45] (cells1 rfl) _ rfl) (by omega) ?_)
      intro A5 c5 w5 hD5
      have HD5 := Lib.hid hD5
      clear hD5
      go_wp2_with (at_builtin; refine app_dst rfl _ _ rfl base gb l w0 _ (0 + 1 + 1 + (nd - 1) + 1 + 1) _ rfl (HD5.out.alloc _) _ _ _ _ [UInt8.ofNat (48 + y / 100), UInt8.ofNat (48 + y / 10 % 10), UInt8.ofNat (48 + y % 10)] rfl (reads_new [UInt8.ofNat (48 + y / 100), UInt8.ofNat (48 + y / 10 % 10), UInt8.ofNat (48 + y % 10)] (cells3 (by rw [byte_of (y / 100) (by omega)]; have := hy.out; omega) (by rw [byte_of (y / 10 % 10) (by omega)]; have := hy.out; omega) (by rw [byte_of (y % 10) (by omega)]; have := hy.out; omega)) _ rfl) (by omega) ?_)
      intro A6 c6 w6 hD6
      have HD6 := Lib.hid hD6
      clear hD6
      go_wp2_with fail
      go_ret
      refine told_of HD6.out ?_
      have e1 := hy.out
      have e2 := hnd.out
      have e3 : exp2 (dp - 1).natAbs = [UInt8.ofNat (48 + y / 100), UInt8.ofNat (48 + y / 10 % 10), UInt8.ofNat (48 + y % 10)] := by rw [show (dp - 1).natAbs = y by omega, exp2, if_neg (by omega), if_neg (by omega)]
      rw [efgE, HT.out, e3, if_pos (show 1 < l.length by omega), if_pos (show dp - 1 < 0 by omega)]
      simp [sgn]
  · obtain ⟨y, hy⟩ : ∃ y : Nat, Hid (dp - 1 = (y : Int)) := ⟨(dp - 1).natAbs, by show _ = _; omega⟩
    have hyl : 6 ≤ y ∧ y ≤ 400 := by have := hy.out; omega
    rcases (show y < 10 ∨ (10 ≤ y ∧ y < 100) ∨ 100 ≤ y by omega) with hm | hm | hm
    · have hm' : dp - 1 < 10 := by have := hy.out; omega
      go_enter Tryz.func73, Tryz.ntmps73
      obtain ⟨h0, e0⟩ := HB0.out
      have k1 := hD.out.dig.2 0 h0
      rw [e0] at k1
      clear e0 h0
      go_wp2_with (at_builtin; refine app_dst rfl _ _ rfl base gb l w0 _ (0) _ rfl (hD.out.alloc _) _ _ _ _ [b0] rfl (reads_new [b0] (cells1 rfl) _ rfl) (by omega) ?_)
      intro A1 c1 w1 hD1
      have HD1 := Lib.hid hD1
      clear hD1
      clear k1
      go_wp2_with (at_builtin; refine app_dst rfl _ _ rfl base gb l w0 _ (0 + 1) _ rfl (HD1.out.alloc _) _ _ _ _ [46] rfl (reads_new [46] (cells1 rfl) _ rfl) (by omega) ?_)
      intro A2 c2 w2 hD2
      have HD2 := Lib.hid hD2
      clear hD2
      go_wp2_with (at_builtin; refine app_dst rfl _ _ rfl base gb l w0 _ (0 + 1 + 1) _ rfl HD2.out _ _ _ _ (l.drop 1) rfl (HD2.out.dig.reads 1 (nd - 1) (by have := hnd.out; omega)) (by omega) ?_)
      intro A3 c3 w3 hD3
      have HD3 := Lib.hid hD3
      clear hD3
      go_wp2_with fail
      go_loop [0, 114] (fun d i => d = .slice A3 (0 + 1 + 1 + (nd - 1)) c3 ∧ i = .int .i64 0) (fun _ _ => 0)
      case' atStart => exact ⟨rfl, rfl⟩
      obtain ⟨rfl, rfl⟩ := hrel
      go_wp2_with (at_builtin; refine app_dst rfl _ _ rfl base gb l w0 _ (0 + 1 + 1 + (nd - 1)) _ rfl (HD3.out.alloc _) _ _ _ _ [101] rfl (reads_new [101] (cells1 rfl) _ rfl) (by omega) ?_)
      intro A4 c4 w4 hD4
      have HD4 := Lib.hid hD4
      clear hD4
      go_wp2_with (at_builtin; refine app_dst rfl _ _ rfl base gb l w0 _ (0 + 1 + 1 + (nd - 1) + 1) _ rfl (HD4.out.alloc _) _ _ _ _ [43] rfl (reads_new [43] (cells1 rfl) _ rfl) (by omega) ?_)
      intro A5 c5 w5 hD5
      have HD5 := Lib.hid hD5
      clear hD5
      go_wp2_with (at_builtin; refine app_dst rfl _ _ rfl base gb l w0 _ (0 + 1 + 1 + (nd - 1) + 1 + 1) _ rfl (HD5.out.alloc _) _ _ _ _ [48, UInt8.ofNat (48 + y)] rfl (reads_new [48, UInt8.ofNat (48 + y)] (cells2 rfl (by rw [byte_of y (by omega)]; have := hy.out; omega)) _ rfl) (by omega) ?_)
      intro A6 c6 w6 hD6
      have HD6 := Lib.hid hD6
      clear hD6
      go_wp2_with fail
      go_ret
      refine told_of HD6.out ?_
      have e1 := hy.out
      have e2 := hnd.out
      have e3 : exp2 (dp - 1).natAbs = [48, UInt8.ofNat (48 + y)] := by rw [show (dp - 1).natAbs = y by omega, exp2, if_pos (by omega)]
      rw [efgE, HT.out, e3, if_pos (show 1 < l.length by omega), if_neg (show ¬ dp - 1 < 0 by omega)]
      simp [sgn]
    · have hm' : 10 ≤ dp - 1 ∧ dp - 1 < 100 := by have := hy.out; omega
      go_enter Tryz.func73, Tryz.ntmps73
      obtain ⟨h0, e0⟩ := HB0.out
      have k1 := hD.out.dig.2 0 h0
      rw [e0] at k1
      clear e0 h0
      go_wp2_with (at_builtin; refine app_dst rfl _ _ rfl base gb l w0 _ (0) _ rfl (hD.out.alloc _) _ _ _ _ [b0] rfl (reads_new [b0] (cells1 rfl) _ rfl) (by omega) ?_)
      intro A1 c1 w1 hD1
      have HD1 := Lib.hid hD1
      clear hD1
      clear k1
      go_wp2_with (at_builtin; refine app_dst rfl _ _ rfl base gb l w0 _ (0 + 1) _ rfl (HD1.out.alloc _) _ _ _ _ [46] rfl (reads_new [46] (cells1 rfl) _ rfl) (by omega) ?_)
      intro A2 c2 w2 hD2
      have HD2 := Lib.hid hD2
      clear hD2
      go_wp2_with (at_builtin; refine app_dst rfl _ _ rfl base gb l w0 _ (0 + 1 + 1) _ rfl HD2.out _ _ _ _ (l.drop 1) rfl (HD2.out.dig.reads 1 (nd - 1) (by have := hnd.out; omega)) (by omega) ?_)
      intro A3 c3 w3 hD3
      have HD3 := Lib.hid hD3
      clear hD3
      go_wp2_with fail
      go_loop [0, 114] (fun d i => d = .slice A3 (0 + 1 + 1 + (nd - 1)) c3 ∧ i = .int .i64 0) (fun _ _ => 0)
      case' atStart => exact ⟨rfl, rfl⟩
      obtain ⟨rfl, rfl⟩ := hrel
      go_wp2_with (at_builtin; refine app_dst rfl _ _ rfl base gb l w0 _ (0 + 1 + 1 + (nd - 1)) _ rfl (HD3.out.alloc _) _ _ _ _ [101] rfl (reads_new [101] (cells1 rfl) _ rfl) (by omega) ?_)
      intro A4 c4 w4 hD4
      have HD4 := Lib.hid hD4
      clear hD4
      go_wp2_with (at_builtin; refine app_dst rfl _ _ rfl base gb l w0 _ (0 + 1 + 1 + (nd - 1) + 1) _ rfl (HD4.out.alloc _) _ _ _ _ [43] rfl (reads_new [43] (cells1 rfl) _ rfl) (by omega) ?_)
      intro A5 c5 w5 hD5
      have HD5 := Lib.hid hD5
      clear hD5
      go_wp2_with (at_builtin; refine app_dst rfl _ _ rfl base gb l w0 _ (0 + 1 + 1 + (nd - 1) + 1 + 1) _ rfl (HD5.out.alloc _) _ _ _ _ [UInt8.ofNat (48 + y / 10), UInt8.ofNat (48 + y % 10)] rfl (reads_new [UInt8.ofNat (48 + y / 10), UInt8.ofNat (48 + y % 10)] (cells2 (by rw [byte_of (y / 10) (by omega)]; have := hy.out; omega) (by rw [byte_of (y % 10) (by omega)]; have := hy.out; omega)) _ rfl) (by omega) ?_)
      intro A6 c6 w6 hD6
      have HD6 := Lib.hid hD6
      clear hD6
      go_wp2_with fail
      go_ret
      refine told_of HD6.out ?_
      have e1 := hy.out
      have e2 := hnd.out
      have e3 : exp2 (dp - 1).natAbs = [UInt8.ofNat (48 + y / 10), UInt8.ofNat (48 + y % 10)] := by rw [show (dp - 1).natAbs = y by omega, exp2, if_neg (by omega), if_pos (by omega)]
      rw [efgE, HT.out, e3, if_pos (show 1 < l.length by omega), if_neg (show ¬ dp - 1 < 0 by omega)]
      simp [sgn]
    · have hm' : 100 ≤ dp - 1 := by have := hy.out; omega
      go_enter Tryz.func73, Tryz.ntmps73
      obtain ⟨h0, e0⟩ := HB0.out
      have k1 := hD.out.dig.2 0 h0
      rw [e0] at k1
      clear e0 h0
      go_wp2_with (at_builtin; refine app_dst rfl _ _ rfl base gb l w0 _ (0) _ rfl (hD.out.alloc _) _ _ _ _ [b0] rfl (reads_new [b0] (cells1 rfl) _ rfl) (by omega) ?_)
      intro A1 c1 w1 hD1
      have HD1 := Lib.hid hD1
      clear hD1
      clear k1
      go_wp2_with (at_builtin; refine app_dst rfl _ _ rfl base gb l w0 _ (0 + 1) _ rfl (HD1.out.alloc _) _ _ _ _ [46] rfl (reads_new [46] (cells1 rfl) _ rfl) (by omega) ?_)
      intro A2 c2 w2 hD2
      have HD2 := Lib.hid hD2
      clear hD2
      go_wp2_with (at_builtin; refine app_dst rfl _ _ rfl base gb l w0 _ (0 + 1 + 1) _ rfl HD2.out _ _ _ _ (l.drop 1) rfl (HD2.out.dig.reads 1 (nd - 1) (by have := hnd.out; omega)) (by omega) ?_)
      intro A3 c3 w3 hD3
      have HD3 := Lib.hid hD3
      clear hD3
      go_wp2_with fail
      go_loop [0, 114] (fun d i => d = .slice A3 (0 + 1 + 1 + (nd - 1)) c3 ∧ i = .int .i64 0) (fun _ _ => 0)
      case' atStart => exact ⟨rfl, rfl⟩
      obtain ⟨rfl, rfl⟩ := hrel
      go_wp2_with (at_builtin; refine app_dst rfl _ _ rfl base gb l w0 _ (0 + 1 + 1 + (nd - 1)) _ rfl (HD3.out.alloc _) _ _ _ _ [101] rfl (reads_new [101] (cells1 rfl) _ rfl) (by omega) ?_)
      intro A4 c4 w4 hD4
      have HD4 := Lib.hid hD4
      clear hD4
      go_wp2_with (at_builtin; refine app_dst rfl _ _ rfl base gb l w0 _ (0 + 1 + 1 + (nd - 1) + 1) _ rfl (HD4.out.alloc _) _ _ _ _ [43] rfl (reads_new [43] (cells1 rfl) _ rfl) (by omega) ?_)
      intro A5 c5 w5 hD5
      have HD5 := Lib.hid hD5
      clear hD5
      go_wp2_with (at_builtin; refine app_dst rfl _ _ rfl base gb l w0 _ (0 + 1 + 1 + (nd - 1) + 1 + 1) _ rfl (HD5.out.alloc _) _ _ _ _ [UInt8.ofNat (48 + y / 100), UInt8.ofNat (48 + y / 10 % 10), UInt8.ofNat (48 + y % 10)] rfl (reads_new [UInt8.ofNat (48 + y / 100), UInt8.ofNat (48 + y / 10 % 10), UInt8.ofNat (48 + y % 10)] (cells3 (by rw [byte_of (y / 100) (by omega)]; have := hy.out; omega) (by rw [byte_of (y / 10 % 10) (by omega)]; have := hy.out; omega) (by rw [byte_of (y % 10) (by omega)]; have := hy.out; omega)) _ rfl) (by omega) ?_)
      intro A6 c6 w6 hD6
      have HD6 := Lib.hid hD6
      clear hD6
      go_wp2_with fail
      go_ret
      refine told_of HD6.out ?_
      have e1 := hy.out
      have e2 := hnd.out
      have e3 : exp2 (dp - 1).natAbs = [UInt8.ofNat (48 + y / 100), UInt8.ofNat (48 + y / 10 % 10), UInt8.ofNat (48 + y % 10)] := by rw [show (dp - 1).natAbs = y by omega, exp2, if_neg (by omega), if_neg (by omega)]
      rw [efgE, HT.out, e3, if_pos (show 1 < l.length by omega), if_neg (show ¬ dp - 1 < 0 by omega)]
      simp [sgn]
set_option maxRecDepth 10000 in
set_option maxHeartbeats 4000000 in
theorem efgE_pos1 (base gb : Nat) (l : List UInt8) (w0 w : World) (A : Option Addr) (c : Nat) (hD : Hid (Dst base gb l w0 w (.slice A 0 c) 0 [])) (dp : Int) (nd : Nat) (hnd : Hid (nd = l.length)) (h1 : 1 ≤ nd) (h17 : nd ≤ 1) (hx : dp - 1 < -4 ∨ 6 ≤ dp - 1) (hx1 : -400 ≤ dp - 1) (hx2 : dp - 1 ≤ 400) :
    Calls Tryz.prog 73 #[.slice A 0 c, .bool false, .slice (some ⟨gb, 0, none⟩) 32 32, .int .i64 dp, .int .i64 nd, .int .i64 nd, .int .u8 103, .bool true] w (Told base w0 (efgE false l (dp - 1))) := by
  have hl0 : 0 < l.length := by have := hnd.out; omega
  generalize hb0 : l[0] = b0
  have HT := Lib.hid (show l.take 1 = [b0] by rw [← hb0, List.take_one, List.head?_eq_getElem?, List.getElem?_eq_getElem hl0]; rfl)
  have HB0 : Hid (∃ h : 0 < l.length, l[0] = b0) := Lib.hid ⟨hl0, hb0⟩
  clear hb0 hl0
  rcases hx with hx | hx
  · obtain ⟨y, hy⟩ : ∃ y : Nat, Hid (dp - 1 = -(y : Int)) := ⟨(dp - 1).natAbs, by show _ = _; omega⟩
    have hyl : 5 ≤ y ∧ y ≤ 400 := by have := hy.out; omega
    rcases (show y < 10 ∨ (10 ≤ y ∧ y < 100) ∨ 100 ≤ y by omega) with hm | hm | hm
    · have hm' : -10 < dp - 1 := by have := hy.out; omega
      go_enter Tryz.func73, Tryz.ntmps73
      obtain ⟨h0, e0⟩ := HB0.out
      have k1 := hD.out.dig.2 0 h0
      rw [e0] at k1
      clear e0 h0
      go_wp2_with (at_builtin; refine app_dst rfl _ _ rfl base gb l w0 _ (0) _ rfl (hD.out.alloc _) _ _ _ _ [b0] rfl (reads_new [b0] (cells1 rfl) _ rfl) (by omega) ?_)
      intro A1 c1 w1 hD1
      have HD1 := Lib.hid hD1
      clear hD1
      clear k1
      go_wp2_with (at_builtin; refine app_dst rfl _ _ rfl base gb l w0 _ (0 + 1) _ rfl (HD1.out.alloc _) _ _ _ _ [101] rfl (reads_new [101] (cells1 rfl) _ rfl) (by omega) ?_)
      intro A2 c2 w2 hD2
      have HD2 := Lib.hid hD2
      clear hD2
      go_wp2_with (at_builtin; refine app_dst rfl _ _ rfl base gb l w0 _ (0 + 1 + 1) _ rfl (HD2.out.alloc _) _ _ _ _ [45] rfl (reads_new [45] (cells1 rfl) _ rfl) (by omega) ?_)
      intro A3 c3 w3 hD3
      have HD3 := Lib.hid hD3
      clear hD3
      go_wp2_with (at_builtin; refine app_dst rfl _ _ rfl base gb l w0 _ (0 + 1 + 1 + 1) _ rfl (HD3.out.alloc _) _ _ _ _ [48, UInt8.ofNat (48 + y)] rfl (reads_new [48, UInt8.ofNat (48 + y)] (cells2 rfl (by rw [byte_of y (by omega)]; have := hy.out; omega)) _ rfl) (by omega) ?_)
      intro A4 c4 w4 hD4
      have HD4 := Lib.hid hD4
      clear hD4
      go_wp2_with fail
      go_ret
      refine told_of HD4.out ?_
      have e1 := hy.out
      have e2 := hnd.out
      have e3 : exp2 (dp - 1).natAbs = [48, UInt8.ofNat (48 + y)] := by rw [show (dp - 1).natAbs = y by omega, exp2, if_pos (by omega)]
      rw [efgE, HT.out, e3, if_neg (show ¬ 1 < l.length by omega), if_pos (show dp - 1 < 0 by omega)]
      simp [sgn]
    · have hm' : dp - 1 ≤ -10 ∧ -100 < dp - 1 := by have := hy.out; omega
      have t1 : wrap64 (-((dp - 1).tdiv 10)) = ((y / 10 : Nat) : Int) := by rw [hy.out, Int.neg_tdiv, Int.tdiv_eq_ediv_of_nonneg (by omega), IntWalk.wrap64_in _ (by omega)]; omega
      have t2 : -((dp - 1).tmod 10) = ((y % 10 : Nat) : Int) := by rw [hy.out, Int.neg_tmod, Int.tmod_eq_emod_of_nonneg (by omega)]; omega
      go_enter Tryz.func73, Tryz.ntmps73
      obtain ⟨h0, e0⟩ := HB0.out
      have k1 := hD.out.dig.2 0 h0
      rw [e0] at k1
      clear e0 h0
      go_wp2_with (at_builtin; refine app_dst rfl _ _ rfl base gb l w0 _ (0) _ rfl (hD.out.alloc _) _ _ _ _ [b0] rfl (reads_new [b0] (cells1 rfl) _ rfl) (by omega) ?_)
      intro A1 c1 w1 hD1
      have HD1 := Lib.hid hD1
      clear hD1
      clear k1
      go_wp2_with (at_builtin; refine app_dst rfl _ _ rfl base gb l w0 _ (0 + 1) _ rfl (HD1.out.alloc _) _ _ _ _ [101] rfl (reads_new [101] (cells1 rfl) _ rfl) (by omega) ?_)
      intro A2 c2 w2 hD2
      have HD2 := Lib.hid hD2
      clear hD2
      go_wp2_with (at_builtin; refine app_dst rfl _ _ rfl base gb l w0 _ (0 + 1 + 1) _ rfl (HD2.out.alloc _) _ _ _ _ [45] rfl (reads_new [45] (cells1 rfl) _ rfl) (by omega) ?_)
      intro A3 c3 w3 hD3
      have HD3 := Lib.hid hD3
      clear hD3
      go_wp2_with (at_builtin; refine app_dst rfl _ _ rfl base gb l w0 _ (0 + 1 + 1 + 1) _ rfl (HD3.out.alloc _) _ _ _ _ [UInt8.ofNat (48 + y / 10), UInt8.ofNat (48 + y % 10)] rfl (reads_new [UInt8.ofNat (48 + y / 10), UInt8.ofNat (48 + y % 10)] (cells2 (by rw [byte_of (y / 10) (by omega)]; have := hy.out; omega) (by rw [byte_of (y % 10) (by omega)]; have := hy.out; omega)) _ rfl) (by omega) ?_)
      intro A4 c4 w4 hD4
      have HD4 := Lib.hid hD4
      clear hD4
      go_wp2_with fail
      go_ret
      refine told_of HD4.out ?_
      have e1 := hy.out
      have e2 := hnd.out
      have e3 : exp2 (dp - 1).natAbs = [UInt8.ofNat (48 + y / 10), UInt8.ofNat (48 + y % 10)] := by rw [show (dp - 1).natAbs = y by omega, exp2, if_neg (by omega), if_pos (by omega)]
      rw [efgE, HT.out, e3, if_neg (show ¬ 1 < l.length by omega), if_pos (show dp - 1 < 0 by omega)]
      simp [sgn]
    · have hm' : dp - 1 ≤ -100 := by have := hy.out; omega
      have t1 : wrap64 (-((dp - 1).tdiv 10)) = ((y / 10 : Nat) : Int) := by rw [hy.out, Int.neg_tdiv, Int.tdiv_eq_ediv_of_nonneg (by omega), IntWalk.wrap64_in _ (by omega)]; omega
      have t2 : -((dp - 1).tmod 10) = ((y % 10 : Nat) : Int) := by rw [hy.out, Int.neg_tmod, Int.tmod_eq_emod_of_nonneg (by omega)]; omega
      have t3 : wrap64 (-((dp - 1).tdiv 100)) = ((y / 100 : Nat) : Int) := by rw [hy.out, Int.neg_tdiv, Int.tdiv_eq_ediv_of_nonneg (by omega), IntWalk.wrap64_in _ (by omega)]; omega
      go_enter Tryz.func73, Tryz.ntmps73
      obtain ⟨h0, e0⟩ := HB0.out
      have k1 := hD.out.dig.2 0 h0
      rw [e0] at k1
      clear e0 h0
      go_wp2_with (at_builtin; refine app_dst rfl _ _ rfl base gb l w0 _ (0) _ rfl (hD.out.alloc _) _ _ _ _ [b0] rfl (reads_new [b0] (cells1 rfl) _ rfl) (by omega) ?_)
      intro A1 c1 w1 hD1
      have HD1 := Lib.hid hD1
      clear hD1
      clear k1
      go_wp2_with (at_builtin; refine app_dst rfl _ _ rfl base gb l w0 _ (0 + 1) _ rfl (HD1.out.alloc _) _ _ _ _ [101] rfl (reads_new [101] (cells1 rfl) _ rfl) (by omega) ?_)
      intro A2 c2 w2 hD2
      have HD2 := Lib.hid hD2
      clear hD2
      go_wp2_with (at_builtin; refine app_dst rfl _ _ rfl base gb l w0 _ (0 + 1 + 1) _ rfl (HD2.out.alloc _) _ _ _ _ [45] rfl (reads_new [45] (cells1 rfl) _ rfl) (by omega) ?_)
      intro A3 c3 w3 hD3
      have HD3 := Lib.hid hD3
      clear hD3
      go_wp2_with (at_builtin; refine app_dst rfl _ _ rfl base gb l w0 _ (0 + 1 + 1 + 1) _ rfl (HD3.out.alloc _) _ _ _ _ [UInt8.ofNat (48 + y / 100), UInt8.ofNat (48 + y / 10 % 10), UInt8.ofNat (48 + y % 10)] rfl (reads_new [UInt8.ofNat (48 + y / 100), UInt8.ofNat (48 + y / 10 % 10), UInt8.ofNat (48 + y % 10)] (cells3 (by rw [byte_of (y / 100) (by omega)]; have := hy.out; omega) (by rw [byte_of (y / 10 % 10) (by omega)]; have := hy.out; omega) (by rw [byte_of (y % 10) (by omega)]; have := hy.out; omega)) _ rfl) (by omega) ?_)
      intro A4 c4 w4 hD4
      have HD4 := Lib.hid hD4
      clear hD4
      go_wp2_with fail
      go_ret
      refine told_of HD4.out ?_
      have e1 := hy.out
      have e2 := hnd.out
      have e3 : exp2 (dp - 1).natAbs = [UInt8.ofNat (48 + y / 100), UInt8.ofNat (48 + y / 10 % 10), UInt8.ofNat (48 + y % 10)] := by rw [show (dp - 1).natAbs = y by omega, exp2, if_neg (by omega), if_neg (by omega)]
      rw [efgE, HT.out, e3, if_neg (show ¬ 1 < l.length by omega), if_pos (show dp - 1 < 0 by omega)]
      simp [sgn]
  · obtain ⟨y, hy⟩ : ∃ y : Nat, Hid (dp - 1 = (y : Int)) := ⟨(dp - 1).natAbs, by show _ = _; omega⟩
    have hyl : 6 ≤ y ∧ y ≤ 400 := by have := hy.out; omega
    rcases (show y < 10 ∨ (10 ≤ y ∧ y < 100) ∨ 100 ≤ y by omega) with hm | hm | hm
    · have hm' : dp - 1 < 10 := by have := hy.out; omega
      go_enter Tryz.func73, Tryz.ntmps73
      obtain ⟨h0, e0⟩ := HB0.out
      have k1 := hD.out.dig.2 0 h0
      rw [e0] at k1
      clear e0 h0
      go_wp2_with (at_builtin; refine app_dst rfl _ _ rfl base gb l w0 _ (0) _ rfl (hD.out.alloc _) _ _ _ _ [b0] rfl (reads_new [b0] (cells1 rfl) _ rfl) (by omega) ?_)
      intro A1 c1 w1 hD1
      have HD1 := Lib.hid hD1
      clear hD1
      clear k1
      go_wp2_with (at_builtin; refine app_dst rfl _ _ rfl base gb l w0 _ (0 + 1) _ rfl (HD1.out.alloc _) _ _ _ _ [101] rfl (reads_new [101] (cells1 rfl) _ rfl) (by omega) ?_)
      intro A2 c2 w2 hD2
      have HD2 := Lib.hid hD2
      clear hD2
      go_wp2_with (at_builtin; refine app_dst rfl _ _ rfl base gb l w0 _ (0 + 1 + 1) _ rfl (HD2.out.alloc _) _ _ _ _ [43] rfl (reads_new [43] (cells1 rfl) _ rfl) (by omega) ?_)
      intro A3 c3 w3 hD3
      have HD3 := Lib.hid hD3
      clear hD3
      go_wp2_with (at_builtin; refine app_dst rfl _ _ rfl base gb l w0 _ (0 + 1 + 1 + 1) _ rfl (HD3.out.alloc _) _ _ _ _ [48, UInt8.ofNat (48 + y)] rfl (reads_new [48, UInt8.ofNat (48 + y)] (cells2 rfl (by rw [byte_of y (by omega)]; have := hy.out; omega)) _ rfl) (by omega) ?_)
      intro A4 c4 w4 hD4
      have HD4 := Lib.hid hD4
      clear hD4
      go_wp2_with fail
      go_ret
      refine told_of HD4.out ?_
      have e1 := hy.out
      have e2 := hnd.out
      have e3 : exp2 (dp - 1).natAbs = [48, UInt8.ofNat (48 + y)] := by rw [show (dp - 1).natAbs = y by omega, exp2, if_pos (by omega)]
      rw [efgE, HT.out, e3, if_neg (show ¬ 1 < l.length by omega), if_neg (show ¬ dp - 1 < 0 by omega)]
      simp [sgn]
    · have hm' : 10 ≤ dp - 1 ∧ dp - 1 < 100 := by have := hy.out; omega
      go_enter Tryz.func73, Tryz.ntmps73
      obtain ⟨h0, e0⟩ := HB0.out
      have k1 := hD.out.dig.2 0 h0
      rw [e0] at k1
      clear e0 h0
      go_wp2_with (at_builtin; refine app_dst rfl _ _ rfl base gb l w0 _ (0) _ rfl (hD.out.alloc _) _ _ _ _ [b0] rfl (reads_new [b0] (cells1 rfl) _ rfl) (by omega) ?_)
      intro A1 c1 w1 hD1
      have HD1 := Lib.hid hD1
      clear hD1
      clear k1
      go_wp2_with (at_builtin; refine app_dst rfl _ _ rfl base gb l w0 _ (0 + 1) _ rfl (HD1.out.alloc _) _ _ _ _ [101] rfl (reads_new [101] (cells1 rfl) _ rfl) (by omega) ?_)
      intro A2 c2 w2 hD2
      have HD2 := Lib.hid hD2
      clear hD2
      go_wp2_with (at_builtin; refine app_dst rfl _ _ rfl base gb l w0 _ (0 + 1 + 1) _ rfl (HD2.out.alloc _) _ _ _ _ [43] rfl (reads_new [43] (cells1 rfl) _ rfl) (by omega) ?_)
      intro A3 c3 w3 hD3
      have HD3 := Lib.hid hD3
      clear hD3
      go_wp2_with (at_builtin; refine app_dst rfl _ _ rfl base gb l w0 _ (0 + 1 + 1 + 1) _ rfl (HD3.out.alloc _) _ _ _ _ [UInt8.ofNat (48 + y / 10), UInt8.ofNat (48 + y % 10)] rfl (reads_new [UInt8.ofNat (48 + y / 10), UInt8.ofNat (48 + y % 10)] (cells2 (by rw [byte_of (y / 10) (by omega)]; have := hy.out; omega) (by rw [byte_of (y % 10) (by omega)]; have := hy.out; omega)) _ rfl) (by omega) ?_)
      intro A4 c4 w4 hD4
      have HD4 := Lib.hid hD4
      clear hD4
      go_wp2_with fail
      go_ret
      refine told_of HD4.out ?_
      have e1 := hy.out
      have e2 := hnd.out
      have e3 : exp2 (dp - 1).natAbs = [UInt8.ofNat (48 + y / 10), UInt8.ofNat (48 + y % 10)] := by rw [show (dp - 1).natAbs = y by omega, exp2, if_neg (by omega), if_pos (by omega)]
      rw [efgE, HT.out, e3, if_neg (show ¬ 1 < l.length by omega), if_neg (show ¬ dp - 1 < 0 by omega)]
      simp [sgn]
    · have hm' : 100 ≤ dp - 1 := by have := hy.out; omega
      go_enter Tryz.func73, Tryz.ntmps73
      obtain ⟨h0, e0⟩ := HB0.out
      have k1 := hD.out.dig.2 0 h0
      rw [e0] at k1
      clear e0 h0
      go_wp2_with (at_builtin; refine app_dst rfl _ _ rfl base gb l w0 _ (0) _ rfl (hD.out.alloc _) _ _ _ _ [b0] rfl (reads_new [b0] (cells1 rfl) _ rfl) (by omega) ?_)
      intro A1 c1 w1 hD1
      have HD1 := Lib.hid hD1
      clear hD1
      clear k1
      go_wp2_with (at_builtin; refine app_dst rfl _ _ rfl base gb l w0 _ (0 + 1) _ rfl (HD1.out.alloc _) _ _ _ _ [101] rfl (reads_new [101] (cells1 rfl) _ rfl) (by omega) ?_)
      intro A2 c2 w2 hD2
      have HD2 := Lib.hid hD2
      clear hD2
      go_wp2_with (at_builtin; refine app_dst rfl _ _ rfl base gb l w0 _ (0 + 1 + 1) _ rfl (HD2.out.alloc _) _ _ _ _ [43] rfl (reads_new [43] (cells1 rfl) _ rfl) (by omega) ?_)
      intro A3 c3 w3 hD3
      have HD3 := Lib.hid hD3
      clear hD3
      go_wp2_with (at_builtin; refine app_dst rfl _ _ rfl base gb l w0 _ (0 + 1 + 1 + 1) _ rfl (HD3.out.alloc _) _ _ _ _ [UInt8.ofNat (48 + y / 100), UInt8.ofNat (48 + y / 10 % 10), UInt8.ofNat (48 + y % 10)] rfl (reads_new [UInt8.ofNat (48 + y / 100), UInt8.ofNat (48 + y / 10 % 10), UInt8.ofNat (48 + y % 10)] (cells3 (by rw [byte_of (y / 100) (by omega)]; have := hy.out; omega) (by rw [byte_of (y / 10 % 10) (by omega)]; have := hy.out; omega) (by rw [byte_of (y % 10) (by omega)]; have := hy.out; omega)) _ rfl) (by omega) ?_)
      intro A4 c4 w4 hD4
      have HD4 := Lib.hid hD4
      clear hD4
      go_wp2_with fail
      go_ret
      refine told_of HD4.out ?_
      have e1 := hy.out
      have e2 := hnd.out
      have e3 : exp2 (dp - 1).natAbs = [UInt8.ofNat (48 + y / 100), UInt8.ofNat (48 + y / 10 % 10), UInt8.ofNat (48 + y % 10)] := by rw [show (dp - 1).natAbs = y by omega, exp2, if_neg (by omega), if_neg (by omega)]
      rw [efgE, HT.out, e3, if_neg (show ¬ 1 < l.length by omega), if_neg (show ¬ dp - 1 < 0 by omega)]
      simp [sgn]
end Go.Proofs.YtmphnnmnbpheiaaGreatDoor
