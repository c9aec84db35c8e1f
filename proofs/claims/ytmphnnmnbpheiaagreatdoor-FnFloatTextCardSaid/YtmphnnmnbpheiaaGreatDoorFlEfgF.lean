/- The text without an exponent: the walk, printed by genefgf.py. -/
import Derived.Test.YtmphnnmnbpheiaaGreatDoorFlEfg
namespace Go.Proofs.YtmphnnmnbpheiaaGreatDoor
open Go Go.RowKit
open Fl
def efgF (neg : Bool) (l : List UInt8) (dp : Int) : List UInt8 :=
  sgn neg ++ (if 0 < dp then l.take dp.toNat ++ List.replicate (dp.toNat - l.length) 48 else [48]) ++ (if dp < l.length then 46 :: (List.replicate (-dp).toNat 48 ++ l.drop dp.toNat) else [])
theorem take_drop_step (l : List UInt8) (o k : Nat) (h : o + k < l.length) : (l.drop o).take k ++ [l[o + k]] = (l.drop o).take (k + 1) := by
  have h' : k < (l.drop o).length := by rw [List.length_drop]; omega
  have := List.take_append_getElem h'
  rw [List.getElem_drop] at this
  exact this
set_option maxRecDepth 10000 in
set_option maxHeartbeats 4000000 in
theorem efgF_posA (base gb : Nat) (l : List UInt8) (w0 w : World) (A0 : Option Addr) (c0 : Nat) (hD : Hid (Dst base gb l w0 w (.slice A0 0 c0) 0 [])) (nd : Nat) (hnd : Hid (nd = l.length)) (h1 : 1 ≤ nd) (h17 : nd ≤ 17) (p : Nat) (hw : nd ≤ p) (hp6 : p ≤ 6) :
    Calls Tryz.prog 73 #[.slice A0 0 c0, .bool false, .slice (some ⟨gb, 0, none⟩) 32 32, .int .i64 (p : Int), .int .i64 nd, .int .i64 nd, .int .u8 103, .bool true] w (Told base w0 (efgF false l (p : Int))) := by
  have m1 : min (nd : Int) (p : Int) = nd := by omega
  have m2 : max ((nd : Int) - p) 0 = 0 := by omega
  have d1 : decide (p < nd) = false := by simp; omega
  have d2 : decide (0 < p) = true := by simp; omega
  go_enter Tryz.func73, Tryz.ntmps73
  go_wp2_with fail
  go_loopw [0, 191] (fun d i wr => ∃ (k : Nat) (A' : Option Addr) (c' : Nat), k ≤ nd ∧ d = .slice A' (k) c' ∧ i = .int .i64 k ∧ Hid (Dst base gb l w0 wr (.slice A' (k) c') (k) (l.take (k)))) (fun _ i _ => nd - (RowKit.intOf i).toNat)
  case' atStart => exact ⟨0, A0, c0, Nat.zero_le _, rfl, rfl, Lib.hid (by simpa using hD.out)⟩
  obtain ⟨k1, A1, c1, hk1, rfl, rfl, HD1⟩ := hrel
  rcases Nat.lt_or_ge k1 (nd) with hlt1 | hge1
  · have hkl : k1 < l.length := by have := hnd.out; omega
    have q := HD1.out.dig.2 (k1) hkl
    have ht : Hid (l.take (k1) ++ [l[k1]] = l.take (k1 + 1)) := Lib.hid (by simp [List.take_append_getElem])
    generalize hbv : l[k1] = bb at q ht
    clear hbv hkl
    go_wp2_with (at_builtin; refine app_dst rfl _ _ rfl base gb l w0 _ (k1) (l.take (k1)) rfl (HD1.out.alloc _) _ _ _ _ [bb] rfl (reads_new [bb] (cells1 rfl) _ rfl) (by omega) ?_)
    intro A' c' w' hD'
    have HD' := Lib.hid hD'
    clear hD'
    go_wp2_with fail
    go_roundw
    case rel => exact ⟨k1 + 1, A', c', by omega, by simp [Nat.add_assoc], by go_num, Lib.hid (by have h := HD'.out; rw [← ht.out]; simpa [Nat.add_assoc] using h)⟩
    case measure => simp [RowKit.intOf]; omega
  obtain ⟨b1, hb1⟩ : ∃ b1, Hid (b1 = nd) := ⟨_, rfl⟩
  obtain rfl : k1 = b1 := by have := hb1.out; omega
  have dd1 : decide (k1 < nd) = false := by have := hb1.out; simp; omega
  go_wp2_with fail
  go_loopw [0, 203] (fun d i wr => ∃ (k : Nat) (A' : Option Addr) (c' : Nat), k ≤ p - nd ∧ d = .slice A' (k1 + k) c' ∧ i = .int .i64 k ∧ Hid (Dst base gb l w0 wr (.slice A' (k1 + k) c') (k1 + k) (l.take (k1) ++ List.replicate k 48))) (fun _ i _ => p - nd - (RowKit.intOf i).toNat)
  case' atStart => exact ⟨0, A1, c1, Nat.zero_le _, rfl, rfl, Lib.hid (by simpa using HD1.out)⟩
  obtain ⟨k2, A2, c2, hk2, rfl, rfl, HD2⟩ := hrel
  rcases Nat.lt_or_ge k2 (p - nd) with hlt2 | hge2
  · skip
    go_wp2_with (at_builtin; refine app_dst rfl _ _ rfl base gb l w0 _ (k1 + k2) (l.take (k1) ++ List.replicate k2 48) rfl (HD2.out.alloc _) _ _ _ _ [48] rfl (reads_new [48] (cells1 rfl) _ rfl) (by omega) ?_)
    intro A' c' w' hD'
    have HD' := Lib.hid hD'
    clear hD'
    go_wp2_with fail
    go_roundw
    case rel => exact ⟨k2 + 1, A', c', by omega, by simp [Nat.add_assoc], by go_num, Lib.hid (by have h := HD'.out; rw [List.replicate_succ']; simpa [Nat.add_assoc] using h)⟩
    case measure => simp [RowKit.intOf]; omega
  obtain ⟨b2, hb2⟩ : ∃ b2, Hid (b2 = p - nd) := ⟨_, rfl⟩
  obtain rfl : k2 = b2 := by have := hb2.out; omega
  have dd2 : decide (k2 < p - nd) = false := by have := hb2.out; simp; omega
  go_wp2_with fail
  go_ret
  refine told_of HD2.out ?_
  have e1 := hb1.out
  have e2 := hb2.out
  have e3 := hnd.out
  rw [efgF, if_pos (show (0 : Int) < (p : Int) by omega), if_neg (show ¬ (p : Int) < (l.length : Int) by omega), show (p : Int).toNat = p from rfl, List.take_of_length_le (show l.length ≤ k1 by omega), List.take_of_length_le (show l.length ≤ p by omega), show p - l.length = k2 by omega]
  simp [sgn]
set_option maxRecDepth 10000 in
set_option maxHeartbeats 4000000 in
theorem efgF_negA (base gb : Nat) (l : List UInt8) (w0 w : World) (A0 : Option Addr) (c0 : Nat) (hD : Hid (Dst base gb l w0 w (.slice A0 0 c0) 0 [])) (nd : Nat) (hnd : Hid (nd = l.length)) (h1 : 1 ≤ nd) (h17 : nd ≤ 17) (p : Nat) (hw : nd ≤ p) (hp6 : p ≤ 6) :
    Calls Tryz.prog 73 #[.slice A0 0 c0, .bool true, .slice (some ⟨gb, 0, none⟩) 32 32, .int .i64 (p : Int), .int .i64 nd, .int .i64 nd, .int .u8 103, .bool true] w (Told base w0 (efgF true l (p : Int))) := by
  have m1 : min (nd : Int) (p : Int) = nd := by omega
  have m2 : max ((nd : Int) - p) 0 = 0 := by omega
  have d1 : decide (p < nd) = false := by simp; omega
  have d2 : decide (0 < p) = true := by simp; omega
  go_enter Tryz.func73, Tryz.ntmps73
  go_wp2_with (at_builtin; refine app_dst rfl _ _ rfl base gb l w0 _ (0) (([] : List UInt8)) rfl (hD.out.alloc _) _ _ _ _ [45] rfl (reads_new [45] (cells1 rfl) _ rfl) (by omega) ?_)
  intro A1 c1 w1 hD1
  have HD1 := Lib.hid hD1
  clear hD1
  go_wp2_with fail
  go_loopw [0, 191] (fun d i wr => ∃ (k : Nat) (A' : Option Addr) (c' : Nat), k ≤ nd ∧ d = .slice A' (1 + k) c' ∧ i = .int .i64 k ∧ Hid (Dst base gb l w0 wr (.slice A' (1 + k) c') (1 + k) ([45] ++ l.take (k)))) (fun _ i _ => nd - (RowKit.intOf i).toNat)
  case' atStart => exact ⟨0, A1, c1, Nat.zero_le _, rfl, rfl, Lib.hid (by simpa using HD1.out)⟩
  obtain ⟨k2, A2, c2, hk2, rfl, rfl, HD2⟩ := hrel
  rcases Nat.lt_or_ge k2 (nd) with hlt2 | hge2
  · have hkl : k2 < l.length := by have := hnd.out; omega
    have q := HD2.out.dig.2 (k2) hkl
    have ht : Hid (l.take (k2) ++ [l[k2]] = l.take (k2 + 1)) := Lib.hid (by simp [List.take_append_getElem])
    generalize hbv : l[k2] = bb at q ht
    clear hbv hkl
    go_wp2_with (at_builtin; refine app_dst rfl _ _ rfl base gb l w0 _ (1 + k2) ([45] ++ l.take (k2)) rfl (HD2.out.alloc _) _ _ _ _ [bb] rfl (reads_new [bb] (cells1 rfl) _ rfl) (by omega) ?_)
    intro A' c' w' hD'
    have HD' := Lib.hid hD'
    clear hD'
    go_wp2_with fail
    go_roundw
    case rel => exact ⟨k2 + 1, A', c', by omega, by simp [Nat.add_assoc], by go_num, Lib.hid (by have h := HD'.out; rw [← ht.out]; simpa [Nat.add_assoc] using h)⟩
    case measure => simp [RowKit.intOf]; omega
  obtain ⟨b2, hb2⟩ : ∃ b2, Hid (b2 = nd) := ⟨_, rfl⟩
  obtain rfl : k2 = b2 := by have := hb2.out; omega
  have dd2 : decide (k2 < nd) = false := by have := hb2.out; simp; omega
  go_wp2_with fail
  go_loopw [0, 203] (fun d i wr => ∃ (k : Nat) (A' : Option Addr) (c' : Nat), k ≤ p - nd ∧ d = .slice A' (1 + k2 + k) c' ∧ i = .int .i64 k ∧ Hid (Dst base gb l w0 wr (.slice A' (1 + k2 + k) c') (1 + k2 + k) ([45] ++ l.take (k2) ++ List.replicate k 48))) (fun _ i _ => p - nd - (RowKit.intOf i).toNat)
  case' atStart => exact ⟨0, A2, c2, Nat.zero_le _, rfl, rfl, Lib.hid (by simpa using HD2.out)⟩
  obtain ⟨k3, A3, c3, hk3, rfl, rfl, HD3⟩ := hrel
  rcases Nat.lt_or_ge k3 (p - nd) with hlt3 | hge3
  · skip
    go_wp2_with (at_builtin; refine app_dst rfl _ _ rfl base gb l w0 _ (1 + k2 + k3) ([45] ++ l.take (k2) ++ List.replicate k3 48) rfl (HD3.out.alloc _) _ _ _ _ [48] rfl (reads_new [48] (cells1 rfl) _ rfl) (by omega) ?_)
    intro A' c' w' hD'
    have HD' := Lib.hid hD'
    clear hD'
    go_wp2_with fail
    go_roundw
    case rel => exact ⟨k3 + 1, A', c', by omega, by simp [Nat.add_assoc], by go_num, Lib.hid (by have h := HD'.out; rw [List.replicate_succ']; simpa [Nat.add_assoc] using h)⟩
    case measure => simp [RowKit.intOf]; omega
  obtain ⟨b3, hb3⟩ : ∃ b3, Hid (b3 = p - nd) := ⟨_, rfl⟩
  obtain rfl : k3 = b3 := by have := hb3.out; omega
  have dd3 : decide (k3 < p - nd) = false := by have := hb3.out; simp; omega
  go_wp2_with fail
  go_ret
  refine told_of HD3.out ?_
  have e1 := hb2.out
  have e2 := hb3.out
  have e3 := hnd.out
  rw [efgF, if_pos (show (0 : Int) < (p : Int) by omega), if_neg (show ¬ (p : Int) < (l.length : Int) by omega), show (p : Int).toNat = p from rfl, List.take_of_length_le (show l.length ≤ k2 by omega), List.take_of_length_le (show l.length ≤ p by omega), show p - l.length = k3 by omega]
  simp [sgn]
set_option maxRecDepth 10000 in
set_option maxHeartbeats 4000000 in
theorem efgF_posB (base gb : Nat) (l : List UInt8) (w0 w : World) (A0 : Option Addr) (c0 : Nat) (hD : Hid (Dst base gb l w0 w (.slice A0 0 c0) 0 [])) (nd : Nat) (hnd : Hid (nd = l.length)) (h1 : 1 ≤ nd) (h17 : nd ≤ 17) (p : Nat) (hp1 : 1 ≤ p) (hw : p < nd) (hp6 : p ≤ 6) :
    Calls Tryz.prog 73 #[.slice A0 0 c0, .bool false, .slice (some ⟨gb, 0, none⟩) 32 32, .int .i64 (p : Int), .int .i64 nd, .int .i64 nd, .int .u8 103, .bool true] w (Told base w0 (efgF false l (p : Int))) := by
  have m1 : min (nd : Int) (p : Int) = p := by omega
  have m2 : max ((nd : Int) - p) 0 = nd - p := by omega
  have d1 : decide (p < nd) = true := by simp; omega
  have d2 : decide (0 < p) = true := by simp; omega
  have m3 : max (0 : Int) (-(p : Int)) = 0 := by omega
  have m4 : min ((nd : Int) - p) 0 = 0 := by omega
  have m5 : max (0 : Int) ((nd : Int) - p) = nd - p := by omega
  go_enter Tryz.func73, Tryz.ntmps73
  go_wp2_with fail
  go_loopw [0, 191] (fun d i wr => ∃ (k : Nat) (A' : Option Addr) (c' : Nat), k ≤ p ∧ d = .slice A' (k) c' ∧ i = .int .i64 k ∧ Hid (Dst base gb l w0 wr (.slice A' (k) c') (k) (l.take (k)))) (fun _ i _ => p - (RowKit.intOf i).toNat)
  case' atStart => exact ⟨0, A0, c0, Nat.zero_le _, rfl, rfl, Lib.hid (by simpa using hD.out)⟩
  obtain ⟨k1, A1, c1, hk1, rfl, rfl, HD1⟩ := hrel
  rcases Nat.lt_or_ge k1 (p) with hlt1 | hge1
  · have hkl : k1 < l.length := by have := hnd.out; omega
    have q := HD1.out.dig.2 (k1) hkl
    have ht : Hid (l.take (k1) ++ [l[k1]] = l.take (k1 + 1)) := Lib.hid (by simp [List.take_append_getElem])
    generalize hbv : l[k1] = bb at q ht
    clear hbv hkl
    go_wp2_with (at_builtin; refine app_dst rfl _ _ rfl base gb l w0 _ (k1) (l.take (k1)) rfl (HD1.out.alloc _) _ _ _ _ [bb] rfl (reads_new [bb] (cells1 rfl) _ rfl) (by omega) ?_)
    intro A' c' w' hD'
    have HD' := Lib.hid hD'
    clear hD'
    go_wp2_with fail
    go_roundw
    case rel => exact ⟨k1 + 1, A', c', by omega, by simp [Nat.add_assoc], by go_num, Lib.hid (by have h := HD'.out; rw [← ht.out]; simpa [Nat.add_assoc] using h)⟩
    case measure => simp [RowKit.intOf]; omega
  obtain ⟨b1, hb1⟩ : ∃ b1, Hid (b1 = p) := ⟨_, rfl⟩
  obtain rfl : k1 = b1 := by have := hb1.out; omega
  have dd1 : decide (k1 < p) = false := by have := hb1.out; simp; omega
  go_wp2_with fail
  go_loop [0, 203] (fun d i => d = .slice A1 (k1) c1 ∧ i = .int .i64 0) (fun _ _ => 0)
  case' atStart => exact ⟨rfl, rfl⟩
  obtain ⟨rfl, rfl⟩ := hrel
  go_wp2_with (at_builtin; refine app_dst rfl _ _ rfl base gb l w0 _ (k1) (l.take (k1)) rfl (HD1.out.alloc _) _ _ _ _ [46] rfl (reads_new [46] (cells1 rfl) _ rfl) (by omega) ?_)
  intro A2 c2 w2 hD2
  have HD2 := Lib.hid hD2
  clear hD2
  go_wp2_with fail
  go_loop [0, 240] (fun d i => d = .slice A2 (k1 + 1) c2 ∧ i = .int .i64 0) (fun _ _ => 0)
  case' atStart => exact ⟨rfl, rfl⟩
  obtain ⟨rfl, rfl⟩ := hrel
  go_wp2_with fail
  go_loopw [0, 247] (fun d i wr => ∃ (k : Nat) (A' : Option Addr) (c' : Nat), k ≤ nd - p ∧ d = .slice A' (k1 + 1 + k) c' ∧ i = .int .i64 k ∧ Hid (Dst base gb l w0 wr (.slice A' (k1 + 1 + k) c') (k1 + 1 + k) (l.take (k1) ++ [46] ++ (l.drop (p)).take (k)))) (fun _ i _ => nd - p - (RowKit.intOf i).toNat)
  case' atStart => exact ⟨0, A2, c2, Nat.zero_le _, rfl, rfl, Lib.hid (by simpa using HD2.out)⟩
  obtain ⟨k3, A3, c3, hk3, rfl, rfl, HD3⟩ := hrel
  rcases Nat.lt_or_ge k3 (nd - p) with hlt3 | hge3
  · have hkl : p + k3 < l.length := by have := hnd.out; omega
    have q := HD3.out.dig.2 (p + k3) hkl
    have ht : Hid ((l.drop (p)).take (k3) ++ [l[p + k3]] = (l.drop (p)).take (k3 + 1)) := Lib.hid (take_drop_step l p k3 hkl)
    generalize hbv : l[p + k3] = bb at q ht
    clear hbv hkl
    go_wp2_with (at_builtin; refine app_dst rfl _ _ rfl base gb l w0 _ (k1 + 1 + k3) (l.take (k1) ++ [46] ++ (l.drop (p)).take (k3)) rfl (HD3.out.alloc _) _ _ _ _ [bb] rfl (reads_new [bb] (cells1 rfl) _ rfl) (by omega) ?_)
    intro A' c' w' hD'
    have HD' := Lib.hid hD'
    clear hD'
    go_wp2_with fail
    go_roundw
    case rel => exact ⟨k3 + 1, A', c', by omega, by simp [Nat.add_assoc], by go_num, Lib.hid (by have h := HD'.out; rw [← ht.out]; simpa [Nat.add_assoc] using h)⟩
    case measure => simp [RowKit.intOf]; omega
  obtain ⟨b3, hb3⟩ : ∃ b3, Hid (b3 = nd - p) := ⟨_, rfl⟩
  obtain rfl : k3 = b3 := by have := hb3.out; omega
  have dd3 : decide (k3 < nd - p) = false := by have := hb3.out; simp; omega
  go_wp2_with fail
  go_loop [0, 261] (fun d i => d = .slice A3 (k1 + 1 + k3) c3 ∧ i = .int .i64 0) (fun _ _ => 0)
  case' atStart => exact ⟨rfl, rfl⟩
  obtain ⟨rfl, rfl⟩ := hrel
  go_wp2_with fail
  go_ret
  refine told_of HD3.out ?_
  have e1 := hb1.out
  have e2 := hb3.out
  have e3 := hnd.out
  rw [show k1 = p by omega, efgF, if_pos (show (0 : Int) < (p : Int) by omega), if_pos (show (p : Int) < (l.length : Int) by omega), show (p : Int).toNat = p from rfl, List.take_of_length_le (show (l.drop p).length ≤ k3 by rw [List.length_drop]; omega), show p - l.length = 0 by omega, show (-(p : Int)).toNat = 0 by omega]
  simp [sgn]
set_option maxRecDepth 10000 in
set_option maxHeartbeats 4000000 in
theorem efgF_negB (base gb : Nat) (l : List UInt8) (w0 w : World) (A0 : Option Addr) (c0 : Nat) (hD : Hid (Dst base gb l w0 w (.slice A0 0 c0) 0 [])) (nd : Nat) (hnd : Hid (nd = l.length)) (h1 : 1 ≤ nd) (h17 : nd ≤ 17) (p : Nat) (hp1 : 1 ≤ p) (hw : p < nd) (hp6 : p ≤ 6) :
    Calls Tryz.prog 73 #[.slice A0 0 c0, .bool true, .slice (some ⟨gb, 0, none⟩) 32 32, .int .i64 (p : Int), .int .i64 nd, .int .i64 nd, .int .u8 103, .bool true] w (Told base w0 (efgF true l (p : Int))) := by
  have m1 : min (nd : Int) (p : Int) = p := by omega
  have m2 : max ((nd : Int) - p) 0 = nd - p := by omega
  have d1 : decide (p < nd) = true := by simp; omega
  have d2 : decide (0 < p) = true := by simp; omega
  have m3 : max (0 : Int) (-(p : Int)) = 0 := by omega
  have m4 : min ((nd : Int) - p) 0 = 0 := by omega
  have m5 : max (0 : Int) ((nd : Int) - p) = nd - p := by omega
  go_enter Tryz.func73, Tryz.ntmps73
  go_wp2_with (at_builtin; refine app_dst rfl _ _ rfl base gb l w0 _ (0) (([] : List UInt8)) rfl (hD.out.alloc _) _ _ _ _ [45] rfl (reads_new [45] (cells1 rfl) _ rfl) (by omega) ?_)
  intro A1 c1 w1 hD1
  have HD1 := Lib.hid hD1
  clear hD1
  go_wp2_with fail
  go_loopw [0, 191] (fun d i wr => ∃ (k : Nat) (A' : Option Addr) (c' : Nat), k ≤ p ∧ d = .slice A' (1 + k) c' ∧ i = .int .i64 k ∧ Hid (Dst base gb l w0 wr (.slice A' (1 + k) c') (1 + k) ([45] ++ l.take (k)))) (fun _ i _ => p - (RowKit.intOf i).toNat)
  case' atStart => exact ⟨0, A1, c1, Nat.zero_le _, rfl, rfl, Lib.hid (by simpa using HD1.out)⟩
  obtain ⟨k2, A2, c2, hk2, rfl, rfl, HD2⟩ := hrel
  rcases Nat.lt_or_ge k2 (p) with hlt2 | hge2
  · have hkl : k2 < l.length := by have := hnd.out; omega
    have q := HD2.out.dig.2 (k2) hkl
    have ht : Hid (l.take (k2) ++ [l[k2]] = l.take (k2 + 1)) := Lib.hid (by simp [List.take_append_getElem])
    generalize hbv : l[k2] = bb at q ht
    clear hbv hkl
    go_wp2_with (at_builtin; refine app_dst rfl _ _ rfl base gb l w0 _ (1 + k2) ([45] ++ l.take (k2)) rfl (HD2.out.alloc _) _ _ _ _ [bb] rfl (reads_new [bb] (cells1 rfl) _ rfl) (by omega) ?_)
    intro A' c' w' hD'
    have HD' := Lib.hid hD'
    clear hD'
    go_wp2_with fail
    go_roundw
    case rel => exact ⟨k2 + 1, A', c', by omega, by simp [Nat.add_assoc], by go_num, Lib.hid (by have h := HD'.out; rw [← ht.out]; simpa [Nat.add_assoc] using h)⟩
    case measure => simp [RowKit.intOf]; omega
  obtain ⟨b2, hb2⟩ : ∃ b2, Hid (b2 = p) := ⟨_, rfl⟩
  obtain rfl : k2 = b2 := by have := hb2.out; omega
  have dd2 : decide (k2 < p) = false := by have := hb2.out; simp; omega
  go_wp2_with fail
  go_loop [0, 203] (fun d i => d = .slice A2 (1 + k2) c2 ∧ i = .int .i64 0) (fun _ _ => 0)
  case' atStart => exact ⟨rfl, rfl⟩
  obtain ⟨rfl, rfl⟩ := hrel
  go_wp2_with (at_builtin; refine app_dst rfl _ _ rfl base gb l w0 _ (1 + k2) ([45] ++ l.take (k2)) rfl (HD2.out.alloc _) _ _ _ _ [46] rfl (reads_new [46] (cells1 rfl) _ rfl) (by omega) ?_)
  intro A3 c3 w3 hD3
  have HD3 := Lib.hid hD3
  clear hD3
  go_wp2_with fail
  go_loop [0, 240] (fun d i => d = .slice A3 (1 + k2 + 1) c3 ∧ i = .int .i64 0) (fun _ _ => 0)
  case' atStart => exact ⟨rfl, rfl⟩
  obtain ⟨rfl, rfl⟩ := hrel
  go_wp2_with fail
  go_loopw [0, 247] (fun d i wr => ∃ (k : Nat) (A' : Option Addr) (c' : Nat), k ≤ nd - p ∧ d = .slice A' (1 + k2 + 1 + k) c' ∧ i = .int .i64 k ∧ Hid (Dst base gb l w0 wr (.slice A' (1 + k2 + 1 + k) c') (1 + k2 + 1 + k) ([45] ++ l.take (k2) ++ [46] ++ (l.drop (p)).take (k)))) (fun _ i _ => nd - p - (RowKit.intOf i).toNat)
  case' atStart => exact ⟨0, A3, c3, Nat.zero_le _, rfl, rfl, Lib.hid (by simpa using HD3.out)⟩
  obtain ⟨k4, A4, c4, hk4, rfl, rfl, HD4⟩ := hrel
  rcases Nat.lt_or_ge k4 (nd - p) with hlt4 | hge4
  · have hkl : p + k4 < l.length := by have := hnd.out; omega
    have q := HD4.out.dig.2 (p + k4) hkl
    have ht : Hid ((l.drop (p)).take (k4) ++ [l[p + k4]] = (l.drop (p)).take (k4 + 1)) := Lib.hid (take_drop_step l p k4 hkl)
    generalize hbv : l[p + k4] = bb at q ht
    clear hbv hkl
    go_wp2_with (at_builtin; refine app_dst rfl _ _ rfl base gb l w0 _ (1 + k2 + 1 + k4) ([45] ++ l.take (k2) ++ [46] ++ (l.drop (p)).take (k4)) rfl (HD4.out.alloc _) _ _ _ _ [bb] rfl (reads_new [bb] (cells1 rfl) _ rfl) (by omega) ?_)
    intro A' c' w' hD'
    have HD' := Lib.hid hD'
    clear hD'
    go_wp2_with fail
    go_roundw
    case rel => exact ⟨k4 + 1, A', c', by omega, by simp [Nat.add_assoc], by go_num, Lib.hid (by have h := HD'.out; rw [← ht.out]; simpa [Nat.add_assoc] using h)⟩
    case measure => simp [RowKit.intOf]; omega
  obtain ⟨b4, hb4⟩ : ∃ b4, Hid (b4 = nd - p) := ⟨_, rfl⟩
  obtain rfl : k4 = b4 := by have := hb4.out; omega
  have dd4 : decide (k4 < nd - p) = false := by have := hb4.out; simp; omega
  go_wp2_with fail
  go_loop [0, 261] (fun d i => d = .slice A4 (1 + k2 + 1 + k4) c4 ∧ i = .int .i64 0) (fun _ _ => 0)
  case' atStart => exact ⟨rfl, rfl⟩
  obtain ⟨rfl, rfl⟩ := hrel
  go_wp2_with fail
  go_ret
  refine told_of HD4.out ?_
  have e1 := hb2.out
  have e2 := hb4.out
  have e3 := hnd.out
  rw [show k2 = p by omega, efgF, if_pos (show (0 : Int) < (p : Int) by omega), if_pos (show (p : Int) < (l.length : Int) by omega), show (p : Int).toNat = p from rfl, List.take_of_length_le (show (l.drop p).length ≤ k4 by rw [List.length_drop]; omega), show p - l.length = 0 by omega, show (-(p : Int)).toNat = 0 by omega]
  simp [sgn]
set_option maxRecDepth 10000 in
set_option maxHeartbeats 4000000 in
theorem efgF_posC (base gb : Nat) (l : List UInt8) (w0 w : World) (A0 : Option Addr) (c0 : Nat) (hD : Hid (Dst base gb l w0 w (.slice A0 0 c0) 0 [])) (nd : Nat) (hnd : Hid (nd = l.length)) (h1 : 1 ≤ nd) (h17 : nd ≤ 17) (z : Nat) (hz : z ≤ 3) :
    Calls Tryz.prog 73 #[.slice A0 0 c0, .bool false, .slice (some ⟨gb, 0, none⟩) 32 32, .int .i64 (-(z : Int)), .int .i64 nd, .int .i64 nd, .int .u8 103, .bool true] w (Told base w0 (efgF false l (-(z : Int)))) := by
  have m2 : max ((nd : Int) + z) 0 = nd + z := by omega
  have m2' : max ((nd : Int) - -z) 0 = nd + z := by omega
  have m3 : max (0 : Int) (z : Int) = z := by omega
  have m4 : min ((nd : Int) + z) z = z := by omega
  have m5 : max (0 : Int) (nd : Int) = nd := by omega
  have m6 : -(z : Int) + z = 0 := by omega
  have m7 : (nd : Int) + z - z = nd := by omega
  go_enter Tryz.func73, Tryz.ntmps73
  go_wp2_with (at_builtin; refine app_dst rfl _ _ rfl base gb l w0 _ (0) (([] : List UInt8)) rfl (hD.out.alloc _) _ _ _ _ [48] rfl (reads_new [48] (cells1 rfl) _ rfl) (by omega) ?_)
  intro A1 c1 w1 hD1
  have HD1 := Lib.hid hD1
  clear hD1
  go_wp2_with (at_builtin; refine app_dst rfl _ _ rfl base gb l w0 _ (1) ([48]) rfl (HD1.out.alloc _) _ _ _ _ [46] rfl (reads_new [46] (cells1 rfl) _ rfl) (by omega) ?_)
  intro A2 c2 w2 hD2
  have HD2 := Lib.hid hD2
  clear hD2
  go_wp2_with fail
  go_loopw [0, 240] (fun d i wr => ∃ (k : Nat) (A' : Option Addr) (c' : Nat), k ≤ z ∧ d = .slice A' (1 + 1 + k) c' ∧ i = .int .i64 k ∧ Hid (Dst base gb l w0 wr (.slice A' (1 + 1 + k) c') (1 + 1 + k) ([48] ++ [46] ++ List.replicate k 48))) (fun _ i _ => z - (RowKit.intOf i).toNat)
  case' atStart => exact ⟨0, A2, c2, Nat.zero_le _, rfl, rfl, Lib.hid (by simpa using HD2.out)⟩
  obtain ⟨k3, A3, c3, hk3, rfl, rfl, HD3⟩ := hrel
  rcases Nat.lt_or_ge k3 (z) with hlt3 | hge3
  · skip
    go_wp2_with (at_builtin; refine app_dst rfl _ _ rfl base gb l w0 _ (1 + 1 + k3) ([48] ++ [46] ++ List.replicate k3 48) rfl (HD3.out.alloc _) _ _ _ _ [48] rfl (reads_new [48] (cells1 rfl) _ rfl) (by omega) ?_)
    intro A' c' w' hD'
    have HD' := Lib.hid hD'
    clear hD'
    go_wp2_with fail
    go_roundw
    case rel => exact ⟨k3 + 1, A', c', by omega, by simp [Nat.add_assoc], by go_num, Lib.hid (by have h := HD'.out; rw [List.replicate_succ']; simpa [Nat.add_assoc] using h)⟩
    case measure => simp [RowKit.intOf]; omega
  obtain ⟨b3, hb3⟩ : ∃ b3, Hid (b3 = z) := ⟨_, rfl⟩
  obtain rfl : k3 = b3 := by have := hb3.out; omega
  have dd3 : decide (k3 < z) = false := by have := hb3.out; simp; omega
  go_wp2_with fail
  go_loopw [0, 247] (fun d i wr => ∃ (k : Nat) (A' : Option Addr) (c' : Nat), k ≤ nd ∧ d = .slice A' (1 + 1 + k3 + k) c' ∧ i = .int .i64 k ∧ Hid (Dst base gb l w0 wr (.slice A' (1 + 1 + k3 + k) c') (1 + 1 + k3 + k) ([48] ++ [46] ++ List.replicate k3 48 ++ l.take (k)))) (fun _ i _ => nd - (RowKit.intOf i).toNat)
  case' atStart => exact ⟨0, A3, c3, Nat.zero_le _, rfl, rfl, Lib.hid (by simpa using HD3.out)⟩
  obtain ⟨k4, A4, c4, hk4, rfl, rfl, HD4⟩ := hrel
  rcases Nat.lt_or_ge k4 (nd) with hlt4 | hge4
  · have hkl : k4 < l.length := by have := hnd.out; omega
    have q := HD4.out.dig.2 (k4) hkl
    have ht : Hid (l.take (k4) ++ [l[k4]] = l.take (k4 + 1)) := Lib.hid (by simp [List.take_append_getElem])
    generalize hbv : l[k4] = bb at q ht
    clear hbv hkl
    go_wp2_with (at_builtin; refine app_dst rfl _ _ rfl base gb l w0 _ (1 + 1 + k3 + k4) ([48] ++ [46] ++ List.replicate k3 48 ++ l.take (k4)) rfl (HD4.out.alloc _) _ _ _ _ [bb] rfl (reads_new [bb] (cells1 rfl) _ rfl) (by omega) ?_)
    intro A' c' w' hD'
    have HD' := Lib.hid hD'
    clear hD'
    go_wp2_with fail
    go_roundw
    case rel => exact ⟨k4 + 1, A', c', by omega, by simp [Nat.add_assoc], by go_num, Lib.hid (by have h := HD'.out; rw [← ht.out]; simpa [Nat.add_assoc] using h)⟩
    case measure => simp [RowKit.intOf]; omega
  obtain ⟨b4, hb4⟩ : ∃ b4, Hid (b4 = nd) := ⟨_, rfl⟩
  obtain rfl : k4 = b4 := by have := hb4.out; omega
  have dd4 : decide (k4 < nd) = false := by have := hb4.out; simp; omega
  go_wp2_with fail
  go_loop [0, 261] (fun d i => d = .slice A4 (1 + 1 + k3 + k4) c4 ∧ i = .int .i64 0) (fun _ _ => 0)
  case' atStart => exact ⟨rfl, rfl⟩
  obtain ⟨rfl, rfl⟩ := hrel
  go_wp2_with fail
  go_ret
  refine told_of HD4.out ?_
  have e2 := hb4.out
  have e3 := hnd.out
  have e1 := hb3.out
  rw [show k3 = z by omega, efgF, if_neg (show ¬ (0 : Int) < -(z : Int) by omega), if_pos (show -(z : Int) < (l.length : Int) by omega), show (- -(z : Int)).toNat = z by omega, show (-(z : Int)).toNat = 0 by omega, List.take_of_length_le (show l.length ≤ k4 by omega)]
  simp [sgn]
set_option maxRecDepth 10000 in
set_option maxHeartbeats 4000000 in
theorem efgF_negC (base gb : Nat) (l : List UInt8) (w0 w : World) (A0 : Option Addr) (c0 : Nat) (hD : Hid (Dst base gb l w0 w (.slice A0 0 c0) 0 [])) (nd : Nat) (hnd : Hid (nd = l.length)) (h1 : 1 ≤ nd) (h17 : nd ≤ 17) (z : Nat) (hz : z ≤ 3) :
    Calls Tryz.prog 73 #[.slice A0 0 c0, .bool true, .slice (some ⟨gb, 0, none⟩) 32 32, .int .i64 (-(z : Int)), .int .i64 nd, .int .i64 nd, .int .u8 103, .bool true] w (Told base w0 (efgF true l (-(z : Int)))) := by
  have m2 : max ((nd : Int) + z) 0 = nd + z := by omega
  have m2' : max ((nd : Int) - -z) 0 = nd + z := by omega
  have m3 : max (0 : Int) (z : Int) = z := by omega
  have m4 : min ((nd : Int) + z) z = z := by omega
  have m5 : max (0 : Int) (nd : Int) = nd := by omega
  have m6 : -(z : Int) + z = 0 := by omega
  have m7 : (nd : Int) + z - z = nd := by omega
  go_enter Tryz.func73, Tryz.ntmps73
  go_wp2_with (at_builtin; refine app_dst rfl _ _ rfl base gb l w0 _ (0) (([] : List UInt8)) rfl (hD.out.alloc _) _ _ _ _ [45] rfl (reads_new [45] (cells1 rfl) _ rfl) (by omega) ?_)
  intro A1 c1 w1 hD1
  have HD1 := Lib.hid hD1
  clear hD1
  go_wp2_with (at_builtin; refine app_dst rfl _ _ rfl base gb l w0 _ (1) ([45]) rfl (HD1.out.alloc _) _ _ _ _ [48] rfl (reads_new [48] (cells1 rfl) _ rfl) (by omega) ?_)
  intro A2 c2 w2 hD2
  have HD2 := Lib.hid hD2
  clear hD2
  go_wp2_with (at_builtin; refine app_dst rfl _ _ rfl base gb l w0 _ (1 + 1) ([45] ++ [48]) rfl (HD2.out.alloc _) _ _ _ _ [46] rfl (reads_new [46] (cells1 rfl) _ rfl) (by omega) ?_)
  intro A3 c3 w3 hD3
  have HD3 := Lib.hid hD3
  clear hD3
  go_wp2_with fail
  go_loopw [0, 240] (fun d i wr => ∃ (k : Nat) (A' : Option Addr) (c' : Nat), k ≤ z ∧ d = .slice A' (1 + 1 + 1 + k) c' ∧ i = .int .i64 k ∧ Hid (Dst base gb l w0 wr (.slice A' (1 + 1 + 1 + k) c') (1 + 1 + 1 + k) ([45] ++ [48] ++ [46] ++ List.replicate k 48))) (fun _ i _ => z - (RowKit.intOf i).toNat)
  case' atStart => exact ⟨0, A3, c3, Nat.zero_le _, rfl, rfl, Lib.hid (by simpa using HD3.out)⟩
  obtain ⟨k4, A4, c4, hk4, rfl, rfl, HD4⟩ := hrel
  rcases Nat.lt_or_ge k4 (z) with hlt4 | hge4
  · skip
    go_wp2_with (at_builtin; refine app_dst rfl _ _ rfl base gb l w0 _ (1 + 1 + 1 + k4) ([45] ++ [48] ++ [46] ++ List.replicate k4 48) rfl (HD4.out.alloc _) _ _ _ _ [48] rfl (reads_new [48] (cells1 rfl) _ rfl) (by omega) ?_)
    intro A' c' w' hD'
    have HD' := Lib.hid hD'
    clear hD'
    go_wp2_with fail
    go_roundw
    case rel => exact ⟨k4 + 1, A', c', by omega, by simp [Nat.add_assoc], by go_num, Lib.hid (by have h := HD'.out; rw [List.replicate_succ']; simpa [Nat.add_assoc] using h)⟩
    case measure => simp [RowKit.intOf]; omega
  obtain ⟨b4, hb4⟩ : ∃ b4, Hid (b4 = z) := ⟨_, rfl⟩
  obtain rfl : k4 = b4 := by have := hb4.out; omega
  have dd4 : decide (k4 < z) = false := by have := hb4.out; simp; omega
  go_wp2_with fail
  go_loopw [0, 247] (fun d i wr => ∃ (k : Nat) (A' : Option Addr) (c' : Nat), k ≤ nd ∧ d = .slice A' (1 + 1 + 1 + k4 + k) c' ∧ i = .int .i64 k ∧ Hid (Dst base gb l w0 wr (.slice A' (1 + 1 + 1 + k4 + k) c') (1 + 1 + 1 + k4 + k) ([45] ++ [48] ++ [46] ++ List.replicate k4 48 ++ l.take (k)))) (fun _ i _ => nd - (RowKit.intOf i).toNat)
  case' atStart => exact ⟨0, A4, c4, Nat.zero_le _, rfl, rfl, Lib.hid (by simpa using HD4.out)⟩
  obtain ⟨k5, A5, c5, hk5, rfl, rfl, HD5⟩ := hrel
  rcases Nat.lt_or_ge k5 (nd) with hlt5 | hge5
  · have hkl : k5 < l.length := by have := hnd.out; omega
    have q := HD5.out.dig.2 (k5) hkl
    have ht : Hid (l.take (k5) ++ [l[k5]] = l.take (k5 + 1)) := Lib.hid (by simp [List.take_append_getElem])
    generalize hbv : l[k5] = bb at q ht
    clear hbv hkl
    go_wp2_with (at_builtin; refine app_dst rfl _ _ rfl base gb l w0 _ (1 + 1 + 1 + k4 + k5) ([45] ++ [48] ++ [46] ++ List.replicate k4 48 ++ l.take (k5)) rfl (HD5.out.alloc _) _ _ _ _ [bb] rfl (reads_new [bb] (cells1 rfl) _ rfl) (by omega) ?_)
    intro A' c' w' hD'
    have HD' := Lib.hid hD'
    clear hD'
    go_wp2_with fail
    go_roundw
    case rel => exact ⟨k5 + 1, A', c', by omega, by simp [Nat.add_assoc], by go_num, Lib.hid (by have h := HD'.out; rw [← ht.out]; simpa [Nat.add_assoc] using h)⟩
    case measure => simp [RowKit.intOf]; omega
  obtain ⟨b5, hb5⟩ : ∃ b5, Hid (b5 = nd) := ⟨_, rfl⟩
  obtain rfl : k5 = b5 := by have := hb5.out; omega
  have dd5 : decide (k5 < nd) = false := by have := hb5.out; simp; omega
  go_wp2_with fail
  go_loop [0, 261] (fun d i => d = .slice A5 (1 + 1 + 1 + k4 + k5) c5 ∧ i = .int .i64 0) (fun _ _ => 0)
  case' atStart => exact ⟨rfl, rfl⟩
  obtain ⟨rfl, rfl⟩ := hrel
  go_wp2_with fail
  go_ret
  refine told_of HD5.out ?_
  have e2 := hb5.out
  have e3 := hnd.out
  have e1 := hb4.out
  rw [show k4 = z by omega, efgF, if_neg (show ¬ (0 : Int) < -(z : Int) by omega), if_pos (show -(z : Int) < (l.length : Int) by omega), show (- -(z : Int)).toNat = z by omega, show (-(z : Int)).toNat = 0 by omega, List.take_of_length_le (show l.length ≤ k5 by omega)]
  simp [sgn]
end Go.Proofs.YtmphnnmnbpheiaaGreatDoor
