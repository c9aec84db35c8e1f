/- nat.setBytes. -/
import Derived.Test.YtdlkgbgenmpkiaaGreatDoorWords
import Derived.Deep.LoopGhost
import Derived.Deep.DeepCutAuto
namespace Go.Proofs.YtdlkgbgenmpkiaaGreatDoor
open Go Go.RowKit
set_option maxRecDepth 10000 in
set_option maxHeartbeats 400000 in
theorem beWord_any (b0 b1 b2 b3 b4 b5 b6 b7 : UInt8) (A : Addr) (n c : Nat) (w : World) (hn : 8 ≤ n) (hc : n ≤ c) (h : ∀ i, ∀ u, (bv [b0, b1, b2, b3, b4, b5, b6, b7])[i]? = some u → w.cell? (A.add i) = some u) :
    Calls Tryz.prog 39 #[.slice (some A) n c] w fun e w' => e = .returned (.int .u64 ((beNat [b0, b1, b2, b3, b4, b5, b6, b7] : Nat) : Int)) ∧ ∃ k, w' = w.drewN k := by
  have H := Lib.hid h
  clear h
  go_enter Tryz.func39, Tryz.ntmps39
  go_wp2_with fail
  refine (be64_any b0 b1 b2 b3 b4 b5 b6 b7 A n c w hn hc H.out).mono ?_
  rintro e w' ⟨rfl, k, rfl⟩
  go_wp2
  go_ret
  exact ⟨by rw [← word8]; rfl, k, rfl⟩
/-- The words laid so far, zeros behind them. -/
def laidW (pre : List Nat) (c : Nat) : Array Value := (wv pre ++ List.replicate (c - pre.length) (Value.int .u64 0)).toArray
theorem laidW_size (pre : List Nat) (c : Nat) (h : pre.length ≤ c) : (laidW pre c).size = c := by simp [laidW, wv_len]; omega
theorem laidW_get (pre : List Nat) (c k : Nat) (h : pre.length ≤ k) (hk : k < c) : (laidW pre c)[k]? = some (.int .u64 0) := by
  simp [laidW, List.getElem?_append, wv_len, List.getElem?_replicate]
  rw [if_neg (by omega), if_pos (by omega)]
theorem laidW_set (pre : List Nat) (c x : Nat) (h : pre.length < c) : (laidW pre c).setIfInBounds pre.length (.int .u64 x) = laidW (pre ++ [x]) c := by
  have e : c - pre.length = (c - (pre.length + 1)) + 1 := by omega
  simp only [laidW, List.setIfInBounds_toArray, List.length_append, List.length_singleton, e, List.replicate_succ]
  rw [List.set_append_right _ _ (by simp [wv_len])]
  simp [wv]
def SB1 (l : List UInt8) (w : World) (g c : Nat) (vi vk : Value) (wr : World) : Prop :=
  ∃ (i k : Nat) (pre : List Nat), vi = .int .i64 i ∧ vk = .int .i64 k ∧ l.length = i + 8 * k ∧ wordsOf l = pre ++ wordsOf (l.take i) ∧ pre.length = k ∧ Blk wr g 116 (laidW pre c) ∧ Below w.heap.size w wr
/-- A natural number is handed back, in new memory. -/
def OwnsNat (w : World) (x : Nat) (e : Ending) (w' : World) : Prop :=
  ∃ A c, e = .returned (.slice A (limbs x).length c) ∧ w'.ownsRow w.heap.size 116 1 (.slice A (limbs x).length c) (limbs x).length (wv (limbs x)) ∧ (limbs x).length ≤ c ∧ Below w.heap.size w w'
theorem own_laid (w w' : World) (g c k : Nat) (ws : List Nat) (hl : ws.length ≤ c) (hk : k ≤ ws.length) (hm : c ≤ maxLen) (hg : w.heap.size ≤ g) (hb : Blk w' g 116 (laidW ws c)) :
    w'.ownsRow w.heap.size 116 1 (.slice (some ⟨g, 0, none⟩) k c) k (wv (ws.take k)) := by
  refine ⟨by simp [wv_len]; omega, .inr ⟨g, c, _, rfl, hg, hb, by omega, hm, by rw [laidW_size ws c hl]; omega, ?_⟩⟩
  simp only [laidW, Nat.mul_one]
  rw [List.take_append_of_le_length (by rw [wv_len]; omega)]
  simp [wv, List.map_take]
theorem sb_fin (l : List UInt8) (w wr : World) (n c : Nat) (ws : List Nat) (hws : ws = wordsOf l) (hn : ws.length = n) (hnm : n ≤ 2147483647) (hc : n ≤ c) (hm : c ≤ 2147483651) (hb : Blk wr w.heap.size 116 (laidW ws c)) (hB : Below w.heap.size w wr) :
    Calls Tryz.prog 40 #[.slice (some ⟨w.heap.size, 0, none⟩) n c] wr (OwnsNat w (beNat l)) := by
  have hlt := hb.lt
  have hmm : c ≤ maxLen := by unfold maxLen; omega
  have hR := (Reads.of_own (own_laid w wr w.heap.size c n ws (by omega) (by omega) hmm (Nat.le_refl _) hb))
  rw [List.take_of_length_le (by omega)] at hR
  subst hn
  refine (norm_any ws _ c wr (by omega) hc hR).mono ?_
  rintro e w' ⟨k, h1, h2, h3, rfl, rfl⟩
  have e1 := limbs_take ws k (by rw [hws]; exact wordsOf_lt _ l rfl) h1 h2 h3
  rw [hws, natV_wordsOf _ l rfl, ← hws] at e1
  have e2 : k = (limbs (beNat l)).length := by rw [← e1, List.length_take]; omega
  have ho := own_laid w wr w.heap.size c k ws hc h1 hmm (Nat.le_refl _) hb
  rw [e1] at ho
  subst e2
  exact ⟨_, _, rfl, ho, by omega, hB⟩
set_option maxRecDepth 10000 in
set_option maxHeartbeats 400000 in
theorem setBytes_pos (l : List UInt8) (A : Option Addr) (c : Nat) (w : World) (h0 : 0 < l.length) (hl : l.length ≤ 2147483640) (hc0 : l.length ≤ c) (hr : Reads w w.heap.size 1 A l.length (bv l)) :
    Calls Tryz.prog 27 #[.slice none 0 0, .slice A l.length c] w (OwnsNat w (beNat l)) := by
  obtain ⟨ad, rfl⟩ : ∃ ad, A = some ad := (hr.2 h0).imp fun ad h => h.1
  have HR := Lib.hid hr
  clear hr
  go_enter Tryz.func27, Tryz.ntmps27
  go_wp2_with fail
  rw [show ((l.length : Int) + 8 - 1) / 8 = (((l.length + 7) / 8 : Nat) : Int) from by omega]
  have hpos : 0 < (l.length + 7) / 8 := by omega
  have hle : (l.length + 7) / 8 ≤ 2147483647 := by omega
  have hN : l.length = (l.length + 7) / 8 * 8 - ((l.length + 7) / 8 * 8 - l.length) := by omega
  generalize hn : (l.length + 7) / 8 = n at *
  have HN := Lib.hid (And.intro hn hN)
  clear hn hN
  refine (makeNil_pos n hpos hle w).mono ?_
  rintro e w1 ⟨c1, rfl, hB, hb, hz, hc1, hc2⟩
  have HZ := Lib.hid hz
  clear hz
  go_wp2_with fail
  go_loopw [5, 6] (fun vi vk wr => SB1 l w w.heap.size c1 vi vk wr) (fun vi _ _ => (intOf vi).toNat)
  case atStart => exact ⟨l.length, 0, [], rfl, rfl, by omega, by simp, rfl, by simpa [laidW, wv] using hb, hB⟩
  case round =>
    obtain ⟨i, k, pre, rfl, rfl, hik, hpre, hk, hb1, hB1⟩ := hrel
    have HP := Lib.hid (And.intro hik (And.intro hpre hk))
    have hik1 : l.length ≤ i + 8 * k := by omega
    have hik2 : i + 8 * k ≤ l.length := by omega
    clear hpre hk hik
    try clear hb
    by_cases hi : 8 ≤ i
    · obtain ⟨j, rfl⟩ : ∃ j, i = j + 8 := ⟨i - 8, by omega⟩
      obtain ⟨b0, b1, b2, b3, b4, b5, b6, b7, hbytes⟩ := list8 ((l.take (j + 8)).drop j) (by simp; omega)
      have hcell : ∀ i, ∀ u, (bv [b0, b1, b2, b3, b4, b5, b6, b7])[i]? = some u → wr.cell? ((ad.add j).add i) = some u := by
        intro i u hu
        rw [← hbytes] at hu
        obtain ⟨ad', e, hlt, hc⟩ := (HR.out.below hB1).2 h0
        cases e
        rw [add_of_add]
        refine hc (j + i) u ?_
        simp only [bv, List.getElem?_map, List.getElem?_drop, List.getElem?_take] at hu ⊢
        split at hu
        · exact hu
        · simp at hu
      have hkn : k < n := by have := HN.out.1; omega
      have hkn' : (k : Int) < (n : Int) := by omega
      have HC := Lib.hid hcell
      have HBY := Lib.hid hbytes
      clear hcell hbytes
      go_wp2_with fail
      refine (beWord_any b0 b1 b2 b3 b4 b5 b6 b7 (ad.add j) 8 (c - j) wr (by omega) (by omega) HC.out).mono ?_
      rintro e w2 ⟨rfl, nq, rfl⟩
      have hb2 := hb1.drewN nq
      have q0 := hb2.cell k
      rw [laidW_get pre c1 k (by have := HP.out.2.2; omega) (by omega)] at q0
      have q1 := hb2.frozen k
      generalize hx : beNat [b0, b1, b2, b3, b4, b5, b6, b7] = x at *
      have HX := Lib.hid hx
      clear hx hb2
      go_wp2
      go_roundw
      case rel =>
        have hx := HX.out
        have hbytes := HBY.out
        obtain ⟨h1, h2, h3⟩ := HP.out
        subst h3
        have hb3 := (hb1.drewN nq).set_ pre.length (.int .u64 x)
        rw [laidW_set pre c1 x (by omega)] at hb3
        have hlen8 : (l.take (j + 8)).length = j + 8 := by simp; omega
        refine ⟨j, pre.length + 1, pre ++ [x], rfl, by go_num, by omega, ?_, by simp, hb3, (hB1.drewN_ nq).setCell (Nat.le_refl _) _⟩
        rw [h2, wordsOf_long _ (by omega), hlen8, Nat.add_sub_cancel, hbytes, hx, List.take_take, Nat.min_eq_left (by omega)]
        simp
      case measure => simp [intOf]; omega
    · by_cases hi0 : i = 0
      · subst hi0
        go_wp2_with fail
        have hws : wordsOf l = pre := by have := HP.out.2.1; rw [List.take_zero, wordsOf_nil, List.append_nil] at this; exact this
        have hn : pre.length = n := by have := HN.out.1; have := HP.out.1; have := HP.out.2.2; omega
        refine (sb_fin l w wr n c1 pre hws.symm hn hle hc1 (by omega) hb1 hB1).mono ?_
        rintro e w' ⟨A1, c2, rfl, ho, hc2, hB2⟩
        clear HP HR hb1
        go_wp2
        go_ret
        exact ⟨A1, c2, rfl, ho, hc2, hB2⟩
      · have hi1 : 0 < i := by omega
        go_wp2_with fail
        go_loop [5, 7, 8] (fun vi vd vs => ∃ r t : Nat, r + t = i ∧ vi = .int .i64 r ∧ vd = .int .u64 ((beNat ((l.take i).drop r) : Nat) : Int) ∧ vs = .int .u64 ((8 * t : Nat) : Int)) (fun vi _ _ => (intOf vi).toNat)
        case atStart => exact ⟨i, 0, by omega, rfl, by simp [beNat], rfl⟩
        case round =>
          obtain ⟨r, t, hrt, rfl, rfl, rfl⟩ := hrel
          rcases r with _ | r
          · have hk : k + 1 = n := by have := HN.out.1; have := HP.out.1; omega
            have q0 := hb1.cell k
            rw [laidW_get pre c1 k (by have := HP.out.2.2; omega) (by omega)] at q0
            have q1 := hb1.frozen k
            have hk' : (n : Int) - 1 = (k : Int) := by omega
            have hkn : (k : Int) < (n : Int) := by omega
            have HK := Lib.hid hk
            clear hk
            go_wp2_with fail
            have hb2 := hb1.set_ k (.int .u64 ((beNat (l.take i) : Nat) : Int))
            obtain ⟨p1, p2, p3⟩ := HP.out
            rw [← p3, laidW_set pre c1 _ (by omega), p3] at hb2
            have hws : pre ++ [beNat (l.take i)] = wordsOf l := by rw [p2, wordsOf_short _ (by simp; omega) (by simp; omega)]
            refine (sb_fin l w _ n c1 (pre ++ [beNat (l.take i)]) hws (by have := HK.out; simp; omega) hle hc1 (by omega) hb2 (hB1.setCell (Nat.le_refl _) _)).mono ?_
            rintro e w' ⟨A1, c2, rfl, ho, hc2, hB2⟩
            clear HP HR hb1 hws hb2 p1 p2 p3
            go_wp2
            go_ret
            exact ⟨A1, c2, rfl, ho, hc2, hB2⟩
          · have ht : t = 0 ∨ t = 1 ∨ t = 2 ∨ t = 3 ∨ t = 4 ∨ t = 5 ∨ t = 6 := by omega
            obtain ⟨ad', b, e, _, hb, hcell⟩ := (HR.out.below hB1).byteQ (k := r) (by omega)
            cases e
            have hs := sb_step l i r t b (by omega) (by omega) (by omega) hb
            have HB := Lib.hid hs
            clear hb hs
            have hrt1 : r + 1 + t ≤ i := by omega
            have hrt2 : i ≤ r + 1 + t := by omega
            clear hrt
            rcases ht with rfl | rfl | rfl | rfl | rfl | rfl | rfl
            all_goals
              go_wp2
              refine ⟨⟨r, i - r, by omega, rfl, ?_, congrArg _ (by omega)⟩, by simp [intOf]⟩
              have hs := HB.out
              simp only [Nat.reducePow, Int.natCast_one, Int.mul_one] at hs
              exact congrArg _ hs
set_option maxRecDepth 10000 in
set_option maxHeartbeats 400000 in
theorem setBytes_zero (A : Option Addr) (c : Nat) (w : World) :
    Calls Tryz.prog 27 #[.slice none 0 0, .slice A 0 c] w (OwnsNat w 0) := by
  go_enter Tryz.func27, Tryz.ntmps27
  go_wp2_with fail
  refine (makeNil_zero w).mono ?_
  rintro e w1 ⟨rfl, rfl⟩
  go_wp2_with fail
  refine wp_loop_rounds 1 ?_
  rw [rounds_succ]
  go_wp2_with fail
  refine (norm_any [] none 0 w (by simp) (by simp) Reads.none_).mono ?_
  rintro e w1 ⟨k, h1, h2, h3, rfl, rfl⟩
  obtain rfl : k = 0 := by simpa using h1
  go_wp2
  go_ret
  exact ⟨none, 0, by rw [limbs_zero]; rfl, by rw [limbs_zero]; exact World.ownsRow_nil _ _ _ _, by rw [limbs_zero]; simp, Below.refl _ _⟩
theorem setBytes_any (l : List UInt8) (A : Option Addr) (n c : Nat) (w : World) (hn : l.length = n) (hl : n ≤ 2147483640) (hc0 : n ≤ c) (hr : Reads w w.heap.size 1 A n (bv l)) :
    Calls Tryz.prog 27 #[.slice none 0 0, .slice A n c] w (OwnsNat w (beNat l)) := by
  subst hn
  rcases Nat.eq_zero_or_pos l.length with h0 | h0
  · obtain rfl := List.eq_nil_of_length_eq_zero h0
    exact setBytes_zero A c w
  · exact setBytes_pos l A c w h0 hl hc0 hr
end Go.Proofs.YtdlkgbgenmpkiaaGreatDoor
