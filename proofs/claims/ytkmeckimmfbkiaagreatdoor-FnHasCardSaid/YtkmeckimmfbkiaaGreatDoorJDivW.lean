/- Division by one word. Conditions: none. -/
import Derived.Test.YtkmeckimmfbkiaaGreatDoorDivWW
import Derived.Test.YtkmeckimmfbkiaaGreatDoorJArith
namespace Go.Proofs.YtkmeckimmfbkiaaGreatDoor
open Go Go.RowKit
/-- The state of 'z = x / y' when k words are left. -/
def DV (xs : List Nat) (y : Nat) (ws : List Nat) (w : World) (g : Nat) (vr vi : Value) (wr : World) : Prop :=
  ∃ (k : Nat) (qs : List Nat) (r q : Nat), vi = .int .i64 ((k : Int) - 1) ∧ vr = .int .u64 r ∧ k ≤ xs.length ∧ qs.length = xs.length - k ∧ (∀ z ∈ qs, z < 18446744073709551616) ∧ r < y ∧
    natV (xs.drop k) = y * natV qs + r ∧ Blk wr g 157 (wv (ws.take k ++ qs ++ ws.drop xs.length)).toArray ∧ (w.drewN q).grownBy wr (some g) ∧ wr.heap.size = w.heap.size
theorem dv_step (xs qs : List Nat) (y r k : Nat) (hk : k < xs.length) (_hy : 0 < y) (h : natV (xs.drop (k + 1)) = y * natV qs + r) :
    natV (xs.drop k) = y * natV ((r * 18446744073709551616 + xs[k]) / y :: qs) + (r * 18446744073709551616 + xs[k]) % y := by
  have e := Nat.div_add_mod (r * 18446744073709551616 + xs[k]) y
  rw [List.drop_eq_getElem_cons hk]
  simp only [natV]
  rw [h, Nat.mul_add y, Nat.mul_add 18446744073709551616, Nat.mul_left_comm y]
  omega
set_option maxRecDepth 10000 in
set_option maxHeartbeats 400000 in
theorem divWVW_any (xs : List Nat) (y : Nat) (g cap : Nat) (ws : List Nat) (A : Option Addr) (n cx : Nat) (w : World) (hn : xs.length = n) (hn1 : 1 < n) (hl : n ≤ 2147483000) (hw : n ≤ ws.length) (hcap : n ≤ cap) (hcx : n ≤ cx)
    (hx : ∀ x ∈ xs, x < 18446744073709551616) (hy0 : 0 < y) (hy : y < 18446744073709551616) (hb : Blk w g 157 (wv ws).toArray) (hr : Reads w g 1 A n (wv xs)) :
    Calls Tryz.prog 172 #[.slice (some ⟨g, 0, none⟩) n cap, .int .u64 0, .slice A n cx, .int .u64 y] w fun e w' => ∃ (qs : List Nat) (r : Nat), e = .returned (.int .u64 r) ∧ qs.length = n ∧ (∀ z ∈ qs, z < 18446744073709551616) ∧ r < y ∧
      natV xs = y * natV qs + r ∧ Blk w' g 157 (wv (qs ++ ws.drop n)).toArray ∧ (∃ q, (w.drewN q).grownBy w' (some g)) ∧ w'.heap.size = w.heap.size := by
  have HH := Lib.hid (And.intro hn (And.intro hr (And.intro hb hx)))
  have n1 : ((n : Int) == 1) = false := by rw [beq_eq_false_iff_ne]; omega
  have HRec := Lib.hid (reciprocalWord_any y hy0 hy w)
  clear hn hr hb hx
  go_enter Tryz.func172, Tryz.ntmps172
  go_wp2_with fail
  refine HRec.out.mono ?_
  rintro e w1 ⟨rfl, q1, rfl⟩
  go_wp2_with fail
  go_loopw [8, 12] (fun vr vi wr => DV xs y ws w g vr vi wr) (fun _ vi _ => (intOf vi + 1).toNat)
  case atStart =>
    obtain ⟨hn, hr, hb, hx⟩ := HH.out
    exact ⟨n, [], 0, q1, by go_num, rfl, by omega, by simp [hn], by simp, hy0, by rw [List.drop_of_length_le (by omega)]; simp [natV], by rw [hn]; simpa using hb.drewN q1, World.grownBy.refl _ _, rfl⟩
  case round =>
    obtain ⟨k, qs, r, qd, rfl, rfl, hk, hz, hzb, hrl, hv, hb, hg, hs⟩ := hrel
    obtain ⟨hn, hr, hb0, hx⟩ := HH.out
    subst hn
    rcases k with _ | k
    · have HP := Lib.hid (And.intro hz (And.intro hzb (And.intro hrl (And.intro hv (And.intro hb hg)))))
      clear hr hx hz hzb hv hg hb hb0 hrl
      go_wp2
      go_ret
      obtain ⟨hz, hzb, hrl, hv, hb, hg⟩ := HP.out
      exact ⟨qs, r, rfl, by simpa using hz, hzb, hrl, by simpa using hv, by simpa using hb, ⟨qd, hg⟩, hs⟩
    · have hk' : k < xs.length := by omega
      have hlt := hb0.lt
      have hrw := (hr.drewN qd).grown hg (Nat.le_of_lt hlt) (fun _ e => by cases e; exact Nat.le_refl _)
      obtain ⟨ad, rfl, _, q0⟩ := hrw.word hk'
      have hxk := hx _ (List.getElem_mem hk')
      obtain ⟨u0, p1⟩ : ∃ u : Value, wr.cell? ⟨g, k, none⟩ = some u := by
        have p1 := hb.cell k
        rw [wv_cell, List.append_assoc, List.getElem?_append_left (by simp; omega), List.getElem?_take, if_pos (by omega), List.getElem?_eq_getElem (by omega)] at p1
        exact ⟨_, p1⟩
      have p2 := hb.frozen k
      have hst := dv_step xs qs y r k hk' hy0 hv
      have hC := fun w => divWW_any r xs[k] y hrl hxk hy w
      have hm : (r * 18446744073709551616 + xs[k]) % y < y := Nat.mod_lt _ hy0
      have hd : (r * 18446744073709551616 + xs[k]) / y < 18446744073709551616 := by
        rw [Nat.div_lt_iff_lt_mul hy0]
        have := Nat.mul_le_mul_left 18446744073709551616 (Nat.succ_le_of_lt hrl)
        rw [Nat.mul_succ] at this
        omega
      obtain ⟨r', hr'⟩ : ∃ r', r' = (r * 18446744073709551616 + xs[k]) % y := ⟨_, rfl⟩
      obtain ⟨d, hd'⟩ : ∃ d, d = (r * 18446744073709551616 + xs[k]) / y := ⟨_, rfl⟩
      simp only [← hr', ← hd'] at hst hC hm hd
      have HP := Lib.hid (And.intro hz (And.intro hzb (And.intro hb (And.intro hg (And.intro hst (And.intro hm hd))))))
      have HC := Lib.hid hC
      clear hz hzb hv hg hr hx hb hrw hst hr' hd' hm hd hC hrl hb0 hxk
      generalize xs[k] = x at *
      have b1 : (k : Int) < (xs.length : Int) := by omega
      go_wp2_with fail
      refine (HC.out _).mono ?_
      rintro e w2 ⟨rfl, rfl⟩
      go_wp2
      go_roundw
      case rel =>
        obtain ⟨hz, hzb, hb, hg, hst, hm, hd⟩ := HP.out
        have hb2 := hb.set_ k (.int .u64 d)
        rw [wv_set, List.append_assoc, List.set_append_left _ _ (by simp; omega), ← List.take_append_getElem (show k < ws.length by omega), List.set_append_right _ _ (by simp; omega)] at hb2
        refine ⟨k, d :: qs, r', qd, by go_num, rfl, by omega, by simp [hz]; omega, ?_, hm, hst, ?_, grown_set hg _, by simpa using hs⟩
        · intro z hzm
          rcases List.mem_cons.1 hzm with h | h
          · rw [h]; exact hd
          · exact hzb z h
        · rw [show k - (ws.take k).length = 0 by simp; omega, List.set_cons_zero] at hb2
          simpa using hb2
      case measure => simp [intOf]
/-- A natural number in new memory, and a word. -/
def OwnsNatW (w : World) (x r : Nat) (e : Ending) (w' : World) : Prop :=
  ∃ A c, e = .returned (.tuple #[.slice A (limbs x).length c, .int .u64 r]) ∧ w'.ownsRow w.heap.size 157 1 (.slice A (limbs x).length c) (limbs x).length (wv (limbs x)) ∧ (limbs x).length ≤ c ∧ Below w.heap.size w w'
set_option maxRecDepth 10000 in
set_option maxHeartbeats 400000 in
theorem divWNil_any (X y : Nat) (A : Option Addr) (n cx : Nat) (w : World) (hn : (limbs X).length = n) (hn1 : 1 < n ∨ y = 1) (hl : n ≤ 2147483000) (hcx : n ≤ cx) (hy0 : 0 < y) (hy : y < 18446744073709551616) (hr : Reads w w.heap.size 1 A n (wv (limbs X))) :
    Calls Tryz.prog 159 #[.slice none 0 0, .slice A n cx, .int .u64 y] w (OwnsNatW w (X / y) (X % y)) := by
  have HH := Lib.hid (And.intro hn hr)
  clear hn hr
  have y0 : ((y : Int) == 0) = false := by rw [beq_eq_false_iff_ne]; omega
  by_cases h1 : y = 1
  · subst h1
    go_enter Tryz.func159, Tryz.ntmps159
    go_wp2_with fail
    refine (setNil_any X A n cx w HH.out.1 (by omega) hcx HH.out.2).mono ?_
    rintro e w1 ⟨A1, c1, rfl, ho, hc, hB⟩
    have HO := Lib.hid (And.intro ho (And.intro hc hB))
    clear ho hc hB
    go_wp2
    go_ret2
    exact ⟨A1, c1, by rw [Nat.div_one, Nat.mod_one]; rfl, by rw [Nat.div_one]; exact HO.out.1, by rw [Nat.div_one]; exact HO.out.2.1, HO.out.2.2⟩
  · have hn1 : 1 < n := hn1.resolve_right h1
    have n0 : ((n : Int) == 0) = false := by rw [beq_eq_false_iff_ne]; omega
    have y1 : ((y : Int) == 1) = false := by rw [beq_eq_false_iff_ne]; omega
    go_enter Tryz.func159, Tryz.ntmps159
    go_wp2_with fail
    refine (makeNew_any none 0 0 n (by omega) hn1 (by omega) w).mono ?_
    rintro e w1 ⟨rfl, hB, hb, hz⟩
    have HB := Lib.hid (And.intro hB (And.intro hb hz))
    clear hB hb hz
    go_wp2_with fail
    refine (divWVW_any (limbs X) y w.heap.size (n + 4) (List.replicate (n + 4) 0) A n cx w1 HH.out.1 hn1 hl (by simp) (by omega) hcx (limbs_lt X) hy0 hy HB.out.2.1 (HH.out.2.below HB.out.1)).mono ?_
    rintro e w2 ⟨qs, r, rfl, h1', h2, h3, h4, h5, ⟨q, h6⟩, h7⟩
    obtain ⟨hB, hb, hz⟩ := HB.out
    have hB2 := (hB.drewN_ q).grown h6 (by show w.heap.size ≤ w1.heap.size; omega) (fun _ e => by cases e; exact Nat.le_refl _)
    have hN := norm_own w w2 (qs ++ (List.replicate (n + 4) 0).drop n) w.heap.size n (n + 4) h5 (Nat.le_refl _) (by simp [h1']) (by omega) (by omega) (by omega) (by
      intro x hx
      rcases List.mem_append.1 hx with h | h
      · exact h2 x h
      · rw [List.eq_of_mem_replicate (List.mem_of_mem_drop h)]; omega) hB2
    rw [List.take_append_of_le_length (by omega), List.take_of_length_le (by omega)] at hN
    rw [natV_limbs] at h4
    have e1 : X / y = natV qs := by rw [h4, Nat.mul_add_div hy0, Nat.div_eq_of_lt h3]; rfl
    have e2 : X % y = r := by rw [h4, Nat.mul_add_mod, Nat.mod_eq_of_lt h3]
    rw [← e1] at hN
    have HN := Lib.hid hN
    have HE := Lib.hid e2
    clear h1' h2 h3 h4 h5 h6 h7 hB hb hz hB2 hN e1 e2
    go_wp2_with fail
    refine HN.out.mono ?_
    rintro e w3 ⟨A3, c3, rfl, ho, hc, hB3⟩
    have HO := Lib.hid (And.intro ho (And.intro hc hB3))
    clear ho hc hB3
    go_wp2
    go_ret2
    exact ⟨A3, c3, by rw [HE.out]; rfl, HO.out.1, HO.out.2.1, HO.out.2.2⟩
end Go.Proofs.YtkmeckimmfbkiaaGreatDoor
namespace Go.Proofs.YtkmeckimmfbkiaaGreatDoor
open Go Go.RowKit
/-- The words of x, in memory that is newer than w. -/
def NewNat (w w' : World) (A : Option Addr) (c x : Nat) : Prop :=
  Reads w' w'.heap.size 1 A (limbs x).length (wv (limbs x)) ∧ (limbs x).length ≤ c ∧ ∀ ad, A = some ad → w.heap.size ≤ ad.block
theorem NewNat.of_own {w w' : World} {A : Option Addr} {c x : Nat} (h : w'.ownsRow w.heap.size 157 1 (.slice A (limbs x).length c) (limbs x).length (wv (limbs x))) (hc : (limbs x).length ≤ c) : NewNat w w' A c x := by
  refine ⟨Reads.of_own h, hc, fun ad e => ?_⟩
  obtain ⟨A', c', h1, _, _, h2⟩ := own_slice h
  cases h1
  exact h2 ad e
theorem NewNat.below {w w' w'' : World} {A : Option Addr} {c x : Nat} (h : NewNat w w' A c x) (hb : Below w'.heap.size w' w'') : NewNat w w'' A c x :=
  ⟨(h.1.below hb).more hb.size, h.2.1, h.2.2⟩
theorem NewNat.older {w0 w w' : World} {A : Option Addr} {c x : Nat} (h : NewNat w w' A c x) (hb : w0.heap.size ≤ w.heap.size) : NewNat w0 w' A c x :=
  ⟨h.1, h.2.1, fun ad e => Nat.le_trans hb (h.2.2 ad e)⟩
set_option maxRecDepth 10000 in
set_option maxHeartbeats 400000 in
theorem divNil_any (X y : Nat) (stk : Value) (A : Option Addr) (B : Addr) (n cx cy : Nat) (w : World) (hn : (limbs X).length = n) (hn1 : 1 < n ∨ y = 1) (hl : n ≤ 2147483000) (hcx : n ≤ cx) (_hcy : 1 ≤ cy) (hy0 : 0 < y) (hy : y < 18446744073709551616) (hr : Reads w w.heap.size 1 A n (wv (limbs X))) (hry : w.cell? B = some (.int .u64 y)) :
    Calls Tryz.prog 138 #[.slice none 0 0, stk, .slice none 0 0, .slice A n cx, .slice (some B) 1 cy] w fun e w' => ∃ A1 c1 A2 c2, e = .returned (.tuple #[.slice A1 (limbs (X / y)).length c1, .slice A2 (limbs (X % y)).length c2]) ∧
      NewNat w w' A1 c1 (X / y) ∧ NewNat w w' A2 c2 (X % y) ∧ Below w.heap.size w w' := by
  have HC := Lib.hid (divWNil_any X y A n cx w hn hn1 hl hcx hy0 hy hr)
  have hm : X % y < 18446744073709551616 := Nat.lt_trans (Nat.mod_lt _ hy0) hy
  clear hn hr
  go_enter_defers Tryz.func138, Tryz.ntmps138
  go_wp2_with fail
  refine HC.out.mono ?_
  rintro e w1 ⟨A1, c1, rfl, ho, hc, hB⟩
  have HO := Lib.hid (And.intro ho (And.intro hc hB))
  clear ho hc hB
  go_wp2_with fail
  refine (setWordNil_any (X % y) w1 hm).mono ?_
  rintro e w2 ⟨⟨A2, c2, rfl, ho2, hc2, hB2⟩, _⟩
  have HO2 := Lib.hid (And.intro ho2 (And.intro hc2 hB2))
  clear ho2 hc2 hB2
  go_wp2_with fail
  refine ⟨_, results_tmp2 rfl _ _ _, ?_⟩
  have hs := HO.out.2.2.size
  exact ⟨A1, c1, A2, c2, rfl, (NewNat.of_own HO.out.1 HO.out.2.1).below HO2.out.2.2, (NewNat.of_own HO2.out.1 HO2.out.2.1).older hs, HO.out.2.2.trans (HO2.out.2.2.mono hs)⟩
end Go.Proofs.YtkmeckimmfbkiaaGreatDoor
