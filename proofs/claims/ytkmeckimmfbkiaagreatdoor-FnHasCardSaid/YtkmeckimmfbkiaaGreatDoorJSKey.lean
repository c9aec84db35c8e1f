/- The reference's Key and Find, of rows that are being made. Conditions: none. -/
import Derived.Test.YtkmeckimmfbkiaaGreatDoorJSEq
import Derived.Deep.RegionLaw
namespace Go.Proofs.YtkmeckimmfbkiaaGreatDoor
open Go Go.RowKit
set_option maxRecDepth 10000 in
set_option maxHeartbeats 400000 in
theorem key_small (k : Int) (neg : Bool) (A : Option Addr) (n c : Nat) (b : Int) (t : ByteArray) (K : Option Addr) (m d : Nat) (w : World) (hk : k < 6) (ht : t.size ≤ 60) :
    Calls Tryz.prog 22 #[.agg #[.int .i64 k, .bool neg, .slice A n c, .int .u64 b, .string t, .slice K m d]] w fun e w' => e = .returned (.agg #[.int .i64 k, .bool neg, .slice A n c, .int .u64 b, .string t, .slice K m d]) ∧ Below w.heap.size w w' := by
  have hmin : min (t.size : Int) 60 = (t.size : Int) := by omega
  go_enter Tryz.func22, Tryz.ntmps22
  go_wp2
  refine gen2 (M := fun W => bodyPost _ _ _ _ _ W) fun W hB b1 b2 hz => ?_
  exact ret_row rfl _ b2 rfl Tryz.underlying26 rfl size28 rfl ⟨rfl, hB⟩
/-- A value is handed back; its parts lie in new blocks, or where P says. -/
def RetN (w : World) (P : Nat → Prop) (s : S) (e : Ending) (w' : World) : Prop := ∃ v, e = .returned v ∧ VN w' (fun b => P b ∨ (w.heap.size ≤ b ∧ b < w'.heap.size)) s v ∧ Below w.heap.size w w'
theorem reads_new (w : World) (e0 e1 e2 e3 e4 e5 : Value) : Reads (w.alloc (.cells #[e0, e1, e2, e3, e4, e5] 26)) (w.heap.size + 1) 6 (some ⟨w.heap.size, 0, none⟩) 1 [e0, e1, e2, e3, e4, e5] := by
  refine ⟨rfl, fun _ => ⟨_, rfl, Nat.lt_succ_self _, fun j u hu => ?_⟩⟩
  have h := (Blk.new w 26 #[e0, e1, e2, e3, e4, e5]).cell j
  have e : (#[e0, e1, e2, e3, e4, e5] : Array Value)[j]? = some u := by simpa using hu
  rw [e] at h
  rw [← h]
  unfold Addr.add
  split
  · next hj => subst hj; rfl
  · simp
theorem own_below {w w' : World} {base e size n : Nat} {v : Value} {xs : List Value} (h : w.ownsRow base e size v n xs) (hb : Below w.heap.size w w') : w'.ownsRow base e size v n xs :=
  h.kept (row := none) ⟨hb.os, hb.tape, hb.output, hb.size, fun k hk _ => hb.block k hk⟩ (by cases hv : v.ownBlock <;> simp)
theorem OutI.ne {W wr : World} {gO : Nat} {kd : Int} {P : Nat → Prop} {l : List S} {n : Nat} {K : Option Addr} {c : Nat} {xs : List Value} (h : OutI W gO kd P l n wr K c xs) : some gO ≠ (Value.slice K n c).ownBlock := fun e => by
  have := h.2.2.1.lt gO e.symm
  omega
set_option maxRecDepth 10000 in
set_option maxHeartbeats 4000000 in
theorem key_row (k : Int) (P : Nat → Prop) (l : List S) (neg : Bool) (A : Option Addr) (n c : Nat) (b : Int) (t : ByteArray) (K : Option Addr) (m d : Nat) (xs : List Value) (w : World) (hk : 6 ≤ k) (hm : l.length = m) (hm16 : m ≤ 16) (hP : ∀ b, P b → b < w.heap.size) (hx : RN w P 6 K m xs)
    (ih : ∀ (i : Nat) (s : S) (u : Value), l[i]? = some s → RowV xs i u → ∀ V, Below w.heap.size w V → Calls Tryz.prog 22 #[u] V (RetN V P (keyOf s))) :
    Calls Tryz.prog 22 #[.agg #[.int .i64 k, .bool neg, .slice A n c, .int .u64 b, .string t, .slice K m d]] w (RetN w P (.tuple (keyOfL l))) := by
  have HX := Lib.hid (And.intro (hx.toReads hP) (And.intro ih (And.intro hP hm)))
  have b1 : ¬ k < 6 := by omega
  obtain ⟨iV, hi, hz, hs, hby⟩ := info_parts infoVal
  have HI := Lib.hid (And.intro hi (And.intro hz (And.intro hs hby)))
  clear hx ih hP hm hk hi hz hs hby
  go_enter Tryz.func22, Tryz.ntmps22
  go_wp2_with fail
  refine gen3 (M := fun W => Code.wp _ _ _ _ W) fun W hB b1 b2 b3 hz => ?_
  have hz1 : w.heap.size + 1 + 1 < W.heap.size := by omega
  clear hz
  have HB := Lib.hid (And.intro hB (And.intro b1 (And.intro b2 b3)))
  clear hB b1 b2 b3
  go_loopw [4] (fun vi wr => ∃ (i : Nat) (K' : Option Addr) (c' : Nat) (ys : List Value), vi = .int .i64 i ∧ i ≤ m ∧ OutI W (w.heap.size + 1 + 1) 7 P (keyOfL (l.take i)) i wr K' c' ys) (fun vi _ => m - (intOf vi).toNat)
  case atStart => exact ⟨0, none, 0, [], rfl, by omega, by rw [List.take_zero]; exact OutI.start HB.out.2.2.2 (Below.refl _ _)⟩
  case round =>
    obtain ⟨i, K', c', ys, rfl, hi, hO⟩ := hrel
    have hBW := hO.2.2.2.2
    obtain ⟨x0, x1, x2, x3, x4, x5, _, _, _, _, _, _⟩ := (HB.out.2.1.below hBW (by omega)).c6
    obtain ⟨y0, y1, y2, y3, y4, y5, _, _, _, _, _, _⟩ := hO.2.1.c6
    have HO := Lib.hid hO
    rcases Nat.lt_or_ge i m with hlt | hge
    · have bi : (i : Int) < (m : Int) := by omega
      have wi : IntKind.i64.wrap ((i : Int) + 1) = (i : Int) + 1 := by rw [IntKind.wrap_i64]; omega
      obtain ⟨ad, p0, p1, p2, p3, p4, p5, rfl, had, hrow, hsix⟩ := HX.out.1.six2 hlt
      have hlo : i < l.length := by rw [HX.out.2.2.2]; exact hlt
      have hs := List.getElem?_eq_getElem hlo
      have hBw := HB.out.1.trans (hBW.mono (by omega))
      have HC := Lib.hid (HX.out.2.1 i _ _ hs hrow wr.drew hBw.drew)
      have HS := Lib.hid hs
      obtain ⟨g0, g1, g2, g3, g4, g5⟩ := hsix.below hBw had
      have hgl := hO.2.1.lt
      clear hsix hBw hBW hrow hs hO
      go_wp2_with fail
      go_region_law (first
        | (refine step_append_any _ rfl (.tmp 26) (.tmp 33) 24 rfl (w.heap.size + 1 + 1 + 1) 26 iV _ 6 88 Tryz.underlying24 HI.out.1 HI.out.2.1 HI.out.2.2.1 HI.out.2.2.2 rfl (by decide) (.slice K' i c') i ys rfl HW5.out _ _ 1 1 _ rfl (reads_new w5 _ _ _ _ _ _) (by simp [Value.oneCell']) (by unfold maxLen; omega) (by omega) (by simp; omega) ?_
           intro v7 w7 ho7 hg7 hr7
           obtain ⟨K7, c7, rfl, hc7, _, _⟩ := own_slice ho7
           have b7 := HB5.out.2.grown hg7 HO.out.ne
           obtain ⟨y0, y1, y2, y3, y4, y5, f0, f1, f2, f3, f4, f5⟩ := b7.c6
           have H7 := Lib.hid (And.intro ho7 (And.intro hg7 hr7))
           clear ho7 hg7 hr7 hc7 b7)
        | (go_simp; go_at_call 22; refine HC.out.mono ?_
           rintro e w5 ⟨v5, rfl, hv5, hB5⟩
           have hB5 : Below wr.heap.size wr w5 := ⟨hB5.os, hB5.tape, hB5.output, hB5.size, hB5.block⟩
           obtain ⟨ng5, A5, n5, c5, bb5, tt5, K5, m5, d5, rfl⟩ := hv5.six
           generalize kindN (keyOf l[i]) = kd5 at hv5 ⊢
           have b5 := HO.out.2.1.below hB5 hgl
           obtain ⟨y0, y1, y2, y3, y4, y5, _, _, _, _, _, _⟩ := b5.c6
           have b5a := b5.alloc (.cells #[.int .i64 kd5, .bool ng5, .slice A5 n5 c5, .int .u64 bb5, .string tt5, .slice K5 m5 d5] 26)
           obtain ⟨_, _, _, _, _, y5a, _, _, _, _, _, _⟩ := b5a.c6
           have HW5 := Lib.hid ((own_below HO.out.2.2.1 hB5).alloc (.cells #[.int .i64 kd5, .bool ng5, .slice A5 n5 c5, .int .u64 bb5, .string tt5, .slice K5 m5 d5] 26))
           have hs5 := hB5.size
           have HB5 := Lib.hid (And.intro (And.intro hB5 hv5) b5a)
           clear hv5 hB5 b5 b5a))
      all_goals
        go_wp2
        exact ⟨⟨i + 1, K7, c7, _, by go_num, by omega, by rw [keyOfL_take l i _ HS.out]; exact OutI.push HO.out (fun b hb => by have := HX.out.2.2.1 b hb; omega) HB5.out.1.1 (KN.one HB5.out.1.2) rfl H7.out.2.1 H7.out.1 H7.out.2.2⟩, by simp only [intOf]; omega⟩
    · have him : i = m := by omega
      subst him
      have bi : ¬ (i : Int) < (i : Int) := by omega
      have hr := HB.out.2.2.1.below hBW (by omega)
      obtain ⟨r0, r1, r2, r3, r4, r5, f0, f1, f2, f3, f4, f5⟩ := hr.c6
      have HR := Lib.hid (And.intro hr (HB.out.1.trans (hBW.mono (by omega))))
      clear hr hBW hO
      go_wp2
      refine gen_set6 (M := fun V => bodyPost _ _ _ _ _ V) HR.out.1 fun W6 b6 hg6 hz6 => ?_
      obtain ⟨hc', hRN, hKN⟩ := HO.out.rn
      have hP := HX.out.2.2.1
      have hml := HX.out.2.2.2
      have htk : l.take i = l := List.take_of_length_le (by omega)
      rw [htk] at hKN
      have hsz := HR.out.2.size
      have hcell : ∀ p : Addr, (P p.block ∨ (w.heap.size + 1 + 1 < p.block ∧ p.block < wr.heap.size)) → W6.cell? p = wr.cell? p := fun p hp => World.cell?_of_block (hg6.block p.block (by rcases hp with h | h; (have := hP _ h; omega); exact h.2) (fun e => by injection e with e; rcases hp with h | h; (have := hP _ h; omega); omega))
      have hbl : ∀ b, (P b ∨ (w.heap.size + 1 + 1 < b ∧ b < wr.heap.size)) → (P b ∨ (w.heap.size ≤ b ∧ b < W6.heap.size)) := fun b hb => by
        rcases hb with h | h
        · exact .inl h
        · exact .inr ⟨by omega, by omega⟩
      refine ret_row rfl _ b6 rfl Tryz.underlying26 rfl size28 rfl ⟨_, rfl, ?_, below_grown HR.out.2 hg6 (by omega) HR.out.2.size⟩
      simp only [VN]
      exact ⟨K', c', ys, by rw [keyOfL_len, hml]; rfl, by rw [keyOfL_len, hml]; exact hm16, by rw [keyOfL_len, hml]; exact hc', by rw [keyOfL_len, hml]; exact hRN.keep hcell hbl, KN.keep hcell hbl _ _ hKN⟩
/-- The reference's Key. -/
theorem key_any : ∀ (d : Nat) (P : Nat → Prop) (s : S) (v : Value) (w : World), lev s ≤ d → (∀ b, P b → b < w.heap.size) → VN w P s v → Calls Tryz.prog 22 #[v] w (RetN w P (keyOf s))
  | 0, P, s, _, _, hl, _, _ => by have := lev_pos s; omega
  | d + 1, P, s, v, w, hl, hP, hv => by
    have small : ∀ (k : Int) (neg : Bool) (A : Option Addr) (n c : Nat) (b : Int) (t : ByteArray) (K : Option Addr) (m dd : Nat), v = .agg #[.int .i64 k, .bool neg, .slice A n c, .int .u64 b, .string t, .slice K m dd] → k < 6 → t.size ≤ 60 → Calls Tryz.prog 22 #[v] w (RetN w P s) := fun k neg A n c b t K m dd e hk ht => by
      subst e
      refine (key_small k neg A n c b t K m dd w hk ht).mono ?_
      rintro e w' ⟨rfl, hB⟩
      exact ⟨_, rfl, VN.keep (fun p hp => hB.cell (hP _ hp)) (fun b hb => .inl hb) s _ hv, hB⟩
    have row : ∀ (k : Int) (l : List S), (∃ A c xs, v = valV k false nilS 0 noT (.slice A l.length c) ∧ l.length ≤ 16 ∧ l.length ≤ c ∧ RN w P 6 A l.length xs ∧ KN w P l xs) → 6 ≤ k → levL l ≤ d → Calls Tryz.prog 22 #[v] w (RetN w P (.tuple (keyOfL l))) := fun k l h hk hll => by
      obtain ⟨A, c, xs, rfl, h16, _, hx, hK⟩ := h
      exact key_row k P l false none 0 0 0 noT A l.length c xs w hk rfl h16 hP hx fun i s u hs hr V hV => key_any d P s u V (by have := lev_get l i s hs; omega) (fun b hb => Nat.lt_of_lt_of_le (hP b hb) hV.size) (VN.keep (fun p hp => hV.cell (hP _ hp)) (fun _ hb => hb) s _ (hK.row hs hr))
    have hv2 := hv
    cases s <;> simp only [VN] at hv2
    case none => exact small _ _ _ _ _ _ _ _ _ _ hv2 (by omega) (by decide)
    case bool b => exact small _ _ _ _ _ _ _ _ _ _ hv2 (by omega) (by decide)
    case int x => obtain ⟨A, c, l, h, _⟩ := hv2; exact small _ _ _ _ _ _ _ _ _ _ h (by omega) (by decide)
    case float f => exact small _ _ _ _ _ _ _ _ _ _ hv2.1 (by omega) (by decide)
    case str t => exact small _ _ _ _ _ _ _ _ _ _ hv2.1 (by omega) hv2.2
    case bytes t => exact small _ _ _ _ _ _ _ _ _ _ hv2.1 (by omega) hv2.2
    case list l => simp only [lev] at hl; exact row 6 l hv2 (by omega) (by omega)
    case tuple l => simp only [lev] at hl; exact row 7 l hv2 (by omega) (by omega)
    case dict l => simp only [lev] at hl; exact row 8 l hv2 (by omega) (by omega)
    case set l => simp only [lev] at hl; exact row 9 l hv2 (by omega) (by omega)
end Go.Proofs.YtkmeckimmfbkiaaGreatDoor
namespace Go.Proofs.YtkmeckimmfbkiaaGreatDoor
open Go Go.RowKit
def noP (_ : Nat) : Prop := False
set_option maxRecDepth 10000 in
set_option maxHeartbeats 400000 in
theorem boolVal_any (b : Bool) (w : World) : Calls Tryz.prog 10 #[.bool b] w fun e w' => e = .returned (valV 1 false nilS (if b then 1 else 0) noT nilS) ∧ Below w.heap.size w w' := by
  go_enter Tryz.func10, Tryz.ntmps10
  cases b with
  | true =>
    go_wp2
    refine gen1 (M := fun W => bodyPost _ _ _ _ _ W) fun W hB b1 hz => ?_
    exact ret_row rfl _ b1 rfl Tryz.underlying26 rfl size28 rfl ⟨rfl, hB⟩
  | false =>
    go_wp2
    refine gen1 (M := fun W => bodyPost _ _ _ _ _ W) fun W hB b1 hz => ?_
    exact ret_row rfl _ b1 rfl Tryz.underlying26 rfl size28 rfl ⟨rfl, hB⟩
set_option maxRecDepth 10000 in
set_option maxHeartbeats 1000000 in
theorem intVal_any (x : Int) (v : Value) (w : World) (hx : SI w w.heap.size x 40 v) : Calls Tryz.prog 11 #[v] w (RetN w noP (.int x)) := by
  obtain ⟨A, c, l, rfl, h1, h2, h3, h4, h5⟩ := hx
  have HX := Lib.hid (And.intro h1 (And.intro h2 (And.intro h3 (And.intro h4 h5))))
  obtain ⟨n, hn⟩ : ∃ n, n = l.length := ⟨_, rfl⟩
  rw [← hn]
  have HN := Lib.hid hn
  clear h1 h2 h3 h4 h5 hn
  go_enter Tryz.func11, Tryz.ntmps11
  go_wp2_with fail
  refine gen2 (M := fun W => Code.wp _ _ _ _ W) fun W hB b1 b2 hz => ?_
  have hz1 : w.heap.size + 1 < W.heap.size := by omega
  clear hz
  obtain ⟨k0, k1, _, _⟩ := b1.c2
  obtain ⟨k0d, k1d, _, _⟩ := b1.drew.c2
  obtain ⟨k0a, k1a, _, _⟩ := (b1.alloc (.cells #[] 5)).c2
  have hO := (World.ownsRow_lit (base := W.heap.size) (e := 5) (size := 1) W #[] 0 (Nat.le_refl _) (by decide) rfl).drew
  have HO := Lib.hid hO
  have hR : Reads (W.alloc (.cells #[] 5)).drew W.heap.size 1 A n (bv l) := by
    rw [HN.out]
    exact ((((HX.out.2.2.2.2).below hB).more hB.size).alloc (Nat.le_refl _) _).drew
  have HR := Lib.hid hR
  have HB := Lib.hid (And.intro hB b2)
  have HB1 := Lib.hid b1
  clear hB b1 b2 hO hR
  have hl40 : n ≤ 40 := by rw [HN.out]; exact HX.out.2.2.1
  go_region_law (first
    | (refine step_app_bytes rfl (.tmp 5) (.tmp 7) rfl W.heap.size (.slice (some ⟨W.heap.size, 0, none⟩) 0 0) 0 [] rfl HO.out W.heap.size A n c l rfl HR.out (by omega) (by simp) ?_
       intro v7 w7 ho7 hg7 hr7
       rw [Nat.zero_add] at ho7
       obtain ⟨K7, c7, rfl, hc7, _, _⟩ := own_slice ho7
       have hB7 : Below W.heap.size W w7 := (((Below.refl W.heap.size W).alloc (Nat.le_refl _) (.cells #[] 5)).drew.grown hg7 (by simp) (by simp [Value.ownBlock]))
       have b7 := HB.out.2.below hB7 (by omega)
       obtain ⟨k0, k1, _, _⟩ := (HB1.out.below hB7 (by omega)).c2
       obtain ⟨r0, r1, r2, r3, r4, r5, f0, f1, f2, f3, f4, f5⟩ := b7.c6
       have H7 := Lib.hid (And.intro ho7 (And.intro hc7 (And.intro hB7 b7)))
       clear ho7 hg7 hr7 hc7 b7 hB7)
    | fail)
  all_goals
    go_wp2
    refine gen_set6 (M := fun V => bodyPost _ _ _ _ _ V) H7.out.2.2.2 fun W6 b6 hg6 hz6 => ?_
    refine ret_row rfl _ b6 rfl Tryz.underlying26 rfl size28 rfl ⟨_, rfl, ?_, below_grown (HB.out.1.trans (H7.out.2.2.1.mono HB.out.1.size)) hg6 (by omega) (by have := H7.out.2.2.1.size; omega)⟩
    simp only [VN]
    have hsz := H7.out.2.2.1.size
    have ho := H7.out.1
    have hrn := (RN.of_own ho).keep (w' := W6) (P' := fun b => noP b ∨ (w.heap.size ≤ b ∧ b < W6.heap.size)) (fun p hp => World.cell?_of_block (hg6.block p.block (by omega) (fun e => by injection e with e; omega))) (fun b hb => .inr ⟨by omega, by omega⟩)
    exact ⟨K7, c7, l, by rw [← HN.out]; rfl, HX.out.1, HX.out.2.1, HX.out.2.2.1, by rw [← HN.out]; exact H7.out.2.1, by rw [← HN.out]; simpa using hrn⟩
end Go.Proofs.YtkmeckimmfbkiaaGreatDoor
namespace Go.Proofs.YtkmeckimmfbkiaaGreatDoor
open Go Go.RowKit
set_option maxRecDepth 10000 in
set_option maxHeartbeats 1000000 in
theorem findK_any (step n c : Nat) (A : Option Addr) (xs : List Value) (k0 k1 k2 k3 k4 k5 : Value) (R : Nat → Bool) (w : World) (hs : 0 < step) (hs2 : step ≤ 2) (hn : n ≤ 16) (hr : Reads w w.heap.size 6 A n xs) (h1 : ∀ u ∈ [k0, k1, k2, k3, k4, k5], u.oneCell' = true)
    (ih : ∀ (i : Nat) (v : Value), i < n → i % step = 0 → RowV xs i v → ∀ W, Below w.heap.size w W → Calls Tryz.prog 41 #[v, .agg #[k0, k1, k2, k3, k4, k5]] W (RetB W (R i))) :
    Calls Tryz.prog 23 #[.slice A n c, .int .i64 step, .agg #[k0, k1, k2, k3, k4, k5]] w fun e w' => ∃ r : Int, e = .returned (.int .i64 r) ∧ Below w.heap.size w w' ∧ ((r = -1 ∧ ∀ i, i < n → i % step = 0 → R i = false) ∨ ∃ i : Nat, r = (i : Int) ∧ i < n ∧ i % step = 0 ∧ R i = true) := by
  have HX := Lib.hid (And.intro hr ih)
  have o0 := h1 k0 (by simp)
  have o1 := h1 k1 (by simp)
  have o2 := h1 k2 (by simp)
  have o3 := h1 k3 (by simp)
  have o4 := h1 k4 (by simp)
  have o5 := h1 k5 (by simp)
  clear hr ih h1
  go_enter Tryz.func23, Tryz.ntmps23
  go_wp2_with fail
  refine gen1 (M := fun W => Code.wp _ _ _ _ W) fun W hB b1 hz => ?_
  have hz1 : w.heap.size < W.heap.size := by omega
  clear hz
  have HB := Lib.hid (And.intro hB b1)
  clear hB b1
  go_loopw [7] (fun vi wr => ∃ i : Nat, vi = .int .i64 i ∧ i ≤ n + 1 ∧ i % step = 0 ∧ (∀ j, j < i → j % step = 0 → R j = false) ∧ Below W.heap.size W wr) (fun vi _ => n + 2 - (intOf vi).toNat)
  case atStart => exact ⟨0, rfl, by omega, by simp, fun j hj => by omega, Below.refl _ _⟩
  case round =>
    obtain ⟨i, rfl, hk, him, hall, hB⟩ := hrel
    rcases Nat.lt_or_ge i n with hlt | hge
    · have bi : (i : Int) < (n : Int) := by omega
      have w1 : IntKind.i64.wrap ((i : Int) + (step : Int)) = (i : Int) + (step : Int) := by rw [IntKind.wrap_i64]; omega
      obtain ⟨ad, c0, c1, c2, c3, c4, c5, rfl, had, hrow, hsix⟩ := HX.out.1.six2 hlt
      obtain ⟨x0, x1, x2, x3, x4, x5, _, _, _, _, _, _⟩ := (HB.out.2.below hB (by omega)).c6
      have hBW := HB.out.1.trans (hB.mono HB.out.1.size)
      have HC := Lib.hid (HX.out.2 i _ hlt him hrow wr.drew hBW.drew)
      have HS := Lib.hid (And.intro hsix had)
      obtain ⟨y0, y1, y2, y3, y4, y5⟩ := hsix.below hBW had
      have HH := Lib.hid (And.intro hall (And.intro him hB))
      clear hsix hBW hall him hB hrow
      go_wp2_with fail
      go_region_held3 (fun w' => (w'.cell? ⟨w.heap.size, 0, none⟩ = some k0 ∧ w'.cell? ⟨w.heap.size, 1, none⟩ = some k1 ∧ w'.cell? ⟨w.heap.size, 2, none⟩ = some k2 ∧ w'.cell? ⟨w.heap.size, 3, none⟩ = some k3 ∧ w'.cell? ⟨w.heap.size, 4, none⟩ = some k4 ∧ w'.cell? ⟨w.heap.size, 5, none⟩ = some k5) ∧
          w'.cell? (ad.add (i * 6)) = some c0 ∧ w'.cell? ⟨(ad.add (i * 6)).block, (ad.add (i * 6)).off + 1, none⟩ = some c1 ∧ w'.cell? ⟨(ad.add (i * 6)).block, (ad.add (i * 6)).off + 2, none⟩ = some c2 ∧ w'.cell? ⟨(ad.add (i * 6)).block, (ad.add (i * 6)).off + 3, none⟩ = some c3 ∧ w'.cell? ⟨(ad.add (i * 6)).block, (ad.add (i * 6)).off + 4, none⟩ = some c4 ∧ w'.cell? ⟨(ad.add (i * 6)).block, (ad.add (i * 6)).off + 5, none⟩ = some c5)
        (exact ⟨⟨x0, x1, x2, x3, x4, x5⟩, y0, y1, y2, y3, y4, y5⟩)
        ((go_at_call 41; refine HC.out.mono ?_
          rintro e w5 ⟨rfl, hB5⟩
          have hB5 : Below W.heap.size W w5 := HH.out.2.2.trans (Below.mono ⟨hB5.os, hB5.tape, hB5.output, hB5.size, hB5.block⟩ HH.out.2.2.size)
          obtain ⟨x0, x1, x2, x3, x4, x5, _, _, _, _, _, _⟩ := (HB.out.2.below hB5 (by omega)).c6
          obtain ⟨y0, y1, y2, y3, y4, y5⟩ := HS.out.1.below (HB.out.1.trans (hB5.mono HB.out.1.size)) HS.out.2
          have HB5 := Lib.hid hB5
          clear hB5))
      rcases hRe : R i with _ | _
      · have HRe := Lib.hid hRe
        clear hRe
        go_wp2
        go_roundw
        case rel =>
          refine ⟨i + step, by go_num, by omega, by rw [Nat.add_mod_right]; exact HH.out.2.1, fun j hj hjm => ?_, HB5.out⟩
          rcases Nat.lt_or_ge j i with h | h
          · exact HH.out.1 j h hjm
          · have hji : j = i := by
              have him := HH.out.2.1
              rcases (show step = 1 ∨ step = 2 by omega) with h | h
              · subst h; omega
              · subst h; omega
            rw [hji]; exact HRe.out
        case measure => simp [intOf]; omega
      · have HRe := Lib.hid hRe
        clear hRe
        go_wp2
        go_ret
        exact ⟨i, rfl, HB.out.1.trans (HB5.out.mono HB.out.1.size), .inr ⟨i, rfl, hlt, HH.out.2.1, HRe.out⟩⟩
    · have bi : ¬ (i : Int) < (n : Int) := by omega
      have HH := Lib.hid (And.intro hall hB)
      clear hall hB
      go_wp2
      go_ret
      exact ⟨-1, rfl, HB.out.1.trans (HH.out.2.mono HB.out.1.size), .inl ⟨rfl, fun j hj hjm => HH.out.1 j (by omega) hjm⟩⟩
end Go.Proofs.YtkmeckimmfbkiaaGreatDoor
