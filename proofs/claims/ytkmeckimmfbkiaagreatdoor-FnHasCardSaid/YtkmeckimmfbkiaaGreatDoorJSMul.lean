/- The reference's products, powers and shifts. Conditions: none. -/
import Derived.Test.YtkmeckimmfbkiaaGreatDoorJSPure
namespace Go.Proofs.YtkmeckimmfbkiaaGreatDoor
open Go Go.RowKit
theorem gen4 {M : World → Prop} {w : World} {X Y Z V : Array Value} {T U R S : TypeId}
    (h : ∀ W : World, Below w.heap.size w W → Blk W w.heap.size T X → Blk W (w.heap.size + 1) U Y → Blk W (w.heap.size + 2) R Z → Blk W (w.heap.size + 3) S V → W.heap.size = w.heap.size + 4 → M W) : M ((((w.alloc (.cells X T)).alloc (.cells Y U)).alloc (.cells Z R)).alloc (.cells V S)) :=
  h _ (((((Below.refl _ _).alloc (Nat.le_refl _) _).alloc (by simp) _).alloc (by simp; omega) _).alloc (by simp; omega) _) ((((Blk.new _ _ _).alloc _).alloc _).alloc _) (by simpa using ((Blk.new (w.alloc (.cells X T)) U Y).alloc (.cells Z R)).alloc (.cells V S)) (by simpa using (Blk.new ((w.alloc (.cells X T)).alloc (.cells Y U)) R Z).alloc (.cells V S)) (by simpa using Blk.new (((w.alloc (.cells X T)).alloc (.cells Y U)).alloc (.cells Z R)) S V) (by simp)
set_option maxRecDepth 10000 in
theorem digit_any (l : List UInt8) (A : Option Addr) (n c i : Nat) (w : World) (hl : n ≤ 2147483640) (hi : i ≤ 2147483640) (hr : Reads w w.heap.size 1 A n (bv l)) :
    Calls Tryz.prog 60 #[.slice A n c, .int .i64 i] w fun e w' => e = .returned (.int .i64 (dg l i)) ∧ w' = w := by
  have hn : l.length = n := by have := hr.1; rw [bv_len] at this; omega
  rcases Nat.lt_or_ge i n with h | h
  · obtain ⟨m, hm⟩ : ∃ m, n = m + 1 := ⟨n - 1, by omega⟩
    obtain ⟨j, hj⟩ : ∃ j, m = j + i := ⟨m - i, by omega⟩
    obtain ⟨ad, b, rfl, _, hb, hc⟩ := hr.byteQ (k := j) (by omega)
    have hd : dg l i = b.toNat := by
      unfold dg
      rw [dif_pos (by omega)]
      have e : l.length - 1 - i = j := by omega
      have h2 : l[l.length - 1 - i]? = some b := by rw [e]; exact hb
      rw [List.getElem?_eq_getElem (by omega)] at h2
      rw [Option.some.inj h2]
    have w1 : IntKind.i64.wrap ((n : Int) - 1) = (m : Int) := by rw [IntKind.wrap_i64]; omega
    have w2 : IntKind.i64.wrap ((m : Int) - (i : Int)) = (j : Int) := by rw [IntKind.wrap_i64]; omega
    have b1 : ¬ (n : Int) ≤ (i : Int) := by omega
    have b2 : (j : Int) < (n : Int) := by omega
    have w3 : wrap64 (b.toNat : Int) = (b.toNat : Int) := by have := b.toNat_lt; unfold wrap64; omega
    rw [hd]
    clear hr hn hb hd hm hj
    go_enter Tryz.func60, Tryz.ntmps60
    go_wp2
    go_ret
    exact ⟨rfl, rfl⟩
  · have hd : dg l i = 0 := by unfold dg; rw [dif_neg (by omega)]
    have b1 : (n : Int) ≤ (i : Int) := by omega
    rw [hd]
    clear hr hn hd
    go_enter Tryz.func60, Tryz.ntmps60
    go_wp2
    go_ret
    exact ⟨rfl, rfl⟩
/-- What stands while digits are laid down. -/
def MulI (W : World) (gD n : Nat) (ds : List Nat) (wr : World) : Prop := ds.length = n + 1 ∧ (∀ x ∈ ds, x < 256) ∧ Blk wr gD 3 (iv ds).toArray ∧ Below gD W wr ∧ wr.heap.size = gD + 1
theorem infoInt : (Tryz.prog.info? 3).map (fun i => (i.zero, i.size, i.bytes)) = some (some (.int .i64 0), 1, 8) := by kernel_rfl
theorem Blk.ivSet {w : World} {g : Nat} {t : TypeId} {ds : List Nat} (h : Blk w g t (iv ds).toArray) (j v : Nat) : Blk (w.setCell ⟨g, j, none⟩ (.int .i64 (v : Int))) g t (iv (ds.set j v)).toArray := by
  have := h.set_ j (.int .i64 (v : Int))
  rw [List.setIfInBounds_toArray, iv_set] at this
  exact this
theorem Blk.bvSet {w : World} {g : Nat} {t : TypeId} {l : List UInt8} (h : Blk w g t (bv l).toArray) (j : Nat) (b : UInt8) : Blk (w.setCell ⟨g, j, none⟩ (.int .u8 (b.toNat : Int))) g t (bv (l.set j b)).toArray := by
  have := h.set_ j (.int .u8 (b.toNat : Int))
  rw [List.setIfInBounds_toArray, bv_set] at this
  exact this
theorem made_iv (n : Nat) : madeCells (Value.int .i64 0).cells n = (iv (List.replicate n 0)).toArray := by
  apply Array.toList_inj.1
  rw [show (Value.int .i64 0).cells = #[.int .i64 0] from rfl, toList_madeCells_one]
  simp [iv]
theorem made_bv (n : Nat) : madeCells (Value.int .u8 0).cells n = (bv (List.replicate n 0)).toArray := by
  apply Array.toList_inj.1
  rw [show (Value.int .u8 0).cells = #[.int .u8 0] from rfl, toList_madeCells_one]
  simp [bv]
theorem own_bytes {w w' : World} {g n : Nat} {l : List UInt8} (hl : l.length = n) (hn : n ≤ 2147483647) (hg : w.heap.size ≤ g) (hb : Blk w' g 5 (bv l).toArray) : w'.ownsRow w.heap.size 5 1 (.slice (some ⟨g, 0, none⟩) n n) n (bv l) := by
  refine ⟨by rw [bv_len]; omega, .inr ⟨g, n, _, rfl, hg, hb, Nat.le_refl _, by unfold maxLen; omega, by simp [bv_len, hl], ?_⟩⟩
  rw [List.take_of_length_le (by simp [bv_len]; omega)]
theorem reads_bytes {w : World} {g n : Nat} {l : List UInt8} (hl : l.length = n) (hb : Blk w g 5 (bv l).toArray) : Reads w w.heap.size 1 (some ⟨g, 0, none⟩) n (bv l) := by
  refine ⟨by rw [bv_len]; omega, fun _ => ⟨_, rfl, hb.lt, fun j u hu => ?_⟩⟩
  have := hb.cell j
  rw [List.getElem?_toArray, hu] at this
  rw [← this]
  unfold Addr.add
  split
  · next h => subst h; rfl
  · simp
theorem sgn_mulI (x y : Int) : sgn (decide (x < 0) != decide (y < 0)) (x.natAbs * y.natAbs) = x * y := by
  rcases Int.lt_or_le x 0 with hx | hx <;> rcases Int.lt_or_le y 0 with hy | hy
  · rw [decide_eq_true hx, decide_eq_true hy]
    obtain ⟨a, rfl⟩ : ∃ a : Nat, x = -(a : Int) := ⟨x.natAbs, by omega⟩
    obtain ⟨b, rfl⟩ : ∃ b : Nat, y = -(b : Int) := ⟨y.natAbs, by omega⟩
    simp [sgn, Int.neg_mul, Int.mul_neg]
  · rw [decide_eq_true hx, decide_eq_false (show ¬ y < 0 by omega)]
    obtain ⟨a, rfl⟩ : ∃ a : Nat, x = -(a : Int) := ⟨x.natAbs, by omega⟩
    obtain ⟨b, rfl⟩ : ∃ b : Nat, y = (b : Int) := ⟨y.natAbs, by omega⟩
    simp [sgn, Int.neg_mul]
  · rw [decide_eq_false (show ¬ x < 0 by omega), decide_eq_true hy]
    obtain ⟨a, rfl⟩ : ∃ a : Nat, x = (a : Int) := ⟨x.natAbs, by omega⟩
    obtain ⟨b, rfl⟩ : ∃ b : Nat, y = -(b : Int) := ⟨y.natAbs, by omega⟩
    simp [sgn, Int.mul_neg]
  · rw [decide_eq_false (show ¬ x < 0 by omega), decide_eq_false (show ¬ y < 0 by omega)]
    obtain ⟨a, rfl⟩ : ∃ a : Nat, x = (a : Int) := ⟨x.natAbs, by omega⟩
    obtain ⟨b, rfl⟩ : ∃ b : Nat, y = (b : Int) := ⟨y.natAbs, by omega⟩
    simp [sgn]
theorem SI.wide {w : World} {B L L' : Nat} {x : Int} {v : Value} (h : SI w B x L v) (hL : L ≤ L') : SI w B x L' v := by
  obtain ⟨A, c, l, h1, h2, h3, h4, h5, h6⟩ := h
  exact ⟨A, c, l, h1, h2, h3, by omega, h5, h6⟩
theorem SI.set2 {w w' : World} {B L g : Nat} {x : Int} {v : Value} (h : SI w B x L v) (hb : Blk w g 39 #[.bool false, .slice none 0 0]) (hg : w.grownBy w' (some g)) (hB : B ≤ w.heap.size) : SI w' B x L v := by
  obtain ⟨A, c, l, h1, h2, h3, h4, h5, h6⟩ := h
  refine ⟨A, c, l, h1, h2, h3, h4, h5, h6.1, fun hn => ?_⟩
  obtain ⟨ad, e, hlt, hc⟩ := h6.2 hn
  refine ⟨ad, e, hlt, fun j u hu => ?_⟩
  have hne : ad.block ≠ g := by
    rintro rfl
    have h0 : (bv l)[0]? = some (.int .u8 (l[0].toNat : Int)) := bv_get l 0 hn
    have h1 := hc 0 _ h0
    have hf : ad.add 0 = ad := by simp [Addr.add]
    rw [hf] at h1
    unfold Blk at hb
    unfold World.cell? at h1
    simp only [hb] at h1
    cases ho : ad.off with
    | zero => simp [ho] at h1
    | succ k =>
      rcases k with _ | k <;> simp [ho] at h1 <;> (try split at h1) <;> simp_all
  exact (World.cell?_of_block (hg.block _ (by rw [block_of_add]; omega) (fun e => by injection e with e; rw [block_of_add] at e; exact hne e))).trans (hc j u hu)
set_option maxRecDepth 10000 in
set_option maxHeartbeats 2000000 in
theorem mul_any (x y : Int) (L M : Nat) (u v : Value) (w : World) (hL : L ≤ 2147483) (hM : M ≤ 2147483) (hx : SI w w.heap.size x L u) (hy : SI w w.heap.size y M v) :
    Calls Tryz.prog 98 #[u, v] w (OwnsSI w (x * y) (L + M)) := by
  obtain ⟨A, ca, a, rfl, a2, a3, a4, a5, a6⟩ := hx
  obtain ⟨D, cb, b, rfl, b2, b3, b4, b5, b6⟩ := hy
  obtain ⟨i, hi, hz, hs, hby⟩ := info_parts infoInt
  obtain ⟨i5, hi5, hz5, hs5, hby5⟩ := info_parts info5
  obtain ⟨l, hl⟩ : ∃ l, l = a.length := ⟨_, rfl⟩
  obtain ⟨m, hm⟩ : ∃ m, m = b.length := ⟨_, rfl⟩
  have HD : ∀ W : World, (Instr.makeSlice 193 (.int .i64 ((l : Int) + m + 1)) (.int .i64 ((l : Int) + m + 1))).run Tryz.prog W = .ok (.slice (some ⟨W.heap.size, 0, none⟩) (l + m + 1) (l + m + 1)) (W.alloc (.cells (iv (List.replicate (l + m + 1) 0)).toArray 3)) := fun W => by
    have h := run_make_rowN (P := Tryz.prog) 193 3 i (.int .i64 0) Tryz.underlying193 hi hz .i64 .i64 (l + m + 1) (l + m + 1) (Nat.le_refl _) (by rw [hby]; omega) (by omega) W
    rw [hs, Nat.mul_one, made_iv, show ((l + m + 1 : Nat) : Int) = (l : Int) + m + 1 by omega] at h
    exact h
  have HO : ∀ W : World, (Instr.makeSlice 22 (.int .i64 ((l : Int) + m)) (.int .i64 ((l : Int) + m))).run Tryz.prog W = .ok (.slice (some ⟨W.heap.size, 0, none⟩) (l + m) (l + m)) (W.alloc (.cells (bv (List.replicate (l + m) 0)).toArray 5)) := fun W => by
    have h := run_make_rowN (P := Tryz.prog) 22 5 i5 (.int .u8 0) Tryz.underlying22 hi5 hz5 .i64 .i64 (l + m) (l + m) (Nat.le_refl _) (by rw [hby5]; omega) (by omega) W
    rw [hs5, Nat.mul_one, made_bv, show ((l + m : Nat) : Int) = (l : Int) + m by omega] at h
    exact h
  have HV := Lib.hid (And.intro a2 (And.intro b2 (And.intro a4 (And.intro b4 (And.intro hl hm)))))
  rw [← hl] at a6
  rw [← hm] at b6
  have HR := Lib.hid (And.intro a6 b6)
  have HV3 := Lib.hid (show l + m ≤ L + M by omega)
  have hl3 : l ≤ 2147483 := by omega
  have hm3 : m ≤ 2147483 := by omega
  rw [← hl, ← hm]
  clear a2 a3 a4 a5 a6 b2 b3 b4 b5 b6 hi hz hs hby hi5 hz5 hs5 hby5 hL hM hl hm
  have e0 : IntKind.i64.wrap ((l : Int) + m) = (l : Int) + m := by rw [IntKind.wrap_i64]; omega
  have e1 : IntKind.i64.wrap ((l : Int) + m + 1) = (l : Int) + m + 1 := by rw [IntKind.wrap_i64]; omega
  go_enter Tryz.func98, Tryz.ntmps98
  go_wp2_with fail
  refine gen4 (M := fun W => Code.wp _ _ _ _ W) fun W hB b1 b2 b3 b4 hz => ?_
  have HW := Lib.hid (And.intro hB (And.intro b1 (And.intro b2 b3)))
  have HI0 : Hid (MulI W (w.heap.size + 3) (l + m) (List.replicate (l + m + 1) 0) W) := Lib.hid ⟨by simp, fun x hx => by rw [(List.mem_replicate.1 hx).2]; decide, b4, Below.refl _ _, by omega⟩
  clear hB b1 b2 b3 b4
  have HB1 := Lib.hid (show ∀ (ds : List Nat) (wr : World), MulI W (w.heap.size + 3) (l + m) ds wr → Below w.heap.size w wr from fun ds wr hI => HW.out.1.trans (hI.2.2.2.1.mono (by omega)))
  have HC := Lib.hid (show ∀ (ds : List Nat) (wr : World), MulI W (w.heap.size + 3) (l + m) ds wr → (wr.cell? ⟨w.heap.size, 0, none⟩ = some (.bool (decide (x < 0))) ∧ wr.cell? ⟨w.heap.size, 1, none⟩ = some (.slice A l ca) ∧ wr.cell? ⟨w.heap.size + 1, 0, none⟩ = some (.bool (decide (y < 0))) ∧ wr.cell? ⟨w.heap.size + 1, 1, none⟩ = some (.slice D m cb)) ∧ Blk wr (w.heap.size + 2) 39 #[.bool false, .slice none 0 0] from fun ds wr hI => by
    have k1 := (HW.out.2.1.below (hI.2.2.2.1.mono (B' := w.heap.size + 3) (by omega)) (by omega)).c2
    have k2 := (HW.out.2.2.1.below (hI.2.2.2.1.mono (B' := w.heap.size + 3) (by omega)) (by omega)).c2
    exact ⟨⟨k1.1, k1.2.1, k2.1, k2.2.1⟩, HW.out.2.2.2.below (hI.2.2.2.1.mono (B' := w.heap.size + 3) (by omega)) (by omega)⟩)
  go_loopw [7] (fun vi wr => ∃ (i : Nat) (ds : List Nat), vi = .int .i64 i ∧ i ≤ l ∧ MulI W (w.heap.size + 3) (l + m) ds wr ∧ leV ds = leV ((dgs a).take i) * beNat b) (fun vi _ => l - (intOf vi).toNat)
  case atStart => exact ⟨0, _, rfl, by omega, HI0.out, by rw [leV_zeros]; simp [leV]⟩
  case round =>
    obtain ⟨i, ds0, rfl, hi, hI, hv⟩ := hrel
    obtain ⟨x0, x1, y0, y1⟩ := (HC.out _ _ hI).1
    have HI := Lib.hid (And.intro hI hv)
    clear hI hv
    rcases Nat.lt_or_ge i l with h | h
    · have bi : (i : Int) < (l : Int) := by omega
      go_wp2_with fail
      go_loopw [8, 9] (fun vc vk wr => ∃ (c k : Nat) (ds : List Nat), vc = .int .i64 c ∧ vk = .int .i64 k ∧ c < 256 ∧ k ≤ m + 1 ∧ MulI W (w.heap.size + 3) (l + m) ds wr ∧ leV ds + 256 ^ (i + k) * c = leV ((dgs a).take i) * beNat b + 256 ^ i * (dg a i * leV ((dgs b).take k))) (fun _ vk _ => m + 2 - (intOf vk).toNat)
      case atStart => exact ⟨0, 0, ds0, rfl, rfl, by omega, by omega, HI.out.1, by rw [HI.out.2]; simp [leV]⟩
      case round =>
        clear x0 x1 y0 y1 HI
        obtain ⟨c, k, ds, rfl, rfl, hc, hk, hI, hv⟩ := hrel
        obtain ⟨x0, x1, y0, y1⟩ := (HC.out _ _ hI).1
        have HI := Lib.hid (And.intro hI hv)
        clear hI hv
        have w1 : IntKind.i64.wrap ((k : Int) + 1) = (k : Int) + 1 := by rw [IntKind.wrap_i64]; omega
        rcases Nat.lt_or_ge k m with hkm | hkm
        · have bk : (k : Int) < (m : Int) := by omega
          have hlen := HI.out.1.1
          obtain ⟨d, hd⟩ : ∃ d, ds[i + k]? = some d := ⟨_, List.getElem?_eq_getElem (by omega)⟩
          have hd256 : d < 256 := HI.out.1.2.1 d (List.mem_of_getElem? hd)
          have q0 : wr.cell? ⟨w.heap.size + 3, i + k, none⟩ = some (.int .i64 (d : Int)) := (HI.out.1.2.2.1.cell (i + k)).trans (by rw [List.getElem?_toArray]; exact iv_get ds _ d hd)
          have q1 := HI.out.1.2.2.1.frozen (i + k)
          have F1 := Lib.hid fun nq : Nat => digit_any a A l ca i (wr.drewN nq) (by omega) (by omega) (((HR.out.1.below (HB1.out _ _ HI.out.1)).more (HB1.out _ _ HI.out.1).size).drewN nq)
          have F2 := Lib.hid fun nq : Nat => digit_any b D m cb k (wr.drewN nq) (by omega) (by omega) (((HR.out.2.below (HB1.out _ _ HI.out.1)).more (HB1.out _ _ HI.out.1).size).drewN nq)
          have hp := dg_lt a i
          have hq := dg_lt b k
          generalize hpe : dg a i = p at F1 hp
          generalize hqe : dg b k = q at F2 hq
          have hpq : p * q ≤ 255 * 255 := Nat.mul_le_mul (by omega) (by omega)
          have hpqI : (p : Int) * (q : Int) = ((p * q : Nat) : Int) := by push_cast; rfl
          obtain ⟨s, hs⟩ : ∃ s, s = d + p * q + c := ⟨_, rfl⟩
          have e5 : IntKind.i64.wrap ((i : Int) + (k : Int)) = (i : Int) + (k : Int) := by rw [IntKind.wrap_i64]; omega
          have e6 : IntKind.i64.wrap ((p : Int) * (q : Int)) = (p : Int) * (q : Int) := by rw [IntKind.wrap_i64]; omega
          have e7 : IntKind.i64.wrap ((d : Int) + (p : Int) * (q : Int)) = (d : Int) + (p : Int) * (q : Int) := by rw [IntKind.wrap_i64]; omega
          have e8 : IntKind.i64.wrap ((d : Int) + (p : Int) * (q : Int) + (c : Int)) = (s : Int) := by rw [IntKind.wrap_i64]; omega
          have g1 : (0 : Int) ≤ (i : Int) + (k : Int) := by omega
          have g2 : (i : Int) + (k : Int) < (l : Int) + (m : Int) + 1 := by omega
          have g3 : ((i : Int) + (k : Int)).toNat = i + k := by omega
          have HS := Lib.hid (And.intro hd (And.intro hs (And.intro hd256 (And.intro hpq (And.intro hpe hqe)))))
          clear hlen hd hd256 hp hq hpe hqe hpq hpqI hs
          go_wp2_with fail
          go_quiet ((go_at_call 60; first | (with_reducible exact Calls.quiet_of_same (F1.out _)) | (with_reducible exact Calls.quiet_of_same (F2.out _))))
          go_wp2_with fail
          have hfin : Hid (MulI W (w.heap.size + 3) (l + m) (ds.set (i + k) (s % 256)) ((wr.drewN nq).setCell ⟨w.heap.size + 3, i + k, none⟩ (.int .i64 ((s % 256 : Nat) : Int))) ∧ leV (ds.set (i + k) (s % 256)) + 256 ^ (i + (k + 1)) * (s / 256) = leV ((dgs a).take i) * beNat b + 256 ^ i * (p * leV ((dgs b).take (k + 1)))) := by
            obtain ⟨hI, hv⟩ := HI.out
            obtain ⟨hd, hs, hd256, hpq, hpe, hqe⟩ := HS.out
            refine Lib.hid ⟨⟨by rw [List.length_set]; exact hI.1, set_lt ds _ _ hI.2.1 (Nat.mod_lt _ (by decide)), (hI.2.2.1.drewN nq).ivSet (i + k) (s % 256), (hI.2.2.2.1.drewN_ nq).setCell (Nat.le_refl _) _, by rw [← hI.2.2.2.2]; simp⟩, ?_⟩
            rw [dg_take, hqe]
            rw [hpe] at hv
            exact mul_step ds i k d p q c s _ _ hd hs hv
          have hs256 : s / 256 < 256 := by have := HS.out.2.1; have := HS.out.2.2.1; have := HS.out.2.2.2.1; omega
          refine ⟨⟨s / 256, k + 1, ds.set (i + k) (s % 256), congrArg (Value.int .i64) (by unfold wrap64; omega), by go_num, hs256, by omega, hfin.out.1, hfin.out.2⟩, by simp only [intOf]; omega⟩
        · have bk : ¬ (k : Int) < (m : Int) := by omega
          have hall : leV ((dgs b).take k) = beNat b := dgs_take_all b k (by have := HV.out.2.2.2.2.2; omega)
          rcases Nat.eq_zero_or_pos c with hc0 | hc0
          · subst hc0
            have hv2 : Hid (leV ds = leV ((dgs a).take (i + 1)) * beNat b) := by
              refine Lib.hid ?_
              have hv := HI.out.2
              rw [hall, Nat.mul_zero, Nat.add_zero] at hv
              rw [hv, dg_take, Nat.add_mul, Nat.mul_assoc]
            have w2 : IntKind.i64.wrap ((i : Int) + 1) = (i : Int) + 1 := by rw [IntKind.wrap_i64]; omega
            clear hall
            go_wp2
            refine ⟨⟨i + 1, ds, by go_num, by omega, HI.out.1, hv2.out⟩, by simp only [intOf]; omega⟩
          · have bc : (0 : Int) < (c : Int) := by omega
            have hkm2 : k ≤ m := by
              have hv := HI.out.2
              rw [hall] at hv
              have hb := beNat_lt b
              rw [← HV.out.2.2.2.2.2] at hb
              exact mul_bound ds i k m c _ _ _ hc0 hv (dgs_take_lt a i) (dg_lt a i) hb
            clear hall
            have hlen := HI.out.1.1
            obtain ⟨d, hd⟩ : ∃ d, ds[i + k]? = some d := ⟨_, List.getElem?_eq_getElem (by omega)⟩
            have hd256 : d < 256 := HI.out.1.2.1 d (List.mem_of_getElem? hd)
            have q0 : wr.cell? ⟨w.heap.size + 3, i + k, none⟩ = some (.int .i64 (d : Int)) := (HI.out.1.2.2.1.cell (i + k)).trans (by rw [List.getElem?_toArray]; exact iv_get ds _ d hd)
            have q1 := HI.out.1.2.2.1.frozen (i + k)
            have F1 := Lib.hid fun nq : Nat => digit_any a A l ca i (wr.drewN nq) (by omega) (by omega) (((HR.out.1.below (HB1.out _ _ HI.out.1)).more (HB1.out _ _ HI.out.1).size).drewN nq)
            have F2 := Lib.hid fun nq : Nat => digit_any b D m cb k (wr.drewN nq) (by omega) (by omega) (((HR.out.2.below (HB1.out _ _ HI.out.1)).more (HB1.out _ _ HI.out.1).size).drewN nq)
            have hp := dg_lt a i
            have hq := dg_lt b k
            generalize hpe : dg a i = p at F1 hp
            generalize hqe : dg b k = q at F2 hq
            have hpq : p * q ≤ 255 * 255 := Nat.mul_le_mul (by omega) (by omega)
            have hpqI : (p : Int) * (q : Int) = ((p * q : Nat) : Int) := by push_cast; rfl
            obtain ⟨s, hs⟩ : ∃ s, s = d + p * q + c := ⟨_, rfl⟩
            have e5 : IntKind.i64.wrap ((i : Int) + (k : Int)) = (i : Int) + (k : Int) := by rw [IntKind.wrap_i64]; omega
            have e6 : IntKind.i64.wrap ((p : Int) * (q : Int)) = (p : Int) * (q : Int) := by rw [IntKind.wrap_i64]; omega
            have e7 : IntKind.i64.wrap ((d : Int) + (p : Int) * (q : Int)) = (d : Int) + (p : Int) * (q : Int) := by rw [IntKind.wrap_i64]; omega
            have e8 : IntKind.i64.wrap ((d : Int) + (p : Int) * (q : Int) + (c : Int)) = (s : Int) := by rw [IntKind.wrap_i64]; omega
            have g1 : (0 : Int) ≤ (i : Int) + (k : Int) := by omega
            have g2 : (i : Int) + (k : Int) < (l : Int) + (m : Int) + 1 := by omega
            have g3 : ((i : Int) + (k : Int)).toNat = i + k := by omega
            have HS := Lib.hid (And.intro hd (And.intro hs (And.intro hd256 (And.intro hpq (And.intro hpe hqe)))))
            clear hlen hd hd256 hp hq hpe hqe hpq hpqI hs
            go_wp2_with fail
            go_quiet ((go_at_call 60; first | (with_reducible exact Calls.quiet_of_same (F1.out _)) | (with_reducible exact Calls.quiet_of_same (F2.out _))))
            go_wp2_with fail
            have hfin : Hid (MulI W (w.heap.size + 3) (l + m) (ds.set (i + k) (s % 256)) ((wr.drewN nq).setCell ⟨w.heap.size + 3, i + k, none⟩ (.int .i64 ((s % 256 : Nat) : Int))) ∧ leV (ds.set (i + k) (s % 256)) + 256 ^ (i + (k + 1)) * (s / 256) = leV ((dgs a).take i) * beNat b + 256 ^ i * (p * leV ((dgs b).take (k + 1)))) := by
              obtain ⟨hI, hv⟩ := HI.out
              obtain ⟨hd, hs, hd256, hpq, hpe, hqe⟩ := HS.out
              refine Lib.hid ⟨⟨by rw [List.length_set]; exact hI.1, set_lt ds _ _ hI.2.1 (Nat.mod_lt _ (by decide)), (hI.2.2.1.drewN nq).ivSet (i + k) (s % 256), (hI.2.2.2.1.drewN_ nq).setCell (Nat.le_refl _) _, by rw [← hI.2.2.2.2]; simp⟩, ?_⟩
              rw [dg_take, hqe]
              rw [hpe] at hv
              exact mul_step ds i k d p q c s _ _ hd hs hv
            have hs256 : s / 256 < 256 := by have := HS.out.2.1; have := HS.out.2.2.1; have := HS.out.2.2.2.1; omega
            refine ⟨⟨s / 256, k + 1, ds.set (i + k) (s % 256), congrArg (Value.int .i64) (by unfold wrap64; omega), by go_num, hs256, by omega, hfin.out.1, hfin.out.2⟩, by simp only [intOf]; omega⟩
    · have hil : i = l := by omega
      subst hil
      have bi : ¬ (i : Int) < (i : Int) := by omega
      have HVS := Lib.hid (show leV ds0 = x.natAbs * y.natAbs from by
        rw [HI.out.2, dgs_take_all a i (by have := HV.out.2.2.2.2.1; omega), HV.out.1, HV.out.2.1])
      have HRS := Lib.hid ((HC.out _ _ HI.out.1).2)
      go_wp2_with fail
      clear x0 x1 y0 y1 HI0
      refine gen1 (M := fun W => Code.wp _ _ _ _ W) fun W2 hB2 b5 hz2 => ?_
      obtain ⟨g5, hg5⟩ : ∃ g5, g5 = wr.heap.size := ⟨_, rfl⟩
      rw [← hg5] at b5 hz2 ⊢
      have hg5w : w.heap.size + 3 + 1 = g5 := by rw [hg5]; exact HI.out.1.2.2.2.2.symm
      have HQ := Lib.hid (show ∀ (j d : Nat), ds0[j]? = some d → W2.cell? ⟨w.heap.size + 3, j, none⟩ = some (.int .i64 (d : Int)) from fun j d hd => (hB2.cell (p := ⟨w.heap.size + 3, j, none⟩) (by show w.heap.size + 3 < wr.heap.size; omega)).trans ((HI.out.1.2.2.1.cell j).trans (by rw [List.getElem?_toArray]; exact iv_get ds0 _ d hd)))
      have HW2 := Lib.hid (show (W2.cell? ⟨w.heap.size, 0, none⟩ = some (.bool (decide (x < 0))) ∧ W2.cell? ⟨w.heap.size + 1, 0, none⟩ = some (.bool (decide (y < 0)))) ∧ Blk W2 (w.heap.size + 2) 39 #[.bool false, .slice none 0 0] ∧ Below w.heap.size w W2 from by
        have hI := HI.out.1
        obtain ⟨x0, _, y0, _⟩ := (HC.out _ _ hI).1
        exact ⟨⟨(hB2.cell (p := ⟨w.heap.size, 0, none⟩) (by show w.heap.size < wr.heap.size; omega)).trans x0, (hB2.cell (p := ⟨w.heap.size + 1, 0, none⟩) (by show w.heap.size + 1 < wr.heap.size; omega)).trans y0⟩, (HC.out _ _ hI).2.below hB2 (by omega), (HB1.out _ _ hI).trans (hB2.mono (by omega))⟩)
      have H5 := Lib.hid b5
      have HZ := Lib.hid (And.intro hz2 (And.intro HI.out.1.1 HI.out.1.2.1))
      clear hB2 hz2 b5 hg5 HI
      go_loopw [12] (fun vi wo => ∃ j : Nat, vi = .int .i64 j ∧ j ≤ i + m ∧ Blk wo g5 5 (bv (outB ds0 (i + m) j)).toArray ∧ Below g5 W2 wo) (fun vi _ => i + m - (intOf vi).toNat)
      case atStart => exact ⟨0, rfl, by omega, by rw [outB_zero]; exact H5.out, Below.refl _ _⟩
      case round =>
        obtain ⟨j, rfl, hj, hb, hB⟩ := hrel
        have HJ := Lib.hid (And.intro hb hB)
        rcases Nat.lt_or_ge j (i + m) with hjn | hjn
        · have bj : (j : Int) < (i : Int) + (m : Int) := by omega
          have hlen := HZ.out.2.1
          obtain ⟨d, hd⟩ : ∃ d, ds0[j]? = some d := ⟨_, List.getElem?_eq_getElem (by omega)⟩
          have hd256 : d < 256 := HZ.out.2.2 d (List.mem_of_getElem? hd)
          obtain ⟨t, ht⟩ : ∃ t, i + m = j + 1 + t := ⟨i + m - 1 - j, by omega⟩
          have q0 := (hB.cell (p := ⟨w.heap.size + 3, j, none⟩) (by show w.heap.size + 3 < g5; omega)).trans (HQ.out j d hd)
          obtain ⟨b0, q1⟩ : ∃ b0, wr.cell? ⟨g5, t, none⟩ = some (.int .u8 b0) := by
            have h := hb.cell t
            rw [List.getElem?_toArray, bv_get _ _ (by rw [outB_len _ _ _ hj (by omega)]; omega)] at h
            exact ⟨_, h⟩
          have q2 := hb.frozen t
          have e1 : IntKind.i64.wrap ((i : Int) + (m : Int) - 1) = (i : Int) + (m : Int) - 1 := by rw [IntKind.wrap_i64]; omega
          have e2 : IntKind.i64.wrap ((i : Int) + (m : Int) - 1 - (j : Int)) = (t : Int) := by rw [IntKind.wrap_i64]; omega
          have e3 : IntKind.i64.wrap ((j : Int) + 1) = (j : Int) + 1 := by rw [IntKind.wrap_i64]; omega
          have e4 : (d : Int) % 256 = (d : Int) := by omega
          have g1 : (t : Int) < (i : Int) + (m : Int) := by omega
          have g2 : (j : Int) < (i : Int) + (m : Int) + 1 := by omega
          have HD := Lib.hid (And.intro hd (And.intro hd256 ht))
          clear hb hB hlen hd hd256 ht
          go_wp2
          have hfin : Hid (Blk (wr.setCell ⟨g5, t, none⟩ (.int .u8 (d : Int))) g5 5 (bv (outB ds0 (i + m) (j + 1))).toArray ∧ Below g5 W2 (wr.setCell ⟨g5, t, none⟩ (.int .u8 (d : Int)))) := by
            refine Lib.hid ⟨?_, HJ.out.2.setCell (Nat.le_refl _) _⟩
            have h := HJ.out.1.bvSet t (UInt8.ofNat d)
            have e5 : (UInt8.ofNat d).toNat = d := by simp; have := HD.out.2.1; omega
            have e6 : t = i + m - 1 - j := by have := HD.out.2.2; omega
            rw [e5] at h
            rw [e6] at h ⊢
            rw [outB_step ds0 (i + m) j d hjn HD.out.1] at h
            exact h
          refine ⟨⟨j + 1, by go_num, by omega, hfin.out.1, hfin.out.2⟩, by simp only [intOf]; omega⟩
        · have hjn2 : j = i + m := by omega
          subst hjn2
          have bj : ¬ ((i + m : Nat) : Int) < (i : Int) + (m : Int) := by omega
          obtain ⟨⟨x0, y0⟩, br, hBw⟩ := HW2.out
          replace x0 := (hB.cell (p := ⟨w.heap.size, 0, none⟩) (by show w.heap.size < g5; omega)).trans x0
          replace y0 := (hB.cell (p := ⟨w.heap.size + 1, 0, none⟩) (by show w.heap.size + 1 < g5; omega)).trans y0
          have hlen : (outB ds0 (i + m) (i + m)).length = i + m := outB_len _ _ _ (Nat.le_refl _) (by have := HZ.out.2.1; omega)
          have hlt : x.natAbs * y.natAbs < 256 ^ (i + m) := by
            rw [Nat.pow_add, ← HV.out.1, ← HV.out.2.1, HV.out.2.2.2.2.1, HV.out.2.2.2.2.2]
            exact Nat.mul_lt_mul'' (beNat_lt a) (beNat_lt b)
          have hval : beNat (outB ds0 (i + m) (i + m)) = x.natAbs * y.natAbs := by rw [outB_end ds0 (i + m) HZ.out.2.1 HZ.out.2.2 (by rw [HVS.out]; exact hlt), HVS.out]
          have hOf := of_si (decide (x < 0) != decide (y < 0)) _ (some ⟨g5, 0, none⟩) (i + m) (i + m) wr hlen (by omega) (Nat.le_refl _) (reads_bytes hlen hb)
          rw [hval, sgn_mulI] at hOf
          have HOf := Lib.hid hOf
          have hBr : Below (w.heap.size + 3) W2 wr := hB.mono (by omega)
          have HB := Lib.hid (And.intro (br.below hBr (by omega)) (hBw.trans (hB.mono (by omega))))
          have hwr := hb.lt
          clear br hBw hlen hlt hval hb hB hBr hOf
          go_wp2_with fail
          refine HOf.out.mono ?_
          rintro e w5 ⟨v5, rfl, hs5, hB5⟩
          have hs5' := hs5
          obtain ⟨A5, c5, l5, rfl, s1, s2, s3, s4, s5⟩ := hs5
          have br := HB.out.1.below hB5 (by omega)
          obtain ⟨r0, r1, f0, f1⟩ := br.c2
          have HS := Lib.hid (And.intro hs5' (HB.out.2.trans (hB5.mono (by omega))))
          have HBr := Lib.hid br
          clear br s1 s2 s3 s4 s5 hB5 hs5'
          go_wp2
          refine gen_set2 (M := fun V => bodyPost _ _ _ _ _ V) HBr.out fun W6 b6 hg6 hz6 => ?_
          have hsz := HS.out.2.size
          exact ret_row rfl _ b6 rfl Tryz.underlying39 rfl size24 rfl ⟨_, rfl, (((HS.out.1.set2 HBr.out hg6 (Nat.le_refl _)).more (by omega)).wide HV3.out), below_grown HS.out.2 hg6 (by omega) HS.out.2.size⟩
end Go.Proofs.YtkmeckimmfbkiaaGreatDoor
namespace Go.Proofs.YtkmeckimmfbkiaaGreatDoor
open Go Go.RowKit
theorem be_zeros (q : Nat) : beNat (List.replicate q 0) = 0 := by
  induction q with
  | zero => rfl
  | succ q ih => rw [List.replicate_succ, beNat_cons, ih]; simp
theorem pow_of {W : World} {g n r : Nat} {l : List UInt8} {v : Int} (b2 : Blk W g 5 ((bv l).set 0 (.int .u8 v)).toArray) (h : beNat (l.set 0 (UInt8.ofNat (2 ^ r))) = 2 ^ n) (hv : v = ((UInt8.ofNat (2 ^ r)).toNat : Int)) :
    ∃ l' : List UInt8, l'.length = l.length ∧ beNat l' = 2 ^ n ∧ Blk W g 5 (bv l').toArray := by
  subst hv
  rw [bv_set] at b2
  exact ⟨_, by simp, h, b2⟩
set_option maxRecDepth 10000 in
set_option maxHeartbeats 1000000 in
theorem power_any (n : Nat) (hn : n ≤ 2000) (w : World) : Calls Tryz.prog 99 #[.int .i64 n] w (OwnsSI w ((2 ^ n : Nat) : Int) (n / 8 + 1)) := by
  obtain ⟨i5, hi5, hz5, hs5, hby5⟩ := info_parts info5
  obtain ⟨q, hq⟩ : ∃ q, q = n / 8 := ⟨_, rfl⟩
  obtain ⟨r, hr⟩ : ∃ r, r = n % 8 := ⟨_, rfl⟩
  have HO : ∀ W : World, (Instr.makeSlice 22 (.int .i64 ((q : Int) + 1)) (.int .i64 ((q : Int) + 1))).run Tryz.prog W = .ok (.slice (some ⟨W.heap.size, 0, none⟩) (q + 1) (q + 1)) (W.alloc (.cells (bv (List.replicate (q + 1) 0)).toArray 5)) := fun W => by
    have h := run_make_rowN (P := Tryz.prog) 22 5 i5 (.int .u8 0) Tryz.underlying22 hi5 hz5 .i64 .i64 (q + 1) (q + 1) (Nat.le_refl _) (by rw [hby5]; omega) (by omega) W
    rw [hs5, Nat.mul_one, made_bv, show ((q + 1 : Nat) : Int) = (q : Int) + 1 by omega] at h
    exact h
  have hc : ((w.alloc (.cells #[.bool false, .slice none 0 0] 39)).alloc (.cells (bv (List.replicate (q + 1) 0)).toArray 5)).cell? ⟨w.heap.size + 1, 0, none⟩ = some (.int .u8 0) := by
    simp [bv]
  have hf : ((w.alloc (.cells #[.bool false, .slice none 0 0] 39)).alloc (.cells (bv (List.replicate (q + 1) 0)).toArray 5)).frozen? ⟨w.heap.size + 1, 0, none⟩ = false := by
    simp
  have HV : Hid (beNat ((List.replicate (q + 1) 0).set 0 (UInt8.ofNat (2 ^ r))) = 2 ^ n) := by
    refine Lib.hid ?_
    have e : (UInt8.ofNat (2 ^ r)).toNat = 2 ^ r := by
      rw [UInt8.toNat_ofNat']
      exact Nat.mod_eq_of_lt (Nat.pow_lt_pow_right (by decide) (by omega))
    rw [List.replicate_succ, List.set_cons_zero, beNat_cons, be_zeros, e, List.length_replicate, Nat.add_zero, show (256 : Nat) = 2 ^ 8 from rfl, ← Nat.pow_mul, ← Nat.pow_add]
    congr 1
    omega
  have e1 : (n : Int) / 8 = (q : Int) := by omega
  have e2 : (n : Int) % 8 = (r : Int) := by omega
  have e3 : IntKind.i64.wrap ((q : Int) + 1) = (q : Int) + 1 := by rw [IntKind.wrap_i64]; omega
  have hr8 : r < 8 := by omega
  have hq3 : q ≤ 250 := by omega
  have HQ := Lib.hid hq
  clear hi5 hz5 hs5 hby5 hq hr
  generalize hl : List.replicate (q + 1) (0 : UInt8) = l at HO hc hf HV
  have hlen : Hid (l.length = q + 1) := Lib.hid (by rw [← hl]; simp)
  clear hl
  have hcases : r = 0 ∨ r = 1 ∨ r = 2 ∨ r = 3 ∨ r = 4 ∨ r = 5 ∨ r = 6 ∨ r = 7 := by omega
  go_enter Tryz.func99, Tryz.ntmps99
  rcases hcases with rfl | rfl | rfl | rfl | rfl | rfl | rfl | rfl
  all_goals
    go_wp2_with fail
    refine gen2 (M := fun W => Calls _ _ _ W _) fun W hB b1 b2 hz => ?_
    obtain ⟨l', h1, h2, b3⟩ := pow_of b2 HV.out (by first | rfl | decide)
    have hl' : l'.length = q + 1 := by rw [h1]; exact hlen.out
    have hOf := of_si false l' (some ⟨w.heap.size + 1, 0, none⟩) (q + 1) (q + 1) W hl' (by omega) (Nat.le_refl _) (reads_bytes hl' b3)
    rw [h2] at hOf
    refine hOf.mono ?_
    rintro e w5 ⟨v5, rfl, hs5, hB5⟩
    have hs5' := hs5
    obtain ⟨A5, c5, l5, rfl, s1, s2, s3, s4, s5⟩ := hs5
    have br := b1.below hB5 (by omega)
    obtain ⟨r0, r1, f0, f1⟩ := br.c2
    have HS := Lib.hid (And.intro hs5' (hB.trans (hB5.mono (by omega))))
    have HBr := Lib.hid br
    clear br s1 s2 s3 s4 s5 hB5 hs5' b1 b2 b3 hOf hB HV
    go_wp2
    refine gen_set2 (M := fun V => bodyPost _ _ _ _ _ V) HBr.out fun W6 b6 hg6 hz6 => ?_
    have hsz := HS.out.2.size
    exact ret_row rfl _ b6 rfl Tryz.underlying39 rfl size24 rfl ⟨_, rfl, (((HS.out.1.set2 HBr.out hg6 (Nat.le_refl _)).more (by omega)).wide (by rw [HQ.out]; exact Nat.le_refl _)), below_grown HS.out.2 hg6 (by omega) HS.out.2.size⟩
end Go.Proofs.YtkmeckimmfbkiaaGreatDoor
namespace Go.Proofs.YtkmeckimmfbkiaaGreatDoor
open Go Go.RowKit
set_option maxRecDepth 10000 in
set_option maxHeartbeats 1000000 in
theorem lsh_any (x : Int) (L n : Nat) (v : Value) (w : World) (hL : L ≤ 214748) (hn : n ≤ 2000) (hx : SI w w.heap.size x L v) :
    Calls Tryz.prog 93 #[v, .int .i64 n] w (OwnsSI w (x * ((2 ^ n : Nat) : Int)) (L + (n / 8 + 1))) := by
  have HX := Lib.hid hx
  obtain ⟨A, ca, a, rfl, a2, a3, a4, a5, a6⟩ := hx
  clear a2 a3 a4 a5 a6
  generalize hla : a.length = la at HX ⊢
  clear hla
  go_enter Tryz.func93, Tryz.ntmps93
  go_wp2_with fail
  refine gen2 (M := fun W => Calls _ _ _ W _) fun W hB b1 b2 hz => ?_
  refine (zero_any x L _ W ((HX.out.below hB).more (by omega))).mono ?_
  rintro e w1 ⟨rfl, hB1⟩
  have hs1 := hB1.size
  have b1 := b1.below hB1 (by omega)
  have b2 := b2.below hB1 (by omega)
  have hB := hB.trans (hB1.mono (by omega))
  obtain ⟨k0, k1, _, _⟩ := b1.c2
  obtain ⟨r0, r1, f0, f1⟩ := b2.c2
  have HBW := Lib.hid (And.intro hB (And.intro b1 b2))
  clear hB b1 b2 hB1
  by_cases h0 : x = 0
  · subst h0
    rw [show decide ((0 : Int) = 0) = true from rfl]
    go_wp2
    refine gen_set2 (M := fun V => bodyPost _ _ _ _ _ V) HBW.out.2.2 fun W6 b6 hg6 hz6 => ?_
    exact ret_row rfl _ b6 rfl Tryz.underlying39 rfl size24 rfl ⟨_, rfl, ⟨none, 0, [], by simp, by simp [be_nil], fun h => by simp at h, by simp, by simp, Reads.none_⟩, below_grown HBW.out.1 hg6 (by omega) HBW.out.1.size⟩
  · rw [decide_eq_false h0]
    have HP := Lib.hid (power_any n hn w1.drew)
    clear h0
    go_wp2_with fail
    go_region_held3 (fun w' => w'.cell? ⟨w.heap.size, 0, none⟩ = some (.bool (decide (x < 0))) ∧ w'.cell? ⟨w.heap.size, 1, none⟩ = some (.slice A la ca)) (first | (with_reducible exact ⟨k0, k1⟩) | go_keep)
      ((first
        | (go_at_call 99; refine HP.out.mono ?_
           rintro e w5 ⟨v5, rfl, hs5, hB5⟩
           have hB5 : Below w1.heap.size w1 w5 := ⟨hB5.os, hB5.tape, hB5.output, hB5.size, hB5.block⟩
           have b1 := HBW.out.2.1.below hB5 (by omega)
           have b2 := HBW.out.2.2.below hB5 (by omega)
           have hB := HBW.out.1.trans (hB5.mono (by omega))
           obtain ⟨k0, k1, _, _⟩ := b1.c2
           have HM := Lib.hid (mul_any x _ L _ _ v5 w5 (by omega) (by omega) ((HX.out.below hB).more hB.size) hs5)
           have hs5 := hB5.size
           have HB5 := Lib.hid (And.intro hB (And.intro b1 b2))
           clear hB b1 b2 hB5)
        | (go_at_call 98; refine HM.out.mono ?_
           rintro e w6 ⟨v6, rfl, hs6, hB6⟩
           have HS6 := Lib.hid hs6
           obtain ⟨A6, c6, l6, rfl, s1, s2, s3, s4, s5⟩ := hs6
           have b1 := HB5.out.2.1.below hB6 (by omega)
           have b2 := HB5.out.2.2.below hB6 (by omega)
           obtain ⟨k0, k1, _, _⟩ := b1.c2
           obtain ⟨r0, r1, f0, f1⟩ := b2.c2
           have HB6 := Lib.hid (And.intro (HB5.out.1.trans (hB6.mono (by omega))) b2)
           clear s1 s2 s3 s4 s5 b1 b2 hB6)))
    go_wp2
    refine gen_set2 (M := fun V => bodyPost _ _ _ _ _ V) HB6.out.2 fun W6 b6 hg6 hz6 => ?_
    have hsz := HB6.out.1.size
    exact ret_row rfl _ b6 rfl Tryz.underlying39 rfl size24 rfl ⟨_, rfl, ((HS6.out.set2 HB6.out.2 hg6 (Nat.le_refl _)).more (by omega)), below_grown HB6.out.1 hg6 (by omega) HB6.out.1.size⟩
end Go.Proofs.YtkmeckimmfbkiaaGreatDoor
