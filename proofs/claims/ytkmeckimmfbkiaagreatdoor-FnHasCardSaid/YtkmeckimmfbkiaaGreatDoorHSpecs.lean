/- The reference's Has of every container; BinaryOpen. Conditions: none. -/
import Derived.Test.YtkmeckimmfbkiaaGreatDoorHRec
import Derived.Test.YtkmeckimmfbkiaaGreatDoorHSInt
import Derived.Test.YtkmeckimmfbkiaaGreatDoorHText
import Derived.Laws.IdiomStrings
import Derived.Test.YtkmeckimmfbkiaaGreatDoorHHas
namespace Go.Proofs.YtkmeckimmfbkiaaGreatDoor
open Go Go.RowKit
/-- What the reference's Has answers. -/
def HasS (w : World) (o : Option Bool) (e : Ending) (w' : World) : Prop := (match o with | some b => e = .returned (.tuple #[.bool b, .bool true]) | none => ∃ b, e = .returned (.tuple #[.bool b, .bool false])) ∧ Below w.heap.size w w'
set_option maxRecDepth 10000 in
set_option maxHeartbeats 1000000 in
theorem contains_row (k : Int) (l : List S) (A : Option Addr) (c : Nat) (xs : List Value) (t : S) (k0 k1 k2 k3 k4 k5 : Value) (w : World) (hk : k = 6 ∨ k = 7) (hn16 : l.length ≤ 16) (hr : Reads w w.heap.size 6 A l.length xs) (hK : KidsV w w.heap.size l xs) (hv : VAt w w.heap.size t (.agg #[k0, k1, k2, k3, k4, k5])) (hl : levL l ≤ 10) (hl2 : lev t ≤ 10) (gl : goodL l) (gt : good t) (h1 : ∀ u ∈ [k0, k1, k2, k3, k4, k5], u.oneCell' = true) :
    Calls Tryz.prog 20 #[.agg #[.int .i64 k, .bool false, .slice none 0 0, .int .u64 0, .string noT, .slice A l.length c], .agg #[k0, k1, k2, k3, k4, k5]] w (HasS w (some (l.any fun a => eqV a t))) := by
  have HF := Lib.hid fun (W : World) (hW : Below w.heap.size w W) => findV_any l l.length c A xs t k0 k1 k2 k3 k4 k5 W rfl hn16 ((hr.below hW).more hW.size) ((hK.below hW).more hW.size) ((hv.below hW).more hW.size) hl hl2 gl gt h1
  have o0 := h1 k0 (by simp)
  have o1 := h1 k1 (by simp)
  have o2 := h1 k2 (by simp)
  have o3 := h1 k3 (by simp)
  have o4 := h1 k4 (by simp)
  have o5 := h1 k5 (by simp)
  generalize (l.any fun a => eqV a t) = R at *
  generalize l.length = n at *
  clear hr hK hv hl hl2 gl gt h1 hn16
  rcases hk with rfl | rfl
  · go_enter Tryz.func20, Tryz.ntmps20
    go_wp2_with fail
    refine gen2 (M := fun W => Calls _ _ _ W _) fun W hB b1 b2 hz => ?_
    have HB := Lib.hid hB
    clear hB b1 b2 hz
    refine (HF.out W HB.out).mono ?_
    rintro e w1 ⟨r, rfl, hR, hB1⟩
    have HB1 := Lib.hid (And.intro hR (HB.out.trans (hB1.mono HB.out.size)))
    clear hR hB1
    go_wp2
    go_ret2
    exact ⟨by rw [← HB1.out.1]; rfl, HB1.out.2⟩
  · go_enter Tryz.func20, Tryz.ntmps20
    go_wp2_with fail
    refine gen2 (M := fun W => Calls _ _ _ W _) fun W hB b1 b2 hz => ?_
    have HB := Lib.hid hB
    clear hB b1 b2 hz
    refine (HF.out W HB.out).mono ?_
    rintro e w1 ⟨r, rfl, hR, hB1⟩
    have HB1 := Lib.hid (And.intro hR (HB.out.trans (hB1.mono HB.out.size)))
    clear hR hB1
    go_wp2
    go_ret2
    exact ⟨by rw [← HB1.out.1]; rfl, HB1.out.2⟩
set_option maxRecDepth 10000 in
set_option maxHeartbeats 2000000 in
theorem contains_set (l : List S) (A : Option Addr) (c : Nat) (xs : List Value) (t : S) (k0 k1 k2 k3 k4 k5 : Value) (w : World) (hn16 : l.length ≤ 16) (hr : Reads w w.heap.size 6 A l.length xs) (hK : KidsV w w.heap.size l xs) (hv : VAt w w.heap.size t (.agg #[k0, k1, k2, k3, k4, k5])) (hl : levL l ≤ 10) (hl2 : lev t ≤ 10) (gl : goodL l) (gt : good t) (h1 : ∀ u ∈ [k0, k1, k2, k3, k4, k5], u.oneCell' = true) :
    Calls Tryz.prog 20 #[.agg #[.int .i64 9, .bool false, .slice none 0 0, .int .u64 0, .string noT, .slice A l.length c], .agg #[k0, k1, k2, k3, k4, k5]] w (HasS w (if keyS t then some (l.any fun a => eqV a t) else none)) := by
  have HF := Lib.hid fun (W : World) (hW : Below w.heap.size w W) => findV_any l l.length c A xs t k0 k1 k2 k3 k4 k5 W rfl hn16 ((hr.below hW).more hW.size) ((hK.below hW).more hW.size) ((hv.below hW).more hW.size) hl hl2 gl gt h1
  have HH := Lib.hid fun (W : World) (hW : Below w.heap.size w W) => hashable_any 10 t _ W hl2 gt ((hv.below hW).more hW.size)
  have o0 := h1 k0 (by simp)
  have o1 := h1 k1 (by simp)
  have o2 := h1 k2 (by simp)
  have o3 := h1 k3 (by simp)
  have o4 := h1 k4 (by simp)
  have o5 := h1 k5 (by simp)
  generalize (l.any fun a => eqV a t) = R at *
  generalize l.length = n at *
  generalize keyS t = kt at *
  obtain ⟨o, ho⟩ : ∃ o, o = (if kt then some R else none) := ⟨_, rfl⟩
  rw [← ho]
  have HO := Lib.hid ho
  clear hr hK hv hl hl2 gl gt h1 hn16 ho
  go_enter Tryz.func20, Tryz.ntmps20
  go_wp2_with fail
  refine gen2 (M := fun W => Code.wp _ _ _ _ W) fun W hB b1 b2 hz => ?_
  have HB := Lib.hid (And.intro hB (And.intro b1 (And.intro b2 (show w.heap.size + 1 < W.heap.size by omega))))
  obtain ⟨_, _, _, _, _, x5, _, _, _, _, _, _⟩ := b1.c6
  obtain ⟨y0, y1, y2, y3, y4, y5, _, _, _, _, _, _⟩ := b2.c6
  clear hB b1 b2 hz
  go_region_held3 (fun w' => w'.cell? ⟨w.heap.size, 5, none⟩ = some (.slice A n c) ∧ w'.cell? ⟨w.heap.size + 1, 0, none⟩ = some k0 ∧ w'.cell? ⟨w.heap.size + 1, 1, none⟩ = some k1 ∧ w'.cell? ⟨w.heap.size + 1, 2, none⟩ = some k2 ∧ w'.cell? ⟨w.heap.size + 1, 3, none⟩ = some k3 ∧ w'.cell? ⟨w.heap.size + 1, 4, none⟩ = some k4 ∧ w'.cell? ⟨w.heap.size + 1, 5, none⟩ = some k5) (exact ⟨x5, y0, y1, y2, y3, y4, y5⟩)
    (first
    | (go_at_call 23; refine (HF.out W.drew HB.out.1.drew).mono ?_
       rintro e w5 ⟨r, rfl, hR, hB5⟩
       have hB5 : Below W.heap.size W w5 := ⟨hB5.os, hB5.tape, hB5.output, hB5.size, hB5.block⟩
       obtain ⟨_, _, _, _, _, x5, _, _, _, _, _, _⟩ := (HB.out.2.1.below hB5 (by have := HB.out.2.2.2; omega)).c6
       obtain ⟨y0, y1, y2, y3, y4, y5, _, _, _, _, _, _⟩ := (HB.out.2.2.1.below hB5 HB.out.2.2.2).c6
       have HB5 := Lib.hid (And.intro hB5 hR)
       clear hB5 hR)
    | (go_at_call 40; refine (HH.out w5 (HB.out.1.trans (HB5.out.1.mono HB.out.1.size))).mono ?_
       rintro e w6 ⟨rfl, hB6⟩
       have hB6 : Below W.heap.size W w6 := HB5.out.1.trans (hB6.mono HB5.out.1.size)
       obtain ⟨_, _, _, _, _, x5, _, _, _, _, _, _⟩ := (HB.out.2.1.below hB6 (by have := HB.out.2.2.2; omega)).c6
       obtain ⟨y0, y1, y2, y3, y4, y5, _, _, _, _, _, _⟩ := (HB.out.2.2.1.below hB6 HB.out.2.2.2).c6
       have HB6 := Lib.hid hB6
       clear hB6))
  go_wp2
  go_ret2
  refine ⟨?_, HB.out.1.trans (HB6.out.mono HB.out.1.size)⟩
  rw [HO.out]
  cases kt
  · exact ⟨_, rfl⟩
  · show _ = Ending.returned (.tuple #[.bool R, .bool true])
    rw [← HB5.out.2]
    rfl
set_option maxRecDepth 10000 in
set_option maxHeartbeats 1000000 in
theorem contains_str (neg : Bool) (A : Option Addr) (n c : Nat) (b : Int) (s : ByteArray) (K : Option Addr) (m d : Nat) (k' : Int) (neg' : Bool) (A' : Option Addr) (n' c' : Nat) (b' : Int) (t : ByteArray) (K' : Option Addr) (m' d' : Nat) (w : World) (hs : s.size ≤ 60) (ht : t.size ≤ 60) :
    Calls Tryz.prog 20 #[.agg #[.int .i64 4, .bool neg, .slice A n c, .int .u64 b, .string s, .slice K m d], .agg #[.int .i64 k', .bool neg', .slice A' n' c', .int .u64 b', .string t, .slice K' m' d']] w fun e w' => e = .returned (.tuple #[.bool (partB s t), .bool (k' == 4)]) ∧ Below w.heap.size w w' := by
  have HP := Lib.hid fun W => place_any s t W hs ht
  clear hs ht
  generalize partB s t = R at *
  go_enter Tryz.func20, Tryz.ntmps20
  go_wp2_with fail
  refine gen2 (M := fun W => Code.wp _ _ _ _ W) fun W hB b1 b2 hz => ?_
  have HB := Lib.hid (And.intro hB (And.intro b1 (And.intro b2 (show w.heap.size + 1 < W.heap.size by omega))))
  obtain ⟨_, _, _, _, x4, _, _, _, _, _, _, _⟩ := b1.c6
  obtain ⟨y0, _, _, _, y4, _, _, _, _, _, _, _⟩ := b2.c6
  clear hB b1 b2 hz
  go_region_held3 (fun w' => w'.cell? ⟨w.heap.size, 4, none⟩ = some (.string s) ∧ w'.cell? ⟨w.heap.size + 1, 4, none⟩ = some (.string t) ∧ w'.cell? ⟨w.heap.size + 1, 0, none⟩ = some (.int .i64 k')) (exact ⟨x4, y4, y0⟩)
    ((go_at_call 26; refine (HP.out W.drew).mono ?_
      rintro e w5 ⟨r, rfl, hR, hB5⟩
      have hB5 : Below W.heap.size W w5 := ⟨hB5.os, hB5.tape, hB5.output, hB5.size, hB5.block⟩
      obtain ⟨_, _, _, _, x4, _, _, _, _, _, _, _⟩ := (HB.out.2.1.below hB5 (by have := HB.out.2.2.2; omega)).c6
      obtain ⟨y0, _, _, _, y4, _, _, _, _, _, _, _⟩ := (HB.out.2.2.1.below hB5 HB.out.2.2.2).c6
      have HB5 := Lib.hid (And.intro hB5 hR)
      clear hB5 hR))
  go_wp2
  go_ret2
  exact ⟨by rw [← HB5.out.2]; rfl, HB.out.1.trans (HB5.out.1.mono HB.out.1.size)⟩
end Go.Proofs.YtkmeckimmfbkiaaGreatDoor
namespace Go.Proofs.YtkmeckimmfbkiaaGreatDoor
open Go Go.RowKit
set_option maxRecDepth 10000 in
set_option maxHeartbeats 2000000 in
theorem contains_bytes (neg : Bool) (A : Option Addr) (n c : Nat) (b : Int) (s : ByteArray) (K : Option Addr) (m d : Nat) (k' : Int) (neg' : Bool) (A' : Option Addr) (n' c' : Nat) (b' : Int) (t : ByteArray) (K' : Option Addr) (m' d' : Nat) (z : Int) (w : World) (hk : (k' == 2) = false) (hs : s.size ≤ 60) (ht : t.size ≤ 60)
    (hN : ∀ W, Below w.heap.size w W → Calls Tryz.prog 27 #[.agg #[.int .i64 k', .bool neg', .slice A' n' c', .int .u64 b', .string t, .slice K' m' d']] W (OwnsSI W z 40)) :
    Calls Tryz.prog 20 #[.agg #[.int .i64 5, .bool neg, .slice A n c, .int .u64 b, .string s, .slice K m d], .agg #[.int .i64 k', .bool neg', .slice A' n' c', .int .u64 b', .string t, .slice K' m' d']] w fun e w' => e = .returned (.tuple #[.bool (partB s t), .bool (k' == 5)]) ∧ Below w.heap.size w w' := by
  have HP := Lib.hid fun W => place_any s t W hs ht
  have HN := Lib.hid hN
  clear hs ht hN
  generalize partB s t = R at *
  go_enter Tryz.func20, Tryz.ntmps20
  go_wp2_with fail
  refine gen2 (M := fun W => Calls _ _ _ W _) fun W hB b1 b2 hz => ?_
  have hz1 : w.heap.size + 1 < W.heap.size := by omega
  refine (HN.out W hB).mono ?_
  rintro e w1 ⟨v, rfl, hv, hB1⟩
  have HV := Lib.hid (int64_any z 40 v w1 (by omega) hv)
  have c1 := b1.below hB1 (by omega)
  have c2 := b2.below hB1 (by omega)
  have HB1 := Lib.hid (And.intro (hB.trans (hB1.mono (by omega))) (And.intro c1 (And.intro c2 (show w.heap.size + 1 < w1.heap.size from Nat.lt_of_lt_of_le hz1 hB1.size))))
  clear hB b1 b2 hz hB1 c1 c2 hv hz1 HN
  go_wp2_with fail
  refine HV.out.mono ?_
  rintro e w2 ⟨⟨q, ok, rfl, _, _⟩, hB2⟩
  have c1 := HB1.out.2.1.below hB2 (by have := HB1.out.2.2.2; omega)
  have c2 := HB1.out.2.2.1.below hB2 HB1.out.2.2.2
  obtain ⟨_, _, _, _, x4, _, _, _, _, _, _, _⟩ := c1.c6
  obtain ⟨y0, _, _, _, y4, _, _, _, _, _, _, _⟩ := c2.c6
  have HB2 := Lib.hid (And.intro (HB1.out.1.trans (hB2.mono HB1.out.1.size)) (And.intro c1 (And.intro c2 (show w.heap.size + 1 < w2.heap.size from Nat.lt_of_lt_of_le HB1.out.2.2.2 hB2.size))))
  clear hB2 c1 c2 HB1 HV
  go_wp2_with fail
  go_region_held3 (fun w' => w'.cell? ⟨w.heap.size, 4, none⟩ = some (.string s) ∧ w'.cell? ⟨w.heap.size + 1, 4, none⟩ = some (.string t) ∧ w'.cell? ⟨w.heap.size + 1, 0, none⟩ = some (.int .i64 k')) (exact ⟨x4, y4, y0⟩)
    ((go_at_call 26; refine (HP.out w2.drew).mono ?_
      rintro e w5 ⟨r, rfl, hR, hB5⟩
      have hB5 : Below w2.heap.size w2 w5 := ⟨hB5.os, hB5.tape, hB5.output, hB5.size, hB5.block⟩
      obtain ⟨_, _, _, _, x4, _, _, _, _, _, _, _⟩ := (HB2.out.2.1.below hB5 (by have := HB2.out.2.2.2; omega)).c6
      obtain ⟨y0, _, _, _, y4, _, _, _, _, _, _, _⟩ := (HB2.out.2.2.1.below hB5 HB2.out.2.2.2).c6
      have HB5 := Lib.hid (And.intro hB5 hR)
      clear hB5 hR))
  go_wp2
  go_ret2
  exact ⟨by rw [← HB5.out.2]; rfl, HB2.out.1.trans (HB5.out.1.mono HB2.out.1.size)⟩
/-- One byte as a text. -/
theorem one_back (q : Int) (h0 : 0 ≤ q) (h1 : q < 256) : ∀ W : World, (convert 22 9 (.slice (some ⟨W.heap.size, 0, none⟩) 1 1)).run Tryz.prog (W.alloc (.cells #[.int .u8 q] 5)) = .ok (.string (oneB q)) (W.alloc (.cells #[.int .u8 q] 5)) := fun W =>
  run_convert_bytes_back (P := Tryz.prog) (W.alloc (.cells #[.int .u8 q] 5)) 22 9 5 ⟨W.heap.size, 0, none⟩ 1 [UInt8.ofNat q.toNat] Tryz.underlying22 Tryz.underlying5 Tryz.underlying9 (fun j hj => by
    have hj0 : j = 0 := by simp at hj; omega
    subst hj0
    have h := (Blk.new W 5 #[.int .u8 q]).cell 0
    have e : (UInt8.ofNat q.toNat).toNat = q.toNat := by rw [UInt8.toNat_ofNat']; omega
    simp only [List.getElem_cons_zero, e]
    rw [Int.toNat_of_nonneg h0]
    exact h)
set_option maxRecDepth 10000 in
set_option maxHeartbeats 2000000 in
theorem contains_int (neg : Bool) (A : Option Addr) (n c : Nat) (b : Int) (s : ByteArray) (K : Option Addr) (m d : Nat) (neg' : Bool) (A' : Option Addr) (n' c' : Nat) (b' : Int) (t : ByteArray) (K' : Option Addr) (m' d' : Nat) (z : Int) (w : World) (hs : s.size ≤ 60)
    (hN : ∀ W, Below w.heap.size w W → Calls Tryz.prog 27 #[.agg #[.int .i64 2, .bool neg', .slice A' n' c', .int .u64 b', .string t, .slice K' m' d']] W (OwnsSI W z 40)) :
    Calls Tryz.prog 20 #[.agg #[.int .i64 5, .bool neg, .slice A n c, .int .u64 b, .string s, .slice K m d], .agg #[.int .i64 2, .bool neg', .slice A' n' c', .int .u64 b', .string t, .slice K' m' d']] w (HasS w (if 0 ≤ z ∧ z < 256 then some (partB s (oneB z)) else none)) := by
  have HP := Lib.hid fun W => place_any s (oneB z) W hs (by show 1 ≤ 60; decide)
  have HN := Lib.hid hN
  obtain ⟨o, ho⟩ : ∃ o, o = (if 0 ≤ z ∧ z < 256 then some (partB s (oneB z)) else none) := ⟨_, rfl⟩
  rw [← ho]
  have HO := Lib.hid ho
  clear hs hN ho
  go_enter Tryz.func20, Tryz.ntmps20
  go_wp2_with fail
  refine gen2 (M := fun W => Calls _ _ _ W _) fun W hB b1 b2 hz => ?_
  have hz1 : w.heap.size + 1 < W.heap.size := by omega
  refine (HN.out W hB).mono ?_
  rintro e w1 ⟨v, rfl, hv, hB1⟩
  have HV := Lib.hid (int64_any z 40 v w1 (by omega) hv)
  have c1 := b1.below hB1 (by omega)
  have c2 := b2.below hB1 (by omega)
  have HB1 := Lib.hid (And.intro (hB.trans (hB1.mono (by omega))) (And.intro c1 (And.intro c2 (show w.heap.size + 1 < w1.heap.size from Nat.lt_of_lt_of_le hz1 hB1.size))))
  clear hB b1 b2 hz hB1 c1 c2 hv hz1 HN
  go_wp2_with fail
  refine HV.out.mono ?_
  rintro e w2 ⟨⟨q, ok, rfl, hy, hn⟩, hB2⟩
  have c1 := HB1.out.2.1.below hB2 (by have := HB1.out.2.2.2; omega)
  have c2 := HB1.out.2.2.1.below hB2 HB1.out.2.2.2
  obtain ⟨_, _, _, _, x4, _, _, _, _, _, _, _⟩ := c1.c6
  obtain ⟨y0, _, _, _, y4, _, _, _, _, _, _, _⟩ := c2.c6
  have HB2 := Lib.hid (And.intro (HB1.out.1.trans (hB2.mono HB1.out.1.size)) (And.intro hy hn))
  clear hB2 c1 c2 HB1 HV hy hn
  cases ok
  · go_wp2
    go_ret2
    refine ⟨?_, HB2.out.1⟩
    rw [HO.out, if_neg (HB2.out.2.2 trivial)]
    exact ⟨_, rfl⟩
  · obtain rfl := HB2.out.2.1 rfl
    by_cases h0 : 0 ≤ q
    · by_cases h1 : q < 256
      · have w8 : IntKind.u8.wrap q = q := by rw [IntKind.wrap_u8]; omega
        have HQ := Lib.hid (And.intro h0 h1)
        have hcv := one_back q h0 h1
        go_wp2_with fail
        clear hcv
        refine gen1 (M := fun W => Calls _ _ _ W _) fun W3 hB3 b3 hz3 => ?_
        refine (HP.out W3).mono ?_
        rintro e w5 ⟨r, rfl, hR, hB5⟩
        have HB5 := Lib.hid (And.intro hR (HB2.out.1.trans ((hB3.trans (hB5.mono (by omega))).mono HB2.out.1.size)))
        clear hB3 b3 hz3 hB5 hR
        go_wp2
        go_ret2
        refine ⟨?_, HB5.out.2⟩
        rw [HO.out, if_pos ⟨HQ.out.1, HQ.out.2⟩, ← HB5.out.1]
        rfl
      · have HQ := Lib.hid h1
        go_wp2
        go_ret2
        refine ⟨?_, HB2.out.1⟩
        rw [HO.out, if_neg (fun h => by have := HQ.out; omega)]
        exact ⟨_, rfl⟩
    · have HQ := Lib.hid h0
      go_wp2
      go_ret2
      refine ⟨?_, HB2.out.1⟩
      rw [HO.out, if_neg (fun h => by have := HQ.out; omega)]
      exact ⟨_, rfl⟩
end Go.Proofs.YtkmeckimmfbkiaaGreatDoor
namespace Go.Proofs.YtkmeckimmfbkiaaGreatDoor
open Go Go.RowKit
/-- The parts of a value that are told by its kind. -/
theorem VAt.shape2 {w : World} {B : Nat} {s : S} {u : Value} (h : VAt w B s u) : ∃ neg A n c b t K m d, u = .agg #[.int .i64 (kindN s), .bool neg, .slice A n c, .int .u64 b, .string t, .slice K m d] ∧ t.size ≤ 60 ∧ (kindN s ≠ 2 → A = none ∧ n = 0) := by
  cases s with
  | none => simp only [VAt] at h; subst h; exact ⟨_, _, _, _, _, _, _, _, _, rfl, by decide, fun _ => ⟨rfl, rfl⟩⟩
  | bool x => simp only [VAt] at h; subst h; exact ⟨_, _, _, _, _, _, _, _, _, rfl, by decide, fun _ => ⟨rfl, rfl⟩⟩
  | int x => simp only [VAt] at h; obtain ⟨A, c, l, rfl, _⟩ := h; exact ⟨_, _, _, _, _, _, _, _, _, rfl, by decide, fun h => absurd rfl h⟩
  | float x => simp only [VAt] at h; obtain ⟨rfl, _⟩ := h; exact ⟨_, _, _, _, _, _, _, _, _, rfl, by decide, fun _ => ⟨rfl, rfl⟩⟩
  | str x => simp only [VAt] at h; obtain ⟨rfl, ht⟩ := h; exact ⟨_, _, _, _, _, _, _, _, _, rfl, ht, fun _ => ⟨rfl, rfl⟩⟩
  | bytes x => simp only [VAt] at h; obtain ⟨rfl, ht⟩ := h; exact ⟨_, _, _, _, _, _, _, _, _, rfl, ht, fun _ => ⟨rfl, rfl⟩⟩
  | list l => simp only [VAt] at h; obtain ⟨A, c, xs, rfl, _⟩ := h; exact ⟨_, _, _, _, _, _, _, _, _, rfl, by decide, fun _ => ⟨rfl, rfl⟩⟩
  | tuple l => simp only [VAt] at h; obtain ⟨A, c, xs, rfl, _⟩ := h; exact ⟨_, _, _, _, _, _, _, _, _, rfl, by decide, fun _ => ⟨rfl, rfl⟩⟩
  | dict l => simp only [VAt] at h; obtain ⟨A, c, xs, rfl, _⟩ := h; exact ⟨_, _, _, _, _, _, _, _, _, rfl, by decide, fun _ => ⟨rfl, rfl⟩⟩
  | set l => simp only [VAt] at h; obtain ⟨A, c, xs, rfl, _⟩ := h; exact ⟨_, _, _, _, _, _, _, _, _, rfl, by decide, fun _ => ⟨rfl, rfl⟩⟩
theorem one_six (k : Int) (neg : Bool) (A : Option Addr) (n c : Nat) (b : Int) (t : ByteArray) (K : Option Addr) (m d : Nat) : ∀ u ∈ [Value.int .i64 k, .bool neg, .slice A n c, .int .u64 b, .string t, .slice K m d], u.oneCell' = true := by
  intro u hu
  simp only [List.mem_cons, List.not_mem_nil, or_false] at hu
  rcases hu with rfl | rfl | rfl | rfl | rfl | rfl <;> rfl
theorem containsV_any (s t : S) (x y : Value) (w : World) (hc : conS s = true) (hl : lev s ≤ 10) (hl2 : lev t ≤ 10) (gs : good s) (gt : good t) (hx : VAt w w.heap.size s x) (hy : VAt w w.heap.size t y) :
    Calls Tryz.prog 20 #[x, y] w (HasS w (hasV s t)) := by
  obtain ⟨neg, A', n', c', b, tx, K, m, d, rfl, h60, hnil⟩ := hy.shape2
  cases s with
  | list l =>
    simp only [lev] at hl
    simp only [VAt] at hx
    obtain ⟨A, c, xs, rfl, h16, _, hr, hK⟩ := hx
    exact contains_row 6 l A c xs t _ _ _ _ _ _ w (.inl rfl) h16 hr hK hy (by omega) hl2 gs.2 gt (one_six _ _ _ _ _ _ _ _ _ _)
  | tuple l =>
    simp only [lev] at hl
    simp only [VAt] at hx
    obtain ⟨A, c, xs, rfl, h16, _, hr, hK⟩ := hx
    exact contains_row 7 l A c xs t _ _ _ _ _ _ w (.inr rfl) h16 hr hK hy (by omega) hl2 gs.2 gt (one_six _ _ _ _ _ _ _ _ _ _)
  | set l =>
    simp only [lev] at hl
    simp only [VAt] at hx
    obtain ⟨A, c, xs, rfl, h16, _, hr, hK⟩ := hx
    exact contains_set l A c xs t _ _ _ _ _ _ w h16 hr hK hy (by omega) hl2 gs.2.2.2 gt (one_six _ _ _ _ _ _ _ _ _ _)
  | str a =>
    simp only [VAt] at hx
    obtain ⟨rfl, ha⟩ := hx
    refine (contains_str _ _ _ _ _ a _ _ _ (kindN t) neg A' n' c' b tx K m d w ha h60).mono ?_
    rintro e w' ⟨rfl, hB⟩
    by_cases hk : kindN t = 4
    · cases t <;> first | (simp [kindN] at hk; done) | skip
      simp only [VAt] at hy
      have e := hy.1
      unfold valV at e
      injection e with e
      simp at e
      obtain ⟨_, _, _, _, rfl, _⟩ := e
      exact ⟨rfl, hB⟩
    · have e : hasV (.str a) t = none := by cases t <;> first | rfl | (exact absurd rfl hk)
      rw [e]
      exact ⟨⟨_, by rw [show (kindN t == 4) = false from beq_eq_false_iff_ne.2 hk]⟩, hB⟩
  | bytes a =>
    simp only [VAt] at hx
    obtain ⟨rfl, ha⟩ := hx
    by_cases hk2 : kindN t = 2
    · cases t <;> first | (simp [kindN] at hk2; done) | skip
      rename_i z
      exact contains_int _ _ _ _ _ a _ _ _ _ _ _ _ _ _ _ _ _ z w ha fun W hW => num_any z _ W ((hy.below hW).more hW.size)
    · obtain ⟨rfl, rfl⟩ := hnil hk2
      refine (contains_bytes _ _ _ _ _ a _ _ _ (kindN t) neg none 0 c' b tx K m d 0 w (beq_eq_false_iff_ne.2 hk2) ha h60 fun W _ => numNone_any _ _ _ _ _ _ _ _ W).mono ?_
      rintro e w' ⟨rfl, hB⟩
      by_cases hk : kindN t = 5
      · cases t <;> first | (simp [kindN] at hk; done) | skip
        simp only [VAt] at hy
        have e := hy.1
        unfold valV at e
        injection e with e
        simp at e
        obtain ⟨_, _, _, _, rfl, _⟩ := e
        exact ⟨rfl, hB⟩
      · have e : hasV (.bytes a) t = none := by cases t <;> first | rfl | (exact absurd rfl hk) | (exact absurd rfl hk2)
        rw [e]
        exact ⟨⟨_, by rw [show (kindN t == 5) = false from beq_eq_false_iff_ne.2 hk]⟩, hB⟩
  | none => simp [conS] at hc
  | bool a => simp [conS] at hc
  | int a => simp [conS] at hc
  | float a => simp [conS] at hc
  | dict a => simp [conS] at hc
set_option maxRecDepth 10000 in
theorem specHas_any (s t : S) (x y : Value) (w : World) (hc : conS s = true) (hl : lev s ≤ 10) (hl2 : lev t ≤ 10) (gs : good s) (gt : good t) (hx : VAt w w.heap.size s x) (hy : VAt w w.heap.size t y) :
    Calls Tryz.prog 9 #[x, y] w (HasS w (hasV s t)) := by
  have HC := Lib.hid fun (W : World) (hW : Below w.heap.size w W) => containsV_any s t x y W hc hl hl2 gs gt ((hx.below hW).more hW.size) ((hy.below hW).more hW.size)
  obtain ⟨neg, A, n, c, b, u, K, m, d, rfl⟩ := hx.shape
  obtain ⟨neg', A', n', c', b', u', K', m', d', rfl⟩ := hy.shape
  generalize hasV s t = o at *
  generalize kindN s = kd at HC ⊢
  generalize kindN t = kd' at HC ⊢
  clear hc hl hl2 gs gt hx hy
  go_enter Tryz.func9, Tryz.ntmps9
  go_wp2_with fail
  refine gen2 (M := fun W => Calls _ _ _ W _) fun W hB b1 b2 hz => ?_
  have HB := Lib.hid hB
  clear hB b1 b2 hz
  refine (HC.out W HB.out).mono ?_
  rintro e w1 ⟨h, hB1⟩
  have HB1 := Lib.hid (HB.out.trans (hB1.mono HB.out.size))
  clear hB1
  cases o with
  | none =>
    obtain ⟨q, rfl⟩ := h
    go_wp2
    go_ret2
    exact ⟨⟨_, rfl⟩, HB1.out⟩
  | some q =>
    obtain rfl := h
    go_wp2
    go_ret2
    exact ⟨rfl, HB1.out⟩
set_option maxRecDepth 10000 in
set_option maxHeartbeats 1000000 in
theorem open_any (k : Int) (neg : Bool) (A : Option Addr) (n c : Nat) (b : Int) (t : ByteArray) (K : Option Addr) (m d : Nat) (k' : Int) (neg' : Bool) (A' : Option Addr) (n' c' : Nat) (b' : Int) (t' : ByteArray) (K' : Option Addr) (m' d' : Nat) (w : World)
    (hL : ∀ W, Below w.heap.size w W → Calls Tryz.prog 18 #[.agg #[.int .i64 k, .bool neg, .slice A n c, .int .u64 b, .string t, .slice K m d]] W (RetB W false)) :
    Calls Tryz.prog 6 #[.int .i64 11, .agg #[.int .i64 k, .bool neg, .slice A n c, .int .u64 b, .string t, .slice K m d], .agg #[.int .i64 k', .bool neg', .slice A' n' c', .int .u64 b', .string t', .slice K' m' d']] w (RetB w false) := by
  have HL := Lib.hid hL
  clear hL
  by_cases h8 : (k' == 8) = true
  · go_enter Tryz.func6, Tryz.ntmps6
    go_wp2_with fail
    refine gen2 (M := fun W => Calls _ _ _ W _) fun W hB b1 b2 hz => ?_
    have HB := Lib.hid hB
    clear hB b1 b2 hz
    refine (HL.out W HB.out).mono ?_
    rintro e w1 ⟨rfl, hB1⟩
    have HB1 := Lib.hid (HB.out.trans (hB1.mono HB.out.size))
    clear hB1
    go_wp2
    go_ret
    exact ⟨rfl, HB1.out⟩
  · replace h8 : (k' == 8) = false := by simpa using h8
    by_cases h9 : (k' == 9) = true
    · go_enter Tryz.func6, Tryz.ntmps6
      go_wp2_with fail
      refine gen2 (M := fun W => Calls _ _ _ W _) fun W hB b1 b2 hz => ?_
      have HB := Lib.hid hB
      clear hB b1 b2 hz
      refine (HL.out W HB.out).mono ?_
      rintro e w1 ⟨rfl, hB1⟩
      have HB1 := Lib.hid (HB.out.trans (hB1.mono HB.out.size))
      clear hB1
      go_wp2
      go_ret
      exact ⟨rfl, HB1.out⟩
    · replace h9 : (k' == 9) = false := by simpa using h9
      go_enter Tryz.func6, Tryz.ntmps6
      go_wp2_with fail
      refine gen2 (M := fun W => bodyPost _ _ _ _ _ W) fun W hB b1 b2 hz => ?_
      go_ret
      exact ⟨rfl, hB⟩
end Go.Proofs.YtkmeckimmfbkiaaGreatDoor
