/- Products and powers of digits, in plain terms. Conditions: none. -/
import Derived.Test.YtkmeckimmfbkiaaGreatDoorJPure
import Derived.Test.YtkmeckimmfbkiaaGreatDoorJWhole
namespace Go.Proofs.YtkmeckimmfbkiaaGreatDoor
theorem u8_pos {x : UInt8} (h : x ≠ 0) : 1 ≤ x.toNat := by
  rcases Nat.eq_zero_or_pos x.toNat with h0 | h0
  · exact absurd (UInt8.toNat_inj.1 (by simpa using h0)) h
  · exact h0
theorem be_nil : beNat [] = 0 := rfl
theorem be_top (b : List UInt8) (hb : ∀ h : 0 < b.length, b[0] ≠ 0) (h : 0 < b.length) : 256 ^ (b.length - 1) ≤ beNat b := by
  cases b with
  | nil => simp at h
  | cons x l =>
    have hx : 1 ≤ x.toNat := u8_pos (by have h0 := hb (by simp); rwa [List.getElem_cons_zero] at h0)
    rw [beNat_cons]
    have h3 := Nat.mul_le_mul_right (256 ^ l.length) hx
    simp only [List.length_cons, Nat.add_sub_cancel]
    omega
theorem be_len_lt (a b : List UInt8) (hb : ∀ h : 0 < b.length, b[0] ≠ 0) (h : a.length < b.length) : beNat a < beNat b := by
  have h1 := beNat_lt a
  have h2 : 256 ^ a.length ≤ 256 ^ (b.length - 1) := Nat.pow_le_pow_right (by omega) (by omega)
  have h3 := be_top b hb (by omega)
  omega
/-- A number has few bytes. -/
theorem be_len_le (b : List UInt8) (hb : ∀ h : 0 < b.length, b[0] ≠ 0) (k : Nat) (h : beNat b < 256 ^ k) : b.length ≤ k := by
  rcases Nat.lt_or_ge k b.length with h1 | h1
  · exfalso
    have h3 := be_top b hb (by omega)
    have h2 : 256 ^ k ≤ 256 ^ (b.length - 1) := Nat.pow_le_pow_right (by omega) (by omega)
    omega
  · exact h1
theorem be_zero (b : List UInt8) (hb : ∀ h : 0 < b.length, b[0] ≠ 0) : beNat b = 0 ↔ b.length = 0 := by
  constructor
  · intro h
    have := be_len_le b hb 0 (by rw [h]; decide)
    omega
  · intro h
    rw [List.eq_nil_of_length_eq_zero h]; rfl
theorem be_split (a : List UInt8) (k : Nat) (hk : k < a.length) : beNat a = beNat (a.take k) * 256 ^ (a.length - k) + (a[k].toNat * 256 ^ (a.length - (k + 1)) + beNat (a.drop (k + 1))) := by
  have e := beNat_append (a.take k) (a.drop k)
  rw [List.take_append_drop, List.length_drop] at e
  rw [e, List.drop_eq_getElem_cons hk, beNat_cons, List.length_drop]
theorem be_at_lt (a b : List UInt8) (k : Nat) (hka : k < a.length) (hkb : k < b.length) (hl : a.length = b.length) (ht : a.take k = b.take k) (hlt : a[k].toNat < b[k].toNat) : beNat a < beNat b := by
  rw [be_split a k hka, be_split b k hkb, ht, hl]
  have h1 := beNat_lt (a.drop (k + 1))
  rw [List.length_drop, hl] at h1
  have h2 := Nat.mul_le_mul_right (256 ^ (b.length - (k + 1))) (show a[k].toNat + 1 ≤ b[k].toNat by omega)
  rw [Nat.add_mul, Nat.one_mul] at h2
  omega
theorem take_step (a b : List UInt8) (k : Nat) (hka : k < a.length) (hkb : k < b.length) (ht : a.take k = b.take k) (he : a[k] = b[k]) : a.take (k + 1) = b.take (k + 1) := by
  rw [List.take_add_one, List.take_add_one, ht, List.getElem?_eq_getElem hka, List.getElem?_eq_getElem hkb, he]
theorem cutB_lead (l : List UInt8) : ∀ h : 0 < (cutB l).length, (cutB l)[0] ≠ 0 := by
  induction l with
  | nil => intro h; simp [cutB] at h
  | cons a l ih =>
    by_cases ha : a = 0
    · subst ha
      have e : cutB (0 :: l) = cutB l := by simp [cutB]
      rw [e]
      exact ih
    · have e : cutB (a :: l) = a :: l := by simp [cutB, ha]
      rw [e]
      intro _
      simpa using ha
theorem cutB_be (l : List UInt8) : beNat (cutB l) = beNat l := by
  induction l with
  | nil => rfl
  | cons a l ih =>
    by_cases ha : a = 0
    · subst ha
      have e : cutB (0 :: l) = cutB l := by simp [cutB]
      rw [e, ih, beNat_cons]; simp
    · have e : cutB (a :: l) = a :: l := by simp [cutB, ha]
      rw [e]
theorem cutB_le (l : List UInt8) : (cutB l).length ≤ l.length := List.Sublist.length_le (List.dropWhile_sublist _)
theorem sgn_neg (neg : Bool) (l : List UInt8) : decide (sgn neg (beNat l) < 0) = (neg && decide (0 < (cutB l).length)) := by
  have h := be_zero (cutB l) (cutB_lead l)
  rw [cutB_be] at h
  cases neg
  · simp [sgn]
  · simp only [sgn, if_pos, Bool.true_and, decide_eq_decide]
    omega
theorem sgn_natAbs (neg : Bool) (n : Nat) : (sgn neg n).natAbs = n := by cases neg <;> simp [sgn]
theorem sgn_self (z : Int) : sgn (decide (z < 0)) z.natAbs = z := by
  by_cases h : z < 0
  · rw [decide_eq_true h, sgn, if_pos rfl]; omega
  · rw [decide_eq_false h, sgn, if_neg (by decide)]; omega
/-- Digits, the lowest one first. -/
def dgs (l : List UInt8) : List Nat := l.reverse.map UInt8.toNat
theorem leV_dgs (l : List UInt8) : leV (dgs l) = beNat l := by
  induction l with
  | nil => rfl
  | cons a l ih =>
    have e : dgs (a :: l) = dgs l ++ [a.toNat] := by simp [dgs]
    rw [e, leV_append, ih, beNat_cons]
    simp [leV, dgs, Nat.mul_comm]
    omega
theorem dgs_len (l : List UInt8) : (dgs l).length = l.length := by simp [dgs]
theorem dgs_lt (l : List UInt8) : ∀ x ∈ dgs l, x < 256 := by
  intro x hx
  obtain ⟨b, _, rfl⟩ := List.mem_map.1 hx
  exact b.toNat_lt
/-- The i-th digit, 0 beyond. -/
def dg (l : List UInt8) (i : Nat) : Nat := if h : i < l.length then l[l.length - 1 - i].toNat else 0
theorem dgs_get (l : List UInt8) (i : Nat) (h : i < l.length) : (dgs l)[i]? = some (dg l i) := by
  unfold dgs dg
  rw [dif_pos h, List.getElem?_map, List.getElem?_reverse h, List.getElem?_eq_getElem (by omega)]
  rfl
theorem dg_lt (l : List UInt8) (i : Nat) : dg l i < 256 := by
  unfold dg
  split
  · exact UInt8.toNat_lt _
  · decide
theorem dg_take (l : List UInt8) (i : Nat) : leV ((dgs l).take (i + 1)) = leV ((dgs l).take i) + 256 ^ i * dg l i := by
  by_cases h : i < l.length
  · exact leV_take_succ _ _ _ (dgs_get l i h)
  · rw [List.take_of_length_le (by rw [dgs_len]; omega), List.take_of_length_le (by rw [dgs_len]; omega), dg, dif_neg h]; omega
namespace Fl
/-- The whole part of a float's size, and whether that is all. -/
def wholeN (r : Nat) : Nat := fv r / 2 ^ 1074
def wholeAll (r : Nat) : Bool := fv r % 2 ^ 1074 == 0
theorem whole_hi (r t : Nat) (_ht : t = 1074) (h : t ≤ pOf r) : fv r / 2 ^ t = mOf r * 2 ^ (pOf r - t) ∧ (fv r % 2 ^ t == 0) = true := by
  have e : fv r = mOf r * 2 ^ (pOf r - t) * 2 ^ t := by rw [fv, Nat.mul_assoc, ← Nat.pow_add, Nat.sub_add_cancel h]
  rw [e, Nat.mul_div_cancel _ (Nat.pow_pos (by decide)), Nat.mul_mod_left]
  exact ⟨rfl, rfl⟩
theorem whole_lo (r t k : Nat) (h : pOf r + k = t) : fv r / 2 ^ t = mOf r / 2 ^ k ∧ (fv r % 2 ^ t == 0) = (mOf r % 2 ^ k == 0) := by
  rw [fv, ← h, Nat.pow_add, Nat.mul_comm (2 ^ pOf r), Nat.mul_div_mul_right _ _ (Nat.pow_pos (by decide)), Nat.mul_mod_mul_right]
  refine ⟨rfl, ?_⟩
  have hp : 0 < 2 ^ pOf r := Nat.pow_pos (by decide)
  generalize mOf r % 2 ^ k = a
  generalize 2 ^ pOf r = p at *
  rw [Bool.eq_iff_iff]
  simp only [beq_iff_eq, Nat.mul_eq_zero]
  omega
theorem m_lt (r : Nat) : mOf r < 2 ^ 53 := by unfold mOf; split <;> omega
theorem wholeN_hi (r : Nat) (h : 1074 ≤ pOf r) : wholeN r = mOf r * 2 ^ (pOf r - 1074) ∧ wholeAll r = true := whole_hi r 1074 rfl h
theorem wholeN_lo (r k : Nat) (h : pOf r + k = 1074) : wholeN r = mOf r / 2 ^ k ∧ wholeAll r = (mOf r % 2 ^ k == 0) := whole_lo r 1074 k h
theorem wholeN_tiny (r k : Nat) (h : pOf r + k = 1074) (hk : 63 < k) : wholeN r = 0 ∧ wholeAll r = (mOf r == 0) := by
  obtain ⟨h1, h2⟩ := wholeN_lo r k h
  have hm : mOf r < 2 ^ k := Nat.lt_of_lt_of_le (m_lt r) (Nat.pow_le_pow_right (by decide) (by omega))
  rw [h1, h2, Nat.div_eq_of_lt hm, Nat.mod_eq_of_lt hm]
  exact ⟨rfl, rfl⟩
theorem cmpWhole_t (x : Int) (m T : Nat) (n : Bool) (hT : 0 < T) : ordI (cmpWhole x (sgn n (m / T)) (m % T == 0) n) = ordI (compare (x * (T : Int)) (if n = true then -(m : Int) else (m : Int))) := by
  cases n
  · rw [sgn_false, whole_pos x m T hT]; rfl
  · rw [sgn_true, whole_neg x m T hT]; rfl
theorem pow2_pos (t : Nat) : 0 < 2 ^ t := Nat.pow_pos (by decide)
theorem all_pos (m T : Nat) (h : (m % T == 0) = false) : 0 < m := by
  rcases Nat.eq_zero_or_pos m with h0 | h0
  · subst h0; rw [Nat.zero_mod] at h; cases h
  · exact h0
/-- What CmpFloat's last steps tell. -/
theorem cmpWhole_eq (x : Int) (b : Nat) (hf : b % 2 ^ 63 < 2047 * 2 ^ 52) : ordI (cmpWhole x (sgn (decide (2 ^ 63 ≤ b)) (wholeN (b % 2 ^ 63))) (wholeAll (b % 2 ^ 63)) (decide (2 ^ 63 ≤ b))) = cmpW (.num (x * unitF)) (wf b) := by
  rw [wf_num hf]
  simp only [cmpW]
  unfold wholeN wholeAll sv
  rw [unitF_cast]
  have hT := pow2_pos 1074
  generalize 2 ^ 1074 = T at hT ⊢
  exact cmpWhole_t x (fv (b % 2 ^ 63)) T _ hT
theorem wf_zero_lt {b : Nat} (hb : b < 2 ^ 64) (hf : b % 2 ^ 63 < 2047 * 2 ^ 52) (hz : wholeAll (b % 2 ^ 63) = false) : (Ieee.double.order b 0 == some .lt) = decide (2 ^ 63 ≤ b) := by
  rw [order_num hb (by decide) hf (by decide)]
  have hp : 0 < fv (b % 2 ^ 63) := by
    unfold wholeAll at hz
    exact all_pos _ _ hz
  have e0 : sv (decide (2 ^ 63 ≤ 0)) (0 % 2 ^ 63) = 0 := by decide
  rw [e0]
  unfold sv
  generalize fv (b % 2 ^ 63) = m at *
  by_cases h : 2 ^ 63 ≤ b
  · rw [decide_eq_true h, if_pos rfl, cmp_lt (by omega)]; rfl
  · rw [decide_eq_false h, if_neg (by decide), cmp_gt (by omega)]; rfl
end Fl
end Go.Proofs.YtkmeckimmfbkiaaGreatDoor
namespace Go.Proofs.YtkmeckimmfbkiaaGreatDoor
theorem mul_step (ds : List Nat) (i k d p q c s P0 Lk : Nat) (hd : ds[i + k]? = some d) (hs : s = d + p * q + c) (h : leV ds + 256 ^ (i + k) * c = P0 + 256 ^ i * (p * Lk)) :
    leV (ds.set (i + k) (s % 256)) + 256 ^ (i + (k + 1)) * (s / 256) = P0 + 256 ^ i * (p * (Lk + 256 ^ k * q)) := by
  have h1 := leV_step ds (i + k) d (p * q) c s hd hs
  rw [show i + (k + 1) = i + k + 1 by omega, h1, Nat.mul_add (256 ^ (i + k))]
  have h2 : 256 ^ (i + k) * (p * q) = 256 ^ i * (p * (256 ^ k * q)) := by rw [Nat.pow_add]; ac_rfl
  rw [h2, Nat.mul_add p, Nat.mul_add (256 ^ i)]
  omega
theorem mul_bound (ds : List Nat) (i k m c p Li Y : Nat) (hc : 0 < c) (h : leV ds + 256 ^ (i + k) * c = Li * Y + 256 ^ i * (p * Y)) (hL : Li < 256 ^ i) (hp : p < 256) (hY : Y < 256 ^ m) : k ≤ m := by
  have h1 : Li * Y + 256 ^ i * (p * Y) = (Li + 256 ^ i * p) * Y := by rw [Nat.add_mul, Nat.mul_assoc]
  have h2 : Li + 256 ^ i * p < 256 ^ (i + 1) := by
    rw [Nat.pow_succ]
    have := Nat.mul_le_mul_left (256 ^ i) (show p + 1 ≤ 256 by omega)
    rw [Nat.mul_add, Nat.mul_one] at this
    omega
  have h3 : (Li + 256 ^ i * p) * Y < 256 ^ (i + 1) * 256 ^ m := Nat.mul_lt_mul'' h2 hY
  have h4 : 256 ^ (i + k) ≤ 256 ^ (i + k) * c := Nat.le_mul_of_pos_right _ hc
  have h5 : 256 ^ (i + k) < 256 ^ (i + 1 + m) := by rw [Nat.pow_add 256 (i + 1) m]; omega
  have := (Nat.pow_lt_pow_iff_right (by decide)).1 h5
  omega
theorem dgs_take_lt (l : List UInt8) (i : Nat) : leV ((dgs l).take i) < 256 ^ i := by
  have h := leV_lt ((dgs l).take i) (fun x hx => dgs_lt l x (List.mem_of_mem_take hx))
  have h2 : 256 ^ ((dgs l).take i).length ≤ 256 ^ i := Nat.pow_le_pow_right (by decide) (by rw [List.length_take]; omega)
  omega
theorem dgs_take_all (l : List UInt8) (i : Nat) (h : l.length ≤ i) : leV ((dgs l).take i) = beNat l := by
  rw [List.take_of_length_le (by rw [dgs_len]; exact h), leV_dgs]
theorem set_lt (ds : List Nat) (j v : Nat) (h : ∀ x ∈ ds, x < 256) (hv : v < 256) : ∀ x ∈ ds.set j v, x < 256 := by
  intro x hx
  rcases List.mem_or_eq_of_mem_set hx with h1 | h1
  · exact h x h1
  · rw [h1]; exact hv
/-- The bytes that are written out. -/
def outB (ds : List Nat) (n j : Nat) : List UInt8 := List.replicate (n - j) 0 ++ (ds.take j).reverse.map UInt8.ofNat
theorem outB_zero (ds : List Nat) (n : Nat) : outB ds n 0 = List.replicate n 0 := by simp [outB]
theorem outB_len (ds : List Nat) (n j : Nat) (hj : j ≤ n) (hn : n ≤ ds.length) : (outB ds n j).length = n := by simp [outB]; omega
theorem outB_step (ds : List Nat) (n j d : Nat) (hj : j < n) (hd : ds[j]? = some d) : (outB ds n j).set (n - 1 - j) (UInt8.ofNat d) = outB ds n (j + 1) := by
  unfold outB
  have e : n - j = (n - (j + 1)) + 1 := by omega
  rw [e, List.replicate_succ', List.append_assoc, List.set_append_right _ _ (by simp; omega), List.take_add_one, hd]
  simp only [List.length_replicate, Option.toList_some, List.reverse_append, List.reverse_cons, List.reverse_nil, List.nil_append, List.singleton_append, List.map_cons]
  rw [show n - 1 - j - (n - (j + 1)) = 0 by omega, List.set_cons_zero]
theorem outB_end (ds : List Nat) (n : Nat) (hl : ds.length = n + 1) (hb : ∀ x ∈ ds, x < 256) (hv : leV ds < 256 ^ n) : beNat (outB ds n n) = leV ds := by
  have h1 : leV (ds.take n) = leV ds := by
    have hd : ds[n]? = some ds[n] := List.getElem?_eq_getElem (by omega)
    have h0 := leV_high ds n hv n _ (Nat.le_refl _) hd
    have h2 := leV_take_succ ds n _ hd
    rw [List.take_of_length_le (by omega), h0] at h2
    omega
  rw [← h1, ← leV_dgs]
  congr 1
  unfold outB dgs
  rw [Nat.sub_self, List.replicate_zero, List.nil_append, ← List.map_reverse, List.reverse_reverse, List.map_map]
  conv => rhs; rw [← List.map_id (ds.take n)]
  apply List.map_congr_left
  intro x hx
  have := hb x (List.mem_of_mem_take hx)
  simp [Nat.mod_eq_of_lt (show x < 2 ^ 8 by omega)]
/-- Digits in memory. -/
def iv (l : List Nat) : List Go.Value := l.map fun (x : Nat) => Go.Value.int .i64 (x : Int)
theorem iv_len (l : List Nat) : (iv l).length = l.length := by simp [iv]
theorem iv_set (l : List Nat) (j v : Nat) : (iv l).set j (.int .i64 (v : Int)) = iv (l.set j v) := by simp [iv]
theorem iv_get (l : List Nat) (j d : Nat) (h : l[j]? = some d) : (iv l)[j]? = some (.int .i64 (d : Int)) := by simp [iv, h]
theorem bv_set (l : List UInt8) (j : Nat) (b : UInt8) : (bv l).set j (.int .u8 (b.toNat : Int)) = bv (l.set j b) := by simp [bv]
end Go.Proofs.YtkmeckimmfbkiaaGreatDoor
namespace Go.Proofs.YtkmeckimmfbkiaaGreatDoor
open Go Go.RowKit
/-- An integer of the reference, of at most L bytes. -/
def SI (w : World) (B : Nat) (x : Int) (L : Nat) (v : Value) : Prop :=
  ∃ (A : Option Addr) (c : Nat) (l : List UInt8), v = .agg #[.bool (decide (x < 0)), .slice A l.length c] ∧ beNat l = x.natAbs ∧ (∀ h : 0 < l.length, l[0] ≠ 0) ∧ l.length ≤ L ∧ l.length ≤ c ∧ Reads w B 1 A l.length (bv l)
theorem SI.below {w w' : World} {B L : Nat} {x : Int} {v : Value} (h : SI w B x L v) (hb : Below B w w') : SI w' B x L v := by
  obtain ⟨A, c, l, h1, h2, h3, h4, h5, h6⟩ := h
  exact ⟨A, c, l, h1, h2, h3, h4, h5, h6.below hb⟩
theorem SI.more {w : World} {B B' L : Nat} {x : Int} {v : Value} (h : SI w B x L v) (hB : B ≤ B') : SI w B' x L v := by
  obtain ⟨A, c, l, h1, h2, h3, h4, h5, h6⟩ := h
  exact ⟨A, c, l, h1, h2, h3, h4, h5, h6.more hB⟩
theorem SI.short {w : World} {B L L' : Nat} {x : Int} {v : Value} (h : SI w B x L v) (hx : x.natAbs < 256 ^ L') : SI w B x L' v := by
  obtain ⟨A, c, l, h1, h2, h3, h4, h5, h6⟩ := h
  exact ⟨A, c, l, h1, h2, h3, be_len_le l h3 L' (by rw [h2]; exact hx), h5, h6⟩
/-- An integer of the reference is handed back. -/
def OwnsSI (w : World) (x : Int) (L : Nat) (e : Ending) (w' : World) : Prop := ∃ v, e = .returned v ∧ SI w' w'.heap.size x L v ∧ Below w.heap.size w w'
theorem of_si (neg : Bool) (l : List UInt8) (A : Option Addr) (n c : Nat) (w : World) (hn : l.length = n) (hl : n ≤ 2147483647) (hc0 : n ≤ c) (hr : Reads w w.heap.size 1 A n (bv l)) :
    Calls Tryz.prog 12 #[.bool neg, .slice A n c] w (OwnsSI w (sgn neg (beNat l)) n) := by
  refine (of_any neg l A n c w hn hl hc0 hr).mono ?_
  rintro e w' ⟨A', c', rfl, ho, hc, hB⟩
  refine ⟨_, rfl, ⟨A', c', cutB l, ?_, ?_, cutB_lead l, by rw [← hn]; exact cutB_le l, hc, Reads.of_own ho⟩, hB⟩
  · rw [sgn_neg]
  · rw [cutB_be, sgn_natAbs]
set_option maxRecDepth 10000 in
set_option maxHeartbeats 400000 in
theorem order_any (a b : List UInt8) (A D : Option Addr) (n m ca cb : Nat) (w : World) (hn : a.length = n) (hm : b.length = m) (hl : n ≤ 2147483640) (hza : ∀ h : 0 < a.length, a[0] ≠ 0) (hzb : ∀ h : 0 < b.length, b[0] ≠ 0)
    (hra : Reads w w.heap.size 1 A n (bv a)) (hrb : Reads w w.heap.size 1 D m (bv b)) :
    Calls Tryz.prog 49 #[.slice A n ca, .slice D m cb] w fun e w' => e = .returned (.int .i64 (Fl.ordI (compare (beNat a : Int) (beNat b : Int)))) ∧ ∃ k, w' = w.drewN k := by
  have HH := Lib.hid (And.intro hra hrb)
  have hlt := be_len_lt a b hzb
  have hgt := be_len_lt b a hza
  clear hra hrb hza hzb
  rcases Nat.lt_trichotomy n m with h | h | h
  · have hv : Fl.ordI (compare (beNat a : Int) (beNat b : Int)) = -1 := by rw [Fl.cmp_lt (by have := hlt (by omega); omega)]; rfl
    have b1 : (n : Int) < m := by omega
    have b2 : ((n : Int) != m) = true := by simp; omega
    rw [hv]
    clear hlt hgt hv HH hn hm
    go_enter Tryz.func49, Tryz.ntmps49
    go_wp2
    go_ret
    exact ⟨rfl, 0, rfl⟩
  · subst h
    clear hlt hgt
    have b2 : ((n : Int) != n) = false := by simp
    have HN := Lib.hid (And.intro hn hm)
    clear hn hm
    go_enter Tryz.func49, Tryz.ntmps49
    go_wp2_with fail
    go_loopw [5] (fun vi wr => ∃ k q : Nat, vi = .int .i64 k ∧ k ≤ n ∧ a.take k = b.take k ∧ wr = w.drewN q) (fun vi _ => n - (intOf vi).toNat)
    case atStart => exact ⟨0, 0, rfl, by omega, by simp, rfl⟩
    case round =>
      obtain ⟨k, q, rfl, hk, ht, rfl⟩ := hrel
      rcases Nat.lt_or_ge k n with hlt | hge
      · have hka : k < a.length := by rw [HN.out.1]; exact hlt
        have hkb : k < b.length := by rw [HN.out.2]; exact hlt
        obtain ⟨ad, x, rfl, _, hx, p0⟩ := HH.out.1.byteQ hlt
        obtain ⟨bd, y, rfl, _, hy, p1⟩ := HH.out.2.byteQ hlt
        have ex : a[k] = x := by rw [List.getElem?_eq_getElem hka] at hx; exact Option.some.inj hx
        have ey : b[k] = y := by rw [List.getElem?_eq_getElem hkb] at hy; exact Option.some.inj hy
        have b5 : (k : Int) < (n : Int) := by omega
        have w1 : IntKind.i64.wrap ((k : Int) + 1) = (k : Int) + 1 := by rw [IntKind.wrap_i64]; omega
        have HV := Lib.hid (And.intro hx (And.intro hy (And.intro ex (And.intro ey ht))))
        clear hx hy ex ey ht
        by_cases he : x = y
        · have c1 : ((x.toNat : Int) != (y.toNat : Int)) = false := by rw [he]; simp
          have ht2 := Lib.hid (take_step a b k hka hkb HV.out.2.2.2.2 (by rw [HV.out.2.2.1, HV.out.2.2.2.1]; exact he))
          clear HV he HH hka hkb
          go_wp2_with fail
          go_quiet (fail)
          go_wp2
          go_roundw
          case rel => exact ⟨k + 1, q + nq, by go_num, by omega, ht2.out, by simp⟩
          case measure => simp [intOf]; omega
        · have hne : x.toNat ≠ y.toNat := fun e => he (UInt8.toNat_inj.1 e)
          have c1 : ((x.toNat : Int) != (y.toNat : Int)) = true := by simp; omega
          rcases Nat.lt_or_ge x.toNat y.toNat with hab | hab
          · have hv := Lib.hid (show Fl.ordI (compare (beNat a : Int) (beNat b : Int)) = -1 by
              have h := be_at_lt a b k hka hkb (by rw [HN.out.1, HN.out.2]) HV.out.2.2.2.2 (by rw [HV.out.2.2.1, HV.out.2.2.2.1]; exact hab)
              rw [Fl.cmp_lt (by omega)]; rfl)
            have c2 : decide ((x.toNat : Int) < (y.toNat : Int)) = true := by simp; omega
            clear HV he HH hka hkb hne HN
            go_wp2_with fail
            go_quiet (fail)
            go_wp2_with fail
            go_quiet (fail)
            go_wp2_with fail
            go_ret
            refine ⟨by rw [hv.out]; rfl, ?_⟩
            simp only [World.drewN_drewN]
            exact ⟨_, rfl⟩
          · have hv := Lib.hid (show Fl.ordI (compare (beNat a : Int) (beNat b : Int)) = 1 by
              have h := be_at_lt b a k hkb hka (by rw [HN.out.1, HN.out.2]) HV.out.2.2.2.2.symm (by rw [HV.out.2.2.1, HV.out.2.2.2.1]; omega)
              rw [Fl.cmp_gt (by omega)]; rfl)
            have c2 : decide ((x.toNat : Int) < (y.toNat : Int)) = false := by simp; omega
            clear HV he HH hka hkb hne HN
            go_wp2_with fail
            go_quiet (fail)
            go_wp2_with fail
            go_quiet (fail)
            go_wp2_with fail
            go_ret
            refine ⟨by rw [hv.out]; rfl, ?_⟩
            simp only [World.drewN_drewN]
            exact ⟨_, rfl⟩
      · have hkn : k = n := by omega
        subst hkn
        have hv := Lib.hid (show Fl.ordI (compare (beNat a : Int) (beNat b : Int)) = 0 by
          have e : a = b := by rw [← List.take_of_length_le (Nat.le_of_eq HN.out.1), ← List.take_of_length_le (l := b) (Nat.le_of_eq HN.out.2)]; exact ht
          rw [e, Fl.cmp_eq rfl]; rfl)
        have hki : ¬ (k : Int) < (k : Int) := by omega
        clear HN HH ht
        go_wp2
        go_ret
        exact ⟨by rw [hv.out]; rfl, _, rfl⟩
  · have hv : Fl.ordI (compare (beNat a : Int) (beNat b : Int)) = 1 := by rw [Fl.cmp_gt (by have := hgt (by omega); omega)]; rfl
    have b1 : ¬ (n : Int) < m := by omega
    have b2 : ((n : Int) != m) = true := by simp; omega
    rw [hv]
    clear hlt hgt hv HH hn hm
    go_enter Tryz.func49, Tryz.ntmps49
    go_wp2
    go_ret
    exact ⟨rfl, 0, rfl⟩
/-- Of which sign. -/
def sgnI (x : Int) : Int := if x = 0 then 0 else if x < 0 then -1 else 1
set_option maxRecDepth 10000 in
theorem zero_any (x : Int) (L : Nat) (v : Value) (w : World) (hx : SI w w.heap.size x L v) : Calls Tryz.prog 63 #[v] w fun e w' => e = .returned (.bool (decide (x = 0))) ∧ Below w.heap.size w w' := by
  obtain ⟨A, c, l, rfl, h2, h3, h4, h5, h6⟩ := hx
  have hz := be_zero l h3
  rw [h2] at hz
  have he : ((l.length : Int) == 0) = decide (x = 0) := by
    rw [Bool.eq_iff_iff]
    simp only [beq_iff_eq, decide_eq_true_eq]
    omega
  have HE := Lib.hid he
  clear h2 h3 h4 h5 h6 hz he
  go_enter Tryz.func63, Tryz.ntmps63
  go_wp2
  go_ret
  exact ⟨by rw [← HE.out]; rfl, (Below.refl _ _).alloc (Nat.le_refl _) _⟩
set_option maxRecDepth 10000 in
theorem sign_any (x : Int) (L : Nat) (v : Value) (w : World) (hx : SI w w.heap.size x L v) : Calls Tryz.prog 48 #[v] w fun e w' => e = .returned (.int .i64 (sgnI x)) ∧ Below w.heap.size w w' := by
  have HX := Lib.hid hx
  obtain ⟨A, c, l, rfl, h2, h3, h4, h5, h6⟩ := hx
  clear h2 h3 h4 h5 h6
  go_enter Tryz.func48, Tryz.ntmps48
  go_wp2_with fail
  refine gen1 (M := fun W => Calls _ _ _ W _) fun W hB b1 hz => ?_
  refine (zero_any x L _ W ((HX.out.below hB).more (by omega))).mono ?_
  rintro e w1 ⟨rfl, hB1⟩
  have b2 := b1.below hB1 b1.lt
  have HB := Lib.hid (hB.trans (hB1.mono (by omega)))
  obtain ⟨k0, k1, z0, z1⟩ := b2.c2
  clear HX hB b1 hz hB1 b2
  by_cases h0 : x = 0
  · have hs : sgnI x = 0 := by rw [sgnI, if_pos h0]
    have hd : decide (x = 0) = true := decide_eq_true h0
    rw [hd]
    have HS := Lib.hid hs
    clear hs hd h0
    go_wp2
    go_ret
    exact ⟨by rw [HS.out]; rfl, HB.out⟩
  · have hd : decide (x = 0) = false := decide_eq_false h0
    by_cases hn : x < 0
    · have hs : sgnI x = -1 := by rw [sgnI, if_neg h0, if_pos hn]
      have hd2 : decide (x < 0) = true := decide_eq_true hn
      rw [hd]
      rw [hd2] at k0
      have HS := Lib.hid hs
      clear hs hd hd2 h0
      go_wp2
      go_ret
      exact ⟨by rw [HS.out]; rfl, HB.out⟩
    · have hs : sgnI x = 1 := by rw [sgnI, if_neg h0, if_neg hn]
      have hd2 : decide (x < 0) = false := decide_eq_false hn
      rw [hd]
      rw [hd2] at k0
      have HS := Lib.hid hs
      clear hs hd hd2 h0
      go_wp2
      go_ret
      exact ⟨by rw [HS.out]; rfl, HB.out⟩
/-- A call that answers R, whatever has been made since W. -/
def From (W : World) (f : FuncId) (args : Array Value) (R : Value) : Prop := ∀ w, Below W.heap.size W w → Calls Tryz.prog f args w fun e w' => e = .returned R ∧ Below W.heap.size W w'
theorem From.mk {W : World} {f : FuncId} {args : Array Value} {R : Value} (h : ∀ w, Below W.heap.size W w → Calls Tryz.prog f args w fun e w' => e = .returned R ∧ Below w.heap.size w w') : From W f args R :=
  fun w hB => (h w hB).mono fun _ _ ⟨h1, h2⟩ => ⟨h1, hB.trans (h2.mono hB.size)⟩
theorem sgnI_ord (x y : Int) (h : sgnI x ≠ sgnI y) : (sgnI x < sgnI y ∧ Fl.ordI (compare x y) = -1) ∨ (¬ sgnI x < sgnI y ∧ Fl.ordI (compare x y) = 1) := by
  rcases Int.lt_trichotomy x y with h1 | h1 | h1
  · refine .inl ⟨?_, by rw [Fl.cmp_lt h1]; rfl⟩
    unfold sgnI at h ⊢
    split at h <;> split at h <;> (try split at h) <;> (try split at h) <;> simp_all <;> omega
  · subst h1; exact absurd rfl h
  · refine .inr ⟨?_, by rw [Fl.cmp_gt h1]; rfl⟩
    unfold sgnI at h ⊢
    split at h <;> split at h <;> (try split at h) <;> (try split at h) <;> simp_all <;> omega
theorem abs_ord (x y : Int) (h : sgnI x = sgnI y) : (x < 0 ∧ y < 0 ∧ Fl.ordI (compare (y.natAbs : Int) (x.natAbs : Int)) = Fl.ordI (compare x y)) ∨ (¬ x < 0 ∧ ¬ y < 0 ∧ Fl.ordI (compare (x.natAbs : Int) (y.natAbs : Int)) = Fl.ordI (compare x y)) := by
  have hs : (x < 0 ∧ y < 0) ∨ (¬ x < 0 ∧ ¬ y < 0) := by
    unfold sgnI at h
    split at h <;> split at h <;> (try split at h) <;> (try split at h) <;> simp_all <;> omega
  rcases hs with ⟨h1, h2⟩ | ⟨h1, h2⟩
  · refine .inl ⟨h1, h2, ?_⟩
    rcases Int.lt_trichotomy x y with h3 | h3 | h3
    · rw [Fl.cmp_lt h3, Fl.cmp_lt (by omega)]
    · rw [Fl.cmp_eq h3, Fl.cmp_eq (by omega)]
    · rw [Fl.cmp_gt h3, Fl.cmp_gt (by omega)]
  · refine .inr ⟨h1, h2, ?_⟩
    rcases Int.lt_trichotomy x y with h3 | h3 | h3
    · rw [Fl.cmp_lt h3, Fl.cmp_lt (by omega)]
    · rw [Fl.cmp_eq h3, Fl.cmp_eq (by omega)]
    · rw [Fl.cmp_gt h3, Fl.cmp_gt (by omega)]
set_option maxRecDepth 10000 in
set_option maxHeartbeats 1000000 in
theorem spCmp_any (x y : Int) (L M : Nat) (u v : Value) (w : World) (hL : L ≤ 2147483640) (hM : M ≤ 2147483640) (hx : SI w w.heap.size x L u) (hy : SI w w.heap.size y M v) :
    Calls Tryz.prog 33 #[u, v] w fun e w' => e = .returned (.int .i64 (Fl.ordI (compare x y))) ∧ Below w.heap.size w w' := by
  have hsx := fun (W : World) (hW : Below w.heap.size w W) => From.mk (W := W) (f := 48) (args := #[u]) fun V hV => sign_any x L u V (((hx.below hW).more hW.size |>.below hV).more hV.size)
  have hsy := fun (W : World) (hW : Below w.heap.size w W) => From.mk (W := W) (f := 48) (args := #[v]) fun V hV => sign_any y M v V (((hy.below hW).more hW.size |>.below hV).more hV.size)
  obtain ⟨A, ca, a, rfl, a2, a3, a4, a5, a6⟩ := hx
  obtain ⟨D, cb, b, rfl, b2, b3, b4, b5, b6⟩ := hy
  generalize hla : a.length = la at hsx ⊢
  generalize hlb : b.length = lb at hsy ⊢
  have HS := Lib.hid (And.intro hsx hsy)
  have HL := Lib.hid (And.intro a2 (And.intro a3 (And.intro a4 (And.intro b2 (And.intro b3 b4)))))
  have HR := Lib.hid (And.intro a6 b6)
  clear hsx hsy a2 a3 a4 a5 a6 b2 b3 b4 b5 b6
  have HLL := Lib.hid (And.intro hla hlb)
  clear hla hlb
  go_enter Tryz.func33, Tryz.ntmps33
  go_wp2_with fail
  refine gen2 (M := fun W => Code.wp _ _ _ _ W) fun W hB b1 b2 hz => ?_
  have F1 := Lib.hid (HS.out.1 W hB)
  have F2 := Lib.hid (HS.out.2 W hB)
  have HB0 := Lib.hid (show Below W.heap.size W W.drew from (Below.refl _ _).drew)
  have HBW := Lib.hid (And.intro hB (And.intro b1 b2))
  obtain ⟨k0, k1, _, _⟩ := b1.c2
  obtain ⟨k2, k3, _, _⟩ := b2.c2
  clear hB b1 b2
  by_cases hs : sgnI x = sgnI y
  · have hb : (sgnI x != sgnI y) = false := by rw [bne_eq_false_iff_eq]; exact hs
    have HC := Lib.hid (abs_ord x y hs)
    clear hs
    go_region_held3 (fun w' => w'.cell? ⟨w.heap.size, 0, none⟩ = some (.bool (decide (x < 0))) ∧ w'.cell? ⟨w.heap.size, 1, none⟩ = some (.slice A la ca) ∧ w'.cell? ⟨w.heap.size + 1, 0, none⟩ = some (.bool (decide (y < 0))) ∧ w'.cell? ⟨w.heap.size + 1, 1, none⟩ = some (.slice D lb cb)) (exact ⟨k0, k1, k2, k3⟩)
      ((first
        | (go_at_call 48; refine (F1.out _ (by first | exact HB5.out | exact HB0.out)).mono ?_
           rintro e w5 ⟨rfl, hB5⟩
           obtain ⟨k0, k1, _, _⟩ := (HBW.out.2.1.below hB5 (by omega)).c2
           obtain ⟨k2, k3, _, _⟩ := (HBW.out.2.2.below hB5 (by omega)).c2
           have HB5 := Lib.hid hB5
           clear hB5)
        | (go_at_call 48; refine (F2.out _ (by first | exact HB5.out | exact HB0.out)).mono ?_
           rintro e w5 ⟨rfl, hB5⟩
           obtain ⟨k0, k1, _, _⟩ := (HBW.out.2.1.below hB5 (by omega)).c2
           obtain ⟨k2, k3, _, _⟩ := (HBW.out.2.2.below hB5 (by omega)).c2
           have HB5 := Lib.hid hB5
           clear hB5)))
    rcases HC.out with ⟨n1, n2, hv⟩ | ⟨n1, n2, hv⟩
    · rw [decide_eq_true n1] at k0
      rw [decide_eq_true n2] at k2
      have HR2 := Lib.hid (And.intro ((HR.out.1.below (HBW.out.1.trans (HB5.out.mono (by omega)))).more (B' := w5.heap.size) (by have := HB5.out.size; omega)) ((HR.out.2.below (HBW.out.1.trans (HB5.out.mono (by omega)))).more (B' := w5.heap.size) (by have := HB5.out.size; omega)))
      have HV := Lib.hid hv
      have HB6 := Lib.hid (HBW.out.1.trans (HB5.out.mono (by omega)))
      clear hv n1 n2 HC HS HB0 F1 F2
      go_wp2_with fail
      refine (order_any b a D A lb la cb ca w5 HLL.out.2 HLL.out.1 (by have := HL.out.2.2.2.2.2; have := HLL.out.2; omega) HL.out.2.2.2.2.1 HL.out.2.1 (by rw [← HLL.out.2]; exact HR2.out.2) (by rw [← HLL.out.1]; exact HR2.out.1)).mono ?_
      rintro e w6 ⟨rfl, k, rfl⟩
      go_wp2
      go_ret
      refine ⟨?_, HB6.out.drewN_ k⟩
      rw [← HV.out, ← HL.out.1, ← HL.out.2.2.2.1]
      rfl
    · rw [decide_eq_false (show ¬ x < 0 by omega)] at k0
      rw [decide_eq_false (show ¬ y < 0 by omega)] at k2
      have HR2 := Lib.hid (And.intro ((HR.out.1.below (HBW.out.1.trans (HB5.out.mono (by omega)))).more (B' := w5.heap.size) (by have := HB5.out.size; omega)) ((HR.out.2.below (HBW.out.1.trans (HB5.out.mono (by omega)))).more (B' := w5.heap.size) (by have := HB5.out.size; omega)))
      have HV := Lib.hid hv
      have HB6 := Lib.hid (HBW.out.1.trans (HB5.out.mono (by omega)))
      clear hv n1 n2 HC HS HB0 F1 F2
      go_wp2_with fail
      refine (order_any a b A D la lb ca cb w5 HLL.out.1 HLL.out.2 (by have := HL.out.2.2.1; have := HLL.out.1; omega) HL.out.2.1 HL.out.2.2.2.2.1 (by rw [← HLL.out.1]; exact HR2.out.1) (by rw [← HLL.out.2]; exact HR2.out.2)).mono ?_
      rintro e w6 ⟨rfl, k, rfl⟩
      go_wp2
      go_ret
      refine ⟨?_, HB6.out.drewN_ k⟩
      rw [← HV.out, ← HL.out.1, ← HL.out.2.2.2.1]
      rfl
  · have hb : (sgnI x != sgnI y) = true := by rw [bne_iff_ne]; exact hs
    have HC := Lib.hid (sgnI_ord x y hs)
    clear hs
    go_region_held3 (fun w' => w'.cell? ⟨w.heap.size, 0, none⟩ = some (.bool (decide (x < 0))) ∧ w'.cell? ⟨w.heap.size, 1, none⟩ = some (.slice A la ca) ∧ w'.cell? ⟨w.heap.size + 1, 0, none⟩ = some (.bool (decide (y < 0))) ∧ w'.cell? ⟨w.heap.size + 1, 1, none⟩ = some (.slice D lb cb)) (exact ⟨k0, k1, k2, k3⟩)
      ((first
        | (go_at_call 48; refine (F1.out _ (by first | exact HB5.out | exact HB0.out)).mono ?_
           rintro e w5 ⟨rfl, hB5⟩
           obtain ⟨k0, k1, _, _⟩ := (HBW.out.2.1.below hB5 (by omega)).c2
           obtain ⟨k2, k3, _, _⟩ := (HBW.out.2.2.below hB5 (by omega)).c2
           have HB5 := Lib.hid hB5
           clear hB5)
        | (go_at_call 48; refine (F2.out _ (by first | exact HB5.out | exact HB0.out)).mono ?_
           rintro e w5 ⟨rfl, hB5⟩
           obtain ⟨k0, k1, _, _⟩ := (HBW.out.2.1.below hB5 (by omega)).c2
           obtain ⟨k2, k3, _, _⟩ := (HBW.out.2.2.below hB5 (by omega)).c2
           have HB5 := Lib.hid hB5
           clear hB5)))
    have HB0 := Lib.hid (show Below W.heap.size W w5.drew from HB5.out.drew)
    have HB9 := Lib.hid HB5.out
    clear HB5
    rcases HC.out with ⟨n1, hv⟩ | ⟨n1, hv⟩
    · have HV := Lib.hid hv
      clear hv HC
      go_wp2_with fail
      go_region_held3 (fun w' => w'.cell? ⟨w.heap.size, 0, none⟩ = some (.bool (decide (x < 0))) ∧ w'.cell? ⟨w.heap.size, 1, none⟩ = some (.slice A la ca) ∧ w'.cell? ⟨w.heap.size + 1, 0, none⟩ = some (.bool (decide (y < 0))) ∧ w'.cell? ⟨w.heap.size + 1, 1, none⟩ = some (.slice D lb cb)) (exact ⟨k0, k1, k2, k3⟩)
        ((first
          | (go_at_call 48; refine (F1.out _ (by first | exact HB5.out | exact HB0.out)).mono ?_
             rintro e w5 ⟨rfl, hB5⟩
             obtain ⟨k0, k1, _, _⟩ := (HBW.out.2.1.below hB5 (by omega)).c2
             obtain ⟨k2, k3, _, _⟩ := (HBW.out.2.2.below hB5 (by omega)).c2
             have HB5 := Lib.hid hB5
             clear hB5)
          | (go_at_call 48; refine (F2.out _ (by first | exact HB5.out | exact HB0.out)).mono ?_
             rintro e w5 ⟨rfl, hB5⟩
             obtain ⟨k0, k1, _, _⟩ := (HBW.out.2.1.below hB5 (by omega)).c2
             obtain ⟨k2, k3, _, _⟩ := (HBW.out.2.2.below hB5 (by omega)).c2
             have HB5 := Lib.hid hB5
             clear hB5)))
      go_wp2
      go_ret
      exact ⟨by rw [HV.out]; rfl, HBW.out.1.trans (HB5.out.mono (by omega))⟩
    · have HV := Lib.hid hv
      clear hv HC
      go_wp2_with fail
      go_region_held3 (fun w' => w'.cell? ⟨w.heap.size, 0, none⟩ = some (.bool (decide (x < 0))) ∧ w'.cell? ⟨w.heap.size, 1, none⟩ = some (.slice A la ca) ∧ w'.cell? ⟨w.heap.size + 1, 0, none⟩ = some (.bool (decide (y < 0))) ∧ w'.cell? ⟨w.heap.size + 1, 1, none⟩ = some (.slice D lb cb)) (exact ⟨k0, k1, k2, k3⟩)
        ((first
          | (go_at_call 48; refine (F1.out _ (by first | exact HB5.out | exact HB0.out)).mono ?_
             rintro e w5 ⟨rfl, hB5⟩
             obtain ⟨k0, k1, _, _⟩ := (HBW.out.2.1.below hB5 (by omega)).c2
             obtain ⟨k2, k3, _, _⟩ := (HBW.out.2.2.below hB5 (by omega)).c2
             have HB5 := Lib.hid hB5
             clear hB5)
          | (go_at_call 48; refine (F2.out _ (by first | exact HB5.out | exact HB0.out)).mono ?_
             rintro e w5 ⟨rfl, hB5⟩
             obtain ⟨k0, k1, _, _⟩ := (HBW.out.2.1.below hB5 (by omega)).c2
             obtain ⟨k2, k3, _, _⟩ := (HBW.out.2.2.below hB5 (by omega)).c2
             have HB5 := Lib.hid hB5
             clear hB5)))
      go_wp2
      go_ret
      exact ⟨by rw [HV.out]; rfl, HBW.out.1.trans (HB5.out.mono (by omega))⟩
theorem Below.drewAny {B : Nat} {a w w' : World} {k : Nat} (h : Below B a w) (e : w' = w.drewN k) : Below B a w' := by subst e; exact h.drewN_ k
end Go.Proofs.YtkmeckimmfbkiaaGreatDoor
