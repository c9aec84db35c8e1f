/- Values in memory. Conditions: none. -/
import Derived.Test.YtkmeckimmfbkiaaGreatDoorJWhole
import Derived.Test.YtkmeckimmfbkiaaGreatDoorJPure
import Derived.Deep.MidRow
import Derived.Handy
import Derived.Laws.Strings
namespace Go.Proofs.YtkmeckimmfbkiaaGreatDoor
open Go Go.RowKit
open Fl
theorem mbits_run (b : Nat) (w : World) : (callFunc 71 #[.float .f64 b]).run Tryz.prog w = .ok (.value (.int .u64 (b : Int))) w := by
  rw [run_callFunc_extern Tryz.func71 (by kernel_rfl) (by kernel_rfl) (by kernel_rfl) (e := Go.Extern.MathFloatBits.float64bits) (by kernel_rfl)]
  rfl
theorem mfrom_run (b : Nat) (w : World) : (callFunc 47 #[.int .u64 (b : Int)]).run Tryz.prog w = .ok (.value (.float .f64 b)) w := by
  rw [run_callFunc_extern Tryz.func47 (by kernel_rfl) (by kernel_rfl) (by kernel_rfl) (e := Go.Extern.MathFloatBits.float64frombits) (by kernel_rfl)]
  rfl
set_option maxRecDepth 10000 in
theorem abs_any (b : Nat) (hb : b < 2 ^ 64) (w : World) : Calls Tryz.prog 62 #[.float .f64 b] w fun e w' => e = .returned (.float .f64 (b % 2 ^ 63)) ∧ w' = w := by
  have H1 := fun w => mbits_run b w
  have H2 := fun w => mfrom_run (b % 2 ^ 63) w
  have h : bits .andNot .u64 (b : Int) 9223372036854775808 = ((b % 2 ^ 63 : Nat) : Int) := by
    have h := u64_andNot_nat b 9223372036854775808 (by omega) (by decide)
    rw [show 18446744073709551615 - 9223372036854775808 = 2 ^ 63 - 1 from rfl, Nat.and_two_pow_sub_one_eq_mod] at h
    exact h
  generalize b % 2 ^ 63 = r at *
  go_enter Tryz.func62, Tryz.ntmps62
  go_wp2_with (simp only [H1, H2, h])
  go_ret
  exact ⟨rfl, rfl⟩
set_option maxRecDepth 10000 in
theorem isFinite_any (b : Nat) (hb : b < 2 ^ 64) (w : World) : Calls Tryz.prog 287 #[.float .f64 b] w fun e w' => e = .returned (.bool (decide (b % 2 ^ 63 < 2047 * 2 ^ 52))) ∧ w' = w := by
  have H := Lib.hid (abs_any b hb w)
  have HL := Lib.hid (le_max (Nat.mod_lt b (show 0 < 2 ^ 63 by decide)))
  generalize b % 2 ^ 63 = r at *
  go_enter Tryz.func287, Tryz.ntmps287
  go_wp2_with fail
  refine H.out.mono ?_
  rintro e w' ⟨rfl, rfl⟩
  go_wp2_with fail
  go_ret
  exact ⟨congrArg Ending.returned (congrArg Value.bool HL.out), rfl⟩
set_option maxRecDepth 10000 in
theorem isInf_pos (b : Nat) (hb : b < 2 ^ 64) (w : World) : Calls Tryz.prog 46 #[.float .f64 b, .int .i64 1] w fun e w' => e = .returned (.bool (decide (b = 2047 * 2 ^ 52))) ∧ w' = w := by
  have HL := Lib.hid (gt_max hb)
  go_enter Tryz.func46, Tryz.ntmps46
  go_wp2_with fail
  go_ret
  exact ⟨congrArg Ending.returned (congrArg Value.bool HL.out), rfl⟩
/-- The other sign. -/
def flip (b : Nat) : Nat := (1 - b / 2 ^ 63) * 2 ^ 63 + b % 2 ^ 63
theorem flip_eq (b : Nat) (hb : b < 2 ^ 64) : b ^^^ 2 ^ 63 = flip b := by
  have h1 : (b ^^^ 2 ^ 63) % 2 ^ 63 = b % 2 ^ 63 := by
    rw [Nat.xor_mod_two_pow, Nat.mod_self, Nat.xor_zero]
  have h2 : (b ^^^ 2 ^ 63) / 2 ^ 63 = 1 - b / 2 ^ 63 := by
    rw [Nat.xor_div_two_pow, Nat.div_self (by decide)]
    have : b / 2 ^ 63 = 0 ∨ b / 2 ^ 63 = 1 := by omega
    rcases this with h | h <;> rw [h] <;> rfl
  have := Nat.div_add_mod (b ^^^ 2 ^ 63) (2 ^ 63)
  unfold flip
  rw [h1, h2] at this
  omega
theorem run_flip (b : Nat) (hb : b < 2 ^ 64) (w : World) : (Op.unary .neg (.float .f64 b)).run Tryz.prog w = .ok (.float .f64 (flip b)) w := by
  rw [← flip_eq b hb]; rfl
set_option maxRecDepth 10000 in
theorem isInf_neg (b : Nat) (hb : b < 2 ^ 64) (w : World) : Calls Tryz.prog 46 #[.float .f64 b, .int .i64 (-1)] w fun e w' => e = .returned (.bool (decide (b = 2 ^ 63 + 2047 * 2 ^ 52))) ∧ w' = w := by
  have HN := fun w => run_flip b hb w
  have HL := Lib.hid (gt_max (b := flip b) (by unfold flip; omega))
  have HE : Hid (flip b = 2047 * 2 ^ 52 ↔ b = 2 ^ 63 + 2047 * 2 ^ 52) := Lib.hid (by unfold flip; omega)
  generalize flip b = c at *
  go_enter Tryz.func46, Tryz.ntmps46
  go_wp2_with (simp only [HN])
  go_ret
  refine ⟨congrArg Ending.returned (congrArg Value.bool (Eq.trans HL.out ?_)), rfl⟩
  rw [decide_eq_decide]
  exact HE.out
set_option maxRecDepth 10000 in
theorem isNaN_any (b : Nat) (hb : b < 2 ^ 64) (w : World) : Calls Tryz.prog 43 #[.float .f64 b] w fun e w' => e = .returned (.bool (decide (2047 * 2 ^ 52 < b % 2 ^ 63))) ∧ w' = w := by
  go_enter Tryz.func43, Tryz.ntmps43
  go_wp2_with fail
  go_ret
  refine ⟨congrArg Ending.returned (congrArg Value.bool ?_), rfl⟩
  show (Ieee.double.order b b != some .eq) = _
  rw [bne, Fl.eq_self hb]
  by_cases h : b % 2 ^ 63 ≤ 2047 * 2 ^ 52
  · rw [decide_eq_true h, decide_eq_false (show ¬ 2047 * 2 ^ 52 < b % 2 ^ 63 by omega)]; rfl
  · rw [decide_eq_false h, decide_eq_true (show 2047 * 2 ^ 52 < b % 2 ^ 63 by omega)]; rfl
set_option maxRecDepth 10000 in
theorem floatOf_any (b : Nat) (w : World) : Calls Tryz.prog 52 #[.int .u64 (b : Int)] w fun e w' => e = .returned (.float .f64 b) ∧ w' = w := by
  have H := fun w => mfrom_run b w
  go_enter Tryz.func52, Tryz.ntmps52
  go_wp2_with (simp only [H])
  go_ret
  exact ⟨rfl, rfl⟩
end Go.Proofs.YtkmeckimmfbkiaaGreatDoor
namespace Go.Proofs.YtkmeckimmfbkiaaGreatDoor
open Go Go.RowKit
/-- A value of the thin package: six cells. -/
def valV (k : Int) (neg : Bool) (mag : Value) (bits : Int) (t : ByteArray) (kids : Value) : Value := .agg #[.int .i64 k, .bool neg, mag, .int .u64 bits, .string t, kids]
def nilS : Value := .slice none 0 0
def noT : ByteArray := ⟨#[]⟩
mutual
/-- A value of the thin package that stands for s, as Clean makes it; its parts lie below block B. -/
def VAt (w : World) (B : Nat) : S → Value → Prop
  | .none, v => v = valV 0 false nilS 0 noT nilS
  | .bool b, v => v = valV 1 false nilS (if b then 1 else 0) noT nilS
  | .int x, v => ∃ A c l, v = valV 2 (decide (x < 0)) (.slice A (List.length l) c) 0 noT nilS ∧ beNat l = x.natAbs ∧ (∀ h : 0 < l.length, l[0] ≠ 0) ∧ l.length ≤ 40 ∧ l.length ≤ c ∧ Reads w B 1 A l.length (bv l)
  | .float f, v => v = valV 3 false nilS f noT nilS ∧ f < 18446744073709551616
  | .str s, v => v = valV 4 false nilS 0 s nilS ∧ s.size ≤ 60
  | .bytes s, v => v = valV 5 false nilS 0 s nilS ∧ s.size ≤ 60
  | .list l, v => ∃ A c xs, v = valV 6 false nilS 0 noT (.slice A l.length c) ∧ l.length ≤ 16 ∧ l.length ≤ c ∧ Reads w B 6 A l.length xs ∧ KidsV w B l xs
  | .tuple l, v => ∃ A c xs, v = valV 7 false nilS 0 noT (.slice A l.length c) ∧ l.length ≤ 16 ∧ l.length ≤ c ∧ Reads w B 6 A l.length xs ∧ KidsV w B l xs
  | .dict l, v => ∃ A c xs, v = valV 8 false nilS 0 noT (.slice A l.length c) ∧ l.length ≤ 16 ∧ l.length ≤ c ∧ Reads w B 6 A l.length xs ∧ KidsV w B l xs
  | .set l, v => ∃ A c xs, v = valV 9 false nilS 0 noT (.slice A l.length c) ∧ l.length ≤ 16 ∧ l.length ≤ c ∧ Reads w B 6 A l.length xs ∧ KidsV w B l xs
/-- Rows of six cells, one row a value. -/
def KidsV (w : World) (B : Nat) : List S → List Value → Prop
  | [], xs => xs = []
  | s :: l, xs => ∃ c0 c1 c2 c3 c4 c5 ys, xs = c0 :: c1 :: c2 :: c3 :: c4 :: c5 :: ys ∧ VAt w B s (.agg #[c0, c1, c2, c3, c4, c5]) ∧ KidsV w B l ys
end
mutual
theorem VAt.keep {w w' : World} {B B' : Nat} (hk : ∀ p : Addr, p.block < B → w'.cell? p = w.cell? p) (hB : B ≤ B') : ∀ (s : S) (v : Value), VAt w B s v → VAt w' B' s v
  | .none, v, h => h
  | .bool _, v, h => h
  | .int _, v, h => by
    simp only [VAt] at h ⊢
    obtain ⟨A, c, l, h1, h2, h3, h4, h5, h6⟩ := h
    exact ⟨A, c, l, h1, h2, h3, h4, h5, (h6.keep hk).more hB⟩
  | .float _, v, h => h
  | .str _, v, h => h
  | .bytes _, v, h => h
  | .list l, v, h => by
    simp only [VAt] at h ⊢
    obtain ⟨A, c, xs, h1, h2, h3, h4, h5⟩ := h
    exact ⟨A, c, xs, h1, h2, h3, (h4.keep hk).more hB, KidsV.keep hk hB l xs h5⟩
  | .tuple l, v, h => by
    simp only [VAt] at h ⊢
    obtain ⟨A, c, xs, h1, h2, h3, h4, h5⟩ := h
    exact ⟨A, c, xs, h1, h2, h3, (h4.keep hk).more hB, KidsV.keep hk hB l xs h5⟩
  | .dict l, v, h => by
    simp only [VAt] at h ⊢
    obtain ⟨A, c, xs, h1, h2, h3, h4, h5⟩ := h
    exact ⟨A, c, xs, h1, h2, h3, (h4.keep hk).more hB, KidsV.keep hk hB l xs h5⟩
  | .set l, v, h => by
    simp only [VAt] at h ⊢
    obtain ⟨A, c, xs, h1, h2, h3, h4, h5⟩ := h
    exact ⟨A, c, xs, h1, h2, h3, (h4.keep hk).more hB, KidsV.keep hk hB l xs h5⟩
theorem KidsV.keep {w w' : World} {B B' : Nat} (hk : ∀ p : Addr, p.block < B → w'.cell? p = w.cell? p) (hB : B ≤ B') : ∀ (l : List S) (xs : List Value), KidsV w B l xs → KidsV w' B' l xs
  | [], xs, h => h
  | s :: l, xs, h => by
    simp only [KidsV] at h ⊢
    obtain ⟨c0, c1, c2, c3, c4, c5, ys, h1, h2, h3⟩ := h
    exact ⟨c0, c1, c2, c3, c4, c5, ys, h1, VAt.keep hk hB s _ h2, KidsV.keep hk hB l ys h3⟩
end
theorem VAt.below {w w' : World} {B : Nat} {s : S} {v : Value} (h : VAt w B s v) (hb : Below B w w') : VAt w' B s v := VAt.keep (fun _ hp => hb.cell hp) (Nat.le_refl _) s v h
theorem VAt.more {w : World} {B B' : Nat} {s : S} {v : Value} (h : VAt w B s v) (hB : B ≤ B') : VAt w B' s v := VAt.keep (fun _ _ => rfl) hB s v h
theorem KidsV.below {w w' : World} {B : Nat} {l : List S} {xs : List Value} (h : KidsV w B l xs) (hb : Below B w w') : KidsV w' B l xs := KidsV.keep (fun _ hp => hb.cell hp) (Nat.le_refl _) l xs h
theorem KidsV.more {w : World} {B B' : Nat} {l : List S} {xs : List Value} (h : KidsV w B l xs) (hB : B ≤ B') : KidsV w B' l xs := KidsV.keep (fun _ _ => rfl) hB l xs h
theorem VAt.six {w : World} {B : Nat} : ∀ {s : S} {v : Value}, VAt w B s v → ∃ c0 c1 c2 c3 c4 c5, v = .agg #[c0, c1, c2, c3, c4, c5] ∧ ∀ u ∈ [c0, c1, c2, c3, c4, c5], u.oneCell' = true
  | .none, v, h => by simp only [VAt] at h; subst h; exact ⟨_, _, _, _, _, _, rfl, by simp [nilS, Value.oneCell']⟩
  | .bool _, v, h => by simp only [VAt] at h; subst h; exact ⟨_, _, _, _, _, _, rfl, by simp [nilS, Value.oneCell']⟩
  | .int _, v, h => by simp only [VAt] at h; obtain ⟨A, c, l, rfl, _⟩ := h; exact ⟨_, _, _, _, _, _, rfl, by simp [nilS, Value.oneCell']⟩
  | .float _, v, h => by simp only [VAt] at h; obtain ⟨rfl, _⟩ := h; exact ⟨_, _, _, _, _, _, rfl, by simp [nilS, Value.oneCell']⟩
  | .str _, v, h => by simp only [VAt] at h; obtain ⟨rfl, _⟩ := h; exact ⟨_, _, _, _, _, _, rfl, by simp [nilS, Value.oneCell']⟩
  | .bytes _, v, h => by simp only [VAt] at h; obtain ⟨rfl, _⟩ := h; exact ⟨_, _, _, _, _, _, rfl, by simp [nilS, Value.oneCell']⟩
  | .list _, v, h => by simp only [VAt] at h; obtain ⟨A, c, xs, rfl, _⟩ := h; exact ⟨_, _, _, _, _, _, rfl, by simp [nilS, Value.oneCell']⟩
  | .tuple _, v, h => by simp only [VAt] at h; obtain ⟨A, c, xs, rfl, _⟩ := h; exact ⟨_, _, _, _, _, _, rfl, by simp [nilS, Value.oneCell']⟩
  | .dict _, v, h => by simp only [VAt] at h; obtain ⟨A, c, xs, rfl, _⟩ := h; exact ⟨_, _, _, _, _, _, rfl, by simp [nilS, Value.oneCell']⟩
  | .set _, v, h => by simp only [VAt] at h; obtain ⟨A, c, xs, rfl, _⟩ := h; exact ⟨_, _, _, _, _, _, rfl, by simp [nilS, Value.oneCell']⟩
theorem KidsV.snoc {w : World} {B : Nat} {s : S} {c0 c1 c2 c3 c4 c5 : Value} (hv : VAt w B s (.agg #[c0, c1, c2, c3, c4, c5])) : ∀ (l : List S) (xs : List Value), KidsV w B l xs → KidsV w B (l ++ [s]) (xs ++ [c0, c1, c2, c3, c4, c5])
  | [], xs, h => by
    simp only [KidsV] at h
    subst h
    simp only [List.nil_append, KidsV]
    exact ⟨c0, c1, c2, c3, c4, c5, [], rfl, hv, rfl⟩
  | a :: l, xs, h => by
    simp only [KidsV] at h
    obtain ⟨d0, d1, d2, d3, d4, d5, ys, rfl, h2, h3⟩ := h
    simp only [List.cons_append, KidsV]
    exact ⟨d0, d1, d2, d3, d4, d5, ys ++ [c0, c1, c2, c3, c4, c5], rfl, h2, KidsV.snoc hv l ys h3⟩
theorem KidsV.get {w : World} {B : Nat} : ∀ (l : List S) (xs : List Value) (k : Nat) (s : S), KidsV w B l xs → l[k]? = some s →
    ∃ c0 c1 c2 c3 c4 c5, xs[6 * k]? = some c0 ∧ xs[6 * k + 1]? = some c1 ∧ xs[6 * k + 2]? = some c2 ∧ xs[6 * k + 3]? = some c3 ∧ xs[6 * k + 4]? = some c4 ∧ xs[6 * k + 5]? = some c5 ∧ VAt w B s (.agg #[c0, c1, c2, c3, c4, c5])
  | a :: l, xs, 0, s, h, hs => by
    simp only [KidsV] at h
    obtain ⟨d0, d1, d2, d3, d4, d5, ys, rfl, h2, h3⟩ := h
    simp at hs
    subst hs
    exact ⟨d0, d1, d2, d3, d4, d5, rfl, rfl, rfl, rfl, rfl, rfl, h2⟩
  | a :: l, xs, k + 1, s, h, hs => by
    simp only [KidsV] at h
    obtain ⟨d0, d1, d2, d3, d4, d5, ys, rfl, h2, h3⟩ := h
    obtain ⟨c0, c1, c2, c3, c4, c5, e0, e1, e2, e3, e4, e5, hv⟩ := KidsV.get l ys k s h3 (by simpa using hs)
    refine ⟨c0, c1, c2, c3, c4, c5, ?_, ?_, ?_, ?_, ?_, ?_, hv⟩ <;>
      simpa [show 6 * (k + 1) = 6 * k + 6 by omega] using (by assumption)
  | [], xs, k, s, h, hs => by simp at hs
mutual
/-- A value of the language that stands for s; its parts lie below block B. (Of a list, a dict, a set: its length.) -/
def SAt (w : World) (B : Nat) : S → Value → Prop
  | .none, u => u = .iface 88 (.int .u8 0)
  | .bool b, u => u = .iface 89 (.bool b)
  | .int x, u => ∃ small bp, u = .iface 94 (.agg #[.int .i64 small, .pointer bp]) ∧ SInt w B x small bp
  | .float f, u => u = .iface 96 (.float .f64 f) ∧ f < 18446744073709551616
  | .str s, u => u = .iface 98 (.string s) ∧ s.size ≤ 60
  | .bytes s, u => u = .iface 99 (.string s) ∧ s.size ≤ 60
  | .list l, u => ∃ g A c, u = .iface 71 (.pointer (some ⟨g, 0, none⟩)) ∧ g < B ∧ w.cell? ⟨g, 0, none⟩ = some (.slice A l.length c)
  | .tuple l, u => ∃ A c xs, u = .iface 73 (.slice A l.length c) ∧ l.length ≤ 16 ∧ l.length ≤ c ∧ Reads w B 1 A l.length xs ∧ ElemsV w B l xs
  | .dict l, u => ∃ g, u = .iface 74 (.pointer (some ⟨g, 0, none⟩)) ∧ g < B ∧ w.cell? ⟨g, 42, none⟩ = some (.int .u32 ((l.length / 2 : Nat) : Int)) ∧ l.length ≤ 16
  | .set l, u => ∃ g, u = .iface 77 (.pointer (some ⟨g, 0, none⟩)) ∧ g < B ∧ w.cell? ⟨g, 42, none⟩ = some (.int .u32 (l.length : Int)) ∧ l.length ≤ 16
/-- Values, one cell each. -/
def ElemsV (w : World) (B : Nat) : List S → List Value → Prop
  | [], xs => xs = []
  | s :: l, xs => ∃ u ys, xs = u :: ys ∧ SAt w B s u ∧ ElemsV w B l ys
end
mutual
theorem SAt.keep {w w' : World} {B B' : Nat} (hb : Below B w w') (hB : B ≤ B') : ∀ (s : S) (u : Value), SAt w B s u → SAt w' B' s u
  | .none, v, h => h
  | .bool _, v, h => h
  | .int _, v, h => by
    simp only [SAt] at h ⊢
    obtain ⟨a, p, h1, h2⟩ := h
    exact ⟨a, p, h1, (h2.below hb).more hB⟩
  | .float _, v, h => h
  | .str _, v, h => h
  | .bytes _, v, h => h
  | .list l, v, h => by
    simp only [SAt] at h ⊢
    obtain ⟨g, A, c, h1, h2, h3⟩ := h
    exact ⟨g, A, c, h1, by omega, (hb.cell h2).trans h3⟩
  | .tuple l, v, h => by
    simp only [SAt] at h ⊢
    obtain ⟨A, c, xs, h1, h2, h3, h4, h5⟩ := h
    exact ⟨A, c, xs, h1, h2, h3, (h4.below hb).more hB, ElemsV.keep hb hB l xs h5⟩
  | .dict l, v, h => by
    simp only [SAt] at h ⊢
    obtain ⟨g, h1, h2, h3, h4⟩ := h
    exact ⟨g, h1, by omega, (hb.cell h2).trans h3, h4⟩
  | .set l, v, h => by
    simp only [SAt] at h ⊢
    obtain ⟨g, h1, h2, h3, h4⟩ := h
    exact ⟨g, h1, by omega, (hb.cell h2).trans h3, h4⟩
theorem ElemsV.keep {w w' : World} {B B' : Nat} (hb : Below B w w') (hB : B ≤ B') : ∀ (l : List S) (xs : List Value), ElemsV w B l xs → ElemsV w' B' l xs
  | [], xs, h => h
  | s :: l, xs, h => by
    simp only [ElemsV] at h ⊢
    obtain ⟨u, ys, h1, h2, h3⟩ := h
    exact ⟨u, ys, h1, SAt.keep hb hB s u h2, ElemsV.keep hb hB l ys h3⟩
end
theorem SAt.below {w w' : World} {B : Nat} {s : S} {u : Value} (h : SAt w B s u) (hb : Below B w w') : SAt w' B s u := SAt.keep hb (Nat.le_refl _) s u h
theorem SAt.more {w : World} {B B' : Nat} {s : S} {u : Value} (h : SAt w B s u) (hB : B ≤ B') : SAt w B' s u := SAt.keep (Below.refl _ _) hB s u h
theorem ElemsV.below {w w' : World} {B : Nat} {l : List S} {xs : List Value} (h : ElemsV w B l xs) (hb : Below B w w') : ElemsV w' B l xs := ElemsV.keep hb (Nat.le_refl _) l xs h
theorem ElemsV.more {w : World} {B B' : Nat} {l : List S} {xs : List Value} (h : ElemsV w B l xs) (hB : B ≤ B') : ElemsV w B' l xs := ElemsV.keep (Below.refl _ _) hB l xs h
theorem SAt.iface {w : World} {B : Nat} : ∀ {s : S} {u : Value}, SAt w B s u → ∃ t v, u = .iface t v
  | .none, v, h => ⟨_, _, h⟩
  | .bool _, v, h => ⟨_, _, h⟩
  | .int _, v, h => by simp only [SAt] at h; obtain ⟨_, _, h, _⟩ := h; exact ⟨_, _, h⟩
  | .float _, v, h => ⟨_, _, h.1⟩
  | .str _, v, h => ⟨_, _, h.1⟩
  | .bytes _, v, h => ⟨_, _, h.1⟩
  | .list _, v, h => by simp only [SAt] at h; obtain ⟨_, _, _, h, _⟩ := h; exact ⟨_, _, h⟩
  | .tuple _, v, h => by simp only [SAt] at h; obtain ⟨_, _, _, h, _⟩ := h; exact ⟨_, _, h⟩
  | .dict _, v, h => by simp only [SAt] at h; obtain ⟨_, h, _⟩ := h; exact ⟨_, _, h⟩
  | .set _, v, h => by simp only [SAt] at h; obtain ⟨_, h, _⟩ := h; exact ⟨_, _, h⟩
theorem ElemsV.len {w : World} {B : Nat} : ∀ {l : List S} {xs : List Value}, ElemsV w B l xs → xs.length = l.length
  | [], xs, h => by simp only [ElemsV] at h; subst h; rfl
  | s :: l, xs, h => by
    simp only [ElemsV] at h
    obtain ⟨u, ys, rfl, _, h3⟩ := h
    simp [h3.len]
theorem ElemsV.one {w : World} {B : Nat} : ∀ {l : List S} {xs : List Value}, ElemsV w B l xs → ∀ u ∈ xs, u.oneCell' = true
  | [], xs, h => by simp only [ElemsV] at h; subst h; simp
  | s :: l, xs, h => by
    simp only [ElemsV] at h
    obtain ⟨u, ys, rfl, h2, h3⟩ := h
    intro v hv
    rcases List.mem_cons.1 hv with e | e
    · obtain ⟨t, v', rfl⟩ := h2.iface
      subst e
      rfl
    · exact h3.one v e
theorem ElemsV.snoc {w : World} {B : Nat} {s : S} {u : Value} (hv : SAt w B s u) : ∀ (l : List S) (xs : List Value), ElemsV w B l xs → ElemsV w B (l ++ [s]) (xs ++ [u])
  | [], xs, h => by
    simp only [ElemsV] at h
    subst h
    simp only [List.nil_append, ElemsV]
    exact ⟨u, [], rfl, hv, rfl⟩
  | a :: l, xs, h => by
    simp only [ElemsV] at h
    obtain ⟨d, ys, rfl, h2, h3⟩ := h
    simp only [List.cons_append, ElemsV]
    exact ⟨d, ys ++ [u], rfl, h2, ElemsV.snoc hv l ys h3⟩
theorem ElemsV.get {w : World} {B : Nat} : ∀ (l : List S) (xs : List Value) (k : Nat) (s : S), ElemsV w B l xs → l[k]? = some s → ∃ u, xs[k]? = some u ∧ SAt w B s u
  | a :: l, xs, 0, s, h, hs => by
    simp only [ElemsV] at h
    obtain ⟨d, ys, rfl, h2, h3⟩ := h
    simp at hs
    subst hs
    exact ⟨d, rfl, h2⟩
  | a :: l, xs, k + 1, s, h, hs => by
    simp only [ElemsV] at h
    obtain ⟨d, ys, rfl, h2, h3⟩ := h
    obtain ⟨u, e, hu⟩ := ElemsV.get l ys k s h3 (by simpa using hs)
    exact ⟨u, by simpa using e, hu⟩
  | [], xs, k, s, h, hs => by simp at hs
end Go.Proofs.YtkmeckimmfbkiaaGreatDoor
namespace Go.Proofs.YtkmeckimmfbkiaaGreatDoor
open Go Go.RowKit
/-- A value of the thin package as it may come in: readable so many levels deep. -/
def InVal (w : World) (B : Nat) : Nat → Value → Prop
  | n, v => ∃ (k : Int) (neg : Bool) (A : Option Addr) (l : List UInt8) (c : Nat) (bits : Int) (t : ByteArray) (K : Option Addr) (kn kc : Nat),
    v = valV k neg (.slice A l.length c) bits t (.slice K kn kc) ∧ (-9223372036854775808 ≤ k ∧ k < 9223372036854775808) ∧ (0 ≤ bits ∧ bits < 18446744073709551616) ∧
    l.length ≤ c ∧ c ≤ maxLen ∧ Reads w B 1 A l.length (bv l) ∧ kn ≤ kc ∧ kc ≤ maxLen ∧ t.size ≤ maxLen ∧
    (match n with
      | 0 => True
      | n + 1 => ∃ xs, Reads w B 6 K kn xs ∧ ∀ i c0 c1 c2 c3 c4 c5, xs[6 * i]? = some c0 → xs[6 * i + 1]? = some c1 → xs[6 * i + 2]? = some c2 → xs[6 * i + 3]? = some c3 → xs[6 * i + 4]? = some c4 → xs[6 * i + 5]? = some c5 → InVal w B n (.agg #[c0, c1, c2, c3, c4, c5]))
theorem InVal.keep {w w' : World} {B B' : Nat} (hk : ∀ p : Addr, p.block < B → w'.cell? p = w.cell? p) (hB : B ≤ B') : ∀ (n : Nat) (v : Value), InVal w B n v → InVal w' B' n v
  | 0, v, h => by
    unfold InVal at h ⊢
    obtain ⟨k, neg, A, l, c, bits, t, K, kn, kc, h1, h2, h3, h4, h5, h6, h7, h8, h9, _⟩ := h
    exact ⟨k, neg, A, l, c, bits, t, K, kn, kc, h1, h2, h3, h4, h5, (h6.keep hk).more hB, h7, h8, h9, trivial⟩
  | n + 1, v, h => by
    unfold InVal at h ⊢
    obtain ⟨k, neg, A, l, c, bits, t, K, kn, kc, h1, h2, h3, h4, h5, h6, h7, h8, h9, xs, hx, hr⟩ := h
    exact ⟨k, neg, A, l, c, bits, t, K, kn, kc, h1, h2, h3, h4, h5, (h6.keep hk).more hB, h7, h8, h9, xs, (hx.keep hk).more hB, fun i c0 c1 c2 c3 c4 c5 e0 e1 e2 e3 e4 e5 => InVal.keep hk hB n _ (hr i c0 c1 c2 c3 c4 c5 e0 e1 e2 e3 e4 e5)⟩
theorem InVal.below {w w' : World} {B n : Nat} {v : Value} (h : InVal w B n v) (hb : Below B w w') : InVal w' B n v := InVal.keep (fun _ hp => hb.cell hp) (Nat.le_refl _) n v h
theorem InVal.more {w : World} {B B' n : Nat} {v : Value} (h : InVal w B n v) (hB : B ≤ B') : InVal w B' n v := InVal.keep (fun _ _ => rfl) hB n v h
/-- A struct (or an array) is loaded whole, wherever it lies. -/
theorem run_loadRow {P : Program} (w : World) (ad : Addr) (ty : TypeId) (cs : List Value) (d : TypeDesc) (hc : ∀ j v, cs[j]? = some v → w.cell? (ad.add j) = some v)
    (hu : P.underlying ty = some d) (hd : d.isRow = true) (hi : (P.info? ty).map (·.size) = some cs.length) :
    (Instr.loadAt ty (.pointer (some ad))).run P w = .ok (.agg cs.toArray) w := by
  have hl : (loadCells ad cs.length).run P w = .ok cs.toArray w := run_loadCells_list (P := P) w ad cs hc
  cases hq : P.info? ty with
  | none => simp [hq] at hi
  | some i =>
    have hs : i.size = cs.length := by simpa [hq] using hi
    have hagg : (isAgg ty).run P w = .ok true w := by
      unfold isAgg
      rw [Sem.run_bind, run_underlying hu w]
      cases d <;> simp_all
    simp [Instr.loadAt, Instr.sureAddr, loadVar, Sem.run_bind, hagg, sizeOf, typeInfo, hq, hs, hl]
theorem Reads.six {w : World} {B n k : Nat} {A : Option Addr} {xs : List Value} (h : Reads w B 6 A n xs) (hk : k < n) :
    ∃ ad c0 c1 c2 c3 c4 c5, A = some ad ∧ ad.block < B ∧ xs[6 * k]? = some c0 ∧ xs[6 * k + 1]? = some c1 ∧ xs[6 * k + 2]? = some c2 ∧ xs[6 * k + 3]? = some c3 ∧ xs[6 * k + 4]? = some c4 ∧ xs[6 * k + 5]? = some c5 ∧
      ∀ j v, [c0, c1, c2, c3, c4, c5][j]? = some v → w.cell? ((ad.add (6 * k)).add j) = some v := by
  obtain ⟨ad, e, hb, hc⟩ := h.2 (by omega)
  have hl := h.1
  have g : ∀ i (hi : i < 6), xs[6 * k + i]? = some (xs[6 * k + i]'(by omega)) := fun i hi => List.getElem?_eq_getElem (by omega)
  refine ⟨ad, _, _, _, _, _, _, e, hb, g 0 (by omega), g 1 (by omega), g 2 (by omega), g 3 (by omega), g 4 (by omega), g 5 (by omega), ?_⟩
  intro j v hj
  rw [add_of_add]
  rcases j with _ | _ | _ | _ | _ | _ | j
  · simp at hj; subst hj; exact hc _ _ (g 0 (by omega))
  · simp at hj; subst hj; exact hc _ _ (g 1 (by omega))
  · simp at hj; subst hj; exact hc _ _ (g 2 (by omega))
  · simp at hj; subst hj; exact hc _ _ (g 3 (by omega))
  · simp at hj; subst hj; exact hc _ _ (g 4 (by omega))
  · simp at hj; subst hj; exact hc _ _ (g 5 (by omega))
  · simp at hj
end Go.Proofs.YtkmeckimmfbkiaaGreatDoor
namespace Go.Proofs.YtkmeckimmfbkiaaGreatDoor
open Go Go.RowKit
set_option maxRecDepth 10000 in
theorem type_none (v : Value) (w : World) : Calls Tryz.prog 262 #[v] w fun e w' => e = .returned (.string ⟨#[78, 111, 110, 101, 84, 121, 112, 101]⟩) ∧ Below w.heap.size w w' := by
  go_enter Tryz.func262, Tryz.ntmps262
  go_wp2
  go_ret
  exact ⟨rfl, Below.refl _ _⟩
set_option maxRecDepth 10000 in
theorem type_bool (v : Value) (w : World) : Calls Tryz.prog 268 #[v] w fun e w' => e = .returned (.string ⟨#[98, 111, 111, 108]⟩) ∧ Below w.heap.size w w' := by
  go_enter Tryz.func268, Tryz.ntmps268
  go_wp2
  go_ret
  exact ⟨rfl, Below.refl _ _⟩
set_option maxRecDepth 10000 in
theorem type_int (a b : Value) (w : World) : Calls Tryz.prog 276 #[.agg #[a, b]] w fun e w' => e = .returned (.string ⟨#[105, 110, 116]⟩) ∧ Below w.heap.size w w' := by
  go_enter Tryz.func276, Tryz.ntmps276
  go_wp2
  refine gen1 (M := fun W => bodyPost _ _ _ _ _ W) fun W hB b hz => ?_
  go_ret
  exact ⟨rfl, hB⟩
set_option maxRecDepth 10000 in
theorem type_float (v : Value) (w : World) : Calls Tryz.prog 285 #[v] w fun e w' => e = .returned (.string ⟨#[102, 108, 111, 97, 116]⟩) ∧ Below w.heap.size w w' := by
  go_enter Tryz.func285, Tryz.ntmps285
  go_wp2
  go_ret
  exact ⟨rfl, Below.refl _ _⟩
set_option maxRecDepth 10000 in
theorem type_str (v : Value) (w : World) : Calls Tryz.prog 298 #[v] w fun e w' => e = .returned (.string ⟨#[115, 116, 114, 105, 110, 103]⟩) ∧ Below w.heap.size w w' := by
  go_enter Tryz.func298, Tryz.ntmps298
  go_wp2
  go_ret
  exact ⟨rfl, Below.refl _ _⟩
set_option maxRecDepth 10000 in
theorem type_bytes (v : Value) (w : World) : Calls Tryz.prog 312 #[v] w fun e w' => e = .returned (.string ⟨#[98, 121, 116, 101, 115]⟩) ∧ Below w.heap.size w w' := by
  go_enter Tryz.func312, Tryz.ntmps312
  go_wp2
  go_ret
  exact ⟨rfl, Below.refl _ _⟩
set_option maxRecDepth 10000 in
theorem type_tuple (v : Value) (w : World) : Calls Tryz.prog 230 #[v] w fun e w' => e = .returned (.string ⟨#[116, 117, 112, 108, 101]⟩) ∧ Below w.heap.size w w' := by
  go_enter Tryz.func230, Tryz.ntmps230
  go_wp2
  go_ret
  exact ⟨rfl, Below.refl _ _⟩
/-- The seven kinds that can be keys. -/
inductive KTy | none | bool | int | float | str | bytes | tuple
  deriving DecidableEq
/-- A value that can be a key, by its dynamic type. -/
def TyOf : KTy → Value → Prop
  | .none, u => ∃ v, u = .iface 88 v
  | .bool, u => ∃ v, u = .iface 89 v
  | .int, u => ∃ a b, u = .iface 94 (.agg #[a, b])
  | .float, u => ∃ v, u = .iface 96 v
  | .str, u => ∃ v, u = .iface 98 v
  | .bytes, u => ∃ v, u = .iface 99 v
  | .tuple, u => ∃ v, u = .iface 73 v
def kty : S → KTy
  | .none => .none
  | .bool _ => .bool
  | .int _ => .int
  | .float _ => .float
  | .str _ => .str
  | .bytes _ => .bytes
  | _ => .tuple
theorem SAt.ty {w : World} {B : Nat} : ∀ {s : S} {u : Value}, SAt w B s u → keyS s = true → TyOf (kty s) u
  | .none, u, h, _ => ⟨_, h⟩
  | .bool _, u, h, _ => ⟨_, h⟩
  | .int _, u, h, _ => by simp only [SAt] at h; obtain ⟨a, p, h, _⟩ := h; exact ⟨_, _, h⟩
  | .float _, u, h, _ => ⟨_, h.1⟩
  | .str _, u, h, _ => ⟨_, h.1⟩
  | .bytes _, u, h, _ => ⟨_, h.1⟩
  | .tuple _, u, h, _ => by simp only [SAt] at h; obtain ⟨_, _, _, h, _⟩ := h; exact ⟨_, h⟩
  | .list _, u, _, h => by simp [keyS] at h
  | .dict _, u, _, h => by simp [keyS] at h
  | .set _, u, _, h => by simp [keyS] at h
/-- A method of a value, as a call through the interface finds it. -/
def HasM (u : Value) (name : String) (f : FuncId) (r : Value) : Prop := ∃ t v, u = .iface t v ∧ (∀ w, (Go.method 436 t v name).run Tryz.prog w = .ok (f, r) w) ∧ ∀ args w, (callFunc f args).run Tryz.prog w = .ok (.enter f args) w
theorem hasM_none (v : Value) : HasM (.iface 88 v) "Type" 262 v := ⟨_, _, rfl, fun w => by kernel_rfl, fun args w => by kernel_rfl⟩
theorem hasM_bool (v : Value) : HasM (.iface 89 v) "Type" 268 v := ⟨_, _, rfl, fun w => by kernel_rfl, fun args w => by kernel_rfl⟩
theorem hasM_int (v : Value) : HasM (.iface 94 v) "Type" 276 v := ⟨_, _, rfl, fun w => by kernel_rfl, fun args w => by kernel_rfl⟩
theorem hasM_float (v : Value) : HasM (.iface 96 v) "Type" 285 v := ⟨_, _, rfl, fun w => by kernel_rfl, fun args w => by kernel_rfl⟩
theorem hasM_str (v : Value) : HasM (.iface 98 v) "Type" 298 v := ⟨_, _, rfl, fun w => by kernel_rfl, fun args w => by kernel_rfl⟩
theorem hasM_bytes (v : Value) : HasM (.iface 99 v) "Type" 312 v := ⟨_, _, rfl, fun w => by kernel_rfl, fun args w => by kernel_rfl⟩
theorem hasM_tuple (v : Value) : HasM (.iface 73 v) "Type" 230 v := ⟨_, _, rfl, fun w => by kernel_rfl, fun args w => by kernel_rfl⟩
/-- The name of a kind. -/
def tyName : KTy → ByteArray
  | .none => ⟨#[78, 111, 110, 101, 84, 121, 112, 101]⟩
  | .bool => ⟨#[98, 111, 111, 108]⟩
  | .int => ⟨#[105, 110, 116]⟩
  | .float => ⟨#[102, 108, 111, 97, 116]⟩
  | .str => ⟨#[115, 116, 114, 105, 110, 103]⟩
  | .bytes => ⟨#[98, 121, 116, 101, 115]⟩
  | .tuple => ⟨#[116, 117, 112, 108, 101]⟩
theorem tyName_eq (k l : KTy) : ((tyName k).toList == (tyName l).toList) = decide (k = l) := by cases k <;> cases l <;> kernel_rfl
theorem type_of (k : KTy) (u : Value) (h : TyOf k u) : ∃ f r, HasM u "Type" f r ∧ ∀ w, Calls Tryz.prog f #[r] w fun e w' => e = .returned (.string (tyName k)) ∧ Below w.heap.size w w' := by
  cases k <;> simp only [TyOf] at h
  · obtain ⟨v, rfl⟩ := h; exact ⟨_, _, hasM_none v, fun w => type_none v w⟩
  · obtain ⟨v, rfl⟩ := h; exact ⟨_, _, hasM_bool v, fun w => type_bool v w⟩
  · obtain ⟨a, b, rfl⟩ := h; exact ⟨_, _, hasM_int _, fun w => type_int a b w⟩
  · obtain ⟨v, rfl⟩ := h; exact ⟨_, _, hasM_float v, fun w => type_float v w⟩
  · obtain ⟨v, rfl⟩ := h; exact ⟨_, _, hasM_str v, fun w => type_str v w⟩
  · obtain ⟨v, rfl⟩ := h; exact ⟨_, _, hasM_bytes v, fun w => type_bytes v w⟩
  · obtain ⟨v, rfl⟩ := h; exact ⟨_, _, hasM_tuple v, fun w => type_tuple v w⟩
set_option maxRecDepth 10000 in
set_option maxHeartbeats 1000000 in
theorem sameType_gen (u v : Value) (f1 f2 : FuncId) (r1 r2 : Value) (n1 n2 : ByteArray) (h1 : HasM u "Type" f1 r1) (h2 : HasM v "Type" f2 r2) (c1 : ∀ w, Calls Tryz.prog f1 #[r1] w fun e w' => e = .returned (.string n1) ∧ Below w.heap.size w w') (c2 : ∀ w, Calls Tryz.prog f2 #[r2] w fun e w' => e = .returned (.string n2) ∧ Below w.heap.size w w') (w : World) :
    Calls Tryz.prog 101 #[u, v] w fun e w' => e = .returned (.bool (n1.toList == n2.toList)) ∧ Below w.heap.size w w' := by
  obtain ⟨t1, x1, rfl, m1, q1⟩ := h1
  obtain ⟨t2, x2, rfl, m2, q2⟩ := h2
  have C1 := Lib.hid c1
  have C2 := Lib.hid c2
  clear c1 c2
  go_enter Tryz.func101, Tryz.ntmps101
  go_wp2_with fail
  refine (C1.out w).mono ?_
  rintro e w1 ⟨rfl, hB1⟩
  go_wp2_with fail
  refine (C2.out w1).mono ?_
  rintro e w2 ⟨rfl, hB2⟩
  have hB := Lib.hid (hB1.trans (hB2.mono hB1.size))
  clear hB1 hB2
  go_wp2
  go_ret
  exact ⟨rfl, hB.out⟩
/-- Are two values that can be keys of one type? -/
theorem sameType_any (k l : KTy) (u v : Value) (hu : TyOf k u) (hv : TyOf l v) (w : World) :
    Calls Tryz.prog 101 #[u, v] w fun e w' => e = .returned (.bool (decide (k = l))) ∧ Below w.heap.size w w' := by
  obtain ⟨f1, r1, m1, c1⟩ := type_of k u hu
  obtain ⟨f2, r2, m2, c2⟩ := type_of l v hv
  have h := sameType_gen u v f1 f2 r1 r2 _ _ m1 m2 c1 c2 w
  rw [tyName_eq] at h
  exact h
end Go.Proofs.YtkmeckimmfbkiaaGreatDoor
namespace Go.Proofs.YtkmeckimmfbkiaaGreatDoor
open Go Go.RowKit
/-- A hash has been told, and no error; nothing that was there has turned. -/
def Hashed (w : World) (e : Ending) (w' : World) : Prop := (∃ h : Nat, h < 4294967296 ∧ e = .returned (.tuple #[.int .u32 h, .nilIface])) ∧ Below w.heap.size w w'
theorem hashed_mk {w w' : World} (X : Int) (h : Below w.heap.size w w') : Hashed w (.returned (.tuple #[.int .u32 (X % 4294967296), .nilIface])) w' :=
  ⟨⟨(X % 4294967296).toNat, by omega, by rw [Int.toNat_of_nonneg (by omega)]⟩, h⟩
set_option maxRecDepth 10000 in
theorem hash_none (v : Value) (w : World) : Calls Tryz.prog 259 #[v] w (Hashed w) := by
  go_enter Tryz.func259, Tryz.ntmps259
  go_wp2
  go_ret2
  exact ⟨⟨0, by decide, rfl⟩, Below.refl _ _⟩
set_option maxRecDepth 10000 in
theorem hash_bool (b : Bool) (w : World) : Calls Tryz.prog 265 #[.bool b] w (Hashed w) := by
  cases b
  · go_enter Tryz.func265, Tryz.ntmps265
    go_wp2
    go_ret2
    exact ⟨⟨0, by decide, rfl⟩, Below.refl _ _⟩
  · go_enter Tryz.func265, Tryz.ntmps265
    go_wp2
    go_ret2
    exact ⟨⟨1, by decide, rfl⟩, Below.refl _ _⟩
set_option maxRecDepth 10000 in
theorem soft_any (s : ByteArray) (hs : s.size ≤ 60) (w : World) : Calls Tryz.prog 304 #[.string s] w fun e w' => (∃ h : Nat, h < 4294967296 ∧ e = .returned (.int .u32 h)) ∧ w' = w := by
  go_enter Tryz.func304, Tryz.ntmps304
  go_wp2_with fail
  go_loopw [3, 4] (fun vh vi wr => ∃ (h k : Nat), vh = .int .u32 h ∧ h < 4294967296 ∧ vi = .int .i64 k ∧ k ≤ s.size ∧ wr = w) (fun _ vi _ => s.size - (intOf vi).toNat)
  case atStart => exact ⟨2166136261, 0, rfl, by decide, rfl, by omega, rfl⟩
  case round =>
    obtain ⟨h, k, rfl, hh, rfl, hk, rfl⟩ := hrel
    rcases Nat.lt_or_ge k s.size with hlt | hge
    · have hki : (k : Int) < (s.size : Int) := by omega
      have w1 : IntKind.i64.wrap ((k : Int) + 1) = (k : Int) + 1 := by rw [IntKind.wrap_i64]; omega
      go_wp2
      generalize bits BinOp.xor IntKind.u32 (h : Int) _ * 16777619 = X
      refine ⟨⟨(X % 4294967296).toNat, k + 1, by rw [Int.toNat_of_nonneg (by omega)], by omega, rfl, by omega, trivial⟩, by simp only [intOf]; omega⟩
    · have hki : ¬ (k : Int) < (s.size : Int) := by omega
      go_wp2
      go_ret
      exact ⟨⟨h, hh, rfl⟩, rfl⟩
set_option maxRecDepth 10000 in
theorem get_any (a b : Value) (w : World) : Calls Tryz.prog 108 #[.agg #[a, b]] w fun e w' => e = .returned (.tuple #[a, b]) ∧ Below w.heap.size w w' := by
  go_enter Tryz.func108, Tryz.ntmps108
  go_wp2_with fail
  refine gen1 (M := fun W => Code.wp _ _ _ _ W) fun W hB bk hz => ?_
  obtain ⟨k0, k1, z0, z1⟩ := bk.c2
  have HB := Lib.hid hB
  clear hB bk
  go_quiet (fail)
  go_wp2
  go_ret2
  exact ⟨rfl, HB.out.drewN_ _⟩
set_option maxRecDepth 10000 in
theorem hash_int_small (x : Int) (w : World) : Calls Tryz.prog 273 #[.agg #[.int .i64 x, .pointer none]] w (Hashed w) := by
  go_enter Tryz.func273, Tryz.ntmps273
  go_wp2_with fail
  refine gen1 (M := fun W => Calls _ _ _ W _) fun W hB bk hz => ?_
  refine (get_any _ _ W).mono ?_
  rintro e w1 ⟨rfl, hB1⟩
  have HB := Lib.hid (hB.trans (hB1.mono (by omega)))
  clear hB bk hz hB1
  go_wp2
  go_ret2
  exact hashed_mk _ HB.out
set_option maxRecDepth 10000 in
theorem intBits_any (g : Nat) (v : Value) (w : World) (h : w.cell? ⟨g, 1, none⟩ = some v) : Calls Tryz.prog 279 #[.pointer (some ⟨g, 0, none⟩)] w fun e w' => e = .returned v ∧ w' = w := by
  go_enter Tryz.func279, Tryz.ntmps279
  go_wp2
  go_ret
  exact ⟨rfl, rfl⟩
set_option maxRecDepth 10000 in
theorem hash_int_big (g x : Nat) (neg : Bool) (a : Int) (w : World) (hx : IntAt w w.heap.size g neg x) (hx0 : 0 < x) : Calls Tryz.prog 273 #[.agg #[.int .i64 a, .pointer (some ⟨g, 0, none⟩)]] w (Hashed w) := by
  have HX := Lib.hid hx
  clear hx
  go_enter Tryz.func273, Tryz.ntmps273
  go_wp2_with fail
  refine gen1 (M := fun W => Calls _ _ _ W _) fun W hB bk hz => ?_
  refine (get_any _ _ W).mono ?_
  rintro e w1 ⟨rfl, hB1⟩
  have hB2 := hB.trans (hB1.mono (by omega))
  obtain ⟨A, c, b, hl, hr, hc⟩ := (HX.out.below hB2).more hB2.size
  have HB := Lib.hid hB2
  obtain ⟨k0, k1, z0, z1⟩ := b.c2
  rw [limbs_pos x hx0] at hr hc k1
  obtain ⟨ad, rfl, h1, h2⟩ := hr.2 (by simp)
  have hw : w1.cell? ad = some (.int .u64 ((x % 18446744073709551616 : Nat) : Int)) := h2 0 _ rfl
  have hw0 : w1.cell? (ad.add 0) = some (.int .u64 ((x % 18446744073709551616 : Nat) : Int)) := hw
  have hm : x % 18446744073709551616 < 18446744073709551616 := Nat.mod_lt _ (by decide)
  generalize x % 18446744073709551616 = lo at *
  have hlen : (0 : Int) < ((lo :: limbs (x / 18446744073709551616)).length : Int) := by simp
  generalize (lo :: limbs (x / 18446744073709551616)).length = n at *
  clear hB bk hz hB1 hB2 b hr h2
  go_wp2_with fail
  refine (intBits_any g _ w1 k1).mono ?_
  rintro e w2 ⟨rfl, rfl⟩
  go_wp2
  go_ret2
  exact hashed_mk _ HB.out
set_option maxRecDepth 10000 in
theorem hashString_any (s : ByteArray) (hs : s.size ≤ 60) (w : World) : Calls Tryz.prog 301 #[.string s] w fun e w' => (∃ h : Nat, h < 4294967296 ∧ e = .returned (.int .u32 h)) ∧ w' = w := by
  go_enter Tryz.func301, Tryz.ntmps301
  go_wp2_with fail
  refine (soft_any s hs w).mono ?_
  rintro e w1 ⟨⟨h, hh, rfl⟩, rfl⟩
  go_wp2
  go_ret
  exact ⟨⟨h, hh, rfl⟩, rfl⟩
set_option maxRecDepth 10000 in
theorem hash_str (s : ByteArray) (hs : s.size ≤ 60) (w : World) : Calls Tryz.prog 295 #[.string s] w (Hashed w) := by
  go_enter Tryz.func295, Tryz.ntmps295
  go_wp2_with fail
  refine (hashString_any s hs w).mono ?_
  rintro e w1 ⟨⟨h, hh, rfl⟩, rfl⟩
  go_wp2
  go_ret2
  exact ⟨⟨h, hh, rfl⟩, Below.refl _ _⟩
set_option maxRecDepth 10000 in
theorem hash_bytes (s : ByteArray) (hs : s.size ≤ 60) (w : World) : Calls Tryz.prog 309 #[.string s] w (Hashed w) := by
  go_enter Tryz.func309, Tryz.ntmps309
  go_wp2_with fail
  refine (hash_str s hs w).mono ?_
  rintro e w1 ⟨⟨h, hh, rfl⟩, hB⟩
  have HB := Lib.hid hB
  clear hB
  go_wp2
  go_ret2
  exact ⟨⟨h, hh, rfl⟩, HB.out⟩
end Go.Proofs.YtkmeckimmfbkiaaGreatDoor
