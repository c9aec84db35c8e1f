/- Sums, products and comparisons of natural numbers in words. Conditions: none. -/
import Derived.Test.YtkmeckimmfbkiaaGreatDoorJBase
import Derived.Test.YtkmeckimmfbkiaaGreatDoorShelf
import Derived.Laws.Externs
import Derived.BigQuiet
import Derived.Lib.SliceRun
import Derived.Deep.Upon
import Derived.Defers
import Derived.Deep.RegionHeld3
import Derived.Test.YtkmeckimmfbkiaaGreatDoorJWhole
namespace Go.Proofs.YtkmeckimmfbkiaaGreatDoor
open Go Go.RowKit
def sub64Entry : Array Value → Sem Value := fun args => do
  let (x, y, b) ← Extern.MathBitsCarry.three "Sub64" args
  pure (Extern.MathBitsCarry.pair ((x + Extern.MathBitsCarry.m64 - y - b) % Extern.MathBitsCarry.m64) (if x < y + b then 1 else 0))
theorem run_sub64 {P : Program} (x y b : Nat) (hb : b ≤ 1) (w : World) :
    (sub64Entry #[.int .u64 x, .int .u64 y, .int .u64 b]).run P w =
      .ok (.tuple #[.int .u64 (((x + 18446744073709551616 - y - b) % 18446744073709551616 : Nat) : Int), .int .u64 ((if x < y + b then 1 else 0 : Nat) : Int)]) w := by
  have : b = 0 ∨ b = 1 := by omega
  rcases this with rfl | rfl <;> rfl
theorem add64_run (x y c : Nat) (hc : c ≤ 1) (w : World) :
    (callFunc 183 #[.int .u64 x, .int .u64 y, .int .u64 c]).run Tryz.prog w =
      .ok (.value (.tuple #[.int .u64 (((x + y + c) % 18446744073709551616 : Nat) : Int), .int .u64 (((x + y + c) / 18446744073709551616 : Nat) : Int)])) w := by
  rw [run_callFunc_extern Tryz.func183 (by kernel_rfl) (by kernel_rfl) (by kernel_rfl) (e := add64Entry) (by kernel_rfl), run_add64 x y c (by omega) (by omega) (by omega) (by omega)]
  simp only [Result.andThen]
  congr 5 <;> omega
theorem sub64_run (x y b : Nat) (hb : b ≤ 1) (w : World) :
    (callFunc 198 #[.int .u64 x, .int .u64 y, .int .u64 b]).run Tryz.prog w =
      .ok (.value (.tuple #[.int .u64 (((x + 18446744073709551616 - y - b) % 18446744073709551616 : Nat) : Int), .int .u64 ((if x < y + b then 1 else 0 : Nat) : Int)])) w := by
  rw [run_callFunc_extern Tryz.func198 (by kernel_rfl) (by kernel_rfl) (by kernel_rfl) (e := sub64Entry) (by kernel_rfl), run_sub64 x y b hb w]
  rfl
set_option maxRecDepth 10000 in
theorem bitsAdd_any (x y c : Nat) (hc : c ≤ 1) (w : World) :
    Calls Tryz.prog 168 #[.int .u64 x, .int .u64 y, .int .u64 c] w fun e w' => e = .returned (.tuple #[.int .u64 (((x + y + c) % 18446744073709551616 : Nat) : Int), .int .u64 (((x + y + c) / 18446744073709551616 : Nat) : Int)]) ∧ w' = w := by
  have H := fun w => add64_run x y c hc w
  generalize (x + y + c) % 18446744073709551616 = s at *
  generalize (x + y + c) / 18446744073709551616 = d at *
  go_enter Tryz.func168, Tryz.ntmps168
  go_wp2_with (simp only [H])
  go_ret2
  exact ⟨rfl, rfl⟩
set_option maxRecDepth 10000 in
theorem bitsSub_any (x y c : Nat) (hc : c ≤ 1) (w : World) :
    Calls Tryz.prog 193 #[.int .u64 x, .int .u64 y, .int .u64 c] w fun e w' => e = .returned (.tuple #[.int .u64 (((x + 18446744073709551616 - y - c) % 18446744073709551616 : Nat) : Int), .int .u64 ((if x < y + c then 1 else 0 : Nat) : Int)]) ∧ w' = w := by
  have H := fun w => sub64_run x y c hc w
  generalize (x + 18446744073709551616 - y - c) % 18446744073709551616 = s at *
  generalize (if x < y + c then 1 else 0 : Nat) = d at *
  go_enter Tryz.func193, Tryz.ntmps193
  go_wp2_with (simp only [H])
  go_ret2
  exact ⟨rfl, rfl⟩
theorem mul_add_lt (B x y c : Nat) (hx : x < B) (hy : y < B) (hc : c < B) : x * y + c < B * B := by
  have h1 : x * y ≤ (B - 1) * (B - 1) := Nat.mul_le_mul (by omega) (by omega)
  obtain ⟨b, rfl⟩ : ∃ b, B = b + 1 := ⟨B - 1, by omega⟩
  have : (b + 1) * (b + 1) = b * b + b + b + 1 := by rw [Nat.add_mul, Nat.mul_add]; omega
  simp only [Nat.add_sub_cancel] at h1
  omega
set_option maxRecDepth 10000 in
theorem mulAddWWW_any (x y c : Nat) (hx : x < 18446744073709551616) (hy : y < 18446744073709551616) (hc : c < 18446744073709551616) (w : World) :
    Calls Tryz.prog 176 #[.int .u64 x, .int .u64 y, .int .u64 c] w fun e w' => e = .returned (.tuple #[.int .u64 (((x * y + c) / 18446744073709551616 : Nat) : Int), .int .u64 (((x * y + c) % 18446744073709551616 : Nat) : Int)]) ∧ w' = w := by
  have hlt := mul_add_lt _ x y c hx hy hc
  have H1 := Go.Proofs.Tryz.bits_Mul x y hx hy w
  generalize hp : x * y = p at *
  have H2 := bitsAdd_any (p % 18446744073709551616) c 0 (by omega) w
  have hs : p / 18446744073709551616 + (p % 18446744073709551616 + c + 0) / 18446744073709551616 = (p + c) / 18446744073709551616 := by omega
  have ht : (p % 18446744073709551616 + c + 0) % 18446744073709551616 = (p + c) % 18446744073709551616 := by omega
  have hb : p / 18446744073709551616 + (p % 18446744073709551616 + c + 0) / 18446744073709551616 < 18446744073709551616 := by omega
  rw [ht] at H2
  generalize p / 18446744073709551616 = a at *
  generalize p % 18446744073709551616 = b at *
  generalize (b + c + 0) / 18446744073709551616 = d at *
  generalize (p + c) % 18446744073709551616 = r at *
  have HS := Lib.hid hs
  clear hs ht hp hlt
  go_enter Tryz.func176, Tryz.ntmps176
  go_wp2_with fail
  refine H1.mono ?_
  rintro e w1 ⟨rfl, rfl⟩
  go_wp2_with fail
  refine H2.mono ?_
  rintro e w2 ⟨rfl, rfl⟩
  go_wp2
  go_ret2
  exact ⟨by rw [← HS.out]; go_num, rfl⟩
theorem wv_set (ws : List Nat) (k x : Nat) : (wv ws).toArray.setIfInBounds k (.int .u64 x) = (wv (ws.set k x)).toArray := by simp [wv, List.map_set]
theorem wv_cell (ws : List Nat) (k : Nat) : (wv ws).toArray[k]? = (ws[k]?).map fun n : Nat => Value.int .u64 (n : Int) := by simp [wv]
theorem natV_take_succ (xs : List Nat) (k : Nat) (h : k < xs.length) : natV (xs.take (k + 1)) = natV (xs.take k) + 18446744073709551616 ^ k * xs[k] := by
  rw [← List.take_append_getElem h, natV_append, List.length_take, Nat.min_eq_left (by omega)]
  simp [natV]
theorem natV_snoc (zs : List Nat) (z : Nat) : natV (zs ++ [z]) = natV zs + 18446744073709551616 ^ zs.length * z := by
  rw [natV_append]; simp [natV]
/-- The state of 'z = x * y + c' after k words. -/
def MV (xs : List Nat) (y c : Nat) (ws : List Nat) (w : World) (g : Nat) (vc vi : Value) (wr : World) : Prop :=
  ∃ (k : Nat) (zs : List Nat) (co : Nat), vi = .int .i64 k ∧ vc = .int .u64 co ∧ k ≤ xs.length ∧ zs.length = k ∧ (∀ z ∈ zs, z < 18446744073709551616) ∧ co < 18446744073709551616 ∧
    natV zs + 18446744073709551616 ^ k * co = natV (xs.take k) * y + c ∧ Blk wr g 157 (wv (zs ++ ws.drop k)).toArray ∧ w.grownBy wr (some g) ∧ wr.heap.size = w.heap.size
theorem mv_step (zs xs : List Nat) (y c co k : Nat) (hk : k < xs.length) (hz : zs.length = k) (h : natV zs + 18446744073709551616 ^ k * co = natV (xs.take k) * y + c) :
    natV (zs ++ [(xs[k] * y + co) % 18446744073709551616]) + 18446744073709551616 ^ (k + 1) * ((xs[k] * y + co) / 18446744073709551616) = natV (xs.take (k + 1)) * y + c := by
  have e := Nat.div_add_mod (xs[k] * y + co) 18446744073709551616
  rw [natV_snoc, natV_take_succ xs k hk, hz, Nat.pow_succ, Nat.add_mul, Nat.mul_assoc, Nat.mul_assoc]
  have e2 := congrArg (18446744073709551616 ^ k * ·) e
  simp only [Nat.mul_add] at e2
  omega
set_option maxRecDepth 10000 in
set_option maxHeartbeats 400000 in
/-- z, at the start of block g, becomes x * y + c. -/
theorem mulAddVWWg_any (xs : List Nat) (y c : Nat) (g cap : Nat) (ws : List Nat) (A : Option Addr) (n cx : Nat) (w : World) (hn : xs.length = n) (hl : n ≤ 2147483647) (hw : n ≤ ws.length) (hcap : n ≤ cap) (hcx : n ≤ cx)
    (hx : ∀ x ∈ xs, x < 18446744073709551616) (hy : y < 18446744073709551616) (hc : c < 18446744073709551616) (hb : Blk w g 157 (wv ws).toArray) (hr : Reads w g 1 A n (wv xs)) :
    Calls Tryz.prog 161 #[.slice (some ⟨g, 0, none⟩) n cap, .slice A n cx, .int .u64 y, .int .u64 c] w fun e w' => ∃ (zs : List Nat) (co : Nat), e = .returned (.int .u64 co) ∧ zs.length = n ∧ (∀ z ∈ zs, z < 18446744073709551616) ∧ co < 18446744073709551616 ∧
      natV zs + 18446744073709551616 ^ n * co = natV xs * y + c ∧ Blk w' g 157 (wv (zs ++ ws.drop n)).toArray ∧ w.grownBy w' (some g) ∧ w'.heap.size = w.heap.size := by
  have HH := Lib.hid (And.intro hn (And.intro hr (And.intro hb hx)))
  clear hn hr hb hx
  go_enter Tryz.func161, Tryz.ntmps161
  go_wp2_with fail
  go_loopw [8, 19] (fun vc vi wr => MV xs y c ws w g vc vi wr) (fun _ vi _ => n - (intOf vi).toNat)
  case atStart => exact ⟨0, [], c, rfl, rfl, by omega, rfl, by simp, hc, by simp [natV], by simpa using HH.out.2.2.1, World.grownBy.refl w _, rfl⟩
  case round =>
    obtain ⟨k, zs, co, rfl, rfl, hk, hz, hzb, hco, hv, hb, hg, hs⟩ := hrel
    obtain ⟨hn, hr, _, hx⟩ := HH.out
    rw [hn] at hk
    by_cases hkn : k < n
    · subst hn
      have hrw := hr.grown hg (Nat.le_of_lt HH.out.2.2.1.lt) (fun _ e => by cases e; exact Nat.le_refl _)
      obtain ⟨ad, rfl, _, q0⟩ := hrw.word hkn
      have hxk := hx _ (List.getElem_mem hkn)
      obtain ⟨u0, q1⟩ : ∃ u : Value, wr.cell? ⟨g, k, none⟩ = some u := by
        have q1 := hb.cell k
        rw [wv_cell, List.getElem?_append_right (by omega), List.getElem?_drop, List.getElem?_eq_getElem (by omega)] at q1
        exact ⟨_, q1⟩
      have q2 := hb.frozen k
      have hst := mv_step zs xs y c co k hkn hz hv
      have HP := Lib.hid (And.intro hz (And.intro hzb (And.intro hb (And.intro hg hst))))
      have H1 := fun w => mulAddWWW_any xs[k] y co hxk hy hco w
      have hd : (xs[k] * y + co) / 18446744073709551616 < 18446744073709551616 := by
        have := mul_add_lt _ xs[k] y co hxk hy hco
        omega
      have hm : (xs[k] * y + co) % 18446744073709551616 < 18446744073709551616 := Nat.mod_lt _ (by omega)
      generalize (xs[k] * y + co) % 18446744073709551616 = r at *
      generalize (xs[k] * y + co) / 18446744073709551616 = d at *
      clear hz hzb hv hg hr hx hb hrw hst
      generalize xs[k] = x at *
      go_wp2_with fail
      refine (H1 _).mono ?_
      rintro e w2 ⟨rfl, rfl⟩
      go_wp2
      go_roundw
      case rel =>
        obtain ⟨hz, hzb, hb, hg, hst⟩ := HP.out
        have hb2 := hb.set_ k (.int .u64 r)
        rw [wv_set, List.set_append_right _ _ (by omega), hz, Nat.sub_self, List.drop_eq_getElem_cons (by omega), List.set_cons_zero] at hb2
        refine ⟨k + 1, zs ++ [r], d, by go_num, rfl, by omega, by simp [hz], ?_, hd, hst, by simpa using hb2, grown_set hg _, by simpa using hs⟩
        intro z hzm
        rcases List.mem_append.1 hzm with h | h
        · exact hzb z h
        · rw [List.mem_singleton.1 h]; exact hm
      case measure => simp [intOf]; omega
    · obtain rfl : k = n := by omega
      have HP := Lib.hid (And.intro hz (And.intro hzb (And.intro hv (And.intro hb hg))))
      clear hn hr hx hz hzb hv hg
      go_wp2
      go_ret
      obtain ⟨hz, hzb, hv, hb, hg⟩ := HP.out
      refine ⟨zs, co, rfl, hz, hzb, hco, ?_, hb, hg, hs⟩
      rw [hv, List.take_of_length_le (by have := HH.out.1; omega)]
set_option maxRecDepth 10000 in
theorem mulAddVWW_any (xs : List Nat) (y c : Nat) (g cap : Nat) (ws : List Nat) (A : Option Addr) (n cx : Nat) (w : World) (hn : xs.length = n) (hl : n ≤ 2147483647) (hw : n ≤ ws.length) (hcap : n ≤ cap) (hcx : n ≤ cx)
    (hx : ∀ x ∈ xs, x < 18446744073709551616) (hy : y < 18446744073709551616) (hc : c < 18446744073709551616) (hb : Blk w g 157 (wv ws).toArray) (hr : Reads w g 1 A n (wv xs)) :
    Calls Tryz.prog 139 #[.slice (some ⟨g, 0, none⟩) n cap, .slice A n cx, .int .u64 y, .int .u64 c] w fun e w' => ∃ (zs : List Nat) (co : Nat), e = .returned (.int .u64 co) ∧ zs.length = n ∧ (∀ z ∈ zs, z < 18446744073709551616) ∧ co < 18446744073709551616 ∧
      natV zs + 18446744073709551616 ^ n * co = natV xs * y + c ∧ Blk w' g 157 (wv (zs ++ ws.drop n)).toArray ∧ w.grownBy w' (some g) ∧ w'.heap.size = w.heap.size := by
  have HC := Lib.hid (mulAddVWWg_any xs y c g cap ws A n cx w hn hl hw hcap hcx hx hy hc hb hr)
  clear hn hx hb hr
  go_enter Tryz.func139, Tryz.ntmps139
  go_wp2_with fail
  refine HC.out.mono ?_
  rintro e w1 ⟨zs, co, rfl, hz, H⟩
  have HZ := Lib.hid (And.intro hz H)
  clear H hz
  go_wp2
  go_ret
  obtain ⟨hz, H⟩ := HZ.out
  exact ⟨zs, co, rfl, hz, H⟩
/-- The state of 'z = x + y * m + a' after k words: z lies in the block from o on, and x there too. -/
def AV (xs ys : List Nat) (m a : Nat) (ws : List Nat) (o : Nat) (w : World) (g : Nat) (vc vi : Value) (wr : World) : Prop :=
  ∃ (k : Nat) (zs : List Nat) (co : Nat), vi = .int .i64 k ∧ vc = .int .u64 co ∧ k ≤ ys.length ∧ zs.length = k ∧ (∀ z ∈ zs, z < 18446744073709551616) ∧ co < 18446744073709551616 ∧
    natV zs + 18446744073709551616 ^ k * co = natV (xs.take k) + natV (ys.take k) * m + a ∧ Blk wr g 157 (wv (ws.take o ++ zs ++ ws.drop (o + k))).toArray ∧ w.grownBy wr (some g) ∧ wr.heap.size = w.heap.size
theorem av_step (zs xs ys : List Nat) (m a co k : Nat) (hk : k < ys.length) (hx : k < xs.length) (hz : zs.length = k) (h : natV zs + 18446744073709551616 ^ k * co = natV (xs.take k) + natV (ys.take k) * m + a) :
    natV (zs ++ [(ys[k] * m + xs[k] + co) % 18446744073709551616]) + 18446744073709551616 ^ (k + 1) * ((ys[k] * m + xs[k] + co) / 18446744073709551616) = natV (xs.take (k + 1)) + natV (ys.take (k + 1)) * m + a := by
  have e := Nat.div_add_mod (ys[k] * m + xs[k] + co) 18446744073709551616
  rw [natV_snoc, natV_take_succ xs k hx, natV_take_succ ys k hk, hz, Nat.pow_succ, Nat.add_mul, Nat.mul_assoc, Nat.mul_assoc]
  have e2 := congrArg (18446744073709551616 ^ k * ·) e
  simp only [Nat.mul_add] at e2
  omega
theorem mul_add2_lt (B x y c d : Nat) (hx : x < B) (hy : y < B) (hc : c < B) (hd : d < B) : x * y + c + d < B * B := by
  have h1 : x * y ≤ (B - 1) * (B - 1) := Nat.mul_le_mul (by omega) (by omega)
  obtain ⟨b, rfl⟩ : ∃ b, B = b + 1 := ⟨B - 1, by omega⟩
  have : (b + 1) * (b + 1) = b * b + b + b + 1 := by rw [Nat.add_mul, Nat.mul_add]; omega
  simp only [Nat.add_sub_cancel] at h1
  omega
set_option maxRecDepth 10000 in
set_option maxHeartbeats 400000 in
/-- z, in block g from o on, becomes z + y * m + a. -/
theorem addMulVVWWg_any (xs ys : List Nat) (m a : Nat) (g o cap capx : Nat) (ws : List Nat) (A : Option Addr) (n cy : Nat) (w : World) (hn : ys.length = n) (hl : n ≤ 2147483647) (hw : o + n ≤ ws.length) (hxs : (ws.drop o).take n = xs) (hcap : n ≤ cap) (hcapx : n ≤ capx) (hcy : n ≤ cy)
    (hx : ∀ x ∈ xs, x < 18446744073709551616) (hy : ∀ x ∈ ys, x < 18446744073709551616) (hm : m < 18446744073709551616) (ha : a < 18446744073709551616) (hb : Blk w g 157 (wv ws).toArray) (hr : Reads w g 1 A n (wv ys)) :
    Calls Tryz.prog 162 #[.slice (some ⟨g, o, none⟩) n cap, .slice (some ⟨g, o, none⟩) n capx, .slice A n cy, .int .u64 m, .int .u64 a] w fun e w' => ∃ (zs : List Nat) (co : Nat), e = .returned (.int .u64 co) ∧ zs.length = n ∧ (∀ z ∈ zs, z < 18446744073709551616) ∧ co < 18446744073709551616 ∧
      natV zs + 18446744073709551616 ^ n * co = natV xs + natV ys * m + a ∧ Blk w' g 157 (wv (ws.take o ++ zs ++ ws.drop (o + n))).toArray ∧ w.grownBy w' (some g) ∧ w'.heap.size = w.heap.size := by
  have hxn : xs.length = n := by rw [← hxs]; simp; omega
  have hxg : ∀ k, k < n → xs[k]? = ws[o + k]? := by intro k hk; rw [← hxs, List.getElem?_take, if_pos hk, List.getElem?_drop]
  have HH := Lib.hid (And.intro hn (And.intro hr (And.intro hb (And.intro hx (And.intro hy (And.intro hxn hxg))))))
  clear hn hr hb hx hy hxs hxn hxg
  go_enter Tryz.func162, Tryz.ntmps162
  go_wp2_with fail
  go_loopw [10, 32] (fun vc vi wr => AV xs ys m a ws o w g vc vi wr) (fun _ vi _ => n - (intOf vi).toNat)
  case atStart => exact ⟨0, [], a, rfl, rfl, by omega, rfl, by simp, ha, by simp [natV], by simpa using HH.out.2.2.1, World.grownBy.refl w _, rfl⟩
  case round =>
    obtain ⟨k, zs, co, rfl, rfl, hk, hz, hzb, hco, hv, hb, hg, hs⟩ := hrel
    obtain ⟨hn, hr, _, hx, hy, hxn, hxg⟩ := HH.out
    rw [hn] at hk
    by_cases hkn : k < n
    · subst hn
      have hrw := hr.grown hg (Nat.le_of_lt HH.out.2.2.1.lt) (fun _ e => by cases e; exact Nat.le_refl _)
      obtain ⟨ad, rfl, _, q0⟩ := hrw.word hkn
      have hyk := hy _ (List.getElem_mem hkn)
      have hkx : k < xs.length := by omega
      have hxk := hx _ (List.getElem_mem hkx)
      have q1 : wr.cell? ⟨g, o + k, none⟩ = some (.int .u64 xs[k]) := by
        have q1 := hb.cell (o + k)
        rw [wv_cell, List.append_assoc, List.getElem?_append_right (by simp; omega), List.length_take, Nat.min_eq_left (by omega), List.getElem?_append_right (by omega), List.getElem?_drop, show o + k + (o + k - o - zs.length) = o + k by omega, ← hxg k hkn, List.getElem?_eq_getElem hkx] at q1
        exact q1
      have q2 := hb.frozen (o + k)
      have hst := av_step zs xs ys m a co k hkn hkx hz hv
      have HP := Lib.hid (And.intro hz (And.intro hzb (And.intro hb (And.intro hg hst))))
      have H1 := fun w => mulAddWWW_any ys[k] m xs[k] hyk hm hxk w
      have hlt := mul_add2_lt _ ys[k] m xs[k] co hyk hm hxk hco
      generalize ys[k] = y at *
      generalize xs[k] = x at *
      clear hz hzb hv hg hr hx hb hrw hst hxg hy
      generalize y * m + x = p at *
      have H2 := fun w => bitsAdd_any (p % 18446744073709551616) co 0 (by omega) w
      have hs1 : p / 18446744073709551616 + (p % 18446744073709551616 + co + 0) / 18446744073709551616 = (p + co) / 18446744073709551616 := by omega
      have ht : (p % 18446744073709551616 + co + 0) % 18446744073709551616 = (p + co) % 18446744073709551616 := by omega
      have hb1 : (p + co) / 18446744073709551616 < 18446744073709551616 := by omega
      have hb2 : (p + co) % 18446744073709551616 < 18446744073709551616 := by omega
      rw [ht] at H2
      rw [← hs1] at hb1
      generalize hP1 : (p + co) / 18446744073709551616 = cd at *
      generalize (p + co) % 18446744073709551616 = r at *
      generalize p / 18446744073709551616 = b1 at *
      generalize p % 18446744073709551616 = b0 at *
      generalize (b0 + co + 0) / 18446744073709551616 = d at *
      clear hlt ht
      have HS := Lib.hid hs1
      clear hs1 hP1
      have F1 := Lib.hid H1
      clear H1
      go_wp2_with fail
      go_quiet ((go_at_call 176; with_reducible exact Calls.quiet_of_same (F1.out _)))
      go_wp2_with fail
      refine (H2 _).mono ?_
      rintro e w2 ⟨rfl, rfl⟩
      go_wp2
      go_roundw
      case rel =>
        obtain ⟨hz, hzb, hb, hg, hst⟩ := HP.out
        have hb3 := (hb.drewN nq).set_ (o + k) (.int .u64 r)
        rw [wv_set, List.append_assoc, List.set_append_right _ _ (by simp; omega), List.set_append_right _ _ (by simp; omega), List.length_take, Nat.min_eq_left (by omega), show o + k - o - zs.length = 0 by omega, List.drop_eq_getElem_cons (by omega), List.set_cons_zero] at hb3
        refine ⟨k + 1, zs ++ [r], d + b1, by go_num, ?_, by omega, by simp [hz], ?_, ?_, ?_, by simpa [Nat.add_assoc] using hb3, grown_set (W := wr.drewN nq) (grown_trans hg ⟨.refl _, .refl _, rfl, Nat.le_refl _, fun _ _ _ => rfl⟩) _, by simpa using hs⟩
        · go_num
        · intro z hzm
          rcases List.mem_append.1 hzm with h | h
          · exact hzb z h
          · rw [List.mem_singleton.1 h]; exact hb2
        · rw [Nat.add_comm]; exact hb1
        · rw [← hst, ← HS.out, Nat.add_comm d b1]
      case measure => simp [intOf]; omega
    · obtain rfl : k = n := by omega
      have HP := Lib.hid (And.intro hz (And.intro hzb (And.intro hv (And.intro hb hg))))
      clear hn hr hx hz hzb hv hg hxg hy
      go_wp2
      go_ret
      obtain ⟨hz, hzb, hv, hb, hg⟩ := HP.out
      refine ⟨zs, co, rfl, hz, hzb, hco, ?_, hb, hg, hs⟩
      rw [hv, List.take_of_length_le (by have := HH.out.1; omega), List.take_of_length_le (by have := HH.out.1; omega)]
end Go.Proofs.YtkmeckimmfbkiaaGreatDoor
namespace Go.Proofs.YtkmeckimmfbkiaaGreatDoor
open Go Go.RowKit
set_option maxRecDepth 10000 in
theorem addMulVVWW_any (xs ys : List Nat) (m a : Nat) (g o cap capx : Nat) (ws : List Nat) (A : Option Addr) (n cy : Nat) (w : World) (hn : ys.length = n) (hl : n ≤ 2147483647) (hw : o + n ≤ ws.length) (hxs : (ws.drop o).take n = xs) (hcap : n ≤ cap) (hcapx : n ≤ capx) (hcy : n ≤ cy)
    (hx : ∀ x ∈ xs, x < 18446744073709551616) (hy : ∀ x ∈ ys, x < 18446744073709551616) (hm : m < 18446744073709551616) (ha : a < 18446744073709551616) (hb : Blk w g 157 (wv ws).toArray) (hr : Reads w g 1 A n (wv ys)) :
    Calls Tryz.prog 140 #[.slice (some ⟨g, o, none⟩) n cap, .slice (some ⟨g, o, none⟩) n capx, .slice A n cy, .int .u64 m, .int .u64 a] w fun e w' => ∃ (zs : List Nat) (co : Nat), e = .returned (.int .u64 co) ∧ zs.length = n ∧ (∀ z ∈ zs, z < 18446744073709551616) ∧ co < 18446744073709551616 ∧
      natV zs + 18446744073709551616 ^ n * co = natV xs + natV ys * m + a ∧ Blk w' g 157 (wv (ws.take o ++ zs ++ ws.drop (o + n))).toArray ∧ w.grownBy w' (some g) ∧ w'.heap.size = w.heap.size := by
  have HC := Lib.hid (addMulVVWWg_any xs ys m a g o cap capx ws A n cy w hn hl hw hxs hcap hcapx hcy hx hy hm ha hb hr)
  clear hn hx hb hr hxs hy
  go_enter Tryz.func140, Tryz.ntmps140
  go_wp2_with fail
  refine HC.out.mono ?_
  rintro e w1 ⟨zs, co, rfl, hz, H⟩
  have HZ := Lib.hid (And.intro hz H)
  clear H hz
  go_wp2
  go_ret
  obtain ⟨hz, H⟩ := HZ.out
  exact ⟨zs, co, rfl, hz, H⟩
theorem setCells_blk {g : Nat} {t : TypeId} (vs : List Value) : ∀ (o : Nat) (w : World) (cs : List Value), Blk w g t cs.toArray → o + vs.length ≤ cs.length →
    Blk (w.setCells g o vs) g t (cs.take o ++ vs ++ cs.drop (o + vs.length)).toArray ∧ w.grownBy (w.setCells g o vs) (some g) ∧ (w.setCells g o vs).heap.size = w.heap.size := by
  induction vs with
  | nil => intro o w cs hb ho; exact ⟨by simpa [World.setCells] using hb, World.grownBy.refl w _, rfl⟩
  | cons v r ih =>
    intro o w cs hb ho
    simp only [List.length_cons] at ho
    have hb1 := hb.set_ o v
    rw [List.setIfInBounds_toArray] at hb1
    obtain ⟨h1, h2, h3⟩ := ih (o + 1) (w.setCell ⟨g, o, none⟩ v) (cs.set o v) hb1 (by simp; omega)
    refine ⟨?_, grown_trans (grown_set (World.grownBy.refl w _) v) h2, by rw [World.setCells, h3]; simp⟩
    rw [World.setCells]
    have e : (cs.set o v).take (o + 1) ++ r ++ (cs.set o v).drop (o + 1 + r.length) = cs.take o ++ v :: r ++ cs.drop (o + (v :: r).length) := by
      rw [List.drop_set_of_lt (by omega), List.take_set, ← List.take_append_getElem (by omega : o < cs.length), List.set_append_right _ _ (by simp; omega), List.length_take, Nat.min_eq_left (by omega)]
      simp [Nat.add_assoc, Nat.add_comm 1]
    rw [e] at h1
    exact h1
theorem zero116 (w : World) : (zeroValue 157).run Tryz.prog w = .ok (.int .u64 0) w := by kernel_rfl
/-- 'clear' over a part of a block of words. -/
theorem clear_any (g o n c : Nat) (ws : List Nat) (w : World) (hb : Blk w g 157 (wv ws).toArray) (ho : o + n ≤ ws.length) :
    ∃ W, (∀ ty, (Builtin.clear_ #[130] ty #[.slice (some ⟨g, o, none⟩) n c]).run Tryz.prog w = .ok (.tuple #[]) W) ∧ Blk W g 157 (wv (ws.take o ++ List.replicate n 0 ++ ws.drop (o + n))).toArray ∧ w.grownBy W (some g) ∧ W.heap.size = w.heap.size := by
  rcases Nat.eq_zero_or_pos n with h0 | h0
  · subst h0
    exact ⟨w, fun ty => by simp [Builtin.clear_, run_underlying Tryz.underlying130], by simpa using hb, World.grownBy.refl w _, rfl⟩
  · refine ⟨_, fun ty => Lib.run_clear_slice w 130 157 ty (.int .u64 0) Tryz.underlying130 zero116 rfl rfl g o n c h0 ?_ ?_, ?_⟩
    · intro j hj
      rw [hb.cell, wv_cell, List.getElem?_eq_getElem (by omega)]; rfl
    · intro j _; exact hb.frozen _
    · have h := setCells_blk (List.replicate n (Value.int .u64 0)) o w (wv ws) hb (by simp [wv_len]; exact ho)
      have e : wv (ws.take o ++ List.replicate n 0 ++ ws.drop (o + n)) = (wv ws).take o ++ List.replicate n (Value.int .u64 0) ++ (wv ws).drop (o + (List.replicate n (Value.int .u64 0)).length) := by
        simp [wv, List.map_take, List.map_drop]
      rw [e]
      exact h
/-- The state of 'z = x * y' after i words of y. -/
def BM (xs ys ws : List Nat) (w : World) (g : Nat) (vi : Value) (wr : World) : Prop :=
  ∃ (i : Nat) (zs : List Nat), vi = .int .i64 i ∧ i ≤ ys.length ∧ zs.length = xs.length + i ∧ (∀ z ∈ zs, z < 18446744073709551616) ∧ natV zs = natV xs * natV (ys.take i) ∧
    Blk wr g 157 (wv (zs ++ List.replicate (ys.length - i) 0 ++ ws.drop (xs.length + ys.length))).toArray ∧ w.grownBy wr (some g) ∧ wr.heap.size = w.heap.size
theorem bm_step (xs ys zs us : List Nat) (i co : Nat) (hi : i < ys.length) (hz : zs.length = xs.length + i) (hv : natV zs = natV xs * natV (ys.take i)) (hu : us.length = xs.length)
    (h : natV us + 18446744073709551616 ^ xs.length * co = natV (zs.drop i) + natV xs * ys[i] + 0) : natV (zs.take i ++ us ++ [co]) = natV xs * natV (ys.take (i + 1)) := by
  have e : zs = zs.take i ++ zs.drop i := (List.take_append_drop i zs).symm
  have e1 := natV_append (zs.take i) (zs.drop i)
  rw [← e, List.length_take, Nat.min_eq_left (by omega)] at e1
  have e3 : natV (us ++ [co]) = natV us + 18446744073709551616 ^ xs.length * co := by rw [natV_snoc, hu]
  rw [List.append_assoc, natV_append, List.length_take, Nat.min_eq_left (by omega), e3, h, natV_take_succ ys i hi, Nat.mul_add (natV xs), ← hv, e1, Nat.mul_add, Nat.mul_add]
  rw [Nat.mul_left_comm (natV xs)]
  omega
set_option maxRecDepth 10000 in
set_option maxHeartbeats 200000 in
theorem basicMul_any (xs ys ws : List Nat) (g cz : Nat) (A B : Option Addr) (n m N cx cy : Nat) (w : World) (hn : xs.length = n) (hm : ys.length = m) (hN : N = n + m) (hl : N ≤ 2147483647) (hw : N ≤ ws.length) (hcz : N ≤ cz) (hcx : n ≤ cx) (hcy : m ≤ cy) (hn0 : 0 < n)
    (hx : ∀ x ∈ xs, x < 18446744073709551616) (hy : ∀ x ∈ ys, x < 18446744073709551616) (hb : Blk w g 157 (wv ws).toArray) (hrx : Reads w g 1 A n (wv xs)) (hry : Reads w g 1 B m (wv ys)) :
    Calls Tryz.prog 128 #[.slice (some ⟨g, 0, none⟩) N cz, .slice A n cx, .slice B m cy] w fun e w' => ∃ zs : List Nat, e = .returned (.tuple #[]) ∧ zs.length = N ∧ (∀ z ∈ zs, z < 18446744073709551616) ∧
      natV zs = natV xs * natV ys ∧ Blk w' g 157 (wv (zs ++ ws.drop N)).toArray ∧ w.grownBy w' (some g) ∧ w'.heap.size = w.heap.size := by
  obtain ⟨W, hcl, hbW, hgW, hsW⟩ := clear_any g 0 N cz ws w hb (by omega)
  have hg0 := hb.lt
  subst hn hm hN
  have HH := Lib.hid (And.intro hrx (And.intro hry (And.intro hx (And.intro hy (And.intro hbW hgW)))))
  clear hrx hry hx hy hb hbW hgW
  have hcl' : ∀ ty, (Builtin.clear_ #[130] ty #[.slice (some ⟨g, 0, none⟩) (xs.length + ys.length) cz]).run Tryz.prog w = .ok (.tuple #[]) W := hcl
  clear hcl
  have hNN : ((xs.length + ys.length : Nat) : Int) = (xs.length : Int) + (ys.length : Int) := by omega
  go_enter Tryz.func128, Tryz.ntmps128
  go_wp2_with (simp only [hcl'])
  go_loopw [17] (fun vi wr => BM xs ys ws w g vi wr) (fun vi _ => ys.length - (intOf vi).toNat)
  case atStart =>
    obtain ⟨_, _, _, _, hbW, hgW⟩ := HH.out
    refine ⟨0, List.replicate xs.length 0, rfl, by omega, by simp, ?_, ?_, ?_, hgW, hsW⟩
    · intro z hz; rw [List.eq_of_mem_replicate hz]; omega
    · rw [natV_zeros _ (fun x hx => List.eq_of_mem_replicate hx)]; simp [natV]
    · have e : List.replicate xs.length 0 ++ List.replicate (ys.length - 0) 0 = List.replicate (xs.length + ys.length) 0 := by rw [List.replicate_append_replicate]; rfl
      rw [e]
      simpa using hbW
  case round =>
    obtain ⟨i, zs, rfl, hi, hz, hzb, hv, hb, hg, hs⟩ := hrel
    obtain ⟨hrx, hry, hx, hy, _, _⟩ := HH.out
    by_cases hil : i < ys.length
    · have hbl : g ≤ w.heap.size := Nat.le_of_lt hg0
      have hrxw := hrx.grown hg hbl (fun _ e => by cases e; exact Nat.le_refl _)
      have hryw := hry.grown hg hbl (fun _ e => by cases e; exact Nat.le_refl _)
      obtain ⟨ad, rfl, _, q0⟩ := hryw.word hil
      have hd := hy _ (List.getElem_mem hil)
      have hst := fun us co => bm_step xs ys zs us i co hil hz hv
      have hbs : natV zs = natV xs * natV (ys.take i) → ys[i] = 0 → natV (zs ++ [0]) = natV xs * natV (ys.take (i + 1)) := fun h h0 => by
        rw [natV_snoc, natV_take_succ ys i hil, h0]; simpa using h
      have hbs' := hbs hv
      clear hbs
      generalize ys[i] = d at *
      have hcall : ∀ V : World, Blk V g 157 (wv (zs ++ List.replicate (ys.length - i) 0 ++ ws.drop (xs.length + ys.length))).toArray → Reads V g 1 A xs.length (wv xs) →
          Calls Tryz.prog 140 #[.slice (some ⟨g, i, none⟩) xs.length (cz - i), .slice (some ⟨g, i, none⟩) xs.length (cz - i), .slice A xs.length cx, .int .u64 d, .int .u64 0] V fun e W => ∃ (us : List Nat) (co : Nat), e = .returned (.int .u64 co) ∧ us.length = xs.length ∧ (∀ z ∈ us, z < 18446744073709551616) ∧ co < 18446744073709551616 ∧
            natV (zs.take i ++ us ++ [co]) = natV xs * natV (ys.take (i + 1)) ∧ Blk W g 157 (wv (zs.take i ++ us ++ (0 :: List.replicate (ys.length - (i + 1)) 0 ++ ws.drop (xs.length + ys.length)))).toArray ∧ V.grownBy W (some g) ∧ W.heap.size = V.heap.size := fun V hbV hrV =>
        (addMulVVWW_any (zs.drop i) xs d 0 g i (cz - i) (cz - i) _ A xs.length cx V rfl (by omega) (by simp; omega) (by
          rw [List.append_assoc, List.drop_append_of_le_length (by omega), List.take_append_of_le_length (by simp; omega), List.take_of_length_le (by simp; omega)]) (by omega) (by omega) hcx (fun x hx => hzb x (List.mem_of_mem_drop hx)) hx hd (by omega) hbV hrV).mono (by
          rintro e W ⟨us, co, rfl, h1, h2, h3, h4, h5, h6, h7⟩
          refine ⟨us, co, rfl, h1, h2, h3, hst us co h1 h4, ?_, h6, h7⟩
          have e1 : ys.length - i = (ys.length - (i + 1)) + 1 := by omega
          rw [List.append_assoc zs, List.take_append_of_le_length (by omega), List.drop_append, List.drop_of_length_le (by omega), hz, show i + xs.length - (xs.length + i) = 0 by omega, e1, List.replicate_succ] at h5
          simpa using h5)
      have HP := Lib.hid (And.intro hz (And.intro hzb (And.intro hv (And.intro hb (And.intro hg (And.intro hrxw (And.intro hbs' hcall)))))))
      clear hrx hry hx hz hzb hv hg hy hb hcall hst hbs' hrxw hryw
      by_cases hd0 : d = 0
      · subst hd0
        go_wp2
        go_roundw
        case rel =>
          obtain ⟨hz, hzb, hv, hb, hg, hrxw, hbs', hcall⟩ := HP.out
          refine ⟨i + 1, zs ++ [0], by go_num, by omega, by simp [hz, Nat.add_assoc], ?_, hbs' rfl, ?_, hg, hs⟩
          · intro z hzm
            rcases List.mem_append.1 hzm with h | h
            · exact hzb z h
            · rw [List.mem_singleton.1 h]; omega
          · have e1 : ys.length - i = (ys.length - (i + 1)) + 1 := by omega
            rw [e1, List.replicate_succ] at hb
            simpa using hb
        case measure => simp [intOf]; omega
      · have hdi : ((d : Int) == 0) = false := by simp; omega
        have b1 : (i : Int) ≤ (i : Int) + (xs.length : Int) := by omega
        have b2 : (i : Int) + (xs.length : Int) ≤ (cz : Int) := by omega
        have b3 : (xs.length : Int) + (i : Int) < (xs.length : Int) + (ys.length : Int) := by omega
        have b4 : IntKind.i64.wrap ((i : Int) + (xs.length : Int)) = (i : Int) + (xs.length : Int) := by rw [IntKind.wrap_i64]; omega
        have b5 : IntKind.i64.wrap ((xs.length : Int) + (i : Int)) = (xs.length : Int) + (i : Int) := by rw [IntKind.wrap_i64]; omega
        have b6 : (0 : Int) ≤ (i : Int) := by omega
        have b7 : (0 : Int) ≤ (xs.length : Int) + (i : Int) := by omega
        have b8 : (0 : Int) ≤ (i : Int) + (xs.length : Int) := by omega
        have b9 : ¬ cz = i := by omega
        have b10 : ((i : Int) + (xs.length : Int)).toNat - i = xs.length := by omega
        have b11 : ((xs.length : Int) + (i : Int)).toNat = xs.length + i := by omega
        have b12 : xs.length + i < xs.length + ys.length := by omega
        obtain ⟨hz, hzb, hv, hb, hg, hrxw, hbs', hcall⟩ := HP.out
        have HB := Lib.hid hb
        have HR := Lib.hid hrxw
        have HC := Lib.hid hcall
        have HQ := Lib.hid (And.intro hz (And.intro hzb hg))
        clear HP hz hzb hv hb hg hrxw hbs' hcall
        go_wp2_with fail
        go_region_held3 (fun _ => True) (trivial)
          ((go_at_call 140;  refine (HC.out _ (by exact HB.out) (by exact HR.out)).mono ?_; rintro e W3 ⟨us, co, rfl, h1, h2, h3, h4, h5, h6, h7⟩
            obtain ⟨u0, q1⟩ : ∃ u : Value, W3.cell? ⟨g, xs.length + i, none⟩ = some u := by
              have q1 := h5.cell (xs.length + i)
              have hz := HQ.out.1
              rw [wv_cell, List.getElem?_append_right (by simp; omega), List.getElem?_eq_getElem (by simp; omega)] at q1
              exact ⟨_, q1⟩
            have q2 := h5.frozen (xs.length + i)
            have H3 := Lib.hid (And.intro h1 (And.intro h2 (And.intro h4 (And.intro h5 h6))))
            clear h1 h2 h4 h5 h6))
        all_goals
          go_wp2
          go_roundw
          case rel =>
            obtain ⟨hz, hzb, hg⟩ := HQ.out
            obtain ⟨h1, h2, h4, h5, h6⟩ := H3.out
            have h8 := h5.set_ (xs.length + i) (.int .u64 co)
            rw [wv_set, List.set_append_right _ _ (by simp; omega), show xs.length + i - (zs.take i ++ us).length = 0 by simp; omega, List.cons_append, List.set_cons_zero] at h8
            refine ⟨i + 1, zs.take i ++ us ++ [co], by go_num, by omega, by simp; omega, ?_, h4, by simpa using h8, grown_set (grown_trans (b := wr.drew) (grown_trans hg ⟨.refl _, .refl _, rfl, Nat.le_refl _, fun _ _ _ => rfl⟩) h6) _, by simpa [hs] using h7⟩
            intro z hzm
            rcases List.mem_append.1 hzm with h | h
            · rcases List.mem_append.1 h with h | h
              · exact hzb z (List.mem_of_mem_take h)
              · exact h2 z h
            · rw [List.mem_singleton.1 h]; exact h3
          case measure => simp [intOf]; omega
    · obtain rfl : i = ys.length := by omega
      have HP := Lib.hid (And.intro hz (And.intro hzb (And.intro hv (And.intro hb hg))))
      clear hrx hry hx hz hzb hv hg hy hb
      go_wp2
      go_end0
      obtain ⟨hz, hzb, hv, hb, hg⟩ := HP.out
      refine ⟨zs, rfl, hz, hzb, ?_, by simpa using hb, hg, hs⟩
      rw [hv, List.take_of_length_le (by omega)]
end Go.Proofs.YtkmeckimmfbkiaaGreatDoor
namespace Go.Proofs.YtkmeckimmfbkiaaGreatDoor
open Go Go.RowKit
theorem rep_wv (c : Nat) : (Array.replicate c (Value.int .u64 0)) = (wv (List.replicate c 0)).toArray := by simp [wv]
theorem own_words (w w' : World) (g c k : Nat) (ws : List Nat) (hl : ws.length = c) (hk : k ≤ c) (hm : c ≤ maxLen) (hg : w.heap.size ≤ g) (hb : Blk w' g 157 (wv ws).toArray) :
    w'.ownsRow w.heap.size 157 1 (.slice (some ⟨g, 0, none⟩) k c) k (wv (ws.take k)) := by
  refine ⟨by simp [wv_len]; omega, .inr ⟨g, c, _, rfl, hg, hb, by omega, hm, by simp [wv_len]; omega, ?_⟩⟩
  simp [wv, List.map_take]
theorem norm_anyN (ws : List Nat) (A : Option Addr) (n c : Nat) (w : World) (hn : ws.length = n) (hl : n ≤ 2147483647) (hc0 : n ≤ c) (hr : Reads w w.heap.size 1 A n (wv ws)) :
    Calls Tryz.prog 86 #[.slice A n c] w fun e w' => ∃ k, k ≤ ws.length ∧ (∀ j (h : j < ws.length), k ≤ j → ws[j] = 0) ∧ (∀ (_ : 0 < k) (h : k - 1 < ws.length), ws[k - 1] ≠ 0) ∧ e = .returned (.slice A k c) ∧ w = w' := by
  subst hn
  exact norm_any ws A c w hl hc0 hr
/-- What lies in a new block is cut to what it is worth, and handed back. -/
theorem norm_own (w wr : World) (ws : List Nat) (g n c : Nat) (hb : Blk wr g 157 (wv ws).toArray) (hg : w.heap.size ≤ g) (hc : ws.length = c) (hn : n ≤ c) (hm : c ≤ 2147483651) (hnm : n ≤ 2147483647) (hws : ∀ x ∈ ws, x < 18446744073709551616) (hB : Below w.heap.size w wr) :
    Calls Tryz.prog 86 #[.slice (some ⟨g, 0, none⟩) n c] wr (OwnsNat w (natV (ws.take n))) := by
  have hlt := hb.lt
  have hmm : c ≤ maxLen := by unfold maxLen; omega
  have hR := (Reads.of_own (own_words w wr g c n ws hc hn hmm hg hb))
  have hln : (ws.take n).length = n := by simp; omega
  have hb' : ∀ x ∈ ws.take n, x < 18446744073709551616 := fun x hx => hws x (List.mem_of_mem_take hx)
  refine (norm_anyN (ws.take n) (some ⟨g, 0, none⟩) n c wr hln (by omega) (by omega) hR).mono ?_
  rintro e w' ⟨k, h1, h2, h3, rfl, rfl⟩
  have e1 := limbs_take (ws.take n) k hb' (by omega) h2 h3
  have e2 : k = (limbs (natV (ws.take n))).length := by rw [← e1, List.length_take]; omega
  have ho := own_words w wr g c k ws hc (by omega) hmm hg hb
  rw [List.take_take, Nat.min_eq_left (by omega)] at e1
  rw [e1] at ho
  subst e2
  exact ⟨_, _, rfl, ho, by omega, hB⟩
set_option maxRecDepth 10000 in
set_option maxHeartbeats 400000 in
theorem makeNil_one (w : World) : Calls Tryz.prog 84 #[.slice none 0 0, .int .i64 1] w fun e w' =>
    e = .returned (.slice (some ⟨w.heap.size, 0, none⟩) 1 1) ∧ Below w.heap.size w w' ∧ Blk w' w.heap.size 157 #[.int .u64 0] ∧ w'.heap.size = w.heap.size + 1 := by
  obtain ⟨i, hi, hz0, hz1, hz2⟩ := info_parts info116
  have m1 : ∀ W : World, (Instr.makeSlice 130 (.int .i64 1) (.int .i64 1)).run Tryz.prog W = .ok (.slice (some ⟨W.heap.size, 0, none⟩) 1 1) (W.alloc (.cells #[.int .u64 0] 157)) := fun W => by
    have h := run_make_rowN (P := Tryz.prog) 130 157 i (.int .u64 0) Tryz.underlying130 hi hz0 .i64 .i64 1 1 (Nat.le_refl _) (by rw [hz2]; omega) (by omega) W
    have mc : madeCells (Value.int .u64 0).cells 1 = #[.int .u64 0] := by
      apply Array.toList_inj.1
      rw [show (Value.int .u64 0).cells = #[.int .u64 0] from rfl, toList_madeCells_one]
      simp
    rw [hz1, Nat.one_mul, mc] at h
    exact h
  clear hi hz0 hz1 hz2
  go_enter Tryz.func84, Tryz.ntmps84
  go_wp2
  go_ret
  exact ⟨rfl, (Below.refl _ _).alloc (Nat.le_refl _) _, Blk.new _ _ _, by simp⟩
set_option maxRecDepth 10000 in
set_option maxHeartbeats 400000 in
/-- 'z.make(n)' where z is too short: new memory. -/
theorem makeNew_any (A : Option Addr) (m c0 n : Nat) (hn : c0 < n) (h1 : 1 < n) (hm : n ≤ 2147483647) (w : World) : Calls Tryz.prog 84 #[.slice A m c0, .int .i64 n] w fun e w' =>
    e = .returned (.slice (some ⟨w.heap.size, 0, none⟩) n (n + 4)) ∧ Below w.heap.size w w' ∧ Blk w' w.heap.size 157 (wv (List.replicate (n + 4) 0)).toArray ∧ w'.heap.size = w.heap.size + 1 := by
  obtain ⟨i, hi, hz0, hz1, hz2⟩ := info_parts info116
  have hmk := fun (W : World) => run_make_rowN (P := Tryz.prog) 130 157 i (.int .u64 0) Tryz.underlying130 hi hz0 .i64 .i64 n (n + 4) (by omega) (by rw [hz2]; omega) (by omega) W
  have mc : madeCells (Value.int .u64 0).cells (n + 4) = (wv (List.replicate (n + 4) 0)).toArray := by
    apply Array.toList_inj.1
    rw [show (Value.int .u64 0).cells = #[.int .u64 0] from rfl, toList_madeCells_one]
    simp [wv]
  have e4 : ((n + 4 : Nat) : Int) = (n : Int) + 4 := by omega
  simp only [hz1, Nat.mul_one, mc, e4] at hmk
  have h0 : decide ((n : Int) ≤ (c0 : Int)) = false := by simp; omega
  have h1' : ((n : Int) == 1) = false := by simp; omega
  have F := Lib.hid (show Below w.heap.size w (w.alloc (.cells (wv (List.replicate (n + 4) 0)).toArray 157)) ∧ Blk (w.alloc (.cells (wv (List.replicate (n + 4) 0)).toArray 157)) w.heap.size 157 (wv (List.replicate (n + 4) 0)).toArray from ⟨(Below.refl _ _).alloc (Nat.le_refl _) _, Blk.new _ _ _⟩)
  clear hi hz0 hz1 hz2 mc e4
  generalize (wv (List.replicate (n + 4) 0)).toArray = cells at *
  go_enter Tryz.func84, Tryz.ntmps84
  go_wp2
  go_ret
  exact ⟨rfl, F.out.1, F.out.2, by simp⟩
theorem limbs_one (x : Nat) (hx : x < 18446744073709551616) (h0 : 0 < x) : limbs x = [x] := by
  rw [limbs_pos x h0, Nat.mod_eq_of_lt hx, Nat.div_eq_of_lt hx, limbs_zero]
set_option maxRecDepth 10000 in
theorem setWordNil_any (x : Nat) (w : World) (hx : x < 18446744073709551616) :
    Calls Tryz.prog 116 #[.slice none 0 0, .int .u64 x] w fun e w' => OwnsNat w x e w' ∧ ∃ A c, e = .returned (.slice A (limbs x).length c) ∧ c ≤ (limbs x).length := by
  rcases Nat.eq_zero_or_pos x with h0 | h0
  · subst h0
    go_enter Tryz.func116, Tryz.ntmps116
    go_wp2
    go_ret
    exact ⟨⟨none, 0, by rw [limbs_zero]; rfl, by rw [limbs_zero]; exact World.ownsRow_nil _ _ _ _, by rw [limbs_zero]; simp, Below.refl _ _⟩, none, 0, by rw [limbs_zero]; rfl, by simp⟩
  · have hl := limbs_one x hx h0
    have hne : x ≠ 0 := by omega
    have HL := Lib.hid (And.intro hl hx)
    clear hl hx h0
    go_enter Tryz.func116, Tryz.ntmps116
    go_wp2_with fail
    refine (makeNil_one w).mono ?_
    rintro e w1 ⟨rfl, hB, hb, hz⟩
    obtain ⟨q0, q1⟩ := hb.c1
    have HB := Lib.hid (And.intro hB (And.intro hb hz))
    clear hB hb hz
    go_wp2
    go_ret
    obtain ⟨hB, hb, hz⟩ := HB.out
    obtain ⟨hl, hx⟩ := HL.out
    have hb2 : Blk _ w.heap.size 157 (wv [x]).toArray := hb.set_ 0 (.int .u64 x)
    have ho := own_words w _ w.heap.size 1 1 [x] rfl (Nat.le_refl _) (by decide) (Nat.le_refl _) hb2
    exact ⟨⟨some ⟨w.heap.size, 0, none⟩, 1, by rw [hl]; rfl, by rw [hl]; exact ho, by rw [hl]; simp, hB.setCell (Nat.le_refl _) _⟩, _, 1, by rw [hl]; rfl, by rw [hl]; simp⟩
set_option maxRecDepth 10000 in
set_option maxHeartbeats 400000 in
theorem mulAddWWNil_any (xs : List Nat) (y r : Nat) (A : Option Addr) (n cx : Nat) (w : World) (hn : xs.length = n) (hn0 : 0 < n) (hl : n ≤ 2147483000) (hcx : n ≤ cx) (hx : ∀ x ∈ xs, x < 18446744073709551616) (hy : y < 18446744073709551616) (hy0 : y ≠ 0) (hr : r < 18446744073709551616) (hrx : Reads w w.heap.size 1 A n (wv xs)) :
    Calls Tryz.prog 126 #[.slice none 0 0, .slice A n cx, .int .u64 y, .int .u64 r] w (OwnsNat w (natV xs * y + r)) := by
  have HH := Lib.hid (And.intro hn (And.intro hx hrx))
  clear hn hx hrx
  have hn1 : ((n : Int) == 0) = false := by simp; omega
  have e1 : IntKind.i64.wrap ((n : Int) + 1) = (n : Int) + 1 := by rw [IntKind.wrap_i64]; omega
  go_enter Tryz.func126, Tryz.ntmps126
  go_wp2_with fail
  rw [show (n : Int) + 1 = ((n + 1 : Nat) : Int) by omega]
  refine (makeNew_any none 0 0 (n + 1) (by omega) (by omega) (by omega) w).mono ?_
  rintro e w1 ⟨rfl, hB, hb, hz⟩
  have HB := Lib.hid (And.intro hB (And.intro hb hz))
  clear hB hb hz
  go_wp2_with fail
  refine (mulAddVWW_any xs y r w.heap.size _ _ A n cx w1 HH.out.1 (by omega) (by simp; omega) (by omega) hcx HH.out.2.1 hy hr HB.out.2.1 (HH.out.2.2.below HB.out.1)).mono ?_
  rintro e w2 ⟨zs, co, rfl, h1, h2, h3, h4, h5, h6, h7⟩
  obtain ⟨hB, hb, hz⟩ := HB.out
  have h5' := h5
  have hd : (List.replicate (n + 1 + 4) 0).drop n = 0 :: List.replicate 4 0 := by rw [List.drop_replicate, show n + 1 + 4 - n = 5 by omega]; rfl
  rw [hd] at h5
  have q1 := h5.cell n
  rw [wv_cell, List.getElem?_append_right (by omega), h1, Nat.sub_self, List.getElem?_cons_zero, Option.map_some] at q1
  have q2 := h5.frozen n
  have hB2 := hB.grown h6 (by omega) (fun _ e => by cases e; exact Nat.le_refl _)
  have h8 := h5.set_ n (.int .u64 co)
  rw [wv_set, List.set_append_right _ _ (by omega), h1, Nat.sub_self, List.set_cons_zero] at h8
  have hv : natV ((zs ++ co :: List.replicate 4 0).take (n + 1)) = natV xs * y + r := by
    rw [← h4, List.take_append, List.take_of_length_le (by omega), h1, Nat.add_sub_cancel_left]
    rw [List.take_succ_cons, List.take_zero, natV_snoc, h1]
  have HN := Lib.hid (norm_own w (w2.setCell ⟨w.heap.size, n, none⟩ (.int .u64 co)) (zs ++ co :: List.replicate 4 0) w.heap.size (n + 1) (n + 1 + 4) h8 (Nat.le_refl _) (by simp [h1]) (by omega) (by omega) (by omega) (by
    intro x hx
    rcases List.mem_append.1 hx with h | h
    · exact h2 x h
    · rcases List.mem_cons.1 h with h | h
      · rw [h]; exact h3
      · rw [List.eq_of_mem_replicate h]; omega) (hB2.setCell (Nat.le_refl _) _))
  have HV := Lib.hid hv
  clear h1 h2 h4 h5 h6 hB hb hz hd hB2 h8 hv h5'
  go_wp2_with fail
  refine HN.out.mono ?_
  rintro e w3 ⟨A3, c3, rfl, ho, hc, hB3⟩
  rw [HV.out] at *
  have HO := Lib.hid (And.intro ho (And.intro hc hB3))
  clear ho hc hB3
  go_wp2
  go_ret
  exact ⟨A3, c3, rfl, HO.out.1, HO.out.2.1, HO.out.2.2⟩
end Go.Proofs.YtkmeckimmfbkiaaGreatDoor
namespace Go.Proofs.YtkmeckimmfbkiaaGreatDoor
open Go Go.RowKit
set_option maxRecDepth 10000 in
theorem aliasNil_any (A : Option Addr) (n c : Nat) (w : World) :
    Calls Tryz.prog 127 #[.slice none 0 0, .slice A n c] w fun e w' => e = .returned (.bool false) ∧ ∃ k, w' = w.drewN k := by
  go_enter Tryz.func127, Tryz.ntmps127
  go_wp2_with fail
  go_quiet (fail)
  go_wp2
  go_ret
  exact ⟨rfl, _, rfl⟩
theorem OwnsNat.drewN {w w' : World} {x : Nat} {e : Ending} {k : Nat} (h : OwnsNat (w.drewN k) x e w') : OwnsNat w x e w' := by
  obtain ⟨A, c, h1, h2, h3, h4⟩ := h
  exact ⟨A, c, h1, h2, h3, ((Below.refl w.heap.size w).drewN_ k).trans h4⟩
set_option maxRecDepth 10000 in
set_option maxHeartbeats 400000 in
theorem mulNil_ge (X Y : Nat) (stk : Value) (A B : Option Addr) (n m cx cy : Nat) (w : World) (hn : (limbs X).length = n) (hm : (limbs Y).length = m) (hge : m ≤ n) (hm40 : m < 40) (hl : n ≤ 2147483000) (hcx : n ≤ cx) (hcy : m ≤ cy)
    (hg : w.cell? ⟨4, 0, none⟩ = some (.int .i64 40)) (hrx : Reads w w.heap.size 1 A n (wv (limbs X))) (hry : Reads w w.heap.size 1 B m (wv (limbs Y))) :
    Calls Tryz.prog 119 #[.slice none 0 0, stk, .slice A n cx, .slice B m cy] w (OwnsNat w (X * Y)) := by
  have HH := Lib.hid (And.intro hn (And.intro hm (And.intro hrx (And.intro hry hg))))
  clear hn hm hrx hry hg
  rcases Nat.eq_zero_or_pos m with h0 | h0
  · subst h0
    have hY : limbs Y = [] := List.eq_nil_of_length_eq_zero HH.out.2.1
    have hY0 : Y = 0 := by rw [← natV_limbs Y, hY]; rfl
    have e0 : limbs (X * Y) = [] := by rw [hY0, Nat.mul_zero, limbs_zero]
    have HO := Lib.hid (show OwnsNat w (X * Y) (.returned (.slice none 0 0)) w from ⟨none, 0, by rw [e0]; rfl, by rw [e0]; exact World.ownsRow_nil _ _ _ _, by rw [e0]; simp, Below.refl _ _⟩)
    clear hY hY0 e0
    go_enter_defers Tryz.func119, Tryz.ntmps119
    go_wp2_with fail
    all_goals
      refine ⟨_, results_tmp rfl _ _ _, ?_⟩
      exact HO.out
  · rcases Nat.lt_or_ge 1 m with h1 | h1
    · have hnm : decide ((n : Int) < (m : Int)) = false := by simp; omega
      have hm0 : ((m : Int) == 0) = false := by simp; omega
      have hn0 : ((n : Int) == 0) = false := by simp; omega
      have hm1 : ((m : Int) == 1) = false := by simp; omega
      have hgl := HH.out.2.2.2.2
      go_enter_defers Tryz.func119, Tryz.ntmps119
      go_wp2_with fail
      refine (aliasNil_any A n cx w).mono ?_
      rintro e w1 ⟨rfl, k1, rfl⟩
      go_wp2_with fail
      refine (aliasNil_any B m cy _).mono ?_
      rintro e w1 ⟨rfl, k2, rfl⟩
      go_wp2_with fail
      rw [show (n : Int) + (m : Int) = ((n + m : Nat) : Int) by omega]
      refine (makeNew_any none 0 0 (n + m) (by omega) (by omega) (by omega) _).mono ?_
      rintro e w2 ⟨rfl, hB, hb, hz⟩
      have hs : (w.drewN (k1 + k2)).heap.size = w.heap.size := rfl
      rw [hs]
      rw [hs] at hz hb
      clear hs
      have hB : Below w.heap.size w w2 := ((Below.refl w.heap.size w).drewN_ (k1 + k2)).trans hB
      have hg2 : w2.cell? ⟨4, 0, none⟩ = some (.int .i64 40) := (hB.cell (World.block_lt_of_cell? w _ hgl)).trans hgl
      have HB := Lib.hid (And.intro hB (And.intro hb hz))
      clear hB hb hz hgl
      have hm40' : decide ((m : Int) < 40) = true := by simp; omega
      go_wp2_with fail
      refine (basicMul_any (limbs X) (limbs Y) (List.replicate (n + m + 4) 0) w.heap.size (n + m + 4) A B n m (n + m) cx cy w2 HH.out.1 HH.out.2.1 rfl (by omega) (by simp) (by omega) hcx hcy (by omega) (limbs_lt X) (limbs_lt Y) HB.out.2.1 (HH.out.2.2.1.below HB.out.1) (HH.out.2.2.2.1.below HB.out.1)).mono ?_
      rintro e w3 ⟨zs, rfl, h1, h2, h3, h4, h5, h6⟩
      obtain ⟨hB, hb, hz⟩ := HB.out
      have hB3 := hB.grown h5 (by omega) (fun _ e => by cases e; exact Nat.le_refl _)
      have hv : natV ((zs ++ (List.replicate (n + m + 4) 0).drop (n + m)).take (n + m)) = X * Y := by
        rw [List.take_append_of_le_length (by omega), List.take_of_length_le (by omega), h3, natV_limbs, natV_limbs]
      have HN := norm_own w w3 (zs ++ (List.replicate (n + m + 4) 0).drop (n + m)) w.heap.size (n + m) (n + m + 4) h4 (Nat.le_refl _) (by simp [h1]) (by omega) (by omega) (by omega) (by
        intro x hx
        rcases List.mem_append.1 hx with h | h
        · exact h2 x h
        · rw [List.eq_of_mem_replicate (List.mem_of_mem_drop h)]; omega) hB3
      rw [hv] at HN
      have HN := Lib.hid HN
      clear h1 h2 h3 h4 h5 hB hb hz hB3 hv hg2
      go_wp2_with fail
      refine HN.out.mono ?_
      rintro e w4 ⟨A3, c3, rfl, ho, hc, hB3⟩
      have HO := Lib.hid (And.intro ho (And.intro hc hB3))
      clear ho hc hB3
      go_wp2_with fail
      refine ⟨_, results_tmp rfl _ _ _, ?_⟩
      exact ⟨A3, c3, rfl, HO.out.1, HO.out.2.1, HO.out.2.2⟩
    · obtain rfl : m = 1 := by omega
      have hn0 : ((n : Int) == 0) = false := by simp; omega
      have hnm : decide ((n : Int) < 1) = false := by simp; omega
      have hy1 : Reads w w.heap.size 1 B (limbs Y).length (wv (limbs Y)) := by rw [HH.out.2.1]; exact HH.out.2.2.2.1
      have hl1 : 0 < (limbs Y).length := by rw [HH.out.2.1]; omega
      obtain ⟨ad, rfl, _, q0⟩ := hy1.word hl1
      have hy2 := limbs_lt Y _ (List.getElem_mem hl1)
      have hy3 : natV (limbs Y) = (limbs Y)[0] := by
        obtain ⟨y, hy⟩ := List.length_eq_one_iff.1 HH.out.2.1
        simp [hy, natV]
      rw [natV_limbs] at hy3
      rw [← hy3] at hy2 q0
      have hy0 : Y ≠ 0 := by
        intro h
        rw [h, limbs_zero] at hl1
        exact absurd hl1 (by simp)
      have q1 : w.cell? ad = some (.int .u64 Y) := q0
      clear hy1 hl1 hy3 q0
      go_enter_defers Tryz.func119, Tryz.ntmps119
      go_wp2_with fail
      refine (mulAddWWNil_any (limbs X) Y 0 A n cx w HH.out.1 (by omega) hl hcx (limbs_lt X) hy2 hy0 (by omega) HH.out.2.2.1).mono ?_
      rintro e w1 ⟨A1, c1, rfl, ho, hc, hB⟩
      rw [natV_limbs, Nat.add_zero] at *
      have HO := Lib.hid (And.intro ho (And.intro hc hB))
      clear ho hc hB
      go_wp2_with fail
      refine ⟨_, results_tmp rfl _ _ _, ?_⟩
      exact ⟨A1, c1, rfl, HO.out.1, HO.out.2.1, HO.out.2.2⟩
set_option maxRecDepth 10000 in
set_option maxHeartbeats 400000 in
theorem mulNil_any (X Y : Nat) (stk : Value) (A B : Option Addr) (n m cx cy : Nat) (w : World) (hn : (limbs X).length = n) (hm : (limbs Y).length = m) (h40 : n < 40 ∨ m < 40) (hl : n ≤ 2147483000) (hl' : m ≤ 2147483000) (hcx : n ≤ cx) (hcy : m ≤ cy)
    (hg : w.cell? ⟨4, 0, none⟩ = some (.int .i64 40)) (hrx : Reads w w.heap.size 1 A n (wv (limbs X))) (hry : Reads w w.heap.size 1 B m (wv (limbs Y))) :
    Calls Tryz.prog 119 #[.slice none 0 0, stk, .slice A n cx, .slice B m cy] w (OwnsNat w (X * Y)) := by
  rcases Nat.lt_or_ge n m with h | h
  · have HC := Lib.hid (mulNil_ge Y X stk B A m n cy cx w hm hn (Nat.le_of_lt h) (by omega) hl' hcy hcx hg hry hrx)
    have hnm : decide ((n : Int) < (m : Int)) = true := by simp; omega
    clear hn hm hg hrx hry
    go_enter_defers Tryz.func119, Tryz.ntmps119
    go_wp2_with fail
    refine HC.out.mono ?_
    rintro e w4 ⟨A3, c3, rfl, ho, hc, hB3⟩
    have HO := Lib.hid (And.intro ho (And.intro hc hB3))
    clear ho hc hB3
    go_wp2_with fail
    refine ⟨_, results_tmp rfl _ _ _, ?_⟩
    rw [Nat.mul_comm X Y]
    exact ⟨A3, c3, rfl, HO.out.1, HO.out.2.1, HO.out.2.2⟩
  · exact mulNil_ge X Y stk A B n m cx cy w hn hm h (by omega) hl hcx hcy hg hrx hry
end Go.Proofs.YtkmeckimmfbkiaaGreatDoor
namespace Go.Proofs.YtkmeckimmfbkiaaGreatDoor
open Go Go.RowKit
theorem natV_split (xs : List Nat) (k : Nat) (h : k < xs.length) : natV xs = natV (xs.take k) + 18446744073709551616 ^ k * (xs[k] + 18446744073709551616 * natV (xs.drop (k + 1))) := by
  have e := natV_append (xs.take k) (xs.drop k)
  rw [List.take_append_drop, List.length_take, Nat.min_eq_left (by omega), List.drop_eq_getElem_cons h] at e
  rw [e]; simp only [natV]
theorem cmp_lt (xs ys : List Nat) (k : Nat) (hx : ∀ x ∈ xs, x < 18446744073709551616) (hkx : k < xs.length) (hky : k < ys.length) (hd : xs.drop (k + 1) = ys.drop (k + 1)) (hlt : xs[k] < ys[k]) : natV xs < natV ys := by
  have h1 := natV_lt (xs.take k) (fun x h => hx x (List.mem_of_mem_take h))
  rw [List.length_take, Nat.min_eq_left (by omega)] at h1
  rw [natV_split xs k hkx, natV_split ys k hky, hd]
  have h2 := Nat.mul_le_mul_left (18446744073709551616 ^ k) (show xs[k] + 18446744073709551616 * natV (ys.drop (k + 1)) + 1 ≤ ys[k] + 18446744073709551616 * natV (ys.drop (k + 1)) by omega)
  rw [Nat.mul_add, Nat.mul_one] at h2
  omega
theorem len_lt (X Y : Nat) (h : (limbs X).length < (limbs Y).length) : X < Y := by
  have h1 := natV_lt (limbs X) (limbs_lt X)
  rw [natV_limbs] at h1
  have hy : 0 < (limbs Y).length := by omega
  have h2 := natV_top (limbs Y) ((limbs Y).length - 1) (by omega)
  rw [natV_limbs] at h2
  have h3 := limbs_top Y hy
  have h4 : 18446744073709551616 ^ (limbs X).length ≤ 18446744073709551616 ^ ((limbs Y).length - 1) := Nat.pow_le_pow_right (by omega) (by omega)
  have h5 := Nat.mul_le_mul_left (18446744073709551616 ^ ((limbs Y).length - 1)) (Nat.pos_of_ne_zero h3)
  omega
/-- How two numbers stand, as Go's cmp tells it. -/
def cmpN (x y : Nat) : Int := if x < y then -1 else if x = y then 0 else 1
set_option maxRecDepth 10000 in
set_option maxHeartbeats 400000 in
theorem natCmp_any (X Y : Nat) (A B : Option Addr) (n m cx cy : Nat) (w : World) (hn : (limbs X).length = n) (hm : (limbs Y).length = m) (hl : n ≤ 2147483000) (hcx : n ≤ cx) (hcy : m ≤ cy)
    (hrx : Reads w w.heap.size 1 A n (wv (limbs X))) (hry : Reads w w.heap.size 1 B m (wv (limbs Y))) :
    Calls Tryz.prog 120 #[.slice A n cx, .slice B m cy] w fun e w' => e = .returned (.int .i64 (cmpN X Y)) ∧ ∃ k, w' = w.drewN k := by
  subst hn hm
  have HH := Lib.hid (And.intro hrx hry)
  have hlt := len_lt X Y
  have hgt := len_lt Y X
  have h00 : (limbs X).length = 0 → X = 0 := fun h => by rw [← natV_limbs X, List.eq_nil_of_length_eq_zero h]; rfl
  have h01 : (limbs Y).length = 0 → Y = 0 := fun h => by rw [← natV_limbs Y, List.eq_nil_of_length_eq_zero h]; rfl
  clear hrx hry
  rcases Nat.lt_trichotomy (limbs X).length (limbs Y).length with h | h | h
  · have hv : cmpN X Y = -1 := by rw [cmpN, if_pos (hlt h)]
    have b1 : ((limbs X).length : Int) < (limbs Y).length := by omega
    have b2 : (((limbs X).length : Int) != (limbs Y).length) = true := by simp; omega
    rw [hv]
    clear hlt hgt h00 h01 hv
    go_enter Tryz.func120, Tryz.ntmps120
    go_wp2
    go_ret
    exact ⟨rfl, 0, rfl⟩
  · clear hlt hgt
    rcases Nat.eq_zero_or_pos (limbs X).length with h0 | h0
    · have hX := h00 h0
      have hY := h01 (by omega)
      subst hX hY
      clear h00 h01 HH
      rw [show (limbs 0).length = 0 by rw [limbs_zero]; rfl]
      go_enter Tryz.func120, Tryz.ntmps120
      go_wp2
      go_ret
      exact ⟨rfl, 0, rfl⟩
    · clear h00 h01
      have hX := natV_limbs X
      have hY := natV_limbs Y
      have lX := limbs_lt X
      have lY := limbs_lt Y
      generalize limbs X = xs at *
      generalize limbs Y = ys at *
      subst hX hY
      have HL := Lib.hid (And.intro lX lY)
      clear lX lY
      rw [h] at hl hcx h0
      rw [h]
      have h9 := Lib.hid h
      clear h
      obtain ⟨t, ht⟩ : ∃ t, ys.length = t + 1 := ⟨ys.length - 1, by omega⟩
      have b0 : ((ys.length : Int) == 0) = false := by rw [beq_eq_false_iff_ne]; omega
      have HT := Lib.hid ht
      clear ht
      go_enter Tryz.func120, Tryz.ntmps120
      go_wp2_with fail
      go_loopw [7] (fun vi wr => ∃ k q : Nat, vi = .int .i64 k ∧ k < ys.length ∧ xs.drop (k + 1) = ys.drop (k + 1) ∧ wr = w.drewN q) (fun vi _ => (intOf vi).toNat)
      case atStart => exact ⟨t, 0, by rw [show ((ys.length : Int) - 1) = (t : Int) by have := HT.out; omega], by have := HT.out; omega, by rw [List.drop_of_length_le (by have := h9.out; have := HT.out; omega), List.drop_of_length_le (by have := HT.out; omega)], rfl⟩
      case round =>
        obtain ⟨k, q, rfl, hk, hd, rfl⟩ := hrel
        have hky := hk
        have hk : k < xs.length := by rw [h9.out]; exact hky
        obtain ⟨ad, rfl, _, p0⟩ := HH.out.1.word hk
        obtain ⟨bd, rfl, _, p1⟩ := HH.out.2.word hky
        have hv0 := cmp_lt xs ys k HL.out.1 hk hky hd
        have hv1 := cmp_lt ys xs k HL.out.2 hky hk hd.symm
        have hv2 : k = 0 → xs[k] = ys[k] → natV xs = natV ys := fun hk0 he => by
          subst hk0
          rw [natV_split xs 0 hk, natV_split ys 0 hky, hd, he]; simp
        have hdn : xs[k] = ys[k] → xs.drop k = ys.drop k := fun he => by
          rw [List.drop_eq_getElem_cons hk, List.drop_eq_getElem_cons hky, hd, he]
        generalize xs[k] = a at *
        generalize ys[k] = b at *
        have HV := Lib.hid (And.intro hv0 (And.intro hv1 (And.intro hv2 hdn)))
        clear hv0 hv1 hv2 hdn hd
        have b5 : (k : Int) < (ys.length : Int) := by omega
        clear HH HL hk
        rcases Nat.lt_trichotomy a b with hab | hab | hab
        · have hv := Lib.hid (show cmpN (natV xs) (natV ys) = -1 by rw [cmpN, if_pos (HV.out.1 hab)])
          have c1 : ((a : Int) == (b : Int)) = false := by rw [beq_eq_false_iff_ne]; omega
          have c2 : decide ((a : Int) < (b : Int)) = true := by simp; omega
          by_cases hk0 : k = 0
          · subst hk0
            have p0' : w.cell? ad = some (.int .u64 a) := p0
            have p1' : w.cell? bd = some (.int .u64 b) := p1
            go_wp2_with fail
            go_quiet (fail)
            go_wp2_with fail
            go_quiet (fail)
            go_wp2_with fail
            go_ret
            refine ⟨by rw [hv.out]; rfl, ?_⟩
            simp only [World.drewN_drewN]
            exact ⟨_, rfl⟩
          · have c3 : decide (0 < k) = true := by simp; omega
            go_wp2_with fail
            go_quiet (fail)
            go_wp2_with fail
            go_quiet (fail)
            go_wp2_with fail
            go_ret
            refine ⟨by rw [hv.out]; rfl, ?_⟩
            simp only [World.drewN_drewN]
            exact ⟨_, rfl⟩
        · subst hab
          by_cases hk0 : k = 0
          · subst hk0
            have p0' : w.cell? ad = some (.int .u64 a) := p0
            have p1' : w.cell? bd = some (.int .u64 a) := p1
            have hv := Lib.hid (show cmpN (natV xs) (natV ys) = 0 by rw [HV.out.2.2.1 rfl rfl, cmpN, if_neg (by omega), if_pos rfl])
            go_wp2_with fail
            go_quiet (fail)
            go_wp2_with fail
            go_quiet (fail)
            go_wp2_with fail
            go_quiet (fail)
            go_wp2_with fail
            go_ret
            refine ⟨by rw [hv.out]; rfl, ?_⟩
            simp only [World.drewN_drewN]
            exact ⟨_, rfl⟩
          · have c3 : decide (0 < k) = true := by simp; omega
            go_wp2_with fail
            go_quiet (fail)
            go_wp2
            go_roundw
            case rel => exact ⟨k - 1, q + nq, by go_num, by omega, by rw [Nat.sub_add_cancel (by omega)]; exact HV.out.2.2.2 (by simp), rfl⟩
            case measure => simp [intOf]; omega
        · have hv := Lib.hid (show cmpN (natV xs) (natV ys) = 1 by rw [cmpN, if_neg (by have := HV.out.2.1 hab; omega), if_neg (by have := HV.out.2.1 hab; omega)])
          have c1 : ((a : Int) == (b : Int)) = false := by rw [beq_eq_false_iff_ne]; omega
          have c2 : decide ((a : Int) < (b : Int)) = false := by simp; omega
          have c4 : decide ((b : Int) < (a : Int)) = true := by simp; omega
          by_cases hk0 : k = 0
          · subst hk0
            have p0' : w.cell? ad = some (.int .u64 a) := p0
            have p1' : w.cell? bd = some (.int .u64 b) := p1
            go_wp2_with fail
            go_quiet (fail)
            go_wp2_with fail
            go_quiet (fail)
            go_wp2_with fail
            go_quiet (fail)
            go_wp2_with fail
            go_ret
            refine ⟨by rw [hv.out]; rfl, ?_⟩
            simp only [World.drewN_drewN]
            exact ⟨_, rfl⟩
          · have c3 : decide (0 < k) = true := by simp; omega
            go_wp2_with fail
            go_quiet (fail)
            go_wp2_with fail
            go_quiet (fail)
            go_wp2_with fail
            go_quiet (fail)
            go_wp2_with fail
            go_ret
            refine ⟨by rw [hv.out]; rfl, ?_⟩
            simp only [World.drewN_drewN]
            exact ⟨_, rfl⟩
  · have hv : cmpN X Y = 1 := by rw [cmpN, if_neg (by have := hgt h; omega), if_neg (by have := hgt h; omega)]
    have b1 : ((limbs Y).length : Int) < (limbs X).length := by omega
    have b2 : (((limbs X).length : Int) != (limbs Y).length) = true := by simp; omega
    have b3 : ¬ ((limbs X).length : Int) < (limbs Y).length := by omega
    rw [hv]
    clear hlt hgt h00 h01 hv
    go_enter Tryz.func120, Tryz.ntmps120
    go_wp2
    go_ret
    exact ⟨rfl, 0, rfl⟩
end Go.Proofs.YtkmeckimmfbkiaaGreatDoor
