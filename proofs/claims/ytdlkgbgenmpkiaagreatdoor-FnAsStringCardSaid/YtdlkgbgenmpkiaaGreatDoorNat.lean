/- Naturals of words: make, norm. -/
import Derived.Test.YtdlkgbgenmpkiaaGreatDoorBE
namespace Go.Proofs.YtdlkgbgenmpkiaaGreatDoor
open Go Go.RowKit
def wv (l : List Nat) : List Value := l.map fun n : Nat => Value.int .u64 (n : Int)
theorem wv_len (l : List Nat) : (wv l).length = l.length := by simp [wv]
theorem wv_get (l : List Nat) (k : Nat) (h : k < l.length) : (wv l)[k]? = some (.int .u64 (l[k] : Int)) := by simp [wv, h]
theorem wv_one (l : List Nat) : ∀ u ∈ wv l, u.oneCell' = true := by
  intro u hu
  obtain ⟨b, _, rfl⟩ := List.mem_map.1 hu
  rfl
theorem Reads.word {w : World} {B : Nat} {A : Option Addr} {l : List Nat} (h : Reads w B 1 A l.length (wv l)) {k : Nat} (hk : k < l.length) :
    ∃ ad, A = some ad ∧ ad.block < B ∧ w.cell? (ad.add k) = some (.int .u64 (l[k] : Int)) := by
  obtain ⟨ad, u, e, hb, hx, hc⟩ := h.at_ hk
  rw [wv_get l k hk] at hx
  injection hx with hx
  subst hx
  exact ⟨ad, e, hb, hc⟩
def natV : List Nat → Nat
  | [] => 0
  | x :: l => x + 18446744073709551616 * natV l
theorem info116 : (Tryz.prog.info? 116).map (fun i => (i.zero, i.size, i.bytes)) = some (some (.int .u64 0), 1, 8) := by kernel_rfl
set_option maxRecDepth 10000 in
set_option maxHeartbeats 400000 in
theorem makeNil_zero (w : World) : Calls Tryz.prog 38 #[.slice none 0 0, .int .i64 0] w fun e w' => e = .returned (.slice none 0 0) ∧ w = w' := by
  go_enter Tryz.func38, Tryz.ntmps38
  go_wp2
  go_ret
  exact ⟨rfl, rfl⟩
set_option maxRecDepth 10000 in
set_option maxHeartbeats 400000 in
theorem makeNil_pos (n : Nat) (hn : 0 < n) (hm : n ≤ 2147483647) (w : World) : Calls Tryz.prog 38 #[.slice none 0 0, .int .i64 n] w fun e w' =>
    ∃ c, e = .returned (.slice (some ⟨w.heap.size, 0, none⟩) n c) ∧ Below w.heap.size w w' ∧ Blk w' w.heap.size 116 (Array.replicate c (.int .u64 0)) ∧ w'.heap.size = w.heap.size + 1 ∧ n ≤ c ∧ c ≤ n + 4 := by
  obtain ⟨i, hi, hz0, hz1, hz2⟩ := info_parts info116
  have hmk := fun (n c : Nat) (hnc : n ≤ c) (hc : c ≤ 2147483651) (W : World) => run_make_rowN (P := Tryz.prog) 95 116 i (.int .u64 0) Tryz.underlying95 hi hz0 .i64 .i64 n c hnc (by rw [hz2]; omega) (by omega) W
  have mc : ∀ c, madeCells (Value.int .u64 0).cells c = Array.replicate c (.int .u64 0) := fun c => by
    apply Array.toList_inj.1
    rw [show (Value.int .u64 0).cells = #[.int .u64 0] from rfl, toList_madeCells_one]
    simp
  simp only [hz1, Nat.mul_one, mc] at hmk
  clear mc
  have h0 : decide ((n : Int) ≤ 0) = false := by simp; omega
  have fin : ∀ c : Nat, n ≤ c → c ≤ n + 4 → ∃ c', Ending.returned (.slice (some ⟨w.heap.size, 0, none⟩) n c) = .returned (.slice (some ⟨w.heap.size, 0, none⟩) n c') ∧ Below w.heap.size w (w.alloc (.cells (Array.replicate c (.int .u64 0)) 116)) ∧ Blk (w.alloc (.cells (Array.replicate c (.int .u64 0)) 116)) w.heap.size 116 (Array.replicate c' (.int .u64 0)) ∧ (w.alloc (.cells (Array.replicate c (.int .u64 0)) 116)).heap.size = w.heap.size + 1 ∧ n ≤ c' ∧ c' ≤ n + 4 := fun c h1 h2 =>
    ⟨c, rfl, (Below.refl _ _).alloc (Nat.le_refl _) _, Blk.new _ _ _, by simp, h1, h2⟩
  have F := Lib.hid fin
  clear fin hi hz0 hz1 hz2
  by_cases h1 : n = 1
  · subst h1
    have m1 : ∀ W : World, (Instr.makeSlice 95 (.int .i64 1) (.int .i64 1)).run Tryz.prog W = .ok (.slice (some ⟨W.heap.size, 0, none⟩) 1 1) (W.alloc (.cells (Array.replicate 1 (.int .u64 0)) 116)) := hmk 1 1 (Nat.le_refl _) (by omega)
    clear hmk
    go_enter Tryz.func38, Tryz.ntmps38
    go_wp2
    go_ret
    exact F.out 1 (Nat.le_refl _) (by omega)
  · have h1' : ((n : Int) == 1) = false := by simp; omega
    have m1 := hmk n (n + 4) (by omega) (by omega)
    have e4 : ((n + 4 : Nat) : Int) = (n : Int) + 4 := by omega
    rw [e4] at m1
    clear hmk e4
    go_enter Tryz.func38, Tryz.ntmps38
    go_wp2
    go_ret
    exact F.out (n + 4) (by omega) (by omega)
set_option maxRecDepth 10000 in
set_option maxHeartbeats 400000 in
theorem norm_any (ws : List Nat) (A : Option Addr) (c : Nat) (w : World) (hl : ws.length ≤ 2147483647) (hc0 : ws.length ≤ c) (hr : Reads w w.heap.size 1 A ws.length (wv ws)) :
    Calls Tryz.prog 40 #[.slice A ws.length c] w fun e w' => ∃ k, k ≤ ws.length ∧ (∀ j (h : j < ws.length), k ≤ j → ws[j] = 0) ∧ (∀ (_ : 0 < k) (h : k - 1 < ws.length), ws[k - 1] ≠ 0) ∧ e = .returned (.slice A k c) ∧ w = w' := by
  go_enter Tryz.func40, Tryz.ntmps40
  go_wp2
  go_loop [3] (fun i => ∃ k : Nat, k ≤ ws.length ∧ (∀ j (h : j < ws.length), k ≤ j → ws[j] = 0) ∧ i = .int .i64 k) (fun i => (intOf i).toNat)
  case atStart => exact ⟨ws.length, Nat.le_refl _, fun j h h' => absurd h (by omega), rfl⟩
  case round =>
    obtain ⟨k, hk, h0, rfl⟩ := hrel
    have H0 := Lib.hid h0
    clear h0
    rcases k with _ | k
    · go_wp2
      go_ret
      exact ⟨0, by omega, H0.out, fun h => absurd h (by omega), rfl, rfl⟩
    · obtain ⟨ad, rfl, _, hcell⟩ := hr.word (k := k) (by omega)
      clear hr
      by_cases hb : ws[k] = 0
      · have hz : ((ws[k] : Int) == 0) = true := by simp [hb]
        go_wp2
        refine ⟨⟨k, by omega, fun j h h' => ?_, rfl⟩, by simp [intOf]⟩
        rcases Nat.lt_or_ge k j with h1 | h1
        · exact H0.out j h h1
        · obtain rfl : j = k := by omega
          exact hb
      · have hz : ((ws[k] : Int) == 0) = false := by simp; omega
        go_wp2
        go_ret
        exact ⟨k + 1, by omega, H0.out, fun _ _ => hb, rfl, rfl⟩
end Go.Proofs.YtdlkgbgenmpkiaaGreatDoor
